import JvmDerived
import JvmDerived.Pilot.@@N@@Statement
import JvmDerived.Pilot.@@N@@Code
set_option linter.unusedVariables false
set_option linter.unusedSimpArgs false
namespace Jvm.RoadKit
open Sem ClassFile Op Lib Jvm.Stand Jvm.Free Jvm.LawKit
section New
variable {p : Program} {l : Launch} {e : Env} {R : Room} {s : State} {m : MethodId} {args : Array Value} {below : List Frame} {meth : Method} {c : Code} {T : State} {locs : List Loc} {cells slots : Nat}
theorem retI (X : Stand p l e R s m args below meth c T locs cells slots) (hx : p.tables.exec = Jvm.exec) {pc : Nat} {Ls : Array Slot} {z : Int32} {rest : List Value} (hret : meth.sig.returnType = some .int) (hd : decode c.code pc = .ok (.ireturn, 1)) {fs : List Frame}
    (hl : ∀ (f : JFrame) (acts : List Action), f.method = m → f.locked = none → f.entered = [] → (doReturn e (T.setTop f) acts (some (.int z))).1 = T.setFrames fs) : Steps p.tables e below (T.setTop (mkF m pc Ls (.int z :: rest))) (T.setFrames fs) := by
  have hm' : T.vm.method? m = some meth := X.method'
  have hn : narrow .int (.int z) = .int z := rfl
  show Steps p.tables e below (T.setTop { method := m, pc := pc, locals := Ls, stack := _ :: rest, locked := none }) _
  jvm_step X.here [X.here.top, hx, hd, hm', hret, hn]
  first | (intro acts; rw [hl _ acts rfl rfl rfl]) | rw [hl _ _ rfl rfl rfl]
  exact Steps.refl _
end New
end Jvm.RoadKit
namespace Jvm.Pilot.@@N@@
open Jvm Jvm.ClassFile Sem Op Lib Jvm.Free Jvm.Stand Jvm.LawKit Jvm.RoadKit Bundle Jvm.Pilot.@@N@@.Jvm.D

theorem own_go {tb : Tables} {e : Env} {below : List Frame} {A B : State} {Φ : State → Outcome → Prop} (st : ∀ t, Steps tb e below B t → Steps tb e below A t) (h : ∃ s₂ o, Steps tb e below B s₂ ∧ Φ s₂ o) : ∃ s₂ o, Steps tb e below A s₂ ∧ Φ s₂ o := by
  obtain ⟨t, o, h1, h2⟩ := h
  exact ⟨t, o, st t h1, h2⟩
theorem d2_0 : decode prog_9_method_1_code 0 = .ok (.aload_n 0, 1) := by decide +kernel
theorem d2_1 : decode prog_9_method_1_code 1 = .ok (.invokespecial 1, 3) := by decide +kernel
theorem d2_4 : decode prog_9_method_1_code 4 = .ok (.return_, 1) := by decide +kernel
theorem ef_2 (m : MethodId) (a0 : Addr) : entryFrame m #[(.ref a0)] 1 = mkF m 0 #[.val (.ref a0)] [] := by first | (simp [entryFrame, mkF, argsToLocals, Value.category]; done) | rfl
theorem pn_2 : plainName "com/example/fleetwire/fleetwire/bench/Bench$Tree" = true := by first | (simp [plainName, overriddenIn]; done) | decide +kernel
def Q2 (h0 : Heap) (n0 : Nat) (v : Option Value) (h : Heap) (L : List Loc) : Prop := v = none ∧ Fr n0 L ∧ h = h0
set_option maxRecDepth 65536 in
set_option maxHeartbeats 40000000 in
theorem rm2 (l : Launch) (Z : State) (t0 : Array Value) (hw : ∀ d ∈ tables_1, d.before t0 Z = true) (ws : List Jvm.Cond) (a0 : Addr) (h0 : Heap) (n0 : Nat) (Z0 : n0 ≤ h0.size)  :
    MetFree l (⟨"com/example/fleetwire/fleetwire/bench/Bench$Tree", "<init>", "()V"⟩ : MethodName) (head1 (Jvm.Cond.code (⟨"com/example/fleetwire/fleetwire/bench/Bench$Tree", "<init>", "()V"⟩ : MethodName) prog_9_method_1_code 1 none :: ws) ({ frames := 1, cells := 0, slots := 0, locals := 12 } : Room)) (fun a U => a = #[(.ref a0)] ∧ Z.Warmed39 U.vm ∧ U.heap = h0) (fun _ _ _ _ _ => True) (fun _ U o U' => ∃ v L, o = .returned v ∧ Q2 h0 n0 v U'.heap L ∧ FrameEnd U o U' L ({ frames := 1, cells := 0, slots := 0, locals := 12 } : Room).cells ({ frames := 1, cells := 0, slots := 0, locals := 12 } : Room).slots) := by
  refine MetFree.of_bodySF (plainFor_of_name pn_2) hisR ?_
  intro p e s m args below meth c s₁ Bd hml0 hP hK
  obtain ⟨rfl, hZ, hh⟩ := hP
  have hx := Bd.exec
  have hby := Bd.bytes
  have hml : c.maxLocals = 1 := hml0
  have hown : s.vm.findClass "com/example/fleetwire/fleetwire/bench/Bench$Tree" = some m.cls := findClass_of_methodNamed Bd.named
  have hnm := (name_of_methodNamed Bd.named Bd.method).1
  have X0 : Stand p l e ({ frames := 1, cells := 0, slots := 0, locals := 12 } : Room) s m #[(.ref a0)] below meth c s₁ [] 0 0 := Stand.of_body Bd
  have e0 : s₁.heap = h0 := by rw [← hh, Bd.state]; rfl
  have N0 := Fr.nil n0
  have pre0 : ∀ t, Steps p.tables e below (s₁.setTop (mkF m 0 #[.val (.ref a0)] [])) t → Steps p.tables e below (s₁.setTop (entryFrame m #[(.ref a0)] 1)) t := fun t k => castTop (ef_2 m a0) k
  refine own_go pre0 ?_
  refine own_go (B := s₁.setTop (mkF m 1 #[.val (.ref a0)] [(.ref a0)])) (fun t kt => ?_) ?_
  · show Steps p.tables e below (s₁.setTop (mkF m 0 #[.val (.ref a0)] [])) _
    refine XS.aloadN X0.here hx rfl (hb hby d2_0) rfl rfl ?_
    exact kt
  obtain ⟨T1, X1, e1, st1⟩ := initO X0 hx hZ hown (hw _ (List.mem_of_getElem? (i := 10) rfl)) (hw _ (List.mem_of_getElem? (i := 11) rfl)) (hw _ (List.mem_of_getElem? (i := 12) rfl)) e0 (g := (mkF m 1 #[.val (.ref a0)] [(.ref a0)])) rfl (by rw [hml]; rfl) rfl (hb hby d2_1) (by decide) (W := 0) (by show 2 * 0 + _ ≤ _; exact Nat.le_of_eq rfl) (by decide)
  refine own_go (B := T1.setTop (mkF m 4 #[.val (.ref a0)] [])) (fun t kt => st1 t kt) ?_
  obtain ⟨fs, hr, hrun, hended, hW, hsame⟩ := X1.leave (v := none) (fun _ => rfl)
  refine ⟨_, _, ?_, hrun, hended, _, _, rfl, ?_, ⟨_, rfl⟩, hW, hsame.mono (by decide) (by decide)⟩
  · show Steps p.tables e below (T1.setTop (mkF m 4 #[.val (.ref a0)] [])) _
    exact X1.returnOut hx Bd.returns (hb hby d2_4) hr
  · show Q2 h0 n0 _ T1.heap _
    rw [e1]
    exact ⟨rfl, N0, rfl⟩
theorem pd_1_0 : parseMethodDescriptor "()V" = some ⟨[], none⟩ := by decide +kernel
theorem d1_0 : decode method_2_code 0 = .ok (.new 7, 3) := by decide +kernel
theorem d1_3 : decode method_2_code 3 = .ok (.dup, 1) := by decide +kernel
theorem d1_4 : decode method_2_code 4 = .ok (.invokespecial 9, 3) := by decide +kernel
theorem d1_7 : decode method_2_code 7 = .ok (.astore 4, 2) := by decide +kernel
theorem d1_9 : decode method_2_code 9 = .ok (.aload 4, 2) := by decide +kernel
theorem d1_11 : decode method_2_code 11 = .ok (.iload_n 0, 1) := by decide +kernel
theorem d1_12 : decode method_2_code 12 = .ok (.putfield 10, 3) := by decide +kernel
theorem d1_15 : decode method_2_code 15 = .ok (.aload 4, 2) := by decide +kernel
theorem d1_17 : decode method_2_code 17 = .ok (.iload_n 1, 1) := by decide +kernel
theorem d1_18 : decode method_2_code 18 = .ok (.putfield 14, 3) := by decide +kernel
theorem d1_21 : decode method_2_code 21 = .ok (.aload 4, 2) := by decide +kernel
theorem d1_23 : decode method_2_code 23 = .ok (.iload_n 2, 1) := by decide +kernel
theorem d1_24 : decode method_2_code 24 = .ok (.putfield 17, 3) := by decide +kernel
theorem d1_27 : decode method_2_code 27 = .ok (.aload 4, 2) := by decide +kernel
theorem d1_29 : decode method_2_code 29 = .ok (.iload_n 3, 1) := by decide +kernel
theorem d1_30 : decode method_2_code 30 = .ok (.putfield 20, 3) := by decide +kernel
theorem d1_33 : decode method_2_code 33 = .ok (.aload 4, 2) := by decide +kernel
theorem d1_35 : decode method_2_code 35 = .ok (.areturn, 1) := by decide +kernel
theorem ef_1 (m : MethodId) (p0 : Int32) (p1 : Int32) (p2 : Int32) (p3 : Int32) : entryFrame m #[(.int p0), (.int p1), (.int p2), (.int p3)] 5 = mkF m 0 #[.val (.int p0), .val (.int p1), .val (.int p2), .val (.int p3), .unset] [] := by first | (simp [entryFrame, mkF, argsToLocals, Value.category]; done) | rfl
theorem pn_1 : plainName "com/example/fleetwire/fleetwire/bench/TreeFieldSumPinLaw" = true := by first | (simp [plainName, overriddenIn]; done) | decide +kernel
def Q1 (Z : State) (p0 p1 p2 p3 : Int32) (h0 : Heap) (n0 : Nat) (v : Option Value) (h : Heap) (L : List Loc) : Prop := ∃ b : Addr, v = some (.ref b) ∧ Fr n0 L ∧ Keep h0 h [] ∧ h0.size ≤ b ∧ n0 ≤ b ∧ Exa Z h b "com/example/fleetwire/fleetwire/bench/Bench$Tree" ∧ Fld Z h b "com/example/fleetwire/fleetwire/bench/Bench$Tree" "a" "I" (.int p0) ∧ Fld Z h b "com/example/fleetwire/fleetwire/bench/Bench$Tree" "b" "I" (.int p1) ∧ Fld Z h b "com/example/fleetwire/fleetwire/bench/Bench$Tree" "c" "I" (.int p2) ∧ Fld Z h b "com/example/fleetwire/fleetwire/bench/Bench$Tree" "d" "I" (.int p3) ∧ Fld Z h b "com/example/fleetwire/fleetwire/bench/Bench$Tree" "left" "Lcom/example/fleetwire/fleetwire/bench/Bench$Tree;" .null ∧ Fld Z h b "com/example/fleetwire/fleetwire/bench/Bench$Tree" "right" "Lcom/example/fleetwire/fleetwire/bench/Bench$Tree;" .null
set_option maxRecDepth 65536 in
set_option maxHeartbeats 40000000 in
theorem rm1 (l : Launch) (Z : State) (t0 : Array Value) (hw : ∀ d ∈ tables_1, d.before t0 Z = true) (ws : List Jvm.Cond) (p0 : Int32) (p1 : Int32) (p2 : Int32) (p3 : Int32) (h0 : Heap) (n0 : Nat) (Z0 : n0 ≤ h0.size)  :
    MetFree l (⟨"com/example/fleetwire/fleetwire/bench/TreeFieldSumPinLaw", "node", "(IIII)Lcom/example/fleetwire/fleetwire/bench/Bench$Tree;"⟩ : MethodName) (head1 (Jvm.Cond.code (⟨"com/example/fleetwire/fleetwire/bench/TreeFieldSumPinLaw", "node", "(IIII)Lcom/example/fleetwire/fleetwire/bench/Bench$Tree;"⟩ : MethodName) method_2_code 5 (some (.object "com/example/fleetwire/fleetwire/bench/Bench$Tree")) :: ws) ({ frames := 2, cells := 1, slots := 6, locals := 26 } : Room)) (fun a U => a = #[(.int p0), (.int p1), (.int p2), (.int p3)] ∧ Z.Warmed39 U.vm ∧ U.heap = h0) (fun _ _ _ _ _ => True) (fun _ U o U' => ∃ v L, o = .returned v ∧ Q1 Z p0 p1 p2 p3 h0 n0 v U'.heap L ∧ FrameEnd U o U' L ({ frames := 2, cells := 1, slots := 6, locals := 26 } : Room).cells ({ frames := 2, cells := 1, slots := 6, locals := 26 } : Room).slots) := by
  refine MetFree.of_bodySF (plainFor_of_name pn_1) hisR ?_
  intro p e s m args below meth c s₁ Bd hml0 hP hK
  obtain ⟨rfl, hZ, hh⟩ := hP
  have hx := Bd.exec
  have hby := Bd.bytes
  have hml : c.maxLocals = 5 := hml0
  have hown : s.vm.findClass "com/example/fleetwire/fleetwire/bench/TreeFieldSumPinLaw" = some m.cls := findClass_of_methodNamed Bd.named
  have hnm := (name_of_methodNamed Bd.named Bd.method).1
  have X0 : Stand p l e ({ frames := 2, cells := 1, slots := 6, locals := 26 } : Room) s m #[(.int p0), (.int p1), (.int p2), (.int p3)] below meth c s₁ [] 0 0 := Stand.of_body Bd
  have e0 : s₁.heap = h0 := by rw [← hh, Bd.state]; rfl
  have N0 := Fr.nil n0
  have pre0 : ∀ t, Steps p.tables e below (s₁.setTop (mkF m 0 #[.val (.int p0), .val (.int p1), .val (.int p2), .val (.int p3), .unset] [])) t → Steps p.tables e below (s₁.setTop (entryFrame m #[(.int p0), (.int p1), (.int p2), (.int p3)] 5)) t := fun t k => castTop (ef_1 m p0 p1 p2 p3) k
  have K0 : Keep h0 h0 [] := Keep.refl _ _
  refine own_go pre0 ?_
  obtain ⟨T1, h1, X1, e1, E1, A1, D1, -, st1⟩ := newO X0 hx hZ hown (hw _ (List.mem_of_getElem? (i := 4) rfl)) (hw _ (List.mem_of_getElem? (i := 5) rfl)) (hw _ (List.mem_of_getElem? (i := 6) rfl)) e0 (g := (mkF m 0 #[.val (.int p0), .val (.int p1), .val (.int p2), .val (.int p3), .unset] [])) rfl (hb hby d1_0) (by decide) (by decide)
  obtain ⟨b1, g1⟩ : ∃ z, z = h0.size := ⟨_, rfl⟩
  rw [← g1] at A1 D1 st1
  have g_b1 : n0 ≤ b1 := Nat.le_trans Z0 (Nat.le_of_eq g1.symm)
  have sz_b1 : h0.size ≤ b1 := Nat.le_trans K0.1 (Nat.le_of_eq g1.symm)
  have Z1 : n0 ≤ h1.size := Nat.le_trans Z0 E1.1
  have K1 := K0.ext E1
  have E_b1 := A1
  have F_a_b1 : Fld Z h1 b1 "com/example/fleetwire/fleetwire/bench/Bench$Tree" "a" "I" (.int (0 : Int32)) := D1 (Or.inl (hw _ (List.mem_of_getElem? (i := 14) rfl))) (ty := .int) (by decide)
  have F_b_b1 : Fld Z h1 b1 "com/example/fleetwire/fleetwire/bench/Bench$Tree" "b" "I" (.int (0 : Int32)) := D1 (Or.inl (hw _ (List.mem_of_getElem? (i := 16) rfl))) (ty := .int) (by decide)
  have F_c_b1 : Fld Z h1 b1 "com/example/fleetwire/fleetwire/bench/Bench$Tree" "c" "I" (.int (0 : Int32)) := D1 (Or.inl (hw _ (List.mem_of_getElem? (i := 18) rfl))) (ty := .int) (by decide)
  have F_d_b1 : Fld Z h1 b1 "com/example/fleetwire/fleetwire/bench/Bench$Tree" "d" "I" (.int (0 : Int32)) := D1 (Or.inl (hw _ (List.mem_of_getElem? (i := 20) rfl))) (ty := .int) (by decide)
  have F_right_b1 : Fld Z h1 b1 "com/example/fleetwire/fleetwire/bench/Bench$Tree" "right" "Lcom/example/fleetwire/fleetwire/bench/Bench$Tree;" .null := D1 (Or.inl (hw _ (List.mem_of_getElem? (i := 25) rfl))) (ty := (.object "com/example/fleetwire/fleetwire/bench/Bench$Tree")) (by decide)
  have F_left_b1 : Fld Z h1 b1 "com/example/fleetwire/fleetwire/bench/Bench$Tree" "left" "Lcom/example/fleetwire/fleetwire/bench/Bench$Tree;" .null := D1 (Or.inl (hw _ (List.mem_of_getElem? (i := 36) rfl))) (ty := (.object "com/example/fleetwire/fleetwire/bench/Bench$Tree")) (by decide)
  refine own_go (B := T1.setTop (mkF m 3 #[.val (.int p0), .val (.int p1), .val (.int p2), .val (.int p3), .unset] [(.ref b1)])) (fun t kt => st1 t kt) ?_
  refine own_go (B := T1.setTop (mkF m 4 #[.val (.int p0), .val (.int p1), .val (.int p2), .val (.int p3), .unset] [(.ref b1), (.ref b1)])) (fun t kt => ?_) ?_
  · show Steps p.tables e below (T1.setTop (mkF m 3 #[.val (.int p0), .val (.int p1), .val (.int p2), .val (.int p3), .unset] [(.ref b1)])) _
    refine XS.dup X1.here hx rfl (hb hby d1_3) rfl rfl ?_
    exact kt
  obtain ⟨_, _, ⟨T2, L2, k2, n2⟩, -, X2, ⟨Lc2, hQ2, l2, y2, z2⟩, st2⟩ := X1.specialBack hx (y := (⟨"com/example/fleetwire/fleetwire/bench/Bench$Tree", "<init>", "()V"⟩ : MethodName)) rfl hown (mvT hZ (hw _ (List.mem_of_getElem? (i := 7) rfl))) (mvT hZ (hw _ (List.mem_of_getElem? (i := 8) rfl))) (mvT hZ (hw _ (List.mem_of_getElem? (i := 9) rfl))) (by decide) (backOf (W := 1) (rm2 l Z t0 hw [] b1 h1 n0 Z1) hZ (hw _ (List.mem_of_getElem? (i := 9) rfl)) (hw _ (List.mem_of_getElem? (i := 6) rfl)) (by decide) (by decide)) (g := (mkF m 4 #[.val (.int p0), .val (.int p1), .val (.int p2), .val (.int p3), .unset] [(.ref b1), (.ref b1)])) rfl (by rw [hml]; rfl) (Steps.refl _) (a := b1) (argsL := []) (rest := [(.ref b1)]) (lenOf pd_1_0 rfl) rfl (by show 2 * 0 + _ ≤ _; exact Nat.le_of_eq rfl) (hb hby d1_4) (fun _ _ => ⟨rfl, e1, (by decide : 1 + 0 ≤ _), (by decide : 6 + 0 ≤ _)⟩)
  dsimp only [Pt.U, Pt.locs, Pt.cells, Pt.slots] at X2 l2 y2 z2 st2 hQ2
  subst l2 y2 z2
  obtain ⟨rfl, Nq2, hh2⟩ := hQ2
  have N2 := Fr.app N0 Nq2
  have e2 : T2.heap = h1 := hh2
  refine own_go (B := T2.setTop (mkF m 7 #[.val (.int p0), .val (.int p1), .val (.int p2), .val (.int p3), .unset] [(.ref b1)])) (fun t kt => st2.trans kt) ?_
  refine own_go (B := T2.setTop (mkF m 12 #[.val (.int p0), .val (.int p1), .val (.int p2), .val (.int p3), .val (.ref b1)] [(.int p0), (.ref b1)])) (fun t kt => ?_) ?_
  · show Steps p.tables e below (T2.setTop (mkF m 7 #[.val (.int p0), .val (.int p1), .val (.int p2), .val (.int p3), .unset] [(.ref b1)])) _
    refine XS.astore X2.here hx rfl (hb hby d1_7) rfl rfl (l' := #[.val (.int p0), .val (.int p1), .val (.int p2), .val (.int p3), .val (.ref b1)]) rfl ?_
    show Steps p.tables e below (T2.setTop (mkF m 9 #[.val (.int p0), .val (.int p1), .val (.int p2), .val (.int p3), .val (.ref b1)] [])) _
    refine XS.aload X2.here hx rfl (hb hby d1_9) rfl rfl ?_
    show Steps p.tables e below (T2.setTop (mkF m 11 #[.val (.int p0), .val (.int p1), .val (.int p2), .val (.int p3), .val (.ref b1)] [(.ref b1)])) _
    refine XS.iloadN X2.here hx rfl (hb hby d1_11) rfl ?_
    exact kt
  obtain ⟨T3, h3, X3, e3, W3, st3⟩ := putF X2 hx hZ hown (host := "") (Or.inl (hw _ (List.mem_of_getElem? (i := 13) rfl))) Via.refl e2 F_a_b1 E_b1 (Or.inl (hw _ (List.mem_of_getElem? (i := 14) rfl))) (hw _ (List.mem_of_getElem? (i := 5) rfl)) (ty := .int) (by decide) rfl rfl (g := (mkF m 12 #[.val (.int p0), .val (.int p1), .val (.int p2), .val (.int p3), .val (.ref b1)] [(.int p0), (.ref b1)])) rfl rfl (hb hby d1_12)
  have F_a_b1_3 : Fld Z h3 b1 "com/example/fleetwire/fleetwire/bench/Bench$Tree" "a" "I" (.int p0) := F_a_b1.same W3
  have E_b1_3 := E_b1.wr W3
  have F_b_b1_3 := F_b_b1.other W3 (Or.inr (slot_ne (Or.inl (hw _ (List.mem_of_getElem? (i := 16) rfl))) (Or.inl (hw _ (List.mem_of_getElem? (i := 14) rfl))) (by decide) (t := .int) (t' := .int) (by decide) (by decide)))
  have F_c_b1_3 := F_c_b1.other W3 (Or.inr (slot_ne (Or.inl (hw _ (List.mem_of_getElem? (i := 18) rfl))) (Or.inl (hw _ (List.mem_of_getElem? (i := 14) rfl))) (by decide) (t := .int) (t' := .int) (by decide) (by decide)))
  have F_d_b1_3 := F_d_b1.other W3 (Or.inr (slot_ne (Or.inl (hw _ (List.mem_of_getElem? (i := 20) rfl))) (Or.inl (hw _ (List.mem_of_getElem? (i := 14) rfl))) (by decide) (t := .int) (t' := .int) (by decide) (by decide)))
  have F_right_b1_3 := F_right_b1.other W3 (Or.inr (slot_ne (Or.inl (hw _ (List.mem_of_getElem? (i := 25) rfl))) (Or.inl (hw _ (List.mem_of_getElem? (i := 14) rfl))) (by decide) (t := (.object "com/example/fleetwire/fleetwire/bench/Bench$Tree")) (t' := .int) (by decide) (by decide)))
  have F_left_b1_3 := F_left_b1.other W3 (Or.inr (slot_ne (Or.inl (hw _ (List.mem_of_getElem? (i := 36) rfl))) (Or.inl (hw _ (List.mem_of_getElem? (i := 14) rfl))) (by decide) (t := (.object "com/example/fleetwire/fleetwire/bench/Bench$Tree")) (t' := .int) (by decide) (by decide)))
  have Z3 : n0 ≤ h3.size := Nat.le_trans Z1 (Keep.of_wr W3).1
  have K3 := K1.wr W3 (Or.inr sz_b1)
  have N3 := Fr.snoc X3 N2 g_b1
  refine own_go (B := T3.setTop (mkF m 15 #[.val (.int p0), .val (.int p1), .val (.int p2), .val (.int p3), .val (.ref b1)] [])) (fun t kt => st3 t kt) ?_
  refine own_go (B := T3.setTop (mkF m 18 #[.val (.int p0), .val (.int p1), .val (.int p2), .val (.int p3), .val (.ref b1)] [(.int p1), (.ref b1)])) (fun t kt => ?_) ?_
  · show Steps p.tables e below (T3.setTop (mkF m 15 #[.val (.int p0), .val (.int p1), .val (.int p2), .val (.int p3), .val (.ref b1)] [])) _
    refine XS.aload X3.here hx rfl (hb hby d1_15) rfl rfl ?_
    show Steps p.tables e below (T3.setTop (mkF m 17 #[.val (.int p0), .val (.int p1), .val (.int p2), .val (.int p3), .val (.ref b1)] [(.ref b1)])) _
    refine XS.iloadN X3.here hx rfl (hb hby d1_17) rfl ?_
    exact kt
  obtain ⟨T4, h4, X4, e4, W4, st4⟩ := putF X3 hx hZ hown (host := "") (Or.inl (hw _ (List.mem_of_getElem? (i := 15) rfl))) Via.refl e3 F_b_b1_3 E_b1_3 (Or.inl (hw _ (List.mem_of_getElem? (i := 16) rfl))) (hw _ (List.mem_of_getElem? (i := 5) rfl)) (ty := .int) (by decide) rfl rfl (g := (mkF m 18 #[.val (.int p0), .val (.int p1), .val (.int p2), .val (.int p3), .val (.ref b1)] [(.int p1), (.ref b1)])) rfl rfl (hb hby d1_18)
  have F_b_b1_4 : Fld Z h4 b1 "com/example/fleetwire/fleetwire/bench/Bench$Tree" "b" "I" (.int p1) := F_b_b1_3.same W4
  have E_b1_4 := E_b1_3.wr W4
  have F_a_b1_4 := F_a_b1_3.other W4 (Or.inr (slot_ne (Or.inl (hw _ (List.mem_of_getElem? (i := 14) rfl))) (Or.inl (hw _ (List.mem_of_getElem? (i := 16) rfl))) (by decide) (t := .int) (t' := .int) (by decide) (by decide)))
  have F_c_b1_4 := F_c_b1_3.other W4 (Or.inr (slot_ne (Or.inl (hw _ (List.mem_of_getElem? (i := 18) rfl))) (Or.inl (hw _ (List.mem_of_getElem? (i := 16) rfl))) (by decide) (t := .int) (t' := .int) (by decide) (by decide)))
  have F_d_b1_4 := F_d_b1_3.other W4 (Or.inr (slot_ne (Or.inl (hw _ (List.mem_of_getElem? (i := 20) rfl))) (Or.inl (hw _ (List.mem_of_getElem? (i := 16) rfl))) (by decide) (t := .int) (t' := .int) (by decide) (by decide)))
  have F_right_b1_4 := F_right_b1_3.other W4 (Or.inr (slot_ne (Or.inl (hw _ (List.mem_of_getElem? (i := 25) rfl))) (Or.inl (hw _ (List.mem_of_getElem? (i := 16) rfl))) (by decide) (t := (.object "com/example/fleetwire/fleetwire/bench/Bench$Tree")) (t' := .int) (by decide) (by decide)))
  have F_left_b1_4 := F_left_b1_3.other W4 (Or.inr (slot_ne (Or.inl (hw _ (List.mem_of_getElem? (i := 36) rfl))) (Or.inl (hw _ (List.mem_of_getElem? (i := 16) rfl))) (by decide) (t := (.object "com/example/fleetwire/fleetwire/bench/Bench$Tree")) (t' := .int) (by decide) (by decide)))
  have Z4 : n0 ≤ h4.size := Nat.le_trans Z3 (Keep.of_wr W4).1
  have K4 := K3.wr W4 (Or.inr sz_b1)
  have N4 := Fr.snoc X4 N3 g_b1
  refine own_go (B := T4.setTop (mkF m 21 #[.val (.int p0), .val (.int p1), .val (.int p2), .val (.int p3), .val (.ref b1)] [])) (fun t kt => st4 t kt) ?_
  refine own_go (B := T4.setTop (mkF m 24 #[.val (.int p0), .val (.int p1), .val (.int p2), .val (.int p3), .val (.ref b1)] [(.int p2), (.ref b1)])) (fun t kt => ?_) ?_
  · show Steps p.tables e below (T4.setTop (mkF m 21 #[.val (.int p0), .val (.int p1), .val (.int p2), .val (.int p3), .val (.ref b1)] [])) _
    refine XS.aload X4.here hx rfl (hb hby d1_21) rfl rfl ?_
    show Steps p.tables e below (T4.setTop (mkF m 23 #[.val (.int p0), .val (.int p1), .val (.int p2), .val (.int p3), .val (.ref b1)] [(.ref b1)])) _
    refine XS.iloadN X4.here hx rfl (hb hby d1_23) rfl ?_
    exact kt
  obtain ⟨T5, h5, X5, e5, W5, st5⟩ := putF X4 hx hZ hown (host := "") (Or.inl (hw _ (List.mem_of_getElem? (i := 17) rfl))) Via.refl e4 F_c_b1_4 E_b1_4 (Or.inl (hw _ (List.mem_of_getElem? (i := 18) rfl))) (hw _ (List.mem_of_getElem? (i := 5) rfl)) (ty := .int) (by decide) rfl rfl (g := (mkF m 24 #[.val (.int p0), .val (.int p1), .val (.int p2), .val (.int p3), .val (.ref b1)] [(.int p2), (.ref b1)])) rfl rfl (hb hby d1_24)
  have F_c_b1_5 : Fld Z h5 b1 "com/example/fleetwire/fleetwire/bench/Bench$Tree" "c" "I" (.int p2) := F_c_b1_4.same W5
  have E_b1_5 := E_b1_4.wr W5
  have F_a_b1_5 := F_a_b1_4.other W5 (Or.inr (slot_ne (Or.inl (hw _ (List.mem_of_getElem? (i := 14) rfl))) (Or.inl (hw _ (List.mem_of_getElem? (i := 18) rfl))) (by decide) (t := .int) (t' := .int) (by decide) (by decide)))
  have F_b_b1_5 := F_b_b1_4.other W5 (Or.inr (slot_ne (Or.inl (hw _ (List.mem_of_getElem? (i := 16) rfl))) (Or.inl (hw _ (List.mem_of_getElem? (i := 18) rfl))) (by decide) (t := .int) (t' := .int) (by decide) (by decide)))
  have F_d_b1_5 := F_d_b1_4.other W5 (Or.inr (slot_ne (Or.inl (hw _ (List.mem_of_getElem? (i := 20) rfl))) (Or.inl (hw _ (List.mem_of_getElem? (i := 18) rfl))) (by decide) (t := .int) (t' := .int) (by decide) (by decide)))
  have F_right_b1_5 := F_right_b1_4.other W5 (Or.inr (slot_ne (Or.inl (hw _ (List.mem_of_getElem? (i := 25) rfl))) (Or.inl (hw _ (List.mem_of_getElem? (i := 18) rfl))) (by decide) (t := (.object "com/example/fleetwire/fleetwire/bench/Bench$Tree")) (t' := .int) (by decide) (by decide)))
  have F_left_b1_5 := F_left_b1_4.other W5 (Or.inr (slot_ne (Or.inl (hw _ (List.mem_of_getElem? (i := 36) rfl))) (Or.inl (hw _ (List.mem_of_getElem? (i := 18) rfl))) (by decide) (t := (.object "com/example/fleetwire/fleetwire/bench/Bench$Tree")) (t' := .int) (by decide) (by decide)))
  have Z5 : n0 ≤ h5.size := Nat.le_trans Z4 (Keep.of_wr W5).1
  have K5 := K4.wr W5 (Or.inr sz_b1)
  have N5 := Fr.snoc X5 N4 g_b1
  refine own_go (B := T5.setTop (mkF m 27 #[.val (.int p0), .val (.int p1), .val (.int p2), .val (.int p3), .val (.ref b1)] [])) (fun t kt => st5 t kt) ?_
  refine own_go (B := T5.setTop (mkF m 30 #[.val (.int p0), .val (.int p1), .val (.int p2), .val (.int p3), .val (.ref b1)] [(.int p3), (.ref b1)])) (fun t kt => ?_) ?_
  · show Steps p.tables e below (T5.setTop (mkF m 27 #[.val (.int p0), .val (.int p1), .val (.int p2), .val (.int p3), .val (.ref b1)] [])) _
    refine XS.aload X5.here hx rfl (hb hby d1_27) rfl rfl ?_
    show Steps p.tables e below (T5.setTop (mkF m 29 #[.val (.int p0), .val (.int p1), .val (.int p2), .val (.int p3), .val (.ref b1)] [(.ref b1)])) _
    refine XS.iloadN X5.here hx rfl (hb hby d1_29) rfl ?_
    exact kt
  obtain ⟨T6, h6, X6, e6, W6, st6⟩ := putF X5 hx hZ hown (host := "") (Or.inl (hw _ (List.mem_of_getElem? (i := 19) rfl))) Via.refl e5 F_d_b1_5 E_b1_5 (Or.inl (hw _ (List.mem_of_getElem? (i := 20) rfl))) (hw _ (List.mem_of_getElem? (i := 5) rfl)) (ty := .int) (by decide) rfl rfl (g := (mkF m 30 #[.val (.int p0), .val (.int p1), .val (.int p2), .val (.int p3), .val (.ref b1)] [(.int p3), (.ref b1)])) rfl rfl (hb hby d1_30)
  have F_d_b1_6 : Fld Z h6 b1 "com/example/fleetwire/fleetwire/bench/Bench$Tree" "d" "I" (.int p3) := F_d_b1_5.same W6
  have E_b1_6 := E_b1_5.wr W6
  have F_a_b1_6 := F_a_b1_5.other W6 (Or.inr (slot_ne (Or.inl (hw _ (List.mem_of_getElem? (i := 14) rfl))) (Or.inl (hw _ (List.mem_of_getElem? (i := 20) rfl))) (by decide) (t := .int) (t' := .int) (by decide) (by decide)))
  have F_b_b1_6 := F_b_b1_5.other W6 (Or.inr (slot_ne (Or.inl (hw _ (List.mem_of_getElem? (i := 16) rfl))) (Or.inl (hw _ (List.mem_of_getElem? (i := 20) rfl))) (by decide) (t := .int) (t' := .int) (by decide) (by decide)))
  have F_c_b1_6 := F_c_b1_5.other W6 (Or.inr (slot_ne (Or.inl (hw _ (List.mem_of_getElem? (i := 18) rfl))) (Or.inl (hw _ (List.mem_of_getElem? (i := 20) rfl))) (by decide) (t := .int) (t' := .int) (by decide) (by decide)))
  have F_right_b1_6 := F_right_b1_5.other W6 (Or.inr (slot_ne (Or.inl (hw _ (List.mem_of_getElem? (i := 25) rfl))) (Or.inl (hw _ (List.mem_of_getElem? (i := 20) rfl))) (by decide) (t := (.object "com/example/fleetwire/fleetwire/bench/Bench$Tree")) (t' := .int) (by decide) (by decide)))
  have F_left_b1_6 := F_left_b1_5.other W6 (Or.inr (slot_ne (Or.inl (hw _ (List.mem_of_getElem? (i := 36) rfl))) (Or.inl (hw _ (List.mem_of_getElem? (i := 20) rfl))) (by decide) (t := (.object "com/example/fleetwire/fleetwire/bench/Bench$Tree")) (t' := .int) (by decide) (by decide)))
  have Z6 : n0 ≤ h6.size := Nat.le_trans Z5 (Keep.of_wr W6).1
  have K6 := K5.wr W6 (Or.inr sz_b1)
  have N6 := Fr.snoc X6 N5 g_b1
  refine own_go (B := T6.setTop (mkF m 33 #[.val (.int p0), .val (.int p1), .val (.int p2), .val (.int p3), .val (.ref b1)] [])) (fun t kt => st6 t kt) ?_
  refine own_go (B := T6.setTop (mkF m 35 #[.val (.int p0), .val (.int p1), .val (.int p2), .val (.int p3), .val (.ref b1)] [(.ref b1)])) (fun t kt => ?_) ?_
  · show Steps p.tables e below (T6.setTop (mkF m 33 #[.val (.int p0), .val (.int p1), .val (.int p2), .val (.int p3), .val (.ref b1)] [])) _
    refine XS.aload X6.here hx rfl (hb hby d1_33) rfl rfl ?_
    exact kt
  obtain ⟨fs, hr, hrun, hended, hW, hsame⟩ := X6.leave (v := some (.ref b1)) (fun h => by rw [Bd.returns] at h; cases h)
  refine ⟨_, _, ?_, hrun, hended, _, _, rfl, ?_, ⟨_, rfl⟩, hW, hsame.mono (by decide) (by decide)⟩
  · show Steps p.tables e below (T6.setTop (mkF m 35 #[.val (.int p0), .val (.int p1), .val (.int p2), .val (.int p3), .val (.ref b1)] [(.ref b1)])) _
    exact Jvm.RoadKit.retOut X6 hx Bd.returns rfl (Or.inr (Or.inr (Or.inr (Or.inr ⟨rfl, rfl, rfl⟩)))) (hb hby d1_35) hr
  · show Q1 Z p0 p1 p2 p3 h0 n0 _ T6.heap _
    rw [e6]
    exact ⟨b1, rfl, N6, K6, sz_b1, g_b1, E_b1_6, F_a_b1_6, F_b_b1_6, F_c_b1_6, F_d_b1_6, F_left_b1_6, F_right_b1_6⟩
theorem d4_0 : decode method_3_code 0 = .ok (.iload_n 0, 1) := by decide +kernel
theorem d4_1 : decode method_3_code 1 = .ok (.i2l, 1) := by decide +kernel
theorem d4_2 : decode method_3_code 2 = .ok (.lstore 4, 2) := by decide +kernel
theorem d4_4 : decode method_3_code 4 = .ok (.lload 4, 2) := by decide +kernel
theorem d4_6 : decode method_3_code 6 = .ok (.iload_n 1, 1) := by decide +kernel
theorem d4_7 : decode method_3_code 7 = .ok (.i2l, 1) := by decide +kernel
theorem d4_8 : decode method_3_code 8 = .ok (.ladd, 1) := by decide +kernel
theorem d4_9 : decode method_3_code 9 = .ok (.lstore 4, 2) := by decide +kernel
theorem d4_11 : decode method_3_code 11 = .ok (.lload 4, 2) := by decide +kernel
theorem d4_13 : decode method_3_code 13 = .ok (.iload_n 2, 1) := by decide +kernel
theorem d4_14 : decode method_3_code 14 = .ok (.i2l, 1) := by decide +kernel
theorem d4_15 : decode method_3_code 15 = .ok (.ladd, 1) := by decide +kernel
theorem d4_16 : decode method_3_code 16 = .ok (.lstore 4, 2) := by decide +kernel
theorem d4_18 : decode method_3_code 18 = .ok (.lload 4, 2) := by decide +kernel
theorem d4_20 : decode method_3_code 20 = .ok (.iload_n 3, 1) := by decide +kernel
theorem d4_21 : decode method_3_code 21 = .ok (.i2l, 1) := by decide +kernel
theorem d4_22 : decode method_3_code 22 = .ok (.ladd, 1) := by decide +kernel
theorem d4_23 : decode method_3_code 23 = .ok (.lstore 4, 2) := by decide +kernel
theorem d4_25 : decode method_3_code 25 = .ok (.lload 4, 2) := by decide +kernel
theorem d4_27 : decode method_3_code 27 = .ok (.lreturn, 1) := by decide +kernel
def own4_f0 (p0 : Int32) (p1 : Int32) (p2 : Int32) (p3 : Int32) : Int64 := ((((p0.toInt64) + (p1.toInt64)) + (p2.toInt64)) + (p3.toInt64))
theorem own4_e0 (p0 : Int32) (p1 : Int32) (p2 : Int32) (p3 : Int32) : (own4_f0 p0 p1 p2 p3) = ((((p0.toInt64) + (p1.toInt64)) + (p2.toInt64)) + (p3.toInt64)) := rfl
set_option maxRecDepth 65536 in
set_option maxHeartbeats 40000000 in
theorem own4_b0 {p : Program} {l : Launch} {e : Env} {R : Room} {s : State} {m : MethodId} {args : Array Value} {below : List Frame} {meth : Method} {c : Code} {T0 : State} {locs : List Loc} {cells slots : Nat} {Z : State} {t0 : Array Value} {h0 : Heap} (p0 : Int32) (p1 : Int32) (p2 : Int32) (p3 : Int32) (X0 : Stand p l e R s m args below meth c T0 locs cells slots) (hx : p.tables.exec = Jvm.exec) (hZ : Z.Warmed39 s.vm) (hw : ∀ d ∈ tables_1, d.before t0 Z = true) (hby : c.code = method_3_code) (hown : s.vm.findClass "com/example/fleetwire/fleetwire/bench/TreeFieldSumPinLaw" = some m.cls) (e0 : T0.heap = h0)  (hret : meth.sig.returnType = some .long) {fs : List Frame} (hr : ∀ (f : JFrame) (acts : List Action), f.method = m → f.locked = none → f.entered = [] → (doReturn e (T0.setTop f) acts (some (.long (own4_f0 p0 p1 p2 p3)))).1 = T0.setFrames fs) : Steps p.tables e below (T0.setTop (mkF m 0 #[.val (.int p0), .val (.int p1), .val (.int p2), .val (.int p3), .unset, .unset] [])) (T0.setFrames fs) := by
  rw [own4_e0] at hr
  show Steps p.tables e below (T0.setTop (mkF m 0 #[.val (.int p0), .val (.int p1), .val (.int p2), .val (.int p3), .unset, .unset] [])) _
  refine XS.iloadN X0.here hx rfl (hb hby d4_0) rfl ?_
  show Steps p.tables e below (T0.setTop (mkF m 1 #[.val (.int p0), .val (.int p1), .val (.int p2), .val (.int p3), .unset, .unset] [(.int p0)])) _
  refine XS.i2l X0.here hx rfl (hb hby d4_1) rfl ?_
  show Steps p.tables e below (T0.setTop (mkF m 2 #[.val (.int p0), .val (.int p1), .val (.int p2), .val (.int p3), .unset, .unset] [(.long (p0.toInt64))])) _
  refine XS.lstore X0.here hx rfl (hb hby d4_2) rfl (l' := #[.val (.int p0), .val (.int p1), .val (.int p2), .val (.int p3), .val (.long (p0.toInt64)), .second]) rfl ?_
  show Steps p.tables e below (T0.setTop (mkF m 4 #[.val (.int p0), .val (.int p1), .val (.int p2), .val (.int p3), .val (.long (p0.toInt64)), .second] [])) _
  refine XS.lload X0.here hx rfl (hb hby d4_4) rfl ?_
  show Steps p.tables e below (T0.setTop (mkF m 6 #[.val (.int p0), .val (.int p1), .val (.int p2), .val (.int p3), .val (.long (p0.toInt64)), .second] [(.long (p0.toInt64))])) _
  refine XS.iloadN X0.here hx rfl (hb hby d4_6) rfl ?_
  show Steps p.tables e below (T0.setTop (mkF m 7 #[.val (.int p0), .val (.int p1), .val (.int p2), .val (.int p3), .val (.long (p0.toInt64)), .second] [(.int p1), (.long (p0.toInt64))])) _
  refine XS.i2l X0.here hx rfl (hb hby d4_7) rfl ?_
  show Steps p.tables e below (T0.setTop (mkF m 8 #[.val (.int p0), .val (.int p1), .val (.int p2), .val (.int p3), .val (.long (p0.toInt64)), .second] [(.long (p1.toInt64)), (.long (p0.toInt64))])) _
  refine XS.ladd X0.here hx rfl (hb hby d4_8) rfl ?_
  show Steps p.tables e below (T0.setTop (mkF m 9 #[.val (.int p0), .val (.int p1), .val (.int p2), .val (.int p3), .val (.long (p0.toInt64)), .second] [(.long ((p0.toInt64) + (p1.toInt64)))])) _
  refine XS.lstore X0.here hx rfl (hb hby d4_9) rfl (l' := #[.val (.int p0), .val (.int p1), .val (.int p2), .val (.int p3), .val (.long ((p0.toInt64) + (p1.toInt64))), .second]) rfl ?_
  show Steps p.tables e below (T0.setTop (mkF m 11 #[.val (.int p0), .val (.int p1), .val (.int p2), .val (.int p3), .val (.long ((p0.toInt64) + (p1.toInt64))), .second] [])) _
  refine XS.lload X0.here hx rfl (hb hby d4_11) rfl ?_
  show Steps p.tables e below (T0.setTop (mkF m 13 #[.val (.int p0), .val (.int p1), .val (.int p2), .val (.int p3), .val (.long ((p0.toInt64) + (p1.toInt64))), .second] [(.long ((p0.toInt64) + (p1.toInt64)))])) _
  refine XS.iloadN X0.here hx rfl (hb hby d4_13) rfl ?_
  show Steps p.tables e below (T0.setTop (mkF m 14 #[.val (.int p0), .val (.int p1), .val (.int p2), .val (.int p3), .val (.long ((p0.toInt64) + (p1.toInt64))), .second] [(.int p2), (.long ((p0.toInt64) + (p1.toInt64)))])) _
  refine XS.i2l X0.here hx rfl (hb hby d4_14) rfl ?_
  show Steps p.tables e below (T0.setTop (mkF m 15 #[.val (.int p0), .val (.int p1), .val (.int p2), .val (.int p3), .val (.long ((p0.toInt64) + (p1.toInt64))), .second] [(.long (p2.toInt64)), (.long ((p0.toInt64) + (p1.toInt64)))])) _
  refine XS.ladd X0.here hx rfl (hb hby d4_15) rfl ?_
  show Steps p.tables e below (T0.setTop (mkF m 16 #[.val (.int p0), .val (.int p1), .val (.int p2), .val (.int p3), .val (.long ((p0.toInt64) + (p1.toInt64))), .second] [(.long (((p0.toInt64) + (p1.toInt64)) + (p2.toInt64)))])) _
  refine XS.lstore X0.here hx rfl (hb hby d4_16) rfl (l' := #[.val (.int p0), .val (.int p1), .val (.int p2), .val (.int p3), .val (.long (((p0.toInt64) + (p1.toInt64)) + (p2.toInt64))), .second]) rfl ?_
  show Steps p.tables e below (T0.setTop (mkF m 18 #[.val (.int p0), .val (.int p1), .val (.int p2), .val (.int p3), .val (.long (((p0.toInt64) + (p1.toInt64)) + (p2.toInt64))), .second] [])) _
  refine XS.lload X0.here hx rfl (hb hby d4_18) rfl ?_
  show Steps p.tables e below (T0.setTop (mkF m 20 #[.val (.int p0), .val (.int p1), .val (.int p2), .val (.int p3), .val (.long (((p0.toInt64) + (p1.toInt64)) + (p2.toInt64))), .second] [(.long (((p0.toInt64) + (p1.toInt64)) + (p2.toInt64)))])) _
  refine XS.iloadN X0.here hx rfl (hb hby d4_20) rfl ?_
  show Steps p.tables e below (T0.setTop (mkF m 21 #[.val (.int p0), .val (.int p1), .val (.int p2), .val (.int p3), .val (.long (((p0.toInt64) + (p1.toInt64)) + (p2.toInt64))), .second] [(.int p3), (.long (((p0.toInt64) + (p1.toInt64)) + (p2.toInt64)))])) _
  refine XS.i2l X0.here hx rfl (hb hby d4_21) rfl ?_
  show Steps p.tables e below (T0.setTop (mkF m 22 #[.val (.int p0), .val (.int p1), .val (.int p2), .val (.int p3), .val (.long (((p0.toInt64) + (p1.toInt64)) + (p2.toInt64))), .second] [(.long (p3.toInt64)), (.long (((p0.toInt64) + (p1.toInt64)) + (p2.toInt64)))])) _
  refine XS.ladd X0.here hx rfl (hb hby d4_22) rfl ?_
  show Steps p.tables e below (T0.setTop (mkF m 23 #[.val (.int p0), .val (.int p1), .val (.int p2), .val (.int p3), .val (.long (((p0.toInt64) + (p1.toInt64)) + (p2.toInt64))), .second] [(.long ((((p0.toInt64) + (p1.toInt64)) + (p2.toInt64)) + (p3.toInt64)))])) _
  refine XS.lstore X0.here hx rfl (hb hby d4_23) rfl (l' := #[.val (.int p0), .val (.int p1), .val (.int p2), .val (.int p3), .val (.long ((((p0.toInt64) + (p1.toInt64)) + (p2.toInt64)) + (p3.toInt64))), .second]) rfl ?_
  show Steps p.tables e below (T0.setTop (mkF m 25 #[.val (.int p0), .val (.int p1), .val (.int p2), .val (.int p3), .val (.long ((((p0.toInt64) + (p1.toInt64)) + (p2.toInt64)) + (p3.toInt64))), .second] [])) _
  refine XS.lload X0.here hx rfl (hb hby d4_25) rfl ?_
  show Steps p.tables e below (T0.setTop (mkF m 27 #[.val (.int p0), .val (.int p1), .val (.int p2), .val (.int p3), .val (.long ((((p0.toInt64) + (p1.toInt64)) + (p2.toInt64)) + (p3.toInt64))), .second] [(.long ((((p0.toInt64) + (p1.toInt64)) + (p2.toInt64)) + (p3.toInt64)))])) _
  exact Jvm.Stand.lreturnOut X0 hx hret (hb hby d4_27) hr
theorem ef_4 (m : MethodId) (p0 : Int32) (p1 : Int32) (p2 : Int32) (p3 : Int32) : entryFrame m #[(.int p0), (.int p1), (.int p2), (.int p3)] 6 = mkF m 0 #[.val (.int p0), .val (.int p1), .val (.int p2), .val (.int p3), .unset, .unset] [] := by first | (simp [entryFrame, mkF, argsToLocals, Value.category]; done) | rfl
theorem pn_4 : plainName "com/example/fleetwire/fleetwire/bench/TreeFieldSumPinLaw" = true := by first | (simp [plainName, overriddenIn]; done) | decide +kernel
def Q4 (p0 : Int32) (p1 : Int32) (p2 : Int32) (p3 : Int32) (h0 : Heap) (n0 : Nat) (v : Option Value) (h : Heap) (L : List Loc) : Prop := v = some (.long (own4_f0 p0 p1 p2 p3)) ∧ Fr n0 L ∧ h = h0
set_option maxRecDepth 65536 in
set_option maxHeartbeats 40000000 in
theorem rm4 (l : Launch) (Z : State) (t0 : Array Value) (hw : ∀ d ∈ tables_1, d.before t0 Z = true) (ws : List Jvm.Cond) (p0 : Int32) (p1 : Int32) (p2 : Int32) (p3 : Int32) (h0 : Heap) (n0 : Nat) (Z0 : n0 ≤ h0.size)  :
    MetFree l (⟨"com/example/fleetwire/fleetwire/bench/TreeFieldSumPinLaw", "s", "(IIII)J"⟩ : MethodName) (head1 (Jvm.Cond.code (⟨"com/example/fleetwire/fleetwire/bench/TreeFieldSumPinLaw", "s", "(IIII)J"⟩ : MethodName) method_3_code 6 (some .long) :: ws) ({ frames := 0, cells := 0, slots := 0, locals := 0 } : Room)) (fun a U => a = #[(.int p0), (.int p1), (.int p2), (.int p3)] ∧ Z.Warmed39 U.vm ∧ U.heap = h0) (fun _ _ _ _ _ => True) (fun _ U o U' => ∃ v L, o = .returned v ∧ Q4 p0 p1 p2 p3 h0 n0 v U'.heap L ∧ FrameEnd U o U' L ({ frames := 0, cells := 0, slots := 0, locals := 0 } : Room).cells ({ frames := 0, cells := 0, slots := 0, locals := 0 } : Room).slots) := by
  refine MetFree.of_bodySF (plainFor_of_name pn_4) hisR ?_
  intro p e s m args below meth c s₁ Bd hml0 hP hK
  obtain ⟨rfl, hZ, hh⟩ := hP
  have hx := Bd.exec
  have hby := Bd.bytes
  have hml : c.maxLocals = 6 := hml0
  have hown : s.vm.findClass "com/example/fleetwire/fleetwire/bench/TreeFieldSumPinLaw" = some m.cls := findClass_of_methodNamed Bd.named
  have hnm := (name_of_methodNamed Bd.named Bd.method).1
  have X0 : Stand p l e ({ frames := 0, cells := 0, slots := 0, locals := 0 } : Room) s m #[(.int p0), (.int p1), (.int p2), (.int p3)] below meth c s₁ [] 0 0 := Stand.of_body Bd
  have e0 : s₁.heap = h0 := by rw [← hh, Bd.state]; rfl
  have N0 := Fr.nil n0
  have pre0 : ∀ t, Steps p.tables e below (s₁.setTop (mkF m 0 #[.val (.int p0), .val (.int p1), .val (.int p2), .val (.int p3), .unset, .unset] [])) t → Steps p.tables e below (s₁.setTop (entryFrame m #[(.int p0), (.int p1), (.int p2), (.int p3)] 6)) t := fun t k => castTop (ef_4 m p0 p1 p2 p3) k
  obtain ⟨fs, hr, hrun, hended, hW, hsame⟩ := X0.leave (v := some (.long (own4_f0 p0 p1 p2 p3))) (fun h => by rw [Bd.returns] at h; cases h)
  refine ⟨_, _, pre0 _ ?_, hrun, hended, _, _, rfl, ?_, ⟨_, rfl⟩, hW, hsame.mono (by decide) (by decide)⟩
  · exact own4_b0 p0 p1 p2 p3 X0 hx hZ hw hby hown e0  Bd.returns hr
  · show Q4 p0 p1 p2 p3 h0 n0 _ s₁.heap _
    rw [e0]
    exact ⟨rfl, N0, rfl⟩
def own_tn (P : Addr → Int64 → Prop) (Z : State) (h : Heap) (a : Addr) (v : Int64) : Prop := ∃ (x y z w : Int32) (l r : Value) (vl vr : Int64), Exa Z h a "com/example/fleetwire/fleetwire/bench/Bench$Tree" ∧ Fld Z h a "com/example/fleetwire/fleetwire/bench/Bench$Tree" "a" "I" (.int x) ∧ Fld Z h a "com/example/fleetwire/fleetwire/bench/Bench$Tree" "b" "I" (.int y) ∧ Fld Z h a "com/example/fleetwire/fleetwire/bench/Bench$Tree" "c" "I" (.int z) ∧ Fld Z h a "com/example/fleetwire/fleetwire/bench/Bench$Tree" "d" "I" (.int w) ∧ Fld Z h a "com/example/fleetwire/fleetwire/bench/Bench$Tree" "left" "Lcom/example/fleetwire/fleetwire/bench/Bench$Tree;" l ∧ Fld Z h a "com/example/fleetwire/fleetwire/bench/Bench$Tree" "right" "Lcom/example/fleetwire/fleetwire/bench/Bench$Tree;" r ∧ ((l = .null ∧ vl = 0) ∨ ∃ b, l = .ref b ∧ P b vl) ∧ ((r = .null ∧ vr = 0) ∨ ∃ b, r = .ref b ∧ P b vr) ∧ v = ((own4_f0 x y z w) + vl) + vr
def own_t0 (Z : State) (h : Heap) (a : Addr) (v : Int64) : Prop := False
def own_t1 (Z : State) (h : Heap) (a : Addr) (v : Int64) : Prop := own_tn (own_t0 Z h) Z h a v
def own_t2 (Z : State) (h : Heap) (a : Addr) (v : Int64) : Prop := own_tn (own_t1 Z h) Z h a v
def own_t3 (Z : State) (h : Heap) (a : Addr) (v : Int64) : Prop := own_tn (own_t2 Z h) Z h a v
theorem own_exa {P : Addr → Int64 → Prop} {Z : State} {h : Heap} {a : Addr} {v : Int64} (t : own_tn P Z h a v) : Exa Z h a "com/example/fleetwire/fleetwire/bench/Bench$Tree" := by
  obtain ⟨x, y, z, w, l, r, vl, vr, E, -⟩ := t
  exact E
theorem d5_0 : decode prog_9_method_3_code 0 = .ok (.aload_n 0, 1) := by decide +kernel
theorem d5_1 : decode prog_9_method_3_code 1 = .ok (.getfield 10, 3) := by decide +kernel
theorem d5_4 : decode prog_9_method_3_code 4 = .ok (.i2l, 1) := by decide +kernel
theorem d5_5 : decode prog_9_method_3_code 5 = .ok (.aload_n 0, 1) := by decide +kernel
theorem d5_6 : decode prog_9_method_3_code 6 = .ok (.getfield 14, 3) := by decide +kernel
theorem d5_9 : decode prog_9_method_3_code 9 = .ok (.i2l, 1) := by decide +kernel
theorem d5_10 : decode prog_9_method_3_code 10 = .ok (.ladd, 1) := by decide +kernel
theorem d5_11 : decode prog_9_method_3_code 11 = .ok (.aload_n 0, 1) := by decide +kernel
theorem d5_12 : decode prog_9_method_3_code 12 = .ok (.getfield 17, 3) := by decide +kernel
theorem d5_15 : decode prog_9_method_3_code 15 = .ok (.i2l, 1) := by decide +kernel
theorem d5_16 : decode prog_9_method_3_code 16 = .ok (.ladd, 1) := by decide +kernel
theorem d5_17 : decode prog_9_method_3_code 17 = .ok (.aload_n 0, 1) := by decide +kernel
theorem d5_18 : decode prog_9_method_3_code 18 = .ok (.getfield 20, 3) := by decide +kernel
theorem d5_21 : decode prog_9_method_3_code 21 = .ok (.i2l, 1) := by decide +kernel
theorem d5_22 : decode prog_9_method_3_code 22 = .ok (.ladd, 1) := by decide +kernel
theorem d5_23 : decode prog_9_method_3_code 23 = .ok (.lstore_n 1, 1) := by decide +kernel
theorem d5_24 : decode prog_9_method_3_code 24 = .ok (.aload_n 0, 1) := by decide +kernel
theorem d5_25 : decode prog_9_method_3_code 25 = .ok (.getfield 23, 3) := by decide +kernel
theorem d5_28 : decode prog_9_method_3_code 28 = .ok (.ifnull 13, 3) := by decide +kernel
theorem d5_31 : decode prog_9_method_3_code 31 = .ok (.lload_n 1, 1) := by decide +kernel
theorem d5_32 : decode prog_9_method_3_code 32 = .ok (.aload_n 0, 1) := by decide +kernel
theorem d5_33 : decode prog_9_method_3_code 33 = .ok (.getfield 23, 3) := by decide +kernel
theorem d5_36 : decode prog_9_method_3_code 36 = .ok (.invokevirtual 30, 3) := by decide +kernel
theorem d5_39 : decode prog_9_method_3_code 39 = .ok (.ladd, 1) := by decide +kernel
theorem d5_40 : decode prog_9_method_3_code 40 = .ok (.lstore_n 1, 1) := by decide +kernel
theorem d5_41 : decode prog_9_method_3_code 41 = .ok (.aload_n 0, 1) := by decide +kernel
theorem d5_42 : decode prog_9_method_3_code 42 = .ok (.getfield 27, 3) := by decide +kernel
theorem d5_45 : decode prog_9_method_3_code 45 = .ok (.ifnull 13, 3) := by decide +kernel
theorem d5_48 : decode prog_9_method_3_code 48 = .ok (.lload_n 1, 1) := by decide +kernel
theorem d5_49 : decode prog_9_method_3_code 49 = .ok (.aload_n 0, 1) := by decide +kernel
theorem d5_50 : decode prog_9_method_3_code 50 = .ok (.getfield 27, 3) := by decide +kernel
theorem d5_53 : decode prog_9_method_3_code 53 = .ok (.invokevirtual 30, 3) := by decide +kernel
theorem d5_56 : decode prog_9_method_3_code 56 = .ok (.ladd, 1) := by decide +kernel
theorem d5_57 : decode prog_9_method_3_code 57 = .ok (.lstore_n 1, 1) := by decide +kernel
theorem d5_58 : decode prog_9_method_3_code 58 = .ok (.lload_n 1, 1) := by decide +kernel
theorem d5_59 : decode prog_9_method_3_code 59 = .ok (.lreturn, 1) := by decide +kernel
theorem ef_5 (m : MethodId) (a0 : Addr) : entryFrame m #[(.ref a0)] 3 = mkF m 0 #[.val (.ref a0), .unset, .unset] [] := by first | (simp [entryFrame, mkF, argsToLocals, Value.category]; done) | rfl
theorem pn_5 : plainName "com/example/fleetwire/fleetwire/bench/Bench$Tree" = true := by first | (simp [plainName, overriddenIn]; done) | decide +kernel
def Q5 (vv : Int64) (h0 : Heap) (n0 : Nat) (v : Option Value) (h : Heap) (L : List Loc) : Prop := v = some (.long vv) ∧ Fr n0 L ∧ h = h0
set_option maxRecDepth 65536 in
set_option maxHeartbeats 40000000 in
theorem rm5_1 (l : Launch) (Z : State) (t0 : Array Value) (hw : ∀ d ∈ tables_1, d.before t0 Z = true) (ws : List Jvm.Cond) (a0 : Addr) (vv : Int64) (h0 : Heap) (n0 : Nat) (Z0 : n0 ≤ h0.size) (ht : own_t1 Z h0 a0 vv) :
    MetFree l (⟨"com/example/fleetwire/fleetwire/bench/Bench$Tree", "fieldSum", "()J"⟩ : MethodName) (head1 (Jvm.Cond.code (⟨"com/example/fleetwire/fleetwire/bench/Bench$Tree", "fieldSum", "()J"⟩ : MethodName) prog_9_method_3_code 3 (some .long) :: ws) ({ frames := 0, cells := 0, slots := 0, locals := 0 } : Room)) (fun a U => a = #[(.ref a0)] ∧ Z.Warmed39 U.vm ∧ U.heap = h0) (fun _ _ _ _ _ => True) (fun _ U o U' => ∃ v L, o = .returned v ∧ Q5 vv h0 n0 v U'.heap L ∧ FrameEnd U o U' L ({ frames := 0, cells := 0, slots := 0, locals := 0 } : Room).cells ({ frames := 0, cells := 0, slots := 0, locals := 0 } : Room).slots) := by
  refine MetFree.of_bodySF (plainFor_of_name pn_5) hisR ?_
  intro p e s m args below meth c s₁ Bd hml0 hP hK
  obtain ⟨rfl, hZ, hh⟩ := hP
  have hx := Bd.exec
  have hby := Bd.bytes
  have hml : c.maxLocals = 3 := hml0
  have hown : s.vm.findClass "com/example/fleetwire/fleetwire/bench/Bench$Tree" = some m.cls := findClass_of_methodNamed Bd.named
  have hnm := (name_of_methodNamed Bd.named Bd.method).1
  have X0 : Stand p l e ({ frames := 0, cells := 0, slots := 0, locals := 0 } : Room) s m #[(.ref a0)] below meth c s₁ [] 0 0 := Stand.of_body Bd
  have e0 : s₁.heap = h0 := by rw [← hh, Bd.state]; rfl
  have N0 := Fr.nil n0
  have pre0 : ∀ t, Steps p.tables e below (s₁.setTop (mkF m 0 #[.val (.ref a0), .unset, .unset] [])) t → Steps p.tables e below (s₁.setTop (entryFrame m #[(.ref a0)] 3)) t := fun t k => castTop (ef_5 m a0) k
  refine own_go pre0 ?_
  obtain ⟨x, y, z, w, l, r, vl, vr, E, Fa, Fb, Fc, Fd, Fl, Fr', hl, hr', hv⟩ := ht
  refine own_go (B := s₁.setTop (mkF m 1 #[.val (.ref a0), .unset, .unset] [(.ref a0)])) (fun t kt => ?_) ?_
  · show Steps p.tables e below (s₁.setTop (mkF m 0 #[.val (.ref a0), .unset, .unset] [])) _
    refine XS.aloadN X0.here hx rfl (hb hby d5_0) rfl rfl ?_
    exact kt
  obtain ⟨T1, X1, e1, st1⟩ := getF X0 hx hZ hown (host := "") (Or.inl (hw _ (List.mem_of_getElem? (i := 31) rfl))) Via.refl e0 Fa (g := (mkF m 1 #[.val (.ref a0), .unset, .unset] [(.ref a0)])) rfl rfl (hb hby d5_1)
  refine own_go (B := T1.setTop (mkF m 4 #[.val (.ref a0), .unset, .unset] [(.int x)])) (fun t kt => st1 t kt) ?_
  refine own_go (B := T1.setTop (mkF m 6 #[.val (.ref a0), .unset, .unset] [(.ref a0), (.long (x.toInt64))])) (fun t kt => ?_) ?_
  · show Steps p.tables e below (T1.setTop (mkF m 4 #[.val (.ref a0), .unset, .unset] [(.int x)])) _
    refine XS.i2l X1.here hx rfl (hb hby d5_4) rfl ?_
    show Steps p.tables e below (T1.setTop (mkF m 5 #[.val (.ref a0), .unset, .unset] [(.long (x.toInt64))])) _
    refine XS.aloadN X1.here hx rfl (hb hby d5_5) rfl rfl ?_
    exact kt
  obtain ⟨T2, X2, e2, st2⟩ := getF X1 hx hZ hown (host := "") (Or.inl (hw _ (List.mem_of_getElem? (i := 32) rfl))) Via.refl e1 Fb (g := (mkF m 6 #[.val (.ref a0), .unset, .unset] [(.ref a0), (.long (x.toInt64))])) rfl rfl (hb hby d5_6)
  refine own_go (B := T2.setTop (mkF m 9 #[.val (.ref a0), .unset, .unset] [(.int y), (.long (x.toInt64))])) (fun t kt => st2 t kt) ?_
  refine own_go (B := T2.setTop (mkF m 12 #[.val (.ref a0), .unset, .unset] [(.ref a0), (.long ((x.toInt64) + (y.toInt64)))])) (fun t kt => ?_) ?_
  · show Steps p.tables e below (T2.setTop (mkF m 9 #[.val (.ref a0), .unset, .unset] [(.int y), (.long (x.toInt64))])) _
    refine XS.i2l X2.here hx rfl (hb hby d5_9) rfl ?_
    show Steps p.tables e below (T2.setTop (mkF m 10 #[.val (.ref a0), .unset, .unset] [(.long (y.toInt64)), (.long (x.toInt64))])) _
    refine XS.ladd X2.here hx rfl (hb hby d5_10) rfl ?_
    show Steps p.tables e below (T2.setTop (mkF m 11 #[.val (.ref a0), .unset, .unset] [(.long ((x.toInt64) + (y.toInt64)))])) _
    refine XS.aloadN X2.here hx rfl (hb hby d5_11) rfl rfl ?_
    exact kt
  obtain ⟨T3, X3, e3, st3⟩ := getF X2 hx hZ hown (host := "") (Or.inl (hw _ (List.mem_of_getElem? (i := 33) rfl))) Via.refl e2 Fc (g := (mkF m 12 #[.val (.ref a0), .unset, .unset] [(.ref a0), (.long ((x.toInt64) + (y.toInt64)))])) rfl rfl (hb hby d5_12)
  refine own_go (B := T3.setTop (mkF m 15 #[.val (.ref a0), .unset, .unset] [(.int z), (.long ((x.toInt64) + (y.toInt64)))])) (fun t kt => st3 t kt) ?_
  refine own_go (B := T3.setTop (mkF m 18 #[.val (.ref a0), .unset, .unset] [(.ref a0), (.long (((x.toInt64) + (y.toInt64)) + (z.toInt64)))])) (fun t kt => ?_) ?_
  · show Steps p.tables e below (T3.setTop (mkF m 15 #[.val (.ref a0), .unset, .unset] [(.int z), (.long ((x.toInt64) + (y.toInt64)))])) _
    refine XS.i2l X3.here hx rfl (hb hby d5_15) rfl ?_
    show Steps p.tables e below (T3.setTop (mkF m 16 #[.val (.ref a0), .unset, .unset] [(.long (z.toInt64)), (.long ((x.toInt64) + (y.toInt64)))])) _
    refine XS.ladd X3.here hx rfl (hb hby d5_16) rfl ?_
    show Steps p.tables e below (T3.setTop (mkF m 17 #[.val (.ref a0), .unset, .unset] [(.long (((x.toInt64) + (y.toInt64)) + (z.toInt64)))])) _
    refine XS.aloadN X3.here hx rfl (hb hby d5_17) rfl rfl ?_
    exact kt
  obtain ⟨T4, X4, e4, st4⟩ := getF X3 hx hZ hown (host := "") (Or.inl (hw _ (List.mem_of_getElem? (i := 34) rfl))) Via.refl e3 Fd (g := (mkF m 18 #[.val (.ref a0), .unset, .unset] [(.ref a0), (.long (((x.toInt64) + (y.toInt64)) + (z.toInt64)))])) rfl rfl (hb hby d5_18)
  refine own_go (B := T4.setTop (mkF m 21 #[.val (.ref a0), .unset, .unset] [(.int w), (.long (((x.toInt64) + (y.toInt64)) + (z.toInt64)))])) (fun t kt => st4 t kt) ?_
  refine own_go (B := T4.setTop (mkF m 24 #[.val (.ref a0), .val (.long ((((x.toInt64) + (y.toInt64)) + (z.toInt64)) + (w.toInt64))), .second] [])) (fun t kt => ?_) ?_
  · show Steps p.tables e below (T4.setTop (mkF m 21 #[.val (.ref a0), .unset, .unset] [(.int w), (.long (((x.toInt64) + (y.toInt64)) + (z.toInt64)))])) _
    refine XS.i2l X4.here hx rfl (hb hby d5_21) rfl ?_
    show Steps p.tables e below (T4.setTop (mkF m 22 #[.val (.ref a0), .unset, .unset] [(.long (w.toInt64)), (.long (((x.toInt64) + (y.toInt64)) + (z.toInt64)))])) _
    refine XS.ladd X4.here hx rfl (hb hby d5_22) rfl ?_
    show Steps p.tables e below (T4.setTop (mkF m 23 #[.val (.ref a0), .unset, .unset] [(.long ((((x.toInt64) + (y.toInt64)) + (z.toInt64)) + (w.toInt64)))])) _
    refine XS.lstoreN X4.here hx rfl (hb hby d5_23) rfl (l' := #[.val (.ref a0), .val (.long ((((x.toInt64) + (y.toInt64)) + (z.toInt64)) + (w.toInt64))), .second]) rfl ?_
    exact kt
  rcases hl with ⟨rfl, rfl⟩ | ⟨bl, rfl, hbl⟩
  · refine own_go (B := T4.setTop (mkF m 25 #[.val (.ref a0), .val (.long ((((x.toInt64) + (y.toInt64)) + (z.toInt64)) + (w.toInt64))), .second] [(.ref a0)])) (fun t kt => ?_) ?_
    · show Steps p.tables e below (T4.setTop (mkF m 24 #[.val (.ref a0), .val (.long ((((x.toInt64) + (y.toInt64)) + (z.toInt64)) + (w.toInt64))), .second] [])) _
      refine XS.aloadN X4.here hx rfl (hb hby d5_24) rfl rfl ?_
      exact kt
    obtain ⟨T5, X5, e5, st5⟩ := getF X4 hx hZ hown (host := "") (Or.inl (hw _ (List.mem_of_getElem? (i := 35) rfl))) Via.refl e4 Fl (g := (mkF m 25 #[.val (.ref a0), .val (.long ((((x.toInt64) + (y.toInt64)) + (z.toInt64)) + (w.toInt64))), .second] [(.ref a0)])) rfl rfl (hb hby d5_25)
    refine own_go (B := T5.setTop (mkF m 28 #[.val (.ref a0), .val (.long ((((x.toInt64) + (y.toInt64)) + (z.toInt64)) + (w.toInt64))), .second] [.null])) (fun t kt => st5 t kt) ?_
    refine own_go (B := T5.setTop (mkF m 41 #[.val (.ref a0), .val (.long ((((x.toInt64) + (y.toInt64)) + (z.toInt64)) + (w.toInt64))), .second] [])) (fun t kt => ?_) ?_
    · show Steps p.tables e below (T5.setTop (mkF m 28 #[.val (.ref a0), .val (.long ((((x.toInt64) + (y.toInt64)) + (z.toInt64)) + (w.toInt64))), .second] [.null])) _
      refine XS.ifnullYes X5.here hx rfl (pc0 := 28) (pc' := 41) rfl (hb hby d5_28) rfl (by decide) (by decide) ?_
      exact kt
    rcases hr' with ⟨rfl, rfl⟩ | ⟨br, rfl, hbr⟩
    · refine own_go (B := T5.setTop (mkF m 42 #[.val (.ref a0), .val (.long ((((x.toInt64) + (y.toInt64)) + (z.toInt64)) + (w.toInt64))), .second] [(.ref a0)])) (fun t kt => ?_) ?_
      · show Steps p.tables e below (T5.setTop (mkF m 41 #[.val (.ref a0), .val (.long ((((x.toInt64) + (y.toInt64)) + (z.toInt64)) + (w.toInt64))), .second] [])) _
        refine XS.aloadN X5.here hx rfl (hb hby d5_41) rfl rfl ?_
        exact kt
      obtain ⟨T6, X6, e6, st6⟩ := getF X5 hx hZ hown (host := "") (Or.inl (hw _ (List.mem_of_getElem? (i := 37) rfl))) Via.refl e5 Fr' (g := (mkF m 42 #[.val (.ref a0), .val (.long ((((x.toInt64) + (y.toInt64)) + (z.toInt64)) + (w.toInt64))), .second] [(.ref a0)])) rfl rfl (hb hby d5_42)
      refine own_go (B := T6.setTop (mkF m 45 #[.val (.ref a0), .val (.long ((((x.toInt64) + (y.toInt64)) + (z.toInt64)) + (w.toInt64))), .second] [.null])) (fun t kt => st6 t kt) ?_
      refine own_go (B := T6.setTop (mkF m 58 #[.val (.ref a0), .val (.long ((((x.toInt64) + (y.toInt64)) + (z.toInt64)) + (w.toInt64))), .second] [])) (fun t kt => ?_) ?_
      · show Steps p.tables e below (T6.setTop (mkF m 45 #[.val (.ref a0), .val (.long ((((x.toInt64) + (y.toInt64)) + (z.toInt64)) + (w.toInt64))), .second] [.null])) _
        refine XS.ifnullYes X6.here hx rfl (pc0 := 45) (pc' := 58) rfl (hb hby d5_45) rfl (by decide) (by decide) ?_
        exact kt
      refine own_go (B := T6.setTop (mkF m 59 #[.val (.ref a0), .val (.long ((((x.toInt64) + (y.toInt64)) + (z.toInt64)) + (w.toInt64))), .second] [(.long ((((x.toInt64) + (y.toInt64)) + (z.toInt64)) + (w.toInt64)))])) (fun t kt => ?_) ?_
      · show Steps p.tables e below (T6.setTop (mkF m 58 #[.val (.ref a0), .val (.long ((((x.toInt64) + (y.toInt64)) + (z.toInt64)) + (w.toInt64))), .second] [])) _
        refine XS.lloadN X6.here hx rfl (hb hby d5_58) rfl ?_
        exact kt
      obtain ⟨fs, hr, hrun, hended, hW, hsame⟩ := X6.leave (v := some (.long ((((x.toInt64) + (y.toInt64)) + (z.toInt64)) + (w.toInt64)))) (fun h => by rw [Bd.returns] at h; cases h)
      refine ⟨_, _, ?_, hrun, hended, _, _, rfl, ?_, ⟨_, rfl⟩, hW, hsame.mono (by decide) (by decide)⟩
      · show Steps p.tables e below (T6.setTop (mkF m 59 #[.val (.ref a0), .val (.long ((((x.toInt64) + (y.toInt64)) + (z.toInt64)) + (w.toInt64))), .second] [(.long ((((x.toInt64) + (y.toInt64)) + (z.toInt64)) + (w.toInt64)))])) _
        exact Jvm.Stand.lreturnOut X6 hx Bd.returns (hb hby d5_59) hr
      · show Q5 vv h0 n0 _ T6.heap _
        rw [e6]
        exact ⟨congrArg (fun q => some (Value.long q)) (by simp only [hv, own4_e0, Int64.add_zero]), N0, rfl⟩
    · exact absurd hbr id
  · exact absurd hbl id
theorem pd_5_0 : parseMethodDescriptor "()J" = some ⟨[], some .long⟩ := by decide +kernel
set_option maxRecDepth 65536 in
set_option maxHeartbeats 40000000 in
theorem rm5_2 (l : Launch) (Z : State) (t0 : Array Value) (hw : ∀ d ∈ tables_1, d.before t0 Z = true) (ws : List Jvm.Cond) (a0 : Addr) (vv : Int64) (h0 : Heap) (n0 : Nat) (Z0 : n0 ≤ h0.size) (ht : own_t2 Z h0 a0 vv) :
    MetFree l (⟨"com/example/fleetwire/fleetwire/bench/Bench$Tree", "fieldSum", "()J"⟩ : MethodName) (head1 (Jvm.Cond.code (⟨"com/example/fleetwire/fleetwire/bench/Bench$Tree", "fieldSum", "()J"⟩ : MethodName) prog_9_method_3_code 3 (some .long) :: ws) ({ frames := 1, cells := 0, slots := 0, locals := 16 } : Room)) (fun a U => a = #[(.ref a0)] ∧ Z.Warmed39 U.vm ∧ U.heap = h0) (fun _ _ _ _ _ => True) (fun _ U o U' => ∃ v L, o = .returned v ∧ Q5 vv h0 n0 v U'.heap L ∧ FrameEnd U o U' L ({ frames := 1, cells := 0, slots := 0, locals := 16 } : Room).cells ({ frames := 1, cells := 0, slots := 0, locals := 16 } : Room).slots) := by
  refine MetFree.of_bodySF (plainFor_of_name pn_5) hisR ?_
  intro p e s m args below meth c s₁ Bd hml0 hP hK
  obtain ⟨rfl, hZ, hh⟩ := hP
  have hx := Bd.exec
  have hby := Bd.bytes
  have hml : c.maxLocals = 3 := hml0
  have hown : s.vm.findClass "com/example/fleetwire/fleetwire/bench/Bench$Tree" = some m.cls := findClass_of_methodNamed Bd.named
  have hnm := (name_of_methodNamed Bd.named Bd.method).1
  have X0 : Stand p l e ({ frames := 1, cells := 0, slots := 0, locals := 16 } : Room) s m #[(.ref a0)] below meth c s₁ [] 0 0 := Stand.of_body Bd
  have e0 : s₁.heap = h0 := by rw [← hh, Bd.state]; rfl
  have N0 := Fr.nil n0
  have pre0 : ∀ t, Steps p.tables e below (s₁.setTop (mkF m 0 #[.val (.ref a0), .unset, .unset] [])) t → Steps p.tables e below (s₁.setTop (entryFrame m #[(.ref a0)] 3)) t := fun t k => castTop (ef_5 m a0) k
  refine own_go pre0 ?_
  obtain ⟨x, y, z, w, l, r, vl, vr, E, Fa, Fb, Fc, Fd, Fl, Fr', hl, hr', hv⟩ := ht
  refine own_go (B := s₁.setTop (mkF m 1 #[.val (.ref a0), .unset, .unset] [(.ref a0)])) (fun t kt => ?_) ?_
  · show Steps p.tables e below (s₁.setTop (mkF m 0 #[.val (.ref a0), .unset, .unset] [])) _
    refine XS.aloadN X0.here hx rfl (hb hby d5_0) rfl rfl ?_
    exact kt
  obtain ⟨T1, X1, e1, st1⟩ := getF X0 hx hZ hown (host := "") (Or.inl (hw _ (List.mem_of_getElem? (i := 31) rfl))) Via.refl e0 Fa (g := (mkF m 1 #[.val (.ref a0), .unset, .unset] [(.ref a0)])) rfl rfl (hb hby d5_1)
  refine own_go (B := T1.setTop (mkF m 4 #[.val (.ref a0), .unset, .unset] [(.int x)])) (fun t kt => st1 t kt) ?_
  refine own_go (B := T1.setTop (mkF m 6 #[.val (.ref a0), .unset, .unset] [(.ref a0), (.long (x.toInt64))])) (fun t kt => ?_) ?_
  · show Steps p.tables e below (T1.setTop (mkF m 4 #[.val (.ref a0), .unset, .unset] [(.int x)])) _
    refine XS.i2l X1.here hx rfl (hb hby d5_4) rfl ?_
    show Steps p.tables e below (T1.setTop (mkF m 5 #[.val (.ref a0), .unset, .unset] [(.long (x.toInt64))])) _
    refine XS.aloadN X1.here hx rfl (hb hby d5_5) rfl rfl ?_
    exact kt
  obtain ⟨T2, X2, e2, st2⟩ := getF X1 hx hZ hown (host := "") (Or.inl (hw _ (List.mem_of_getElem? (i := 32) rfl))) Via.refl e1 Fb (g := (mkF m 6 #[.val (.ref a0), .unset, .unset] [(.ref a0), (.long (x.toInt64))])) rfl rfl (hb hby d5_6)
  refine own_go (B := T2.setTop (mkF m 9 #[.val (.ref a0), .unset, .unset] [(.int y), (.long (x.toInt64))])) (fun t kt => st2 t kt) ?_
  refine own_go (B := T2.setTop (mkF m 12 #[.val (.ref a0), .unset, .unset] [(.ref a0), (.long ((x.toInt64) + (y.toInt64)))])) (fun t kt => ?_) ?_
  · show Steps p.tables e below (T2.setTop (mkF m 9 #[.val (.ref a0), .unset, .unset] [(.int y), (.long (x.toInt64))])) _
    refine XS.i2l X2.here hx rfl (hb hby d5_9) rfl ?_
    show Steps p.tables e below (T2.setTop (mkF m 10 #[.val (.ref a0), .unset, .unset] [(.long (y.toInt64)), (.long (x.toInt64))])) _
    refine XS.ladd X2.here hx rfl (hb hby d5_10) rfl ?_
    show Steps p.tables e below (T2.setTop (mkF m 11 #[.val (.ref a0), .unset, .unset] [(.long ((x.toInt64) + (y.toInt64)))])) _
    refine XS.aloadN X2.here hx rfl (hb hby d5_11) rfl rfl ?_
    exact kt
  obtain ⟨T3, X3, e3, st3⟩ := getF X2 hx hZ hown (host := "") (Or.inl (hw _ (List.mem_of_getElem? (i := 33) rfl))) Via.refl e2 Fc (g := (mkF m 12 #[.val (.ref a0), .unset, .unset] [(.ref a0), (.long ((x.toInt64) + (y.toInt64)))])) rfl rfl (hb hby d5_12)
  refine own_go (B := T3.setTop (mkF m 15 #[.val (.ref a0), .unset, .unset] [(.int z), (.long ((x.toInt64) + (y.toInt64)))])) (fun t kt => st3 t kt) ?_
  refine own_go (B := T3.setTop (mkF m 18 #[.val (.ref a0), .unset, .unset] [(.ref a0), (.long (((x.toInt64) + (y.toInt64)) + (z.toInt64)))])) (fun t kt => ?_) ?_
  · show Steps p.tables e below (T3.setTop (mkF m 15 #[.val (.ref a0), .unset, .unset] [(.int z), (.long ((x.toInt64) + (y.toInt64)))])) _
    refine XS.i2l X3.here hx rfl (hb hby d5_15) rfl ?_
    show Steps p.tables e below (T3.setTop (mkF m 16 #[.val (.ref a0), .unset, .unset] [(.long (z.toInt64)), (.long ((x.toInt64) + (y.toInt64)))])) _
    refine XS.ladd X3.here hx rfl (hb hby d5_16) rfl ?_
    show Steps p.tables e below (T3.setTop (mkF m 17 #[.val (.ref a0), .unset, .unset] [(.long (((x.toInt64) + (y.toInt64)) + (z.toInt64)))])) _
    refine XS.aloadN X3.here hx rfl (hb hby d5_17) rfl rfl ?_
    exact kt
  obtain ⟨T4, X4, e4, st4⟩ := getF X3 hx hZ hown (host := "") (Or.inl (hw _ (List.mem_of_getElem? (i := 34) rfl))) Via.refl e3 Fd (g := (mkF m 18 #[.val (.ref a0), .unset, .unset] [(.ref a0), (.long (((x.toInt64) + (y.toInt64)) + (z.toInt64)))])) rfl rfl (hb hby d5_18)
  refine own_go (B := T4.setTop (mkF m 21 #[.val (.ref a0), .unset, .unset] [(.int w), (.long (((x.toInt64) + (y.toInt64)) + (z.toInt64)))])) (fun t kt => st4 t kt) ?_
  refine own_go (B := T4.setTop (mkF m 24 #[.val (.ref a0), .val (.long ((((x.toInt64) + (y.toInt64)) + (z.toInt64)) + (w.toInt64))), .second] [])) (fun t kt => ?_) ?_
  · show Steps p.tables e below (T4.setTop (mkF m 21 #[.val (.ref a0), .unset, .unset] [(.int w), (.long (((x.toInt64) + (y.toInt64)) + (z.toInt64)))])) _
    refine XS.i2l X4.here hx rfl (hb hby d5_21) rfl ?_
    show Steps p.tables e below (T4.setTop (mkF m 22 #[.val (.ref a0), .unset, .unset] [(.long (w.toInt64)), (.long (((x.toInt64) + (y.toInt64)) + (z.toInt64)))])) _
    refine XS.ladd X4.here hx rfl (hb hby d5_22) rfl ?_
    show Steps p.tables e below (T4.setTop (mkF m 23 #[.val (.ref a0), .unset, .unset] [(.long ((((x.toInt64) + (y.toInt64)) + (z.toInt64)) + (w.toInt64)))])) _
    refine XS.lstoreN X4.here hx rfl (hb hby d5_23) rfl (l' := #[.val (.ref a0), .val (.long ((((x.toInt64) + (y.toInt64)) + (z.toInt64)) + (w.toInt64))), .second]) rfl ?_
    exact kt
  rcases hl with ⟨rfl, rfl⟩ | ⟨bl, rfl, hbl⟩
  · refine own_go (B := T4.setTop (mkF m 25 #[.val (.ref a0), .val (.long ((((x.toInt64) + (y.toInt64)) + (z.toInt64)) + (w.toInt64))), .second] [(.ref a0)])) (fun t kt => ?_) ?_
    · show Steps p.tables e below (T4.setTop (mkF m 24 #[.val (.ref a0), .val (.long ((((x.toInt64) + (y.toInt64)) + (z.toInt64)) + (w.toInt64))), .second] [])) _
      refine XS.aloadN X4.here hx rfl (hb hby d5_24) rfl rfl ?_
      exact kt
    obtain ⟨T5, X5, e5, st5⟩ := getF X4 hx hZ hown (host := "") (Or.inl (hw _ (List.mem_of_getElem? (i := 35) rfl))) Via.refl e4 Fl (g := (mkF m 25 #[.val (.ref a0), .val (.long ((((x.toInt64) + (y.toInt64)) + (z.toInt64)) + (w.toInt64))), .second] [(.ref a0)])) rfl rfl (hb hby d5_25)
    refine own_go (B := T5.setTop (mkF m 28 #[.val (.ref a0), .val (.long ((((x.toInt64) + (y.toInt64)) + (z.toInt64)) + (w.toInt64))), .second] [.null])) (fun t kt => st5 t kt) ?_
    refine own_go (B := T5.setTop (mkF m 41 #[.val (.ref a0), .val (.long ((((x.toInt64) + (y.toInt64)) + (z.toInt64)) + (w.toInt64))), .second] [])) (fun t kt => ?_) ?_
    · show Steps p.tables e below (T5.setTop (mkF m 28 #[.val (.ref a0), .val (.long ((((x.toInt64) + (y.toInt64)) + (z.toInt64)) + (w.toInt64))), .second] [.null])) _
      refine XS.ifnullYes X5.here hx rfl (pc0 := 28) (pc' := 41) rfl (hb hby d5_28) rfl (by decide) (by decide) ?_
      exact kt
    rcases hr' with ⟨rfl, rfl⟩ | ⟨br, rfl, hbr⟩
    · refine own_go (B := T5.setTop (mkF m 42 #[.val (.ref a0), .val (.long ((((x.toInt64) + (y.toInt64)) + (z.toInt64)) + (w.toInt64))), .second] [(.ref a0)])) (fun t kt => ?_) ?_
      · show Steps p.tables e below (T5.setTop (mkF m 41 #[.val (.ref a0), .val (.long ((((x.toInt64) + (y.toInt64)) + (z.toInt64)) + (w.toInt64))), .second] [])) _
        refine XS.aloadN X5.here hx rfl (hb hby d5_41) rfl rfl ?_
        exact kt
      obtain ⟨T9, X9, e9, st9⟩ := getF X5 hx hZ hown (host := "") (Or.inl (hw _ (List.mem_of_getElem? (i := 37) rfl))) Via.refl e5 Fr' (g := (mkF m 42 #[.val (.ref a0), .val (.long ((((x.toInt64) + (y.toInt64)) + (z.toInt64)) + (w.toInt64))), .second] [(.ref a0)])) rfl rfl (hb hby d5_42)
      refine own_go (B := T9.setTop (mkF m 45 #[.val (.ref a0), .val (.long ((((x.toInt64) + (y.toInt64)) + (z.toInt64)) + (w.toInt64))), .second] [.null])) (fun t kt => st9 t kt) ?_
      refine own_go (B := T9.setTop (mkF m 58 #[.val (.ref a0), .val (.long ((((x.toInt64) + (y.toInt64)) + (z.toInt64)) + (w.toInt64))), .second] [])) (fun t kt => ?_) ?_
      · show Steps p.tables e below (T9.setTop (mkF m 45 #[.val (.ref a0), .val (.long ((((x.toInt64) + (y.toInt64)) + (z.toInt64)) + (w.toInt64))), .second] [.null])) _
        refine XS.ifnullYes X9.here hx rfl (pc0 := 45) (pc' := 58) rfl (hb hby d5_45) rfl (by decide) (by decide) ?_
        exact kt
      refine own_go (B := T9.setTop (mkF m 59 #[.val (.ref a0), .val (.long ((((x.toInt64) + (y.toInt64)) + (z.toInt64)) + (w.toInt64))), .second] [(.long ((((x.toInt64) + (y.toInt64)) + (z.toInt64)) + (w.toInt64)))])) (fun t kt => ?_) ?_
      · show Steps p.tables e below (T9.setTop (mkF m 58 #[.val (.ref a0), .val (.long ((((x.toInt64) + (y.toInt64)) + (z.toInt64)) + (w.toInt64))), .second] [])) _
        refine XS.lloadN X9.here hx rfl (hb hby d5_58) rfl ?_
        exact kt
      obtain ⟨fs, hr, hrun, hended, hW, hsame⟩ := X9.leave (v := some (.long ((((x.toInt64) + (y.toInt64)) + (z.toInt64)) + (w.toInt64)))) (fun h => by rw [Bd.returns] at h; cases h)
      refine ⟨_, _, ?_, hrun, hended, _, _, rfl, ?_, ⟨_, rfl⟩, hW, hsame.mono (by decide) (by decide)⟩
      · show Steps p.tables e below (T9.setTop (mkF m 59 #[.val (.ref a0), .val (.long ((((x.toInt64) + (y.toInt64)) + (z.toInt64)) + (w.toInt64))), .second] [(.long ((((x.toInt64) + (y.toInt64)) + (z.toInt64)) + (w.toInt64)))])) _
        exact Jvm.Stand.lreturnOut X9 hx Bd.returns (hb hby d5_59) hr
      · show Q5 vv h0 n0 _ T9.heap _
        rw [e9]
        exact ⟨congrArg (fun q => some (Value.long q)) (by simp only [hv, own4_e0, Int64.add_zero]), N0, rfl⟩
    · refine own_go (B := T5.setTop (mkF m 42 #[.val (.ref a0), .val (.long ((((x.toInt64) + (y.toInt64)) + (z.toInt64)) + (w.toInt64))), .second] [(.ref a0)])) (fun t kt => ?_) ?_
      · show Steps p.tables e below (T5.setTop (mkF m 41 #[.val (.ref a0), .val (.long ((((x.toInt64) + (y.toInt64)) + (z.toInt64)) + (w.toInt64))), .second] [])) _
        refine XS.aloadN X5.here hx rfl (hb hby d5_41) rfl rfl ?_
        exact kt
      obtain ⟨T10, X10, e10, st10⟩ := getF X5 hx hZ hown (host := "") (Or.inl (hw _ (List.mem_of_getElem? (i := 37) rfl))) Via.refl e5 Fr' (g := (mkF m 42 #[.val (.ref a0), .val (.long ((((x.toInt64) + (y.toInt64)) + (z.toInt64)) + (w.toInt64))), .second] [(.ref a0)])) rfl rfl (hb hby d5_42)
      refine own_go (B := T10.setTop (mkF m 45 #[.val (.ref a0), .val (.long ((((x.toInt64) + (y.toInt64)) + (z.toInt64)) + (w.toInt64))), .second] [(.ref br)])) (fun t kt => st10 t kt) ?_
      refine own_go (B := T10.setTop (mkF m 50 #[.val (.ref a0), .val (.long ((((x.toInt64) + (y.toInt64)) + (z.toInt64)) + (w.toInt64))), .second] [(.ref a0), (.long ((((x.toInt64) + (y.toInt64)) + (z.toInt64)) + (w.toInt64)))])) (fun t kt => ?_) ?_
      · show Steps p.tables e below (T10.setTop (mkF m 45 #[.val (.ref a0), .val (.long ((((x.toInt64) + (y.toInt64)) + (z.toInt64)) + (w.toInt64))), .second] [(.ref br)])) _
        refine XS.ifnullNo X10.here hx rfl (hb hby d5_45) rfl ?_
        show Steps p.tables e below (T10.setTop (mkF m 48 #[.val (.ref a0), .val (.long ((((x.toInt64) + (y.toInt64)) + (z.toInt64)) + (w.toInt64))), .second] [])) _
        refine XS.lloadN X10.here hx rfl (hb hby d5_48) rfl ?_
        show Steps p.tables e below (T10.setTop (mkF m 49 #[.val (.ref a0), .val (.long ((((x.toInt64) + (y.toInt64)) + (z.toInt64)) + (w.toInt64))), .second] [(.long ((((x.toInt64) + (y.toInt64)) + (z.toInt64)) + (w.toInt64)))])) _
        refine XS.aloadN X10.here hx rfl (hb hby d5_49) rfl rfl ?_
        exact kt
      obtain ⟨T11, X11, e11, st11⟩ := getF X10 hx hZ hown (host := "") (Or.inl (hw _ (List.mem_of_getElem? (i := 37) rfl))) Via.refl e10 Fr' (g := (mkF m 50 #[.val (.ref a0), .val (.long ((((x.toInt64) + (y.toInt64)) + (z.toInt64)) + (w.toInt64))), .second] [(.ref a0), (.long ((((x.toInt64) + (y.toInt64)) + (z.toInt64)) + (w.toInt64)))])) rfl rfl (hb hby d5_50)
      refine own_go (B := T11.setTop (mkF m 53 #[.val (.ref a0), .val (.long ((((x.toInt64) + (y.toInt64)) + (z.toInt64)) + (w.toInt64))), .second] [(.ref br), (.long ((((x.toInt64) + (y.toInt64)) + (z.toInt64)) + (w.toInt64)))])) (fun t kt => st11 t kt) ?_
      obtain ⟨cq12, kq12, qa12, qb12, qc12⟩ := isOf hZ e11 (own_exa hbr)
      obtain ⟨_, _, ⟨T12, L12, k12, n12⟩, -, X12, ⟨Lc12, hQ12, l12, y12, z12⟩, st12⟩ := X11.virtualBack hx (y := (⟨"com/example/fleetwire/fleetwire/bench/Bench$Tree", "fieldSum", "()J"⟩ : MethodName)) (z := (⟨"com/example/fleetwire/fleetwire/bench/Bench$Tree", "fieldSum", "()J"⟩ : MethodName)) hown (mvT hZ (hw _ (List.mem_of_getElem? (i := 38) rfl))) (mvT hZ (hw _ (List.mem_of_getElem? (i := 27) rfl))) (notFace_of_selects (args := #[]) (mvT hZ (hw _ (List.mem_of_getElem? (i := 29) rfl)))) (mvT hZ (hw _ (List.mem_of_getElem? (i := 29) rfl))) (mvT hZ (hw _ (List.mem_of_getElem? (i := 28) rfl))) (by decide) (backOf (W := 2) (rm5_1 l Z t0 hw [] br vr h0 n0 Z0 hbr) hZ (hw _ (List.mem_of_getElem? (i := 30) rfl)) (hw _ (List.mem_of_getElem? (i := 6) rfl)) (by decide) (by decide)) qa12 qc12 (g := (mkF m 53 #[.val (.ref a0), .val (.long ((((x.toInt64) + (y.toInt64)) + (z.toInt64)) + (w.toInt64))), .second] [(.ref br), (.long ((((x.toInt64) + (y.toInt64)) + (z.toInt64)) + (w.toInt64)))])) rfl (by rw [hml]; rfl) (Steps.refl _) (argsL := []) (rest := [(.long ((((x.toInt64) + (y.toInt64)) + (z.toInt64)) + (w.toInt64)))]) (lenOf pd_5_0 rfl) rfl (by show 2 * 0 + _ ≤ _; exact Nat.le_of_eq rfl) (hb hby d5_53) (fun _ _ => ⟨rfl, e11, (by decide : 0 + 0 ≤ _), (by decide : 0 + 0 ≤ _)⟩)
      dsimp only [Pt.U, Pt.locs, Pt.cells, Pt.slots] at X12 l12 y12 z12 st12 hQ12
      subst l12 y12 z12
      obtain ⟨rfl, Nq12, hh12⟩ := hQ12
      have N12 := Fr.app N0 Nq12
      have e12 : T12.heap = h0 := hh12
      refine own_go (B := T12.setTop (mkF m 56 #[.val (.ref a0), .val (.long ((((x.toInt64) + (y.toInt64)) + (z.toInt64)) + (w.toInt64))), .second] [(.long vr), (.long ((((x.toInt64) + (y.toInt64)) + (z.toInt64)) + (w.toInt64)))])) (fun t kt => st12.trans kt) ?_
      refine own_go (B := T12.setTop (mkF m 58 #[.val (.ref a0), .val (.long (((((x.toInt64) + (y.toInt64)) + (z.toInt64)) + (w.toInt64)) + vr)), .second] [])) (fun t kt => ?_) ?_
      · show Steps p.tables e below (T12.setTop (mkF m 56 #[.val (.ref a0), .val (.long ((((x.toInt64) + (y.toInt64)) + (z.toInt64)) + (w.toInt64))), .second] [(.long vr), (.long ((((x.toInt64) + (y.toInt64)) + (z.toInt64)) + (w.toInt64)))])) _
        refine XS.ladd X12.here hx rfl (hb hby d5_56) rfl ?_
        show Steps p.tables e below (T12.setTop (mkF m 57 #[.val (.ref a0), .val (.long ((((x.toInt64) + (y.toInt64)) + (z.toInt64)) + (w.toInt64))), .second] [(.long (((((x.toInt64) + (y.toInt64)) + (z.toInt64)) + (w.toInt64)) + vr))])) _
        refine XS.lstoreN X12.here hx rfl (hb hby d5_57) rfl (l' := #[.val (.ref a0), .val (.long (((((x.toInt64) + (y.toInt64)) + (z.toInt64)) + (w.toInt64)) + vr)), .second]) rfl ?_
        exact kt
      refine own_go (B := T12.setTop (mkF m 59 #[.val (.ref a0), .val (.long (((((x.toInt64) + (y.toInt64)) + (z.toInt64)) + (w.toInt64)) + vr)), .second] [(.long (((((x.toInt64) + (y.toInt64)) + (z.toInt64)) + (w.toInt64)) + vr))])) (fun t kt => ?_) ?_
      · show Steps p.tables e below (T12.setTop (mkF m 58 #[.val (.ref a0), .val (.long (((((x.toInt64) + (y.toInt64)) + (z.toInt64)) + (w.toInt64)) + vr)), .second] [])) _
        refine XS.lloadN X12.here hx rfl (hb hby d5_58) rfl ?_
        exact kt
      obtain ⟨fs, hr, hrun, hended, hW, hsame⟩ := X12.leave (v := some (.long (((((x.toInt64) + (y.toInt64)) + (z.toInt64)) + (w.toInt64)) + vr))) (fun h => by rw [Bd.returns] at h; cases h)
      refine ⟨_, _, ?_, hrun, hended, _, _, rfl, ?_, ⟨_, rfl⟩, hW, hsame.mono (by decide) (by decide)⟩
      · show Steps p.tables e below (T12.setTop (mkF m 59 #[.val (.ref a0), .val (.long (((((x.toInt64) + (y.toInt64)) + (z.toInt64)) + (w.toInt64)) + vr)), .second] [(.long (((((x.toInt64) + (y.toInt64)) + (z.toInt64)) + (w.toInt64)) + vr))])) _
        exact Jvm.Stand.lreturnOut X12 hx Bd.returns (hb hby d5_59) hr
      · show Q5 vv h0 n0 _ T12.heap _
        rw [e12]
        exact ⟨congrArg (fun q => some (Value.long q)) (by simp only [hv, own4_e0, Int64.add_zero]), N12, rfl⟩
  · refine own_go (B := T4.setTop (mkF m 25 #[.val (.ref a0), .val (.long ((((x.toInt64) + (y.toInt64)) + (z.toInt64)) + (w.toInt64))), .second] [(.ref a0)])) (fun t kt => ?_) ?_
    · show Steps p.tables e below (T4.setTop (mkF m 24 #[.val (.ref a0), .val (.long ((((x.toInt64) + (y.toInt64)) + (z.toInt64)) + (w.toInt64))), .second] [])) _
      refine XS.aloadN X4.here hx rfl (hb hby d5_24) rfl rfl ?_
      exact kt
    obtain ⟨T6, X6, e6, st6⟩ := getF X4 hx hZ hown (host := "") (Or.inl (hw _ (List.mem_of_getElem? (i := 35) rfl))) Via.refl e4 Fl (g := (mkF m 25 #[.val (.ref a0), .val (.long ((((x.toInt64) + (y.toInt64)) + (z.toInt64)) + (w.toInt64))), .second] [(.ref a0)])) rfl rfl (hb hby d5_25)
    refine own_go (B := T6.setTop (mkF m 28 #[.val (.ref a0), .val (.long ((((x.toInt64) + (y.toInt64)) + (z.toInt64)) + (w.toInt64))), .second] [(.ref bl)])) (fun t kt => st6 t kt) ?_
    refine own_go (B := T6.setTop (mkF m 33 #[.val (.ref a0), .val (.long ((((x.toInt64) + (y.toInt64)) + (z.toInt64)) + (w.toInt64))), .second] [(.ref a0), (.long ((((x.toInt64) + (y.toInt64)) + (z.toInt64)) + (w.toInt64)))])) (fun t kt => ?_) ?_
    · show Steps p.tables e below (T6.setTop (mkF m 28 #[.val (.ref a0), .val (.long ((((x.toInt64) + (y.toInt64)) + (z.toInt64)) + (w.toInt64))), .second] [(.ref bl)])) _
      refine XS.ifnullNo X6.here hx rfl (hb hby d5_28) rfl ?_
      show Steps p.tables e below (T6.setTop (mkF m 31 #[.val (.ref a0), .val (.long ((((x.toInt64) + (y.toInt64)) + (z.toInt64)) + (w.toInt64))), .second] [])) _
      refine XS.lloadN X6.here hx rfl (hb hby d5_31) rfl ?_
      show Steps p.tables e below (T6.setTop (mkF m 32 #[.val (.ref a0), .val (.long ((((x.toInt64) + (y.toInt64)) + (z.toInt64)) + (w.toInt64))), .second] [(.long ((((x.toInt64) + (y.toInt64)) + (z.toInt64)) + (w.toInt64)))])) _
      refine XS.aloadN X6.here hx rfl (hb hby d5_32) rfl rfl ?_
      exact kt
    obtain ⟨T7, X7, e7, st7⟩ := getF X6 hx hZ hown (host := "") (Or.inl (hw _ (List.mem_of_getElem? (i := 35) rfl))) Via.refl e6 Fl (g := (mkF m 33 #[.val (.ref a0), .val (.long ((((x.toInt64) + (y.toInt64)) + (z.toInt64)) + (w.toInt64))), .second] [(.ref a0), (.long ((((x.toInt64) + (y.toInt64)) + (z.toInt64)) + (w.toInt64)))])) rfl rfl (hb hby d5_33)
    refine own_go (B := T7.setTop (mkF m 36 #[.val (.ref a0), .val (.long ((((x.toInt64) + (y.toInt64)) + (z.toInt64)) + (w.toInt64))), .second] [(.ref bl), (.long ((((x.toInt64) + (y.toInt64)) + (z.toInt64)) + (w.toInt64)))])) (fun t kt => st7 t kt) ?_
    obtain ⟨cq8, kq8, qa8, qb8, qc8⟩ := isOf hZ e7 (own_exa hbl)
    obtain ⟨_, _, ⟨T8, L8, k8, n8⟩, -, X8, ⟨Lc8, hQ8, l8, y8, z8⟩, st8⟩ := X7.virtualBack hx (y := (⟨"com/example/fleetwire/fleetwire/bench/Bench$Tree", "fieldSum", "()J"⟩ : MethodName)) (z := (⟨"com/example/fleetwire/fleetwire/bench/Bench$Tree", "fieldSum", "()J"⟩ : MethodName)) hown (mvT hZ (hw _ (List.mem_of_getElem? (i := 38) rfl))) (mvT hZ (hw _ (List.mem_of_getElem? (i := 27) rfl))) (notFace_of_selects (args := #[]) (mvT hZ (hw _ (List.mem_of_getElem? (i := 29) rfl)))) (mvT hZ (hw _ (List.mem_of_getElem? (i := 29) rfl))) (mvT hZ (hw _ (List.mem_of_getElem? (i := 28) rfl))) (by decide) (backOf (W := 2) (rm5_1 l Z t0 hw [] bl vl h0 n0 Z0 hbl) hZ (hw _ (List.mem_of_getElem? (i := 30) rfl)) (hw _ (List.mem_of_getElem? (i := 6) rfl)) (by decide) (by decide)) qa8 qc8 (g := (mkF m 36 #[.val (.ref a0), .val (.long ((((x.toInt64) + (y.toInt64)) + (z.toInt64)) + (w.toInt64))), .second] [(.ref bl), (.long ((((x.toInt64) + (y.toInt64)) + (z.toInt64)) + (w.toInt64)))])) rfl (by rw [hml]; rfl) (Steps.refl _) (argsL := []) (rest := [(.long ((((x.toInt64) + (y.toInt64)) + (z.toInt64)) + (w.toInt64)))]) (lenOf pd_5_0 rfl) rfl (by show 2 * 0 + _ ≤ _; exact Nat.le_of_eq rfl) (hb hby d5_36) (fun _ _ => ⟨rfl, e7, (by decide : 0 + 0 ≤ _), (by decide : 0 + 0 ≤ _)⟩)
    dsimp only [Pt.U, Pt.locs, Pt.cells, Pt.slots] at X8 l8 y8 z8 st8 hQ8
    subst l8 y8 z8
    obtain ⟨rfl, Nq8, hh8⟩ := hQ8
    have N8 := Fr.app N0 Nq8
    have e8 : T8.heap = h0 := hh8
    refine own_go (B := T8.setTop (mkF m 39 #[.val (.ref a0), .val (.long ((((x.toInt64) + (y.toInt64)) + (z.toInt64)) + (w.toInt64))), .second] [(.long vl), (.long ((((x.toInt64) + (y.toInt64)) + (z.toInt64)) + (w.toInt64)))])) (fun t kt => st8.trans kt) ?_
    refine own_go (B := T8.setTop (mkF m 41 #[.val (.ref a0), .val (.long (((((x.toInt64) + (y.toInt64)) + (z.toInt64)) + (w.toInt64)) + vl)), .second] [])) (fun t kt => ?_) ?_
    · show Steps p.tables e below (T8.setTop (mkF m 39 #[.val (.ref a0), .val (.long ((((x.toInt64) + (y.toInt64)) + (z.toInt64)) + (w.toInt64))), .second] [(.long vl), (.long ((((x.toInt64) + (y.toInt64)) + (z.toInt64)) + (w.toInt64)))])) _
      refine XS.ladd X8.here hx rfl (hb hby d5_39) rfl ?_
      show Steps p.tables e below (T8.setTop (mkF m 40 #[.val (.ref a0), .val (.long ((((x.toInt64) + (y.toInt64)) + (z.toInt64)) + (w.toInt64))), .second] [(.long (((((x.toInt64) + (y.toInt64)) + (z.toInt64)) + (w.toInt64)) + vl))])) _
      refine XS.lstoreN X8.here hx rfl (hb hby d5_40) rfl (l' := #[.val (.ref a0), .val (.long (((((x.toInt64) + (y.toInt64)) + (z.toInt64)) + (w.toInt64)) + vl)), .second]) rfl ?_
      exact kt
    rcases hr' with ⟨rfl, rfl⟩ | ⟨br, rfl, hbr⟩
    · refine own_go (B := T8.setTop (mkF m 42 #[.val (.ref a0), .val (.long (((((x.toInt64) + (y.toInt64)) + (z.toInt64)) + (w.toInt64)) + vl)), .second] [(.ref a0)])) (fun t kt => ?_) ?_
      · show Steps p.tables e below (T8.setTop (mkF m 41 #[.val (.ref a0), .val (.long (((((x.toInt64) + (y.toInt64)) + (z.toInt64)) + (w.toInt64)) + vl)), .second] [])) _
        refine XS.aloadN X8.here hx rfl (hb hby d5_41) rfl rfl ?_
        exact kt
      obtain ⟨T13, X13, e13, st13⟩ := getF X8 hx hZ hown (host := "") (Or.inl (hw _ (List.mem_of_getElem? (i := 37) rfl))) Via.refl e8 Fr' (g := (mkF m 42 #[.val (.ref a0), .val (.long (((((x.toInt64) + (y.toInt64)) + (z.toInt64)) + (w.toInt64)) + vl)), .second] [(.ref a0)])) rfl rfl (hb hby d5_42)
      refine own_go (B := T13.setTop (mkF m 45 #[.val (.ref a0), .val (.long (((((x.toInt64) + (y.toInt64)) + (z.toInt64)) + (w.toInt64)) + vl)), .second] [.null])) (fun t kt => st13 t kt) ?_
      refine own_go (B := T13.setTop (mkF m 58 #[.val (.ref a0), .val (.long (((((x.toInt64) + (y.toInt64)) + (z.toInt64)) + (w.toInt64)) + vl)), .second] [])) (fun t kt => ?_) ?_
      · show Steps p.tables e below (T13.setTop (mkF m 45 #[.val (.ref a0), .val (.long (((((x.toInt64) + (y.toInt64)) + (z.toInt64)) + (w.toInt64)) + vl)), .second] [.null])) _
        refine XS.ifnullYes X13.here hx rfl (pc0 := 45) (pc' := 58) rfl (hb hby d5_45) rfl (by decide) (by decide) ?_
        exact kt
      refine own_go (B := T13.setTop (mkF m 59 #[.val (.ref a0), .val (.long (((((x.toInt64) + (y.toInt64)) + (z.toInt64)) + (w.toInt64)) + vl)), .second] [(.long (((((x.toInt64) + (y.toInt64)) + (z.toInt64)) + (w.toInt64)) + vl))])) (fun t kt => ?_) ?_
      · show Steps p.tables e below (T13.setTop (mkF m 58 #[.val (.ref a0), .val (.long (((((x.toInt64) + (y.toInt64)) + (z.toInt64)) + (w.toInt64)) + vl)), .second] [])) _
        refine XS.lloadN X13.here hx rfl (hb hby d5_58) rfl ?_
        exact kt
      obtain ⟨fs, hr, hrun, hended, hW, hsame⟩ := X13.leave (v := some (.long (((((x.toInt64) + (y.toInt64)) + (z.toInt64)) + (w.toInt64)) + vl))) (fun h => by rw [Bd.returns] at h; cases h)
      refine ⟨_, _, ?_, hrun, hended, _, _, rfl, ?_, ⟨_, rfl⟩, hW, hsame.mono (by decide) (by decide)⟩
      · show Steps p.tables e below (T13.setTop (mkF m 59 #[.val (.ref a0), .val (.long (((((x.toInt64) + (y.toInt64)) + (z.toInt64)) + (w.toInt64)) + vl)), .second] [(.long (((((x.toInt64) + (y.toInt64)) + (z.toInt64)) + (w.toInt64)) + vl))])) _
        exact Jvm.Stand.lreturnOut X13 hx Bd.returns (hb hby d5_59) hr
      · show Q5 vv h0 n0 _ T13.heap _
        rw [e13]
        exact ⟨congrArg (fun q => some (Value.long q)) (by simp only [hv, own4_e0, Int64.add_zero]), N8, rfl⟩
    · refine own_go (B := T8.setTop (mkF m 42 #[.val (.ref a0), .val (.long (((((x.toInt64) + (y.toInt64)) + (z.toInt64)) + (w.toInt64)) + vl)), .second] [(.ref a0)])) (fun t kt => ?_) ?_
      · show Steps p.tables e below (T8.setTop (mkF m 41 #[.val (.ref a0), .val (.long (((((x.toInt64) + (y.toInt64)) + (z.toInt64)) + (w.toInt64)) + vl)), .second] [])) _
        refine XS.aloadN X8.here hx rfl (hb hby d5_41) rfl rfl ?_
        exact kt
      obtain ⟨T14, X14, e14, st14⟩ := getF X8 hx hZ hown (host := "") (Or.inl (hw _ (List.mem_of_getElem? (i := 37) rfl))) Via.refl e8 Fr' (g := (mkF m 42 #[.val (.ref a0), .val (.long (((((x.toInt64) + (y.toInt64)) + (z.toInt64)) + (w.toInt64)) + vl)), .second] [(.ref a0)])) rfl rfl (hb hby d5_42)
      refine own_go (B := T14.setTop (mkF m 45 #[.val (.ref a0), .val (.long (((((x.toInt64) + (y.toInt64)) + (z.toInt64)) + (w.toInt64)) + vl)), .second] [(.ref br)])) (fun t kt => st14 t kt) ?_
      refine own_go (B := T14.setTop (mkF m 50 #[.val (.ref a0), .val (.long (((((x.toInt64) + (y.toInt64)) + (z.toInt64)) + (w.toInt64)) + vl)), .second] [(.ref a0), (.long (((((x.toInt64) + (y.toInt64)) + (z.toInt64)) + (w.toInt64)) + vl))])) (fun t kt => ?_) ?_
      · show Steps p.tables e below (T14.setTop (mkF m 45 #[.val (.ref a0), .val (.long (((((x.toInt64) + (y.toInt64)) + (z.toInt64)) + (w.toInt64)) + vl)), .second] [(.ref br)])) _
        refine XS.ifnullNo X14.here hx rfl (hb hby d5_45) rfl ?_
        show Steps p.tables e below (T14.setTop (mkF m 48 #[.val (.ref a0), .val (.long (((((x.toInt64) + (y.toInt64)) + (z.toInt64)) + (w.toInt64)) + vl)), .second] [])) _
        refine XS.lloadN X14.here hx rfl (hb hby d5_48) rfl ?_
        show Steps p.tables e below (T14.setTop (mkF m 49 #[.val (.ref a0), .val (.long (((((x.toInt64) + (y.toInt64)) + (z.toInt64)) + (w.toInt64)) + vl)), .second] [(.long (((((x.toInt64) + (y.toInt64)) + (z.toInt64)) + (w.toInt64)) + vl))])) _
        refine XS.aloadN X14.here hx rfl (hb hby d5_49) rfl rfl ?_
        exact kt
      obtain ⟨T15, X15, e15, st15⟩ := getF X14 hx hZ hown (host := "") (Or.inl (hw _ (List.mem_of_getElem? (i := 37) rfl))) Via.refl e14 Fr' (g := (mkF m 50 #[.val (.ref a0), .val (.long (((((x.toInt64) + (y.toInt64)) + (z.toInt64)) + (w.toInt64)) + vl)), .second] [(.ref a0), (.long (((((x.toInt64) + (y.toInt64)) + (z.toInt64)) + (w.toInt64)) + vl))])) rfl rfl (hb hby d5_50)
      refine own_go (B := T15.setTop (mkF m 53 #[.val (.ref a0), .val (.long (((((x.toInt64) + (y.toInt64)) + (z.toInt64)) + (w.toInt64)) + vl)), .second] [(.ref br), (.long (((((x.toInt64) + (y.toInt64)) + (z.toInt64)) + (w.toInt64)) + vl))])) (fun t kt => st15 t kt) ?_
      obtain ⟨cq16, kq16, qa16, qb16, qc16⟩ := isOf hZ e15 (own_exa hbr)
      obtain ⟨_, _, ⟨T16, L16, k16, n16⟩, -, X16, ⟨Lc16, hQ16, l16, y16, z16⟩, st16⟩ := X15.virtualBack hx (y := (⟨"com/example/fleetwire/fleetwire/bench/Bench$Tree", "fieldSum", "()J"⟩ : MethodName)) (z := (⟨"com/example/fleetwire/fleetwire/bench/Bench$Tree", "fieldSum", "()J"⟩ : MethodName)) hown (mvT hZ (hw _ (List.mem_of_getElem? (i := 38) rfl))) (mvT hZ (hw _ (List.mem_of_getElem? (i := 27) rfl))) (notFace_of_selects (args := #[]) (mvT hZ (hw _ (List.mem_of_getElem? (i := 29) rfl)))) (mvT hZ (hw _ (List.mem_of_getElem? (i := 29) rfl))) (mvT hZ (hw _ (List.mem_of_getElem? (i := 28) rfl))) (by decide) (backOf (W := 2) (rm5_1 l Z t0 hw [] br vr h0 n0 Z0 hbr) hZ (hw _ (List.mem_of_getElem? (i := 30) rfl)) (hw _ (List.mem_of_getElem? (i := 6) rfl)) (by decide) (by decide)) qa16 qc16 (g := (mkF m 53 #[.val (.ref a0), .val (.long (((((x.toInt64) + (y.toInt64)) + (z.toInt64)) + (w.toInt64)) + vl)), .second] [(.ref br), (.long (((((x.toInt64) + (y.toInt64)) + (z.toInt64)) + (w.toInt64)) + vl))])) rfl (by rw [hml]; rfl) (Steps.refl _) (argsL := []) (rest := [(.long (((((x.toInt64) + (y.toInt64)) + (z.toInt64)) + (w.toInt64)) + vl))]) (lenOf pd_5_0 rfl) rfl (by show 2 * 0 + _ ≤ _; exact Nat.le_of_eq rfl) (hb hby d5_53) (fun _ _ => ⟨rfl, e15, (by decide : 0 + 0 ≤ _), (by decide : 0 + 0 ≤ _)⟩)
      dsimp only [Pt.U, Pt.locs, Pt.cells, Pt.slots] at X16 l16 y16 z16 st16 hQ16
      subst l16 y16 z16
      obtain ⟨rfl, Nq16, hh16⟩ := hQ16
      have N16 := Fr.app N8 Nq16
      have e16 : T16.heap = h0 := hh16
      refine own_go (B := T16.setTop (mkF m 56 #[.val (.ref a0), .val (.long (((((x.toInt64) + (y.toInt64)) + (z.toInt64)) + (w.toInt64)) + vl)), .second] [(.long vr), (.long (((((x.toInt64) + (y.toInt64)) + (z.toInt64)) + (w.toInt64)) + vl))])) (fun t kt => st16.trans kt) ?_
      refine own_go (B := T16.setTop (mkF m 58 #[.val (.ref a0), .val (.long ((((((x.toInt64) + (y.toInt64)) + (z.toInt64)) + (w.toInt64)) + vl) + vr)), .second] [])) (fun t kt => ?_) ?_
      · show Steps p.tables e below (T16.setTop (mkF m 56 #[.val (.ref a0), .val (.long (((((x.toInt64) + (y.toInt64)) + (z.toInt64)) + (w.toInt64)) + vl)), .second] [(.long vr), (.long (((((x.toInt64) + (y.toInt64)) + (z.toInt64)) + (w.toInt64)) + vl))])) _
        refine XS.ladd X16.here hx rfl (hb hby d5_56) rfl ?_
        show Steps p.tables e below (T16.setTop (mkF m 57 #[.val (.ref a0), .val (.long (((((x.toInt64) + (y.toInt64)) + (z.toInt64)) + (w.toInt64)) + vl)), .second] [(.long ((((((x.toInt64) + (y.toInt64)) + (z.toInt64)) + (w.toInt64)) + vl) + vr))])) _
        refine XS.lstoreN X16.here hx rfl (hb hby d5_57) rfl (l' := #[.val (.ref a0), .val (.long ((((((x.toInt64) + (y.toInt64)) + (z.toInt64)) + (w.toInt64)) + vl) + vr)), .second]) rfl ?_
        exact kt
      refine own_go (B := T16.setTop (mkF m 59 #[.val (.ref a0), .val (.long ((((((x.toInt64) + (y.toInt64)) + (z.toInt64)) + (w.toInt64)) + vl) + vr)), .second] [(.long ((((((x.toInt64) + (y.toInt64)) + (z.toInt64)) + (w.toInt64)) + vl) + vr))])) (fun t kt => ?_) ?_
      · show Steps p.tables e below (T16.setTop (mkF m 58 #[.val (.ref a0), .val (.long ((((((x.toInt64) + (y.toInt64)) + (z.toInt64)) + (w.toInt64)) + vl) + vr)), .second] [])) _
        refine XS.lloadN X16.here hx rfl (hb hby d5_58) rfl ?_
        exact kt
      obtain ⟨fs, hr, hrun, hended, hW, hsame⟩ := X16.leave (v := some (.long ((((((x.toInt64) + (y.toInt64)) + (z.toInt64)) + (w.toInt64)) + vl) + vr))) (fun h => by rw [Bd.returns] at h; cases h)
      refine ⟨_, _, ?_, hrun, hended, _, _, rfl, ?_, ⟨_, rfl⟩, hW, hsame.mono (by decide) (by decide)⟩
      · show Steps p.tables e below (T16.setTop (mkF m 59 #[.val (.ref a0), .val (.long ((((((x.toInt64) + (y.toInt64)) + (z.toInt64)) + (w.toInt64)) + vl) + vr)), .second] [(.long ((((((x.toInt64) + (y.toInt64)) + (z.toInt64)) + (w.toInt64)) + vl) + vr))])) _
        exact Jvm.Stand.lreturnOut X16 hx Bd.returns (hb hby d5_59) hr
      · show Q5 vv h0 n0 _ T16.heap _
        rw [e16]
        exact ⟨congrArg (fun q => some (Value.long q)) (by simp only [hv, own4_e0, Int64.add_zero]), N16, rfl⟩
set_option maxRecDepth 65536 in
set_option maxHeartbeats 40000000 in
theorem rm5_3 (l : Launch) (Z : State) (t0 : Array Value) (hw : ∀ d ∈ tables_1, d.before t0 Z = true) (ws : List Jvm.Cond) (a0 : Addr) (vv : Int64) (h0 : Heap) (n0 : Nat) (Z0 : n0 ≤ h0.size) (ht : own_t3 Z h0 a0 vv) :
    MetFree l (⟨"com/example/fleetwire/fleetwire/bench/Bench$Tree", "fieldSum", "()J"⟩ : MethodName) (head1 (Jvm.Cond.code (⟨"com/example/fleetwire/fleetwire/bench/Bench$Tree", "fieldSum", "()J"⟩ : MethodName) prog_9_method_3_code 3 (some .long) :: ws) ({ frames := 2, cells := 0, slots := 0, locals := 32 } : Room)) (fun a U => a = #[(.ref a0)] ∧ Z.Warmed39 U.vm ∧ U.heap = h0) (fun _ _ _ _ _ => True) (fun _ U o U' => ∃ v L, o = .returned v ∧ Q5 vv h0 n0 v U'.heap L ∧ FrameEnd U o U' L ({ frames := 2, cells := 0, slots := 0, locals := 32 } : Room).cells ({ frames := 2, cells := 0, slots := 0, locals := 32 } : Room).slots) := by
  refine MetFree.of_bodySF (plainFor_of_name pn_5) hisR ?_
  intro p e s m args below meth c s₁ Bd hml0 hP hK
  obtain ⟨rfl, hZ, hh⟩ := hP
  have hx := Bd.exec
  have hby := Bd.bytes
  have hml : c.maxLocals = 3 := hml0
  have hown : s.vm.findClass "com/example/fleetwire/fleetwire/bench/Bench$Tree" = some m.cls := findClass_of_methodNamed Bd.named
  have hnm := (name_of_methodNamed Bd.named Bd.method).1
  have X0 : Stand p l e ({ frames := 2, cells := 0, slots := 0, locals := 32 } : Room) s m #[(.ref a0)] below meth c s₁ [] 0 0 := Stand.of_body Bd
  have e0 : s₁.heap = h0 := by rw [← hh, Bd.state]; rfl
  have N0 := Fr.nil n0
  have pre0 : ∀ t, Steps p.tables e below (s₁.setTop (mkF m 0 #[.val (.ref a0), .unset, .unset] [])) t → Steps p.tables e below (s₁.setTop (entryFrame m #[(.ref a0)] 3)) t := fun t k => castTop (ef_5 m a0) k
  refine own_go pre0 ?_
  obtain ⟨x, y, z, w, l, r, vl, vr, E, Fa, Fb, Fc, Fd, Fl, Fr', hl, hr', hv⟩ := ht
  refine own_go (B := s₁.setTop (mkF m 1 #[.val (.ref a0), .unset, .unset] [(.ref a0)])) (fun t kt => ?_) ?_
  · show Steps p.tables e below (s₁.setTop (mkF m 0 #[.val (.ref a0), .unset, .unset] [])) _
    refine XS.aloadN X0.here hx rfl (hb hby d5_0) rfl rfl ?_
    exact kt
  obtain ⟨T1, X1, e1, st1⟩ := getF X0 hx hZ hown (host := "") (Or.inl (hw _ (List.mem_of_getElem? (i := 31) rfl))) Via.refl e0 Fa (g := (mkF m 1 #[.val (.ref a0), .unset, .unset] [(.ref a0)])) rfl rfl (hb hby d5_1)
  refine own_go (B := T1.setTop (mkF m 4 #[.val (.ref a0), .unset, .unset] [(.int x)])) (fun t kt => st1 t kt) ?_
  refine own_go (B := T1.setTop (mkF m 6 #[.val (.ref a0), .unset, .unset] [(.ref a0), (.long (x.toInt64))])) (fun t kt => ?_) ?_
  · show Steps p.tables e below (T1.setTop (mkF m 4 #[.val (.ref a0), .unset, .unset] [(.int x)])) _
    refine XS.i2l X1.here hx rfl (hb hby d5_4) rfl ?_
    show Steps p.tables e below (T1.setTop (mkF m 5 #[.val (.ref a0), .unset, .unset] [(.long (x.toInt64))])) _
    refine XS.aloadN X1.here hx rfl (hb hby d5_5) rfl rfl ?_
    exact kt
  obtain ⟨T2, X2, e2, st2⟩ := getF X1 hx hZ hown (host := "") (Or.inl (hw _ (List.mem_of_getElem? (i := 32) rfl))) Via.refl e1 Fb (g := (mkF m 6 #[.val (.ref a0), .unset, .unset] [(.ref a0), (.long (x.toInt64))])) rfl rfl (hb hby d5_6)
  refine own_go (B := T2.setTop (mkF m 9 #[.val (.ref a0), .unset, .unset] [(.int y), (.long (x.toInt64))])) (fun t kt => st2 t kt) ?_
  refine own_go (B := T2.setTop (mkF m 12 #[.val (.ref a0), .unset, .unset] [(.ref a0), (.long ((x.toInt64) + (y.toInt64)))])) (fun t kt => ?_) ?_
  · show Steps p.tables e below (T2.setTop (mkF m 9 #[.val (.ref a0), .unset, .unset] [(.int y), (.long (x.toInt64))])) _
    refine XS.i2l X2.here hx rfl (hb hby d5_9) rfl ?_
    show Steps p.tables e below (T2.setTop (mkF m 10 #[.val (.ref a0), .unset, .unset] [(.long (y.toInt64)), (.long (x.toInt64))])) _
    refine XS.ladd X2.here hx rfl (hb hby d5_10) rfl ?_
    show Steps p.tables e below (T2.setTop (mkF m 11 #[.val (.ref a0), .unset, .unset] [(.long ((x.toInt64) + (y.toInt64)))])) _
    refine XS.aloadN X2.here hx rfl (hb hby d5_11) rfl rfl ?_
    exact kt
  obtain ⟨T3, X3, e3, st3⟩ := getF X2 hx hZ hown (host := "") (Or.inl (hw _ (List.mem_of_getElem? (i := 33) rfl))) Via.refl e2 Fc (g := (mkF m 12 #[.val (.ref a0), .unset, .unset] [(.ref a0), (.long ((x.toInt64) + (y.toInt64)))])) rfl rfl (hb hby d5_12)
  refine own_go (B := T3.setTop (mkF m 15 #[.val (.ref a0), .unset, .unset] [(.int z), (.long ((x.toInt64) + (y.toInt64)))])) (fun t kt => st3 t kt) ?_
  refine own_go (B := T3.setTop (mkF m 18 #[.val (.ref a0), .unset, .unset] [(.ref a0), (.long (((x.toInt64) + (y.toInt64)) + (z.toInt64)))])) (fun t kt => ?_) ?_
  · show Steps p.tables e below (T3.setTop (mkF m 15 #[.val (.ref a0), .unset, .unset] [(.int z), (.long ((x.toInt64) + (y.toInt64)))])) _
    refine XS.i2l X3.here hx rfl (hb hby d5_15) rfl ?_
    show Steps p.tables e below (T3.setTop (mkF m 16 #[.val (.ref a0), .unset, .unset] [(.long (z.toInt64)), (.long ((x.toInt64) + (y.toInt64)))])) _
    refine XS.ladd X3.here hx rfl (hb hby d5_16) rfl ?_
    show Steps p.tables e below (T3.setTop (mkF m 17 #[.val (.ref a0), .unset, .unset] [(.long (((x.toInt64) + (y.toInt64)) + (z.toInt64)))])) _
    refine XS.aloadN X3.here hx rfl (hb hby d5_17) rfl rfl ?_
    exact kt
  obtain ⟨T4, X4, e4, st4⟩ := getF X3 hx hZ hown (host := "") (Or.inl (hw _ (List.mem_of_getElem? (i := 34) rfl))) Via.refl e3 Fd (g := (mkF m 18 #[.val (.ref a0), .unset, .unset] [(.ref a0), (.long (((x.toInt64) + (y.toInt64)) + (z.toInt64)))])) rfl rfl (hb hby d5_18)
  refine own_go (B := T4.setTop (mkF m 21 #[.val (.ref a0), .unset, .unset] [(.int w), (.long (((x.toInt64) + (y.toInt64)) + (z.toInt64)))])) (fun t kt => st4 t kt) ?_
  refine own_go (B := T4.setTop (mkF m 24 #[.val (.ref a0), .val (.long ((((x.toInt64) + (y.toInt64)) + (z.toInt64)) + (w.toInt64))), .second] [])) (fun t kt => ?_) ?_
  · show Steps p.tables e below (T4.setTop (mkF m 21 #[.val (.ref a0), .unset, .unset] [(.int w), (.long (((x.toInt64) + (y.toInt64)) + (z.toInt64)))])) _
    refine XS.i2l X4.here hx rfl (hb hby d5_21) rfl ?_
    show Steps p.tables e below (T4.setTop (mkF m 22 #[.val (.ref a0), .unset, .unset] [(.long (w.toInt64)), (.long (((x.toInt64) + (y.toInt64)) + (z.toInt64)))])) _
    refine XS.ladd X4.here hx rfl (hb hby d5_22) rfl ?_
    show Steps p.tables e below (T4.setTop (mkF m 23 #[.val (.ref a0), .unset, .unset] [(.long ((((x.toInt64) + (y.toInt64)) + (z.toInt64)) + (w.toInt64)))])) _
    refine XS.lstoreN X4.here hx rfl (hb hby d5_23) rfl (l' := #[.val (.ref a0), .val (.long ((((x.toInt64) + (y.toInt64)) + (z.toInt64)) + (w.toInt64))), .second]) rfl ?_
    exact kt
  rcases hl with ⟨rfl, rfl⟩ | ⟨bl, rfl, hbl⟩
  · refine own_go (B := T4.setTop (mkF m 25 #[.val (.ref a0), .val (.long ((((x.toInt64) + (y.toInt64)) + (z.toInt64)) + (w.toInt64))), .second] [(.ref a0)])) (fun t kt => ?_) ?_
    · show Steps p.tables e below (T4.setTop (mkF m 24 #[.val (.ref a0), .val (.long ((((x.toInt64) + (y.toInt64)) + (z.toInt64)) + (w.toInt64))), .second] [])) _
      refine XS.aloadN X4.here hx rfl (hb hby d5_24) rfl rfl ?_
      exact kt
    obtain ⟨T5, X5, e5, st5⟩ := getF X4 hx hZ hown (host := "") (Or.inl (hw _ (List.mem_of_getElem? (i := 35) rfl))) Via.refl e4 Fl (g := (mkF m 25 #[.val (.ref a0), .val (.long ((((x.toInt64) + (y.toInt64)) + (z.toInt64)) + (w.toInt64))), .second] [(.ref a0)])) rfl rfl (hb hby d5_25)
    refine own_go (B := T5.setTop (mkF m 28 #[.val (.ref a0), .val (.long ((((x.toInt64) + (y.toInt64)) + (z.toInt64)) + (w.toInt64))), .second] [.null])) (fun t kt => st5 t kt) ?_
    refine own_go (B := T5.setTop (mkF m 41 #[.val (.ref a0), .val (.long ((((x.toInt64) + (y.toInt64)) + (z.toInt64)) + (w.toInt64))), .second] [])) (fun t kt => ?_) ?_
    · show Steps p.tables e below (T5.setTop (mkF m 28 #[.val (.ref a0), .val (.long ((((x.toInt64) + (y.toInt64)) + (z.toInt64)) + (w.toInt64))), .second] [.null])) _
      refine XS.ifnullYes X5.here hx rfl (pc0 := 28) (pc' := 41) rfl (hb hby d5_28) rfl (by decide) (by decide) ?_
      exact kt
    rcases hr' with ⟨rfl, rfl⟩ | ⟨br, rfl, hbr⟩
    · refine own_go (B := T5.setTop (mkF m 42 #[.val (.ref a0), .val (.long ((((x.toInt64) + (y.toInt64)) + (z.toInt64)) + (w.toInt64))), .second] [(.ref a0)])) (fun t kt => ?_) ?_
      · show Steps p.tables e below (T5.setTop (mkF m 41 #[.val (.ref a0), .val (.long ((((x.toInt64) + (y.toInt64)) + (z.toInt64)) + (w.toInt64))), .second] [])) _
        refine XS.aloadN X5.here hx rfl (hb hby d5_41) rfl rfl ?_
        exact kt
      obtain ⟨T9, X9, e9, st9⟩ := getF X5 hx hZ hown (host := "") (Or.inl (hw _ (List.mem_of_getElem? (i := 37) rfl))) Via.refl e5 Fr' (g := (mkF m 42 #[.val (.ref a0), .val (.long ((((x.toInt64) + (y.toInt64)) + (z.toInt64)) + (w.toInt64))), .second] [(.ref a0)])) rfl rfl (hb hby d5_42)
      refine own_go (B := T9.setTop (mkF m 45 #[.val (.ref a0), .val (.long ((((x.toInt64) + (y.toInt64)) + (z.toInt64)) + (w.toInt64))), .second] [.null])) (fun t kt => st9 t kt) ?_
      refine own_go (B := T9.setTop (mkF m 58 #[.val (.ref a0), .val (.long ((((x.toInt64) + (y.toInt64)) + (z.toInt64)) + (w.toInt64))), .second] [])) (fun t kt => ?_) ?_
      · show Steps p.tables e below (T9.setTop (mkF m 45 #[.val (.ref a0), .val (.long ((((x.toInt64) + (y.toInt64)) + (z.toInt64)) + (w.toInt64))), .second] [.null])) _
        refine XS.ifnullYes X9.here hx rfl (pc0 := 45) (pc' := 58) rfl (hb hby d5_45) rfl (by decide) (by decide) ?_
        exact kt
      refine own_go (B := T9.setTop (mkF m 59 #[.val (.ref a0), .val (.long ((((x.toInt64) + (y.toInt64)) + (z.toInt64)) + (w.toInt64))), .second] [(.long ((((x.toInt64) + (y.toInt64)) + (z.toInt64)) + (w.toInt64)))])) (fun t kt => ?_) ?_
      · show Steps p.tables e below (T9.setTop (mkF m 58 #[.val (.ref a0), .val (.long ((((x.toInt64) + (y.toInt64)) + (z.toInt64)) + (w.toInt64))), .second] [])) _
        refine XS.lloadN X9.here hx rfl (hb hby d5_58) rfl ?_
        exact kt
      obtain ⟨fs, hr, hrun, hended, hW, hsame⟩ := X9.leave (v := some (.long ((((x.toInt64) + (y.toInt64)) + (z.toInt64)) + (w.toInt64)))) (fun h => by rw [Bd.returns] at h; cases h)
      refine ⟨_, _, ?_, hrun, hended, _, _, rfl, ?_, ⟨_, rfl⟩, hW, hsame.mono (by decide) (by decide)⟩
      · show Steps p.tables e below (T9.setTop (mkF m 59 #[.val (.ref a0), .val (.long ((((x.toInt64) + (y.toInt64)) + (z.toInt64)) + (w.toInt64))), .second] [(.long ((((x.toInt64) + (y.toInt64)) + (z.toInt64)) + (w.toInt64)))])) _
        exact Jvm.Stand.lreturnOut X9 hx Bd.returns (hb hby d5_59) hr
      · show Q5 vv h0 n0 _ T9.heap _
        rw [e9]
        exact ⟨congrArg (fun q => some (Value.long q)) (by simp only [hv, own4_e0, Int64.add_zero]), N0, rfl⟩
    · refine own_go (B := T5.setTop (mkF m 42 #[.val (.ref a0), .val (.long ((((x.toInt64) + (y.toInt64)) + (z.toInt64)) + (w.toInt64))), .second] [(.ref a0)])) (fun t kt => ?_) ?_
      · show Steps p.tables e below (T5.setTop (mkF m 41 #[.val (.ref a0), .val (.long ((((x.toInt64) + (y.toInt64)) + (z.toInt64)) + (w.toInt64))), .second] [])) _
        refine XS.aloadN X5.here hx rfl (hb hby d5_41) rfl rfl ?_
        exact kt
      obtain ⟨T10, X10, e10, st10⟩ := getF X5 hx hZ hown (host := "") (Or.inl (hw _ (List.mem_of_getElem? (i := 37) rfl))) Via.refl e5 Fr' (g := (mkF m 42 #[.val (.ref a0), .val (.long ((((x.toInt64) + (y.toInt64)) + (z.toInt64)) + (w.toInt64))), .second] [(.ref a0)])) rfl rfl (hb hby d5_42)
      refine own_go (B := T10.setTop (mkF m 45 #[.val (.ref a0), .val (.long ((((x.toInt64) + (y.toInt64)) + (z.toInt64)) + (w.toInt64))), .second] [(.ref br)])) (fun t kt => st10 t kt) ?_
      refine own_go (B := T10.setTop (mkF m 50 #[.val (.ref a0), .val (.long ((((x.toInt64) + (y.toInt64)) + (z.toInt64)) + (w.toInt64))), .second] [(.ref a0), (.long ((((x.toInt64) + (y.toInt64)) + (z.toInt64)) + (w.toInt64)))])) (fun t kt => ?_) ?_
      · show Steps p.tables e below (T10.setTop (mkF m 45 #[.val (.ref a0), .val (.long ((((x.toInt64) + (y.toInt64)) + (z.toInt64)) + (w.toInt64))), .second] [(.ref br)])) _
        refine XS.ifnullNo X10.here hx rfl (hb hby d5_45) rfl ?_
        show Steps p.tables e below (T10.setTop (mkF m 48 #[.val (.ref a0), .val (.long ((((x.toInt64) + (y.toInt64)) + (z.toInt64)) + (w.toInt64))), .second] [])) _
        refine XS.lloadN X10.here hx rfl (hb hby d5_48) rfl ?_
        show Steps p.tables e below (T10.setTop (mkF m 49 #[.val (.ref a0), .val (.long ((((x.toInt64) + (y.toInt64)) + (z.toInt64)) + (w.toInt64))), .second] [(.long ((((x.toInt64) + (y.toInt64)) + (z.toInt64)) + (w.toInt64)))])) _
        refine XS.aloadN X10.here hx rfl (hb hby d5_49) rfl rfl ?_
        exact kt
      obtain ⟨T11, X11, e11, st11⟩ := getF X10 hx hZ hown (host := "") (Or.inl (hw _ (List.mem_of_getElem? (i := 37) rfl))) Via.refl e10 Fr' (g := (mkF m 50 #[.val (.ref a0), .val (.long ((((x.toInt64) + (y.toInt64)) + (z.toInt64)) + (w.toInt64))), .second] [(.ref a0), (.long ((((x.toInt64) + (y.toInt64)) + (z.toInt64)) + (w.toInt64)))])) rfl rfl (hb hby d5_50)
      refine own_go (B := T11.setTop (mkF m 53 #[.val (.ref a0), .val (.long ((((x.toInt64) + (y.toInt64)) + (z.toInt64)) + (w.toInt64))), .second] [(.ref br), (.long ((((x.toInt64) + (y.toInt64)) + (z.toInt64)) + (w.toInt64)))])) (fun t kt => st11 t kt) ?_
      obtain ⟨cq12, kq12, qa12, qb12, qc12⟩ := isOf hZ e11 (own_exa hbr)
      obtain ⟨_, _, ⟨T12, L12, k12, n12⟩, -, X12, ⟨Lc12, hQ12, l12, y12, z12⟩, st12⟩ := X11.virtualBack hx (y := (⟨"com/example/fleetwire/fleetwire/bench/Bench$Tree", "fieldSum", "()J"⟩ : MethodName)) (z := (⟨"com/example/fleetwire/fleetwire/bench/Bench$Tree", "fieldSum", "()J"⟩ : MethodName)) hown (mvT hZ (hw _ (List.mem_of_getElem? (i := 38) rfl))) (mvT hZ (hw _ (List.mem_of_getElem? (i := 27) rfl))) (notFace_of_selects (args := #[]) (mvT hZ (hw _ (List.mem_of_getElem? (i := 29) rfl)))) (mvT hZ (hw _ (List.mem_of_getElem? (i := 29) rfl))) (mvT hZ (hw _ (List.mem_of_getElem? (i := 28) rfl))) (by decide) (backOf (W := 2) (rm5_2 l Z t0 hw [] br vr h0 n0 Z0 hbr) hZ (hw _ (List.mem_of_getElem? (i := 30) rfl)) (hw _ (List.mem_of_getElem? (i := 6) rfl)) (by decide) (by decide)) qa12 qc12 (g := (mkF m 53 #[.val (.ref a0), .val (.long ((((x.toInt64) + (y.toInt64)) + (z.toInt64)) + (w.toInt64))), .second] [(.ref br), (.long ((((x.toInt64) + (y.toInt64)) + (z.toInt64)) + (w.toInt64)))])) rfl (by rw [hml]; rfl) (Steps.refl _) (argsL := []) (rest := [(.long ((((x.toInt64) + (y.toInt64)) + (z.toInt64)) + (w.toInt64)))]) (lenOf pd_5_0 rfl) rfl (by show 2 * 0 + _ ≤ _; exact Nat.le_of_eq rfl) (hb hby d5_53) (fun _ _ => ⟨rfl, e11, (by decide : 0 + 0 ≤ _), (by decide : 0 + 0 ≤ _)⟩)
      dsimp only [Pt.U, Pt.locs, Pt.cells, Pt.slots] at X12 l12 y12 z12 st12 hQ12
      subst l12 y12 z12
      obtain ⟨rfl, Nq12, hh12⟩ := hQ12
      have N12 := Fr.app N0 Nq12
      have e12 : T12.heap = h0 := hh12
      refine own_go (B := T12.setTop (mkF m 56 #[.val (.ref a0), .val (.long ((((x.toInt64) + (y.toInt64)) + (z.toInt64)) + (w.toInt64))), .second] [(.long vr), (.long ((((x.toInt64) + (y.toInt64)) + (z.toInt64)) + (w.toInt64)))])) (fun t kt => st12.trans kt) ?_
      refine own_go (B := T12.setTop (mkF m 58 #[.val (.ref a0), .val (.long (((((x.toInt64) + (y.toInt64)) + (z.toInt64)) + (w.toInt64)) + vr)), .second] [])) (fun t kt => ?_) ?_
      · show Steps p.tables e below (T12.setTop (mkF m 56 #[.val (.ref a0), .val (.long ((((x.toInt64) + (y.toInt64)) + (z.toInt64)) + (w.toInt64))), .second] [(.long vr), (.long ((((x.toInt64) + (y.toInt64)) + (z.toInt64)) + (w.toInt64)))])) _
        refine XS.ladd X12.here hx rfl (hb hby d5_56) rfl ?_
        show Steps p.tables e below (T12.setTop (mkF m 57 #[.val (.ref a0), .val (.long ((((x.toInt64) + (y.toInt64)) + (z.toInt64)) + (w.toInt64))), .second] [(.long (((((x.toInt64) + (y.toInt64)) + (z.toInt64)) + (w.toInt64)) + vr))])) _
        refine XS.lstoreN X12.here hx rfl (hb hby d5_57) rfl (l' := #[.val (.ref a0), .val (.long (((((x.toInt64) + (y.toInt64)) + (z.toInt64)) + (w.toInt64)) + vr)), .second]) rfl ?_
        exact kt
      refine own_go (B := T12.setTop (mkF m 59 #[.val (.ref a0), .val (.long (((((x.toInt64) + (y.toInt64)) + (z.toInt64)) + (w.toInt64)) + vr)), .second] [(.long (((((x.toInt64) + (y.toInt64)) + (z.toInt64)) + (w.toInt64)) + vr))])) (fun t kt => ?_) ?_
      · show Steps p.tables e below (T12.setTop (mkF m 58 #[.val (.ref a0), .val (.long (((((x.toInt64) + (y.toInt64)) + (z.toInt64)) + (w.toInt64)) + vr)), .second] [])) _
        refine XS.lloadN X12.here hx rfl (hb hby d5_58) rfl ?_
        exact kt
      obtain ⟨fs, hr, hrun, hended, hW, hsame⟩ := X12.leave (v := some (.long (((((x.toInt64) + (y.toInt64)) + (z.toInt64)) + (w.toInt64)) + vr))) (fun h => by rw [Bd.returns] at h; cases h)
      refine ⟨_, _, ?_, hrun, hended, _, _, rfl, ?_, ⟨_, rfl⟩, hW, hsame.mono (by decide) (by decide)⟩
      · show Steps p.tables e below (T12.setTop (mkF m 59 #[.val (.ref a0), .val (.long (((((x.toInt64) + (y.toInt64)) + (z.toInt64)) + (w.toInt64)) + vr)), .second] [(.long (((((x.toInt64) + (y.toInt64)) + (z.toInt64)) + (w.toInt64)) + vr))])) _
        exact Jvm.Stand.lreturnOut X12 hx Bd.returns (hb hby d5_59) hr
      · show Q5 vv h0 n0 _ T12.heap _
        rw [e12]
        exact ⟨congrArg (fun q => some (Value.long q)) (by simp only [hv, own4_e0, Int64.add_zero]), N12, rfl⟩
  · refine own_go (B := T4.setTop (mkF m 25 #[.val (.ref a0), .val (.long ((((x.toInt64) + (y.toInt64)) + (z.toInt64)) + (w.toInt64))), .second] [(.ref a0)])) (fun t kt => ?_) ?_
    · show Steps p.tables e below (T4.setTop (mkF m 24 #[.val (.ref a0), .val (.long ((((x.toInt64) + (y.toInt64)) + (z.toInt64)) + (w.toInt64))), .second] [])) _
      refine XS.aloadN X4.here hx rfl (hb hby d5_24) rfl rfl ?_
      exact kt
    obtain ⟨T6, X6, e6, st6⟩ := getF X4 hx hZ hown (host := "") (Or.inl (hw _ (List.mem_of_getElem? (i := 35) rfl))) Via.refl e4 Fl (g := (mkF m 25 #[.val (.ref a0), .val (.long ((((x.toInt64) + (y.toInt64)) + (z.toInt64)) + (w.toInt64))), .second] [(.ref a0)])) rfl rfl (hb hby d5_25)
    refine own_go (B := T6.setTop (mkF m 28 #[.val (.ref a0), .val (.long ((((x.toInt64) + (y.toInt64)) + (z.toInt64)) + (w.toInt64))), .second] [(.ref bl)])) (fun t kt => st6 t kt) ?_
    refine own_go (B := T6.setTop (mkF m 33 #[.val (.ref a0), .val (.long ((((x.toInt64) + (y.toInt64)) + (z.toInt64)) + (w.toInt64))), .second] [(.ref a0), (.long ((((x.toInt64) + (y.toInt64)) + (z.toInt64)) + (w.toInt64)))])) (fun t kt => ?_) ?_
    · show Steps p.tables e below (T6.setTop (mkF m 28 #[.val (.ref a0), .val (.long ((((x.toInt64) + (y.toInt64)) + (z.toInt64)) + (w.toInt64))), .second] [(.ref bl)])) _
      refine XS.ifnullNo X6.here hx rfl (hb hby d5_28) rfl ?_
      show Steps p.tables e below (T6.setTop (mkF m 31 #[.val (.ref a0), .val (.long ((((x.toInt64) + (y.toInt64)) + (z.toInt64)) + (w.toInt64))), .second] [])) _
      refine XS.lloadN X6.here hx rfl (hb hby d5_31) rfl ?_
      show Steps p.tables e below (T6.setTop (mkF m 32 #[.val (.ref a0), .val (.long ((((x.toInt64) + (y.toInt64)) + (z.toInt64)) + (w.toInt64))), .second] [(.long ((((x.toInt64) + (y.toInt64)) + (z.toInt64)) + (w.toInt64)))])) _
      refine XS.aloadN X6.here hx rfl (hb hby d5_32) rfl rfl ?_
      exact kt
    obtain ⟨T7, X7, e7, st7⟩ := getF X6 hx hZ hown (host := "") (Or.inl (hw _ (List.mem_of_getElem? (i := 35) rfl))) Via.refl e6 Fl (g := (mkF m 33 #[.val (.ref a0), .val (.long ((((x.toInt64) + (y.toInt64)) + (z.toInt64)) + (w.toInt64))), .second] [(.ref a0), (.long ((((x.toInt64) + (y.toInt64)) + (z.toInt64)) + (w.toInt64)))])) rfl rfl (hb hby d5_33)
    refine own_go (B := T7.setTop (mkF m 36 #[.val (.ref a0), .val (.long ((((x.toInt64) + (y.toInt64)) + (z.toInt64)) + (w.toInt64))), .second] [(.ref bl), (.long ((((x.toInt64) + (y.toInt64)) + (z.toInt64)) + (w.toInt64)))])) (fun t kt => st7 t kt) ?_
    obtain ⟨cq8, kq8, qa8, qb8, qc8⟩ := isOf hZ e7 (own_exa hbl)
    obtain ⟨_, _, ⟨T8, L8, k8, n8⟩, -, X8, ⟨Lc8, hQ8, l8, y8, z8⟩, st8⟩ := X7.virtualBack hx (y := (⟨"com/example/fleetwire/fleetwire/bench/Bench$Tree", "fieldSum", "()J"⟩ : MethodName)) (z := (⟨"com/example/fleetwire/fleetwire/bench/Bench$Tree", "fieldSum", "()J"⟩ : MethodName)) hown (mvT hZ (hw _ (List.mem_of_getElem? (i := 38) rfl))) (mvT hZ (hw _ (List.mem_of_getElem? (i := 27) rfl))) (notFace_of_selects (args := #[]) (mvT hZ (hw _ (List.mem_of_getElem? (i := 29) rfl)))) (mvT hZ (hw _ (List.mem_of_getElem? (i := 29) rfl))) (mvT hZ (hw _ (List.mem_of_getElem? (i := 28) rfl))) (by decide) (backOf (W := 2) (rm5_2 l Z t0 hw [] bl vl h0 n0 Z0 hbl) hZ (hw _ (List.mem_of_getElem? (i := 30) rfl)) (hw _ (List.mem_of_getElem? (i := 6) rfl)) (by decide) (by decide)) qa8 qc8 (g := (mkF m 36 #[.val (.ref a0), .val (.long ((((x.toInt64) + (y.toInt64)) + (z.toInt64)) + (w.toInt64))), .second] [(.ref bl), (.long ((((x.toInt64) + (y.toInt64)) + (z.toInt64)) + (w.toInt64)))])) rfl (by rw [hml]; rfl) (Steps.refl _) (argsL := []) (rest := [(.long ((((x.toInt64) + (y.toInt64)) + (z.toInt64)) + (w.toInt64)))]) (lenOf pd_5_0 rfl) rfl (by show 2 * 0 + _ ≤ _; exact Nat.le_of_eq rfl) (hb hby d5_36) (fun _ _ => ⟨rfl, e7, (by decide : 0 + 0 ≤ _), (by decide : 0 + 0 ≤ _)⟩)
    dsimp only [Pt.U, Pt.locs, Pt.cells, Pt.slots] at X8 l8 y8 z8 st8 hQ8
    subst l8 y8 z8
    obtain ⟨rfl, Nq8, hh8⟩ := hQ8
    have N8 := Fr.app N0 Nq8
    have e8 : T8.heap = h0 := hh8
    refine own_go (B := T8.setTop (mkF m 39 #[.val (.ref a0), .val (.long ((((x.toInt64) + (y.toInt64)) + (z.toInt64)) + (w.toInt64))), .second] [(.long vl), (.long ((((x.toInt64) + (y.toInt64)) + (z.toInt64)) + (w.toInt64)))])) (fun t kt => st8.trans kt) ?_
    refine own_go (B := T8.setTop (mkF m 41 #[.val (.ref a0), .val (.long (((((x.toInt64) + (y.toInt64)) + (z.toInt64)) + (w.toInt64)) + vl)), .second] [])) (fun t kt => ?_) ?_
    · show Steps p.tables e below (T8.setTop (mkF m 39 #[.val (.ref a0), .val (.long ((((x.toInt64) + (y.toInt64)) + (z.toInt64)) + (w.toInt64))), .second] [(.long vl), (.long ((((x.toInt64) + (y.toInt64)) + (z.toInt64)) + (w.toInt64)))])) _
      refine XS.ladd X8.here hx rfl (hb hby d5_39) rfl ?_
      show Steps p.tables e below (T8.setTop (mkF m 40 #[.val (.ref a0), .val (.long ((((x.toInt64) + (y.toInt64)) + (z.toInt64)) + (w.toInt64))), .second] [(.long (((((x.toInt64) + (y.toInt64)) + (z.toInt64)) + (w.toInt64)) + vl))])) _
      refine XS.lstoreN X8.here hx rfl (hb hby d5_40) rfl (l' := #[.val (.ref a0), .val (.long (((((x.toInt64) + (y.toInt64)) + (z.toInt64)) + (w.toInt64)) + vl)), .second]) rfl ?_
      exact kt
    rcases hr' with ⟨rfl, rfl⟩ | ⟨br, rfl, hbr⟩
    · refine own_go (B := T8.setTop (mkF m 42 #[.val (.ref a0), .val (.long (((((x.toInt64) + (y.toInt64)) + (z.toInt64)) + (w.toInt64)) + vl)), .second] [(.ref a0)])) (fun t kt => ?_) ?_
      · show Steps p.tables e below (T8.setTop (mkF m 41 #[.val (.ref a0), .val (.long (((((x.toInt64) + (y.toInt64)) + (z.toInt64)) + (w.toInt64)) + vl)), .second] [])) _
        refine XS.aloadN X8.here hx rfl (hb hby d5_41) rfl rfl ?_
        exact kt
      obtain ⟨T13, X13, e13, st13⟩ := getF X8 hx hZ hown (host := "") (Or.inl (hw _ (List.mem_of_getElem? (i := 37) rfl))) Via.refl e8 Fr' (g := (mkF m 42 #[.val (.ref a0), .val (.long (((((x.toInt64) + (y.toInt64)) + (z.toInt64)) + (w.toInt64)) + vl)), .second] [(.ref a0)])) rfl rfl (hb hby d5_42)
      refine own_go (B := T13.setTop (mkF m 45 #[.val (.ref a0), .val (.long (((((x.toInt64) + (y.toInt64)) + (z.toInt64)) + (w.toInt64)) + vl)), .second] [.null])) (fun t kt => st13 t kt) ?_
      refine own_go (B := T13.setTop (mkF m 58 #[.val (.ref a0), .val (.long (((((x.toInt64) + (y.toInt64)) + (z.toInt64)) + (w.toInt64)) + vl)), .second] [])) (fun t kt => ?_) ?_
      · show Steps p.tables e below (T13.setTop (mkF m 45 #[.val (.ref a0), .val (.long (((((x.toInt64) + (y.toInt64)) + (z.toInt64)) + (w.toInt64)) + vl)), .second] [.null])) _
        refine XS.ifnullYes X13.here hx rfl (pc0 := 45) (pc' := 58) rfl (hb hby d5_45) rfl (by decide) (by decide) ?_
        exact kt
      refine own_go (B := T13.setTop (mkF m 59 #[.val (.ref a0), .val (.long (((((x.toInt64) + (y.toInt64)) + (z.toInt64)) + (w.toInt64)) + vl)), .second] [(.long (((((x.toInt64) + (y.toInt64)) + (z.toInt64)) + (w.toInt64)) + vl))])) (fun t kt => ?_) ?_
      · show Steps p.tables e below (T13.setTop (mkF m 58 #[.val (.ref a0), .val (.long (((((x.toInt64) + (y.toInt64)) + (z.toInt64)) + (w.toInt64)) + vl)), .second] [])) _
        refine XS.lloadN X13.here hx rfl (hb hby d5_58) rfl ?_
        exact kt
      obtain ⟨fs, hr, hrun, hended, hW, hsame⟩ := X13.leave (v := some (.long (((((x.toInt64) + (y.toInt64)) + (z.toInt64)) + (w.toInt64)) + vl))) (fun h => by rw [Bd.returns] at h; cases h)
      refine ⟨_, _, ?_, hrun, hended, _, _, rfl, ?_, ⟨_, rfl⟩, hW, hsame.mono (by decide) (by decide)⟩
      · show Steps p.tables e below (T13.setTop (mkF m 59 #[.val (.ref a0), .val (.long (((((x.toInt64) + (y.toInt64)) + (z.toInt64)) + (w.toInt64)) + vl)), .second] [(.long (((((x.toInt64) + (y.toInt64)) + (z.toInt64)) + (w.toInt64)) + vl))])) _
        exact Jvm.Stand.lreturnOut X13 hx Bd.returns (hb hby d5_59) hr
      · show Q5 vv h0 n0 _ T13.heap _
        rw [e13]
        exact ⟨congrArg (fun q => some (Value.long q)) (by simp only [hv, own4_e0, Int64.add_zero]), N8, rfl⟩
    · refine own_go (B := T8.setTop (mkF m 42 #[.val (.ref a0), .val (.long (((((x.toInt64) + (y.toInt64)) + (z.toInt64)) + (w.toInt64)) + vl)), .second] [(.ref a0)])) (fun t kt => ?_) ?_
      · show Steps p.tables e below (T8.setTop (mkF m 41 #[.val (.ref a0), .val (.long (((((x.toInt64) + (y.toInt64)) + (z.toInt64)) + (w.toInt64)) + vl)), .second] [])) _
        refine XS.aloadN X8.here hx rfl (hb hby d5_41) rfl rfl ?_
        exact kt
      obtain ⟨T14, X14, e14, st14⟩ := getF X8 hx hZ hown (host := "") (Or.inl (hw _ (List.mem_of_getElem? (i := 37) rfl))) Via.refl e8 Fr' (g := (mkF m 42 #[.val (.ref a0), .val (.long (((((x.toInt64) + (y.toInt64)) + (z.toInt64)) + (w.toInt64)) + vl)), .second] [(.ref a0)])) rfl rfl (hb hby d5_42)
      refine own_go (B := T14.setTop (mkF m 45 #[.val (.ref a0), .val (.long (((((x.toInt64) + (y.toInt64)) + (z.toInt64)) + (w.toInt64)) + vl)), .second] [(.ref br)])) (fun t kt => st14 t kt) ?_
      refine own_go (B := T14.setTop (mkF m 50 #[.val (.ref a0), .val (.long (((((x.toInt64) + (y.toInt64)) + (z.toInt64)) + (w.toInt64)) + vl)), .second] [(.ref a0), (.long (((((x.toInt64) + (y.toInt64)) + (z.toInt64)) + (w.toInt64)) + vl))])) (fun t kt => ?_) ?_
      · show Steps p.tables e below (T14.setTop (mkF m 45 #[.val (.ref a0), .val (.long (((((x.toInt64) + (y.toInt64)) + (z.toInt64)) + (w.toInt64)) + vl)), .second] [(.ref br)])) _
        refine XS.ifnullNo X14.here hx rfl (hb hby d5_45) rfl ?_
        show Steps p.tables e below (T14.setTop (mkF m 48 #[.val (.ref a0), .val (.long (((((x.toInt64) + (y.toInt64)) + (z.toInt64)) + (w.toInt64)) + vl)), .second] [])) _
        refine XS.lloadN X14.here hx rfl (hb hby d5_48) rfl ?_
        show Steps p.tables e below (T14.setTop (mkF m 49 #[.val (.ref a0), .val (.long (((((x.toInt64) + (y.toInt64)) + (z.toInt64)) + (w.toInt64)) + vl)), .second] [(.long (((((x.toInt64) + (y.toInt64)) + (z.toInt64)) + (w.toInt64)) + vl))])) _
        refine XS.aloadN X14.here hx rfl (hb hby d5_49) rfl rfl ?_
        exact kt
      obtain ⟨T15, X15, e15, st15⟩ := getF X14 hx hZ hown (host := "") (Or.inl (hw _ (List.mem_of_getElem? (i := 37) rfl))) Via.refl e14 Fr' (g := (mkF m 50 #[.val (.ref a0), .val (.long (((((x.toInt64) + (y.toInt64)) + (z.toInt64)) + (w.toInt64)) + vl)), .second] [(.ref a0), (.long (((((x.toInt64) + (y.toInt64)) + (z.toInt64)) + (w.toInt64)) + vl))])) rfl rfl (hb hby d5_50)
      refine own_go (B := T15.setTop (mkF m 53 #[.val (.ref a0), .val (.long (((((x.toInt64) + (y.toInt64)) + (z.toInt64)) + (w.toInt64)) + vl)), .second] [(.ref br), (.long (((((x.toInt64) + (y.toInt64)) + (z.toInt64)) + (w.toInt64)) + vl))])) (fun t kt => st15 t kt) ?_
      obtain ⟨cq16, kq16, qa16, qb16, qc16⟩ := isOf hZ e15 (own_exa hbr)
      obtain ⟨_, _, ⟨T16, L16, k16, n16⟩, -, X16, ⟨Lc16, hQ16, l16, y16, z16⟩, st16⟩ := X15.virtualBack hx (y := (⟨"com/example/fleetwire/fleetwire/bench/Bench$Tree", "fieldSum", "()J"⟩ : MethodName)) (z := (⟨"com/example/fleetwire/fleetwire/bench/Bench$Tree", "fieldSum", "()J"⟩ : MethodName)) hown (mvT hZ (hw _ (List.mem_of_getElem? (i := 38) rfl))) (mvT hZ (hw _ (List.mem_of_getElem? (i := 27) rfl))) (notFace_of_selects (args := #[]) (mvT hZ (hw _ (List.mem_of_getElem? (i := 29) rfl)))) (mvT hZ (hw _ (List.mem_of_getElem? (i := 29) rfl))) (mvT hZ (hw _ (List.mem_of_getElem? (i := 28) rfl))) (by decide) (backOf (W := 2) (rm5_2 l Z t0 hw [] br vr h0 n0 Z0 hbr) hZ (hw _ (List.mem_of_getElem? (i := 30) rfl)) (hw _ (List.mem_of_getElem? (i := 6) rfl)) (by decide) (by decide)) qa16 qc16 (g := (mkF m 53 #[.val (.ref a0), .val (.long (((((x.toInt64) + (y.toInt64)) + (z.toInt64)) + (w.toInt64)) + vl)), .second] [(.ref br), (.long (((((x.toInt64) + (y.toInt64)) + (z.toInt64)) + (w.toInt64)) + vl))])) rfl (by rw [hml]; rfl) (Steps.refl _) (argsL := []) (rest := [(.long (((((x.toInt64) + (y.toInt64)) + (z.toInt64)) + (w.toInt64)) + vl))]) (lenOf pd_5_0 rfl) rfl (by show 2 * 0 + _ ≤ _; exact Nat.le_of_eq rfl) (hb hby d5_53) (fun _ _ => ⟨rfl, e15, (by decide : 0 + 0 ≤ _), (by decide : 0 + 0 ≤ _)⟩)
      dsimp only [Pt.U, Pt.locs, Pt.cells, Pt.slots] at X16 l16 y16 z16 st16 hQ16
      subst l16 y16 z16
      obtain ⟨rfl, Nq16, hh16⟩ := hQ16
      have N16 := Fr.app N8 Nq16
      have e16 : T16.heap = h0 := hh16
      refine own_go (B := T16.setTop (mkF m 56 #[.val (.ref a0), .val (.long (((((x.toInt64) + (y.toInt64)) + (z.toInt64)) + (w.toInt64)) + vl)), .second] [(.long vr), (.long (((((x.toInt64) + (y.toInt64)) + (z.toInt64)) + (w.toInt64)) + vl))])) (fun t kt => st16.trans kt) ?_
      refine own_go (B := T16.setTop (mkF m 58 #[.val (.ref a0), .val (.long ((((((x.toInt64) + (y.toInt64)) + (z.toInt64)) + (w.toInt64)) + vl) + vr)), .second] [])) (fun t kt => ?_) ?_
      · show Steps p.tables e below (T16.setTop (mkF m 56 #[.val (.ref a0), .val (.long (((((x.toInt64) + (y.toInt64)) + (z.toInt64)) + (w.toInt64)) + vl)), .second] [(.long vr), (.long (((((x.toInt64) + (y.toInt64)) + (z.toInt64)) + (w.toInt64)) + vl))])) _
        refine XS.ladd X16.here hx rfl (hb hby d5_56) rfl ?_
        show Steps p.tables e below (T16.setTop (mkF m 57 #[.val (.ref a0), .val (.long (((((x.toInt64) + (y.toInt64)) + (z.toInt64)) + (w.toInt64)) + vl)), .second] [(.long ((((((x.toInt64) + (y.toInt64)) + (z.toInt64)) + (w.toInt64)) + vl) + vr))])) _
        refine XS.lstoreN X16.here hx rfl (hb hby d5_57) rfl (l' := #[.val (.ref a0), .val (.long ((((((x.toInt64) + (y.toInt64)) + (z.toInt64)) + (w.toInt64)) + vl) + vr)), .second]) rfl ?_
        exact kt
      refine own_go (B := T16.setTop (mkF m 59 #[.val (.ref a0), .val (.long ((((((x.toInt64) + (y.toInt64)) + (z.toInt64)) + (w.toInt64)) + vl) + vr)), .second] [(.long ((((((x.toInt64) + (y.toInt64)) + (z.toInt64)) + (w.toInt64)) + vl) + vr))])) (fun t kt => ?_) ?_
      · show Steps p.tables e below (T16.setTop (mkF m 58 #[.val (.ref a0), .val (.long ((((((x.toInt64) + (y.toInt64)) + (z.toInt64)) + (w.toInt64)) + vl) + vr)), .second] [])) _
        refine XS.lloadN X16.here hx rfl (hb hby d5_58) rfl ?_
        exact kt
      obtain ⟨fs, hr, hrun, hended, hW, hsame⟩ := X16.leave (v := some (.long ((((((x.toInt64) + (y.toInt64)) + (z.toInt64)) + (w.toInt64)) + vl) + vr))) (fun h => by rw [Bd.returns] at h; cases h)
      refine ⟨_, _, ?_, hrun, hended, _, _, rfl, ?_, ⟨_, rfl⟩, hW, hsame.mono (by decide) (by decide)⟩
      · show Steps p.tables e below (T16.setTop (mkF m 59 #[.val (.ref a0), .val (.long ((((((x.toInt64) + (y.toInt64)) + (z.toInt64)) + (w.toInt64)) + vl) + vr)), .second] [(.long ((((((x.toInt64) + (y.toInt64)) + (z.toInt64)) + (w.toInt64)) + vl) + vr))])) _
        exact Jvm.Stand.lreturnOut X16 hx Bd.returns (hb hby d5_59) hr
      · show Q5 vv h0 n0 _ T16.heap _
        rw [e16]
        exact ⟨congrArg (fun q => some (Value.long q)) (by simp only [hv, own4_e0, Int64.add_zero]), N16, rfl⟩
theorem pd_0_0 : parseMethodDescriptor "(IIII)Lcom/example/fleetwire/fleetwire/bench/Bench$Tree;" = some ⟨[.int, .int, .int, .int], some (.object "com/example/fleetwire/fleetwire/bench/Bench$Tree")⟩ := by decide +kernel
theorem pd_0_1 : parseMethodDescriptor "(IIII)J" = some ⟨[.int, .int, .int, .int], some .long⟩ := by decide +kernel
theorem pd_0_2 : parseMethodDescriptor "()J" = some ⟨[], some .long⟩ := by decide +kernel
theorem ef_0 (m : MethodId) (p0 : Int32) (p1 : Int32) (p2 : Int32) (p3 : Int32) (q4 : Int64) (p5 : Int32) : entryFrame m #[(.int p0), (.int p1), (.int p2), (.int p3), (.long q4), (.int p5)] maxLocals = mkF m 0 #[.val (.int p0), .val (.int p1), .val (.int p2), .val (.int p3), .val (.long q4), .second, .val (.int p5), .unset, .unset, .unset, .unset, .unset, .unset, .unset, .unset, .unset, .unset, .unset, .unset] [] := by first | (simp [entryFrame, mkF, argsToLocals, Value.category, maxLocals]; done) | rfl
theorem pn_0 : plainName "com/example/fleetwire/fleetwire/bench/TreeFieldSumPinLaw" = true := by first | (simp [plainName, overriddenIn]; done) | decide +kernel
def Q0 (n0 : Nat) (v : Option Value) (L : List Loc) : Prop := v = some (.int (1 : Int32)) ∧ Fr n0 L
set_option maxRecDepth 65536 in
set_option maxHeartbeats 40000000 in
theorem rm0 (l : Launch) (Z : State) (t0 : Array Value) (hw : ∀ d ∈ tables_1, d.before t0 Z = true) (ws : List Jvm.Cond) (p0 : Int32) (p1 : Int32) (p2 : Int32) (p3 : Int32) (q4 : Int64) (p5 : Int32) (h0 : Heap) (n0 : Nat) (Z0 : n0 ≤ h0.size)  :
    MetFree l x (head1 (Jvm.Cond.code x code maxLocals ret :: ws) room_1) (fun a U => a = #[(.int p0), (.int p1), (.int p2), (.int p3), (.long q4), (.int p5)] ∧ Z.Warmed39 U.vm ∧ U.heap = h0) (fun _ _ _ _ _ => True) (fun _ U o U' => ∃ v L, o = .returned v ∧ Q0 n0 v L ∧ FrameEnd U o U' L room_1.cells room_1.slots) := by
  refine MetFree.of_bodySF (plainFor_of_name pn_0) hisR ?_
  intro p e s m args below meth c s₁ Bd hml0 hP hK
  obtain ⟨rfl, hZ, hh⟩ := hP
  have hx := Bd.exec
  have hby := Bd.bytes
  have hml : c.maxLocals = 19 := hml0
  have hown : s.vm.findClass "com/example/fleetwire/fleetwire/bench/TreeFieldSumPinLaw" = some m.cls := findClass_of_methodNamed Bd.named
  have hnm := (name_of_methodNamed Bd.named Bd.method).1
  have X0 : Stand p l e room_1 s m #[(.int p0), (.int p1), (.int p2), (.int p3), (.long q4), (.int p5)] below meth c s₁ [] 0 0 := Stand.of_body Bd
  have e0 : s₁.heap = h0 := by rw [← hh, Bd.state]; rfl
  have N0 := Fr.nil n0
  have pre0 : ∀ t, Steps p.tables e below (s₁.setTop (mkF m 0 #[.val (.int p0), .val (.int p1), .val (.int p2), .val (.int p3), .val (.long q4), .second, .val (.int p5), .unset, .unset, .unset, .unset, .unset, .unset, .unset, .unset, .unset, .unset, .unset, .unset] [])) t → Steps p.tables e below (s₁.setTop (entryFrame m #[(.int p0), (.int p1), (.int p2), (.int p3), (.long q4), (.int p5)] maxLocals)) t := fun t k => castTop (ef_0 m p0 p1 p2 p3 q4 p5) k
  refine own_go pre0 ?_
  obtain ⟨bL, hbL⟩ : ∃ z : Int32, z = (if (p5 &&& (1 : Int32)) = (0 : Int32) then (0 : Int32) else (1 : Int32)) := ⟨_, rfl⟩
  refine own_go (B := s₁.setTop (mkF m 12 #[.val (.int p0), .val (.int p1), .val (.int p2), .val (.int p3), .val (.long q4), .second, .val (.int p5), .unset, .unset, .unset, .unset, .unset, .unset, .unset, .unset, .unset, .unset, .unset, .unset] [(.int bL)])) (fun t kt => ?_) ?_
  · show Steps p.tables e below (s₁.setTop (mkF m 0 #[.val (.int p0), .val (.int p1), .val (.int p2), .val (.int p3), .val (.long q4), .second, .val (.int p5), .unset, .unset, .unset, .unset, .unset, .unset, .unset, .unset, .unset, .unset, .unset, .unset] [])) _
    refine XS.iload X0.here hx rfl (hb hby at_0) rfl ?_
    show Steps p.tables e below (s₁.setTop (mkF m 2 #[.val (.int p0), .val (.int p1), .val (.int p2), .val (.int p3), .val (.long q4), .second, .val (.int p5), .unset, .unset, .unset, .unset, .unset, .unset, .unset, .unset, .unset, .unset, .unset, .unset] [(.int p5)])) _
    refine XS.iconst X0.here hx rfl (hb hby at_2) ?_
    show Steps p.tables e below (s₁.setTop (mkF m 3 #[.val (.int p0), .val (.int p1), .val (.int p2), .val (.int p3), .val (.long q4), .second, .val (.int p5), .unset, .unset, .unset, .unset, .unset, .unset, .unset, .unset, .unset, .unset, .unset, .unset] [(.int (1 : Int32)), (.int p5)])) _
    refine XS.iand X0.here hx rfl (hb hby at_3) rfl ?_
    by_cases hc4 : (p5 &&& (1 : Int32)) = (0 : Int32)
    · show Steps p.tables e below (s₁.setTop (mkF m 4 #[.val (.int p0), .val (.int p1), .val (.int p2), .val (.int p3), .val (.long q4), .second, .val (.int p5), .unset, .unset, .unset, .unset, .unset, .unset, .unset, .unset, .unset, .unset, .unset, .unset] [(.int (p5 &&& (1 : Int32)))])) _
      refine XS.ifYes X0.here hx rfl (pc0 := 4) (pc' := 11) rfl (hb hby at_4) rfl ((if0 _ _).trans (teq hc4).1) (by decide) (by decide) ?_
      show Steps p.tables e below (s₁.setTop (mkF m 11 #[.val (.int p0), .val (.int p1), .val (.int p2), .val (.int p3), .val (.long q4), .second, .val (.int p5), .unset, .unset, .unset, .unset, .unset, .unset, .unset, .unset, .unset, .unset, .unset, .unset] [])) _
      refine XS.iconst X0.here hx rfl (hb hby at_11) ?_
      rw [show bL = (0 : Int32) from by rw [hbL, if_pos hc4]] at kt
      exact kt
    · show Steps p.tables e below (s₁.setTop (mkF m 4 #[.val (.int p0), .val (.int p1), .val (.int p2), .val (.int p3), .val (.long q4), .second, .val (.int p5), .unset, .unset, .unset, .unset, .unset, .unset, .unset, .unset, .unset, .unset, .unset, .unset] [(.int (p5 &&& (1 : Int32)))])) _
      refine XS.ifNo X0.here hx rfl (hb hby at_4) rfl ((if0 _ _).trans (feq hc4).1) ?_
      show Steps p.tables e below (s₁.setTop (mkF m 7 #[.val (.int p0), .val (.int p1), .val (.int p2), .val (.int p3), .val (.long q4), .second, .val (.int p5), .unset, .unset, .unset, .unset, .unset, .unset, .unset, .unset, .unset, .unset, .unset, .unset] [])) _
      refine XS.iconst X0.here hx rfl (hb hby at_7) ?_
      show Steps p.tables e below (s₁.setTop (mkF m 8 #[.val (.int p0), .val (.int p1), .val (.int p2), .val (.int p3), .val (.long q4), .second, .val (.int p5), .unset, .unset, .unset, .unset, .unset, .unset, .unset, .unset, .unset, .unset, .unset, .unset] [(.int (1 : Int32))])) _
      refine XS.goto X0.here hx rfl (pc0 := 8) (pc' := 12) rfl (hb hby at_8) (by decide) (by decide) ?_
      rw [show bL = (1 : Int32) from by rw [hbL, if_neg hc4]] at kt
      exact kt
  obtain ⟨bR, hbR⟩ : ∃ z : Int32, z = (if (p5 &&& (2 : Int32)) = (0 : Int32) then (0 : Int32) else (1 : Int32)) := ⟨_, rfl⟩
  refine own_go (B := s₁.setTop (mkF m 26 #[.val (.int p0), .val (.int p1), .val (.int p2), .val (.int p3), .val (.long q4), .second, .val (.int p5), .val (.int bL), .unset, .unset, .unset, .unset, .unset, .unset, .unset, .unset, .unset, .unset, .unset] [(.int bR)])) (fun t kt => ?_) ?_
  · show Steps p.tables e below (s₁.setTop (mkF m 12 #[.val (.int p0), .val (.int p1), .val (.int p2), .val (.int p3), .val (.long q4), .second, .val (.int p5), .unset, .unset, .unset, .unset, .unset, .unset, .unset, .unset, .unset, .unset, .unset, .unset] [(.int bL)])) _
    refine XS.istore X0.here hx rfl (hb hby at_12) rfl (l' := #[.val (.int p0), .val (.int p1), .val (.int p2), .val (.int p3), .val (.long q4), .second, .val (.int p5), .val (.int bL), .unset, .unset, .unset, .unset, .unset, .unset, .unset, .unset, .unset, .unset, .unset]) rfl ?_
    show Steps p.tables e below (s₁.setTop (mkF m 14 #[.val (.int p0), .val (.int p1), .val (.int p2), .val (.int p3), .val (.long q4), .second, .val (.int p5), .val (.int bL), .unset, .unset, .unset, .unset, .unset, .unset, .unset, .unset, .unset, .unset, .unset] [])) _
    refine XS.iload X0.here hx rfl (hb hby at_14) rfl ?_
    show Steps p.tables e below (s₁.setTop (mkF m 16 #[.val (.int p0), .val (.int p1), .val (.int p2), .val (.int p3), .val (.long q4), .second, .val (.int p5), .val (.int bL), .unset, .unset, .unset, .unset, .unset, .unset, .unset, .unset, .unset, .unset, .unset] [(.int p5)])) _
    refine XS.iconst X0.here hx rfl (hb hby at_16) ?_
    show Steps p.tables e below (s₁.setTop (mkF m 17 #[.val (.int p0), .val (.int p1), .val (.int p2), .val (.int p3), .val (.long q4), .second, .val (.int p5), .val (.int bL), .unset, .unset, .unset, .unset, .unset, .unset, .unset, .unset, .unset, .unset, .unset] [(.int (2 : Int32)), (.int p5)])) _
    refine XS.iand X0.here hx rfl (hb hby at_17) rfl ?_
    by_cases hc18 : (p5 &&& (2 : Int32)) = (0 : Int32)
    · show Steps p.tables e below (s₁.setTop (mkF m 18 #[.val (.int p0), .val (.int p1), .val (.int p2), .val (.int p3), .val (.long q4), .second, .val (.int p5), .val (.int bL), .unset, .unset, .unset, .unset, .unset, .unset, .unset, .unset, .unset, .unset, .unset] [(.int (p5 &&& (2 : Int32)))])) _
      refine XS.ifYes X0.here hx rfl (pc0 := 18) (pc' := 25) rfl (hb hby at_18) rfl ((if0 _ _).trans (teq hc18).1) (by decide) (by decide) ?_
      show Steps p.tables e below (s₁.setTop (mkF m 25 #[.val (.int p0), .val (.int p1), .val (.int p2), .val (.int p3), .val (.long q4), .second, .val (.int p5), .val (.int bL), .unset, .unset, .unset, .unset, .unset, .unset, .unset, .unset, .unset, .unset, .unset] [])) _
      refine XS.iconst X0.here hx rfl (hb hby at_25) ?_
      rw [show bR = (0 : Int32) from by rw [hbR, if_pos hc18]] at kt
      exact kt
    · show Steps p.tables e below (s₁.setTop (mkF m 18 #[.val (.int p0), .val (.int p1), .val (.int p2), .val (.int p3), .val (.long q4), .second, .val (.int p5), .val (.int bL), .unset, .unset, .unset, .unset, .unset, .unset, .unset, .unset, .unset, .unset, .unset] [(.int (p5 &&& (2 : Int32)))])) _
      refine XS.ifNo X0.here hx rfl (hb hby at_18) rfl ((if0 _ _).trans (feq hc18).1) ?_
      show Steps p.tables e below (s₁.setTop (mkF m 21 #[.val (.int p0), .val (.int p1), .val (.int p2), .val (.int p3), .val (.long q4), .second, .val (.int p5), .val (.int bL), .unset, .unset, .unset, .unset, .unset, .unset, .unset, .unset, .unset, .unset, .unset] [])) _
      refine XS.iconst X0.here hx rfl (hb hby at_21) ?_
      show Steps p.tables e below (s₁.setTop (mkF m 22 #[.val (.int p0), .val (.int p1), .val (.int p2), .val (.int p3), .val (.long q4), .second, .val (.int p5), .val (.int bL), .unset, .unset, .unset, .unset, .unset, .unset, .unset, .unset, .unset, .unset, .unset] [(.int (1 : Int32))])) _
      refine XS.goto X0.here hx rfl (pc0 := 22) (pc' := 26) rfl (hb hby at_22) (by decide) (by decide) ?_
      rw [show bR = (1 : Int32) from by rw [hbR, if_neg hc18]] at kt
      exact kt
  obtain ⟨bLL, hbLL⟩ : ∃ z : Int32, z = (if bL = (0 : Int32) then (0 : Int32) else (if (p5 &&& (4 : Int32)) = (0 : Int32) then (0 : Int32) else (1 : Int32))) := ⟨_, rfl⟩
  refine own_go (B := s₁.setTop (mkF m 45 #[.val (.int p0), .val (.int p1), .val (.int p2), .val (.int p3), .val (.long q4), .second, .val (.int p5), .val (.int bL), .val (.int bR), .unset, .unset, .unset, .unset, .unset, .unset, .unset, .unset, .unset, .unset] [(.int bLL)])) (fun t kt => ?_) ?_
  · show Steps p.tables e below (s₁.setTop (mkF m 26 #[.val (.int p0), .val (.int p1), .val (.int p2), .val (.int p3), .val (.long q4), .second, .val (.int p5), .val (.int bL), .unset, .unset, .unset, .unset, .unset, .unset, .unset, .unset, .unset, .unset, .unset] [(.int bR)])) _
    refine XS.istore X0.here hx rfl (hb hby at_26) rfl (l' := #[.val (.int p0), .val (.int p1), .val (.int p2), .val (.int p3), .val (.long q4), .second, .val (.int p5), .val (.int bL), .val (.int bR), .unset, .unset, .unset, .unset, .unset, .unset, .unset, .unset, .unset, .unset]) rfl ?_
    show Steps p.tables e below (s₁.setTop (mkF m 28 #[.val (.int p0), .val (.int p1), .val (.int p2), .val (.int p3), .val (.long q4), .second, .val (.int p5), .val (.int bL), .val (.int bR), .unset, .unset, .unset, .unset, .unset, .unset, .unset, .unset, .unset, .unset] [])) _
    refine XS.iload X0.here hx rfl (hb hby at_28) rfl ?_
    by_cases hc30 : bL = (0 : Int32)
    · show Steps p.tables e below (s₁.setTop (mkF m 30 #[.val (.int p0), .val (.int p1), .val (.int p2), .val (.int p3), .val (.long q4), .second, .val (.int p5), .val (.int bL), .val (.int bR), .unset, .unset, .unset, .unset, .unset, .unset, .unset, .unset, .unset, .unset] [(.int bL)])) _
      refine XS.ifYes X0.here hx rfl (pc0 := 30) (pc' := 44) rfl (hb hby at_30) rfl ((if0 _ _).trans (teq hc30).1) (by decide) (by decide) ?_
      show Steps p.tables e below (s₁.setTop (mkF m 44 #[.val (.int p0), .val (.int p1), .val (.int p2), .val (.int p3), .val (.long q4), .second, .val (.int p5), .val (.int bL), .val (.int bR), .unset, .unset, .unset, .unset, .unset, .unset, .unset, .unset, .unset, .unset] [])) _
      refine XS.iconst X0.here hx rfl (hb hby at_44) ?_
      rw [show bLL = (0 : Int32) from by rw [hbLL, if_pos hc30]] at kt
      exact kt
    · show Steps p.tables e below (s₁.setTop (mkF m 30 #[.val (.int p0), .val (.int p1), .val (.int p2), .val (.int p3), .val (.long q4), .second, .val (.int p5), .val (.int bL), .val (.int bR), .unset, .unset, .unset, .unset, .unset, .unset, .unset, .unset, .unset, .unset] [(.int bL)])) _
      refine XS.ifNo X0.here hx rfl (hb hby at_30) rfl ((if0 _ _).trans (feq hc30).1) ?_
      show Steps p.tables e below (s₁.setTop (mkF m 33 #[.val (.int p0), .val (.int p1), .val (.int p2), .val (.int p3), .val (.long q4), .second, .val (.int p5), .val (.int bL), .val (.int bR), .unset, .unset, .unset, .unset, .unset, .unset, .unset, .unset, .unset, .unset] [])) _
      refine XS.iload X0.here hx rfl (hb hby at_33) rfl ?_
      show Steps p.tables e below (s₁.setTop (mkF m 35 #[.val (.int p0), .val (.int p1), .val (.int p2), .val (.int p3), .val (.long q4), .second, .val (.int p5), .val (.int bL), .val (.int bR), .unset, .unset, .unset, .unset, .unset, .unset, .unset, .unset, .unset, .unset] [(.int p5)])) _
      refine XS.iconst X0.here hx rfl (hb hby at_35) ?_
      show Steps p.tables e below (s₁.setTop (mkF m 36 #[.val (.int p0), .val (.int p1), .val (.int p2), .val (.int p3), .val (.long q4), .second, .val (.int p5), .val (.int bL), .val (.int bR), .unset, .unset, .unset, .unset, .unset, .unset, .unset, .unset, .unset, .unset] [(.int (4 : Int32)), (.int p5)])) _
      refine XS.iand X0.here hx rfl (hb hby at_36) rfl ?_
      by_cases hc37 : (p5 &&& (4 : Int32)) = (0 : Int32)
      · show Steps p.tables e below (s₁.setTop (mkF m 37 #[.val (.int p0), .val (.int p1), .val (.int p2), .val (.int p3), .val (.long q4), .second, .val (.int p5), .val (.int bL), .val (.int bR), .unset, .unset, .unset, .unset, .unset, .unset, .unset, .unset, .unset, .unset] [(.int (p5 &&& (4 : Int32)))])) _
        refine XS.ifYes X0.here hx rfl (pc0 := 37) (pc' := 44) rfl (hb hby at_37) rfl ((if0 _ _).trans (teq hc37).1) (by decide) (by decide) ?_
        show Steps p.tables e below (s₁.setTop (mkF m 44 #[.val (.int p0), .val (.int p1), .val (.int p2), .val (.int p3), .val (.long q4), .second, .val (.int p5), .val (.int bL), .val (.int bR), .unset, .unset, .unset, .unset, .unset, .unset, .unset, .unset, .unset, .unset] [])) _
        refine XS.iconst X0.here hx rfl (hb hby at_44) ?_
        rw [show bLL = (0 : Int32) from by rw [hbLL, if_neg hc30, if_pos hc37]] at kt
        exact kt
      · show Steps p.tables e below (s₁.setTop (mkF m 37 #[.val (.int p0), .val (.int p1), .val (.int p2), .val (.int p3), .val (.long q4), .second, .val (.int p5), .val (.int bL), .val (.int bR), .unset, .unset, .unset, .unset, .unset, .unset, .unset, .unset, .unset, .unset] [(.int (p5 &&& (4 : Int32)))])) _
        refine XS.ifNo X0.here hx rfl (hb hby at_37) rfl ((if0 _ _).trans (feq hc37).1) ?_
        show Steps p.tables e below (s₁.setTop (mkF m 40 #[.val (.int p0), .val (.int p1), .val (.int p2), .val (.int p3), .val (.long q4), .second, .val (.int p5), .val (.int bL), .val (.int bR), .unset, .unset, .unset, .unset, .unset, .unset, .unset, .unset, .unset, .unset] [])) _
        refine XS.iconst X0.here hx rfl (hb hby at_40) ?_
        show Steps p.tables e below (s₁.setTop (mkF m 41 #[.val (.int p0), .val (.int p1), .val (.int p2), .val (.int p3), .val (.long q4), .second, .val (.int p5), .val (.int bL), .val (.int bR), .unset, .unset, .unset, .unset, .unset, .unset, .unset, .unset, .unset, .unset] [(.int (1 : Int32))])) _
        refine XS.goto X0.here hx rfl (pc0 := 41) (pc' := 45) rfl (hb hby at_41) (by decide) (by decide) ?_
        rw [show bLL = (1 : Int32) from by rw [hbLL, if_neg hc30, if_neg hc37]] at kt
        exact kt
  obtain ⟨bRR, hbRR⟩ : ∃ z : Int32, z = (if bR = (0 : Int32) then (0 : Int32) else (if (p5 &&& (8 : Int32)) = (0 : Int32) then (0 : Int32) else (1 : Int32))) := ⟨_, rfl⟩
  refine own_go (B := s₁.setTop (mkF m 65 #[.val (.int p0), .val (.int p1), .val (.int p2), .val (.int p3), .val (.long q4), .second, .val (.int p5), .val (.int bL), .val (.int bR), .val (.int bLL), .unset, .unset, .unset, .unset, .unset, .unset, .unset, .unset, .unset] [(.int bRR)])) (fun t kt => ?_) ?_
  · show Steps p.tables e below (s₁.setTop (mkF m 45 #[.val (.int p0), .val (.int p1), .val (.int p2), .val (.int p3), .val (.long q4), .second, .val (.int p5), .val (.int bL), .val (.int bR), .unset, .unset, .unset, .unset, .unset, .unset, .unset, .unset, .unset, .unset] [(.int bLL)])) _
    refine XS.istore X0.here hx rfl (hb hby at_45) rfl (l' := #[.val (.int p0), .val (.int p1), .val (.int p2), .val (.int p3), .val (.long q4), .second, .val (.int p5), .val (.int bL), .val (.int bR), .val (.int bLL), .unset, .unset, .unset, .unset, .unset, .unset, .unset, .unset, .unset]) rfl ?_
    show Steps p.tables e below (s₁.setTop (mkF m 47 #[.val (.int p0), .val (.int p1), .val (.int p2), .val (.int p3), .val (.long q4), .second, .val (.int p5), .val (.int bL), .val (.int bR), .val (.int bLL), .unset, .unset, .unset, .unset, .unset, .unset, .unset, .unset, .unset] [])) _
    refine XS.iload X0.here hx rfl (hb hby at_47) rfl ?_
    by_cases hc49 : bR = (0 : Int32)
    · show Steps p.tables e below (s₁.setTop (mkF m 49 #[.val (.int p0), .val (.int p1), .val (.int p2), .val (.int p3), .val (.long q4), .second, .val (.int p5), .val (.int bL), .val (.int bR), .val (.int bLL), .unset, .unset, .unset, .unset, .unset, .unset, .unset, .unset, .unset] [(.int bR)])) _
      refine XS.ifYes X0.here hx rfl (pc0 := 49) (pc' := 64) rfl (hb hby at_49) rfl ((if0 _ _).trans (teq hc49).1) (by decide) (by decide) ?_
      show Steps p.tables e below (s₁.setTop (mkF m 64 #[.val (.int p0), .val (.int p1), .val (.int p2), .val (.int p3), .val (.long q4), .second, .val (.int p5), .val (.int bL), .val (.int bR), .val (.int bLL), .unset, .unset, .unset, .unset, .unset, .unset, .unset, .unset, .unset] [])) _
      refine XS.iconst X0.here hx rfl (hb hby at_64) ?_
      rw [show bRR = (0 : Int32) from by rw [hbRR, if_pos hc49]] at kt
      exact kt
    · show Steps p.tables e below (s₁.setTop (mkF m 49 #[.val (.int p0), .val (.int p1), .val (.int p2), .val (.int p3), .val (.long q4), .second, .val (.int p5), .val (.int bL), .val (.int bR), .val (.int bLL), .unset, .unset, .unset, .unset, .unset, .unset, .unset, .unset, .unset] [(.int bR)])) _
      refine XS.ifNo X0.here hx rfl (hb hby at_49) rfl ((if0 _ _).trans (feq hc49).1) ?_
      show Steps p.tables e below (s₁.setTop (mkF m 52 #[.val (.int p0), .val (.int p1), .val (.int p2), .val (.int p3), .val (.long q4), .second, .val (.int p5), .val (.int bL), .val (.int bR), .val (.int bLL), .unset, .unset, .unset, .unset, .unset, .unset, .unset, .unset, .unset] [])) _
      refine XS.iload X0.here hx rfl (hb hby at_52) rfl ?_
      show Steps p.tables e below (s₁.setTop (mkF m 54 #[.val (.int p0), .val (.int p1), .val (.int p2), .val (.int p3), .val (.long q4), .second, .val (.int p5), .val (.int bL), .val (.int bR), .val (.int bLL), .unset, .unset, .unset, .unset, .unset, .unset, .unset, .unset, .unset] [(.int p5)])) _
      refine XS.bipush X0.here hx rfl (hb hby at_54) ?_
      show Steps p.tables e below (s₁.setTop (mkF m 56 #[.val (.int p0), .val (.int p1), .val (.int p2), .val (.int p3), .val (.long q4), .second, .val (.int p5), .val (.int bL), .val (.int bR), .val (.int bLL), .unset, .unset, .unset, .unset, .unset, .unset, .unset, .unset, .unset] [(.int (8 : Int32)), (.int p5)])) _
      refine XS.iand X0.here hx rfl (hb hby at_56) rfl ?_
      by_cases hc57 : (p5 &&& (8 : Int32)) = (0 : Int32)
      · show Steps p.tables e below (s₁.setTop (mkF m 57 #[.val (.int p0), .val (.int p1), .val (.int p2), .val (.int p3), .val (.long q4), .second, .val (.int p5), .val (.int bL), .val (.int bR), .val (.int bLL), .unset, .unset, .unset, .unset, .unset, .unset, .unset, .unset, .unset] [(.int (p5 &&& (8 : Int32)))])) _
        refine XS.ifYes X0.here hx rfl (pc0 := 57) (pc' := 64) rfl (hb hby at_57) rfl ((if0 _ _).trans (teq hc57).1) (by decide) (by decide) ?_
        show Steps p.tables e below (s₁.setTop (mkF m 64 #[.val (.int p0), .val (.int p1), .val (.int p2), .val (.int p3), .val (.long q4), .second, .val (.int p5), .val (.int bL), .val (.int bR), .val (.int bLL), .unset, .unset, .unset, .unset, .unset, .unset, .unset, .unset, .unset] [])) _
        refine XS.iconst X0.here hx rfl (hb hby at_64) ?_
        rw [show bRR = (0 : Int32) from by rw [hbRR, if_neg hc49, if_pos hc57]] at kt
        exact kt
      · show Steps p.tables e below (s₁.setTop (mkF m 57 #[.val (.int p0), .val (.int p1), .val (.int p2), .val (.int p3), .val (.long q4), .second, .val (.int p5), .val (.int bL), .val (.int bR), .val (.int bLL), .unset, .unset, .unset, .unset, .unset, .unset, .unset, .unset, .unset] [(.int (p5 &&& (8 : Int32)))])) _
        refine XS.ifNo X0.here hx rfl (hb hby at_57) rfl ((if0 _ _).trans (feq hc57).1) ?_
        show Steps p.tables e below (s₁.setTop (mkF m 60 #[.val (.int p0), .val (.int p1), .val (.int p2), .val (.int p3), .val (.long q4), .second, .val (.int p5), .val (.int bL), .val (.int bR), .val (.int bLL), .unset, .unset, .unset, .unset, .unset, .unset, .unset, .unset, .unset] [])) _
        refine XS.iconst X0.here hx rfl (hb hby at_60) ?_
        show Steps p.tables e below (s₁.setTop (mkF m 61 #[.val (.int p0), .val (.int p1), .val (.int p2), .val (.int p3), .val (.long q4), .second, .val (.int p5), .val (.int bL), .val (.int bR), .val (.int bLL), .unset, .unset, .unset, .unset, .unset, .unset, .unset, .unset, .unset] [(.int (1 : Int32))])) _
        refine XS.goto X0.here hx rfl (pc0 := 61) (pc' := 65) rfl (hb hby at_61) (by decide) (by decide) ?_
        rw [show bRR = (1 : Int32) from by rw [hbRR, if_neg hc49, if_neg hc57]] at kt
        exact kt
  refine own_go (B := s₁.setTop (mkF m 88 #[.val (.int p0), .val (.int p1), .val (.int p2), .val (.int p3), .val (.long q4), .second, .val (.int p5), .val (.int bL), .val (.int bR), .val (.int bLL), .val (.int bRR), .val (.int (q4.toInt32)), .val (.int (((q4.toUInt64 >>> ((32 : Int32) &&& 0x3f).toInt64.toUInt64).toInt64).toInt32)), .val (.int (((q4.toUInt64 >>> ((16 : Int32) &&& 0x3f).toInt64.toUInt64).toInt64).toInt32)), .unset, .unset, .unset, .unset, .unset] [])) (fun t kt => ?_) ?_
  · show Steps p.tables e below (s₁.setTop (mkF m 65 #[.val (.int p0), .val (.int p1), .val (.int p2), .val (.int p3), .val (.long q4), .second, .val (.int p5), .val (.int bL), .val (.int bR), .val (.int bLL), .unset, .unset, .unset, .unset, .unset, .unset, .unset, .unset, .unset] [(.int bRR)])) _
    refine XS.istore X0.here hx rfl (hb hby at_65) rfl (l' := #[.val (.int p0), .val (.int p1), .val (.int p2), .val (.int p3), .val (.long q4), .second, .val (.int p5), .val (.int bL), .val (.int bR), .val (.int bLL), .val (.int bRR), .unset, .unset, .unset, .unset, .unset, .unset, .unset, .unset]) rfl ?_
    show Steps p.tables e below (s₁.setTop (mkF m 67 #[.val (.int p0), .val (.int p1), .val (.int p2), .val (.int p3), .val (.long q4), .second, .val (.int p5), .val (.int bL), .val (.int bR), .val (.int bLL), .val (.int bRR), .unset, .unset, .unset, .unset, .unset, .unset, .unset, .unset] [])) _
    refine XS.lload X0.here hx rfl (hb hby at_67) rfl ?_
    show Steps p.tables e below (s₁.setTop (mkF m 69 #[.val (.int p0), .val (.int p1), .val (.int p2), .val (.int p3), .val (.long q4), .second, .val (.int p5), .val (.int bL), .val (.int bR), .val (.int bLL), .val (.int bRR), .unset, .unset, .unset, .unset, .unset, .unset, .unset, .unset] [(.long q4)])) _
    refine XS.l2i X0.here hx rfl (hb hby at_69) rfl ?_
    show Steps p.tables e below (s₁.setTop (mkF m 70 #[.val (.int p0), .val (.int p1), .val (.int p2), .val (.int p3), .val (.long q4), .second, .val (.int p5), .val (.int bL), .val (.int bR), .val (.int bLL), .val (.int bRR), .unset, .unset, .unset, .unset, .unset, .unset, .unset, .unset] [(.int (q4.toInt32))])) _
    refine XS.istore X0.here hx rfl (hb hby at_70) rfl (l' := #[.val (.int p0), .val (.int p1), .val (.int p2), .val (.int p3), .val (.long q4), .second, .val (.int p5), .val (.int bL), .val (.int bR), .val (.int bLL), .val (.int bRR), .val (.int (q4.toInt32)), .unset, .unset, .unset, .unset, .unset, .unset, .unset]) rfl ?_
    show Steps p.tables e below (s₁.setTop (mkF m 72 #[.val (.int p0), .val (.int p1), .val (.int p2), .val (.int p3), .val (.long q4), .second, .val (.int p5), .val (.int bL), .val (.int bR), .val (.int bLL), .val (.int bRR), .val (.int (q4.toInt32)), .unset, .unset, .unset, .unset, .unset, .unset, .unset] [])) _
    refine XS.lload X0.here hx rfl (hb hby at_72) rfl ?_
    show Steps p.tables e below (s₁.setTop (mkF m 74 #[.val (.int p0), .val (.int p1), .val (.int p2), .val (.int p3), .val (.long q4), .second, .val (.int p5), .val (.int bL), .val (.int bR), .val (.int bLL), .val (.int bRR), .val (.int (q4.toInt32)), .unset, .unset, .unset, .unset, .unset, .unset, .unset] [(.long q4)])) _
    refine XS.bipush X0.here hx rfl (hb hby at_74) ?_
    show Steps p.tables e below (s₁.setTop (mkF m 76 #[.val (.int p0), .val (.int p1), .val (.int p2), .val (.int p3), .val (.long q4), .second, .val (.int p5), .val (.int bL), .val (.int bR), .val (.int bLL), .val (.int bRR), .val (.int (q4.toInt32)), .unset, .unset, .unset, .unset, .unset, .unset, .unset] [(.int (32 : Int32)), (.long q4)])) _
    refine XS.lushr X0.here hx rfl (hb hby at_76) rfl ?_
    show Steps p.tables e below (s₁.setTop (mkF m 77 #[.val (.int p0), .val (.int p1), .val (.int p2), .val (.int p3), .val (.long q4), .second, .val (.int p5), .val (.int bL), .val (.int bR), .val (.int bLL), .val (.int bRR), .val (.int (q4.toInt32)), .unset, .unset, .unset, .unset, .unset, .unset, .unset] [(.long ((q4.toUInt64 >>> ((32 : Int32) &&& 0x3f).toInt64.toUInt64).toInt64))])) _
    refine XS.l2i X0.here hx rfl (hb hby at_77) rfl ?_
    show Steps p.tables e below (s₁.setTop (mkF m 78 #[.val (.int p0), .val (.int p1), .val (.int p2), .val (.int p3), .val (.long q4), .second, .val (.int p5), .val (.int bL), .val (.int bR), .val (.int bLL), .val (.int bRR), .val (.int (q4.toInt32)), .unset, .unset, .unset, .unset, .unset, .unset, .unset] [(.int (((q4.toUInt64 >>> ((32 : Int32) &&& 0x3f).toInt64.toUInt64).toInt64).toInt32))])) _
    refine XS.istore X0.here hx rfl (hb hby at_78) rfl (l' := #[.val (.int p0), .val (.int p1), .val (.int p2), .val (.int p3), .val (.long q4), .second, .val (.int p5), .val (.int bL), .val (.int bR), .val (.int bLL), .val (.int bRR), .val (.int (q4.toInt32)), .val (.int (((q4.toUInt64 >>> ((32 : Int32) &&& 0x3f).toInt64.toUInt64).toInt64).toInt32)), .unset, .unset, .unset, .unset, .unset, .unset]) rfl ?_
    show Steps p.tables e below (s₁.setTop (mkF m 80 #[.val (.int p0), .val (.int p1), .val (.int p2), .val (.int p3), .val (.long q4), .second, .val (.int p5), .val (.int bL), .val (.int bR), .val (.int bLL), .val (.int bRR), .val (.int (q4.toInt32)), .val (.int (((q4.toUInt64 >>> ((32 : Int32) &&& 0x3f).toInt64.toUInt64).toInt64).toInt32)), .unset, .unset, .unset, .unset, .unset, .unset] [])) _
    refine XS.lload X0.here hx rfl (hb hby at_80) rfl ?_
    show Steps p.tables e below (s₁.setTop (mkF m 82 #[.val (.int p0), .val (.int p1), .val (.int p2), .val (.int p3), .val (.long q4), .second, .val (.int p5), .val (.int bL), .val (.int bR), .val (.int bLL), .val (.int bRR), .val (.int (q4.toInt32)), .val (.int (((q4.toUInt64 >>> ((32 : Int32) &&& 0x3f).toInt64.toUInt64).toInt64).toInt32)), .unset, .unset, .unset, .unset, .unset, .unset] [(.long q4)])) _
    refine XS.bipush X0.here hx rfl (hb hby at_82) ?_
    show Steps p.tables e below (s₁.setTop (mkF m 84 #[.val (.int p0), .val (.int p1), .val (.int p2), .val (.int p3), .val (.long q4), .second, .val (.int p5), .val (.int bL), .val (.int bR), .val (.int bLL), .val (.int bRR), .val (.int (q4.toInt32)), .val (.int (((q4.toUInt64 >>> ((32 : Int32) &&& 0x3f).toInt64.toUInt64).toInt64).toInt32)), .unset, .unset, .unset, .unset, .unset, .unset] [(.int (16 : Int32)), (.long q4)])) _
    refine XS.lushr X0.here hx rfl (hb hby at_84) rfl ?_
    show Steps p.tables e below (s₁.setTop (mkF m 85 #[.val (.int p0), .val (.int p1), .val (.int p2), .val (.int p3), .val (.long q4), .second, .val (.int p5), .val (.int bL), .val (.int bR), .val (.int bLL), .val (.int bRR), .val (.int (q4.toInt32)), .val (.int (((q4.toUInt64 >>> ((32 : Int32) &&& 0x3f).toInt64.toUInt64).toInt64).toInt32)), .unset, .unset, .unset, .unset, .unset, .unset] [(.long ((q4.toUInt64 >>> ((16 : Int32) &&& 0x3f).toInt64.toUInt64).toInt64))])) _
    refine XS.l2i X0.here hx rfl (hb hby at_85) rfl ?_
    show Steps p.tables e below (s₁.setTop (mkF m 86 #[.val (.int p0), .val (.int p1), .val (.int p2), .val (.int p3), .val (.long q4), .second, .val (.int p5), .val (.int bL), .val (.int bR), .val (.int bLL), .val (.int bRR), .val (.int (q4.toInt32)), .val (.int (((q4.toUInt64 >>> ((32 : Int32) &&& 0x3f).toInt64.toUInt64).toInt64).toInt32)), .unset, .unset, .unset, .unset, .unset, .unset] [(.int (((q4.toUInt64 >>> ((16 : Int32) &&& 0x3f).toInt64.toUInt64).toInt64).toInt32))])) _
    refine XS.istore X0.here hx rfl (hb hby at_86) rfl (l' := #[.val (.int p0), .val (.int p1), .val (.int p2), .val (.int p3), .val (.long q4), .second, .val (.int p5), .val (.int bL), .val (.int bR), .val (.int bLL), .val (.int bRR), .val (.int (q4.toInt32)), .val (.int (((q4.toUInt64 >>> ((32 : Int32) &&& 0x3f).toInt64.toUInt64).toInt64).toInt32)), .val (.int (((q4.toUInt64 >>> ((16 : Int32) &&& 0x3f).toInt64.toUInt64).toInt64).toInt32)), .unset, .unset, .unset, .unset, .unset]) rfl ?_
    exact kt
  generalize (q4.toInt32) = xl
  generalize (((q4.toUInt64 >>> ((32 : Int32) &&& 0x3f).toInt64.toUInt64).toInt64).toInt32) = xh
  generalize (((q4.toUInt64 >>> ((16 : Int32) &&& 0x3f).toInt64.toUInt64).toInt64).toInt32) = xm
  refine own_go (B := s₁.setTop (mkF m 92 #[.val (.int p0), .val (.int p1), .val (.int p2), .val (.int p3), .val (.long q4), .second, .val (.int p5), .val (.int bL), .val (.int bR), .val (.int bLL), .val (.int bRR), .val (.int xl), .val (.int xh), .val (.int xm), .unset, .unset, .unset, .unset, .unset] [(.int p3), (.int p2), (.int p1), (.int p0)])) (fun t kt => ?_) ?_
  · show Steps p.tables e below (s₁.setTop (mkF m 88 #[.val (.int p0), .val (.int p1), .val (.int p2), .val (.int p3), .val (.long q4), .second, .val (.int p5), .val (.int bL), .val (.int bR), .val (.int bLL), .val (.int bRR), .val (.int xl), .val (.int xh), .val (.int xm), .unset, .unset, .unset, .unset, .unset] [])) _
    refine XS.iloadN X0.here hx rfl (hb hby at_88) rfl ?_
    show Steps p.tables e below (s₁.setTop (mkF m 89 #[.val (.int p0), .val (.int p1), .val (.int p2), .val (.int p3), .val (.long q4), .second, .val (.int p5), .val (.int bL), .val (.int bR), .val (.int bLL), .val (.int bRR), .val (.int xl), .val (.int xh), .val (.int xm), .unset, .unset, .unset, .unset, .unset] [(.int p0)])) _
    refine XS.iloadN X0.here hx rfl (hb hby at_89) rfl ?_
    show Steps p.tables e below (s₁.setTop (mkF m 90 #[.val (.int p0), .val (.int p1), .val (.int p2), .val (.int p3), .val (.long q4), .second, .val (.int p5), .val (.int bL), .val (.int bR), .val (.int bLL), .val (.int bRR), .val (.int xl), .val (.int xh), .val (.int xm), .unset, .unset, .unset, .unset, .unset] [(.int p1), (.int p0)])) _
    refine XS.iloadN X0.here hx rfl (hb hby at_90) rfl ?_
    show Steps p.tables e below (s₁.setTop (mkF m 91 #[.val (.int p0), .val (.int p1), .val (.int p2), .val (.int p3), .val (.long q4), .second, .val (.int p5), .val (.int bL), .val (.int bR), .val (.int bLL), .val (.int bRR), .val (.int xl), .val (.int xh), .val (.int xm), .unset, .unset, .unset, .unset, .unset] [(.int p2), (.int p1), (.int p0)])) _
    refine XS.iloadN X0.here hx rfl (hb hby at_91) rfl ?_
    exact kt
  obtain ⟨_, _, ⟨T1, L1, k1, n1⟩, -, X1, ⟨Lc1, hQ1, l1, y1, z1⟩, st1⟩ := Jvm.LawKit.callS X0 hx (y := (⟨"com/example/fleetwire/fleetwire/bench/TreeFieldSumPinLaw", "node", "(IIII)Lcom/example/fleetwire/fleetwire/bench/Bench$Tree;"⟩ : MethodName)) hown (mvT hZ (hw _ (List.mem_of_getElem? (i := 0) rfl))) (mvT hZ (hw _ (List.mem_of_getElem? (i := 1) rfl))) (mvT hZ (hw _ (List.mem_of_getElem? (i := 2) rfl))) (mvT hZ (hw _ (List.mem_of_getElem? (i := 3) rfl))) (by decide) (backOf (W := 0) (rm1 l Z t0 hw [] p0 p1 p2 p3 h0 n0 Z0) hZ (hw _ (List.mem_of_getElem? (i := 3) rfl)) (hw _ (List.mem_of_getElem? (i := 2) rfl)) (by decide) (by decide)) (g := (mkF m 92 #[.val (.int p0), .val (.int p1), .val (.int p2), .val (.int p3), .val (.long q4), .second, .val (.int p5), .val (.int bL), .val (.int bR), .val (.int bLL), .val (.int bRR), .val (.int xl), .val (.int xh), .val (.int xm), .unset, .unset, .unset, .unset, .unset] [(.int p3), (.int p2), (.int p1), (.int p0)])) rfl (by rw [hml]; rfl) (argsL := [(.int p0), (.int p1), (.int p2), (.int p3)]) (rest := []) (lenOf pd_0_0 rfl) rfl (by show 2 * 0 + _ ≤ _; exact Nat.le_of_eq rfl) (hb hby at_92) (fun _ _ => ⟨rfl, e0, (by decide : 0 + 1 ≤ _), (by decide : 0 + 6 ≤ _)⟩)
  dsimp only [Pt.U, Pt.locs, Pt.cells, Pt.slots] at X1 l1 y1 z1 st1 hQ1
  subst l1 y1 z1
  obtain ⟨root, rfl, Nq1, Kc1, zb1, gb1, ex1, fa1, fb1, fc1, fd1, fleft1, fright1⟩ := hQ1
  have N1 := Fr.app N0 Nq1
  obtain ⟨h1, e1⟩ : ∃ z, T1.heap = z := ⟨_, rfl⟩
  rw [e1] at Kc1 fa1 fb1 fc1 fd1 fleft1 fright1 ex1
  have Z1 : n0 ≤ h1.size := Nat.le_trans Z0 Kc1.1
  refine own_go (B := T1.setTop (mkF m 95 #[.val (.int p0), .val (.int p1), .val (.int p2), .val (.int p3), .val (.long q4), .second, .val (.int p5), .val (.int bL), .val (.int bR), .val (.int bLL), .val (.int bRR), .val (.int xl), .val (.int xh), .val (.int xm), .unset, .unset, .unset, .unset, .unset] [(.ref root)])) (fun t kt => st1 t kt) ?_
  refine own_go (B := T1.setTop (mkF m 101 #[.val (.int p0), .val (.int p1), .val (.int p2), .val (.int p3), .val (.long q4), .second, .val (.int p5), .val (.int bL), .val (.int bR), .val (.int bLL), .val (.int bRR), .val (.int xl), .val (.int xh), .val (.int xm), .val (.ref root), .unset, .unset, .unset, .unset] [(.int p3), (.int p2), (.int p1), (.int p0)])) (fun t kt => ?_) ?_
  · show Steps p.tables e below (T1.setTop (mkF m 95 #[.val (.int p0), .val (.int p1), .val (.int p2), .val (.int p3), .val (.long q4), .second, .val (.int p5), .val (.int bL), .val (.int bR), .val (.int bLL), .val (.int bRR), .val (.int xl), .val (.int xh), .val (.int xm), .unset, .unset, .unset, .unset, .unset] [(.ref root)])) _
    refine XS.astore X1.here hx rfl (hb hby at_95) rfl rfl (l' := #[.val (.int p0), .val (.int p1), .val (.int p2), .val (.int p3), .val (.long q4), .second, .val (.int p5), .val (.int bL), .val (.int bR), .val (.int bLL), .val (.int bRR), .val (.int xl), .val (.int xh), .val (.int xm), .val (.ref root), .unset, .unset, .unset, .unset]) rfl ?_
    show Steps p.tables e below (T1.setTop (mkF m 97 #[.val (.int p0), .val (.int p1), .val (.int p2), .val (.int p3), .val (.long q4), .second, .val (.int p5), .val (.int bL), .val (.int bR), .val (.int bLL), .val (.int bRR), .val (.int xl), .val (.int xh), .val (.int xm), .val (.ref root), .unset, .unset, .unset, .unset] [])) _
    refine XS.iloadN X1.here hx rfl (hb hby at_97) rfl ?_
    show Steps p.tables e below (T1.setTop (mkF m 98 #[.val (.int p0), .val (.int p1), .val (.int p2), .val (.int p3), .val (.long q4), .second, .val (.int p5), .val (.int bL), .val (.int bR), .val (.int bLL), .val (.int bRR), .val (.int xl), .val (.int xh), .val (.int xm), .val (.ref root), .unset, .unset, .unset, .unset] [(.int p0)])) _
    refine XS.iloadN X1.here hx rfl (hb hby at_98) rfl ?_
    show Steps p.tables e below (T1.setTop (mkF m 99 #[.val (.int p0), .val (.int p1), .val (.int p2), .val (.int p3), .val (.long q4), .second, .val (.int p5), .val (.int bL), .val (.int bR), .val (.int bLL), .val (.int bRR), .val (.int xl), .val (.int xh), .val (.int xm), .val (.ref root), .unset, .unset, .unset, .unset] [(.int p1), (.int p0)])) _
    refine XS.iloadN X1.here hx rfl (hb hby at_99) rfl ?_
    show Steps p.tables e below (T1.setTop (mkF m 100 #[.val (.int p0), .val (.int p1), .val (.int p2), .val (.int p3), .val (.long q4), .second, .val (.int p5), .val (.int bL), .val (.int bR), .val (.int bLL), .val (.int bRR), .val (.int xl), .val (.int xh), .val (.int xm), .val (.ref root), .unset, .unset, .unset, .unset] [(.int p2), (.int p1), (.int p0)])) _
    refine XS.iloadN X1.here hx rfl (hb hby at_100) rfl ?_
    exact kt
  obtain ⟨_, _, ⟨T2, L2, k2, n2⟩, -, X2, ⟨Lc2, hQ2, l2, y2, z2⟩, st2⟩ := Jvm.LawKit.callS X1 hx (y := (⟨"com/example/fleetwire/fleetwire/bench/TreeFieldSumPinLaw", "s", "(IIII)J"⟩ : MethodName)) hown (mvT hZ (hw _ (List.mem_of_getElem? (i := 21) rfl))) (mvT hZ (hw _ (List.mem_of_getElem? (i := 22) rfl))) (mvT hZ (hw _ (List.mem_of_getElem? (i := 2) rfl))) (mvT hZ (hw _ (List.mem_of_getElem? (i := 23) rfl))) (by decide) (backOf (W := 0) (rm4 l Z t0 hw [] p0 p1 p2 p3 h1 n0 Z1) hZ (hw _ (List.mem_of_getElem? (i := 23) rfl)) (hw _ (List.mem_of_getElem? (i := 2) rfl)) (by decide) (by decide)) (g := (mkF m 101 #[.val (.int p0), .val (.int p1), .val (.int p2), .val (.int p3), .val (.long q4), .second, .val (.int p5), .val (.int bL), .val (.int bR), .val (.int bLL), .val (.int bRR), .val (.int xl), .val (.int xh), .val (.int xm), .val (.ref root), .unset, .unset, .unset, .unset] [(.int p3), (.int p2), (.int p1), (.int p0)])) rfl (by rw [hml]; rfl) (argsL := [(.int p0), (.int p1), (.int p2), (.int p3)]) (rest := []) (lenOf pd_0_1 rfl) rfl (by show 2 * 0 + _ ≤ _; exact Nat.le_of_eq rfl) (hb hby at_101) (fun _ _ => ⟨rfl, e1, (by decide : 1 + 0 ≤ _), (by decide : 6 + 0 ≤ _)⟩)
  dsimp only [Pt.U, Pt.locs, Pt.cells, Pt.slots] at X2 l2 y2 z2 st2 hQ2
  subst l2 y2 z2
  obtain ⟨rfl, Nq2, hh2⟩ := hQ2
  have N2 := Fr.app N1 Nq2
  have e2 : T2.heap = h1 := hh2
  refine own_go (B := T2.setTop (mkF m 104 #[.val (.int p0), .val (.int p1), .val (.int p2), .val (.int p3), .val (.long q4), .second, .val (.int p5), .val (.int bL), .val (.int bR), .val (.int bLL), .val (.int bRR), .val (.int xl), .val (.int xh), .val (.int xm), .val (.ref root), .unset, .unset, .unset, .unset] [(.long (own4_f0 p0 p1 p2 p3))])) (fun t kt => st2 t kt) ?_
  refine own_go (B := T2.setTop (mkF m 108 #[.val (.int p0), .val (.int p1), .val (.int p2), .val (.int p3), .val (.long q4), .second, .val (.int p5), .val (.int bL), .val (.int bR), .val (.int bLL), .val (.int bRR), .val (.int xl), .val (.int xh), .val (.int xm), .val (.ref root), .val (.long (own4_f0 p0 p1 p2 p3)), .second, .unset, .unset] [(.int bL)])) (fun t kt => ?_) ?_
  · show Steps p.tables e below (T2.setTop (mkF m 104 #[.val (.int p0), .val (.int p1), .val (.int p2), .val (.int p3), .val (.long q4), .second, .val (.int p5), .val (.int bL), .val (.int bR), .val (.int bLL), .val (.int bRR), .val (.int xl), .val (.int xh), .val (.int xm), .val (.ref root), .unset, .unset, .unset, .unset] [(.long (own4_f0 p0 p1 p2 p3))])) _
    refine XS.lstore X2.here hx rfl (hb hby at_104) rfl (l' := #[.val (.int p0), .val (.int p1), .val (.int p2), .val (.int p3), .val (.long q4), .second, .val (.int p5), .val (.int bL), .val (.int bR), .val (.int bLL), .val (.int bRR), .val (.int xl), .val (.int xh), .val (.int xm), .val (.ref root), .val (.long (own4_f0 p0 p1 p2 p3)), .second, .unset, .unset]) rfl ?_
    show Steps p.tables e below (T2.setTop (mkF m 106 #[.val (.int p0), .val (.int p1), .val (.int p2), .val (.int p3), .val (.long q4), .second, .val (.int p5), .val (.int bL), .val (.int bR), .val (.int bLL), .val (.int bRR), .val (.int xl), .val (.int xh), .val (.int xm), .val (.ref root), .val (.long (own4_f0 p0 p1 p2 p3)), .second, .unset, .unset] [])) _
    refine XS.iload X2.here hx rfl (hb hby at_106) rfl ?_
    exact kt
  by_cases hcL : bL = (0 : Int32)
  · refine own_go (B := T2.setTop (mkF m 186 #[.val (.int p0), .val (.int p1), .val (.int p2), .val (.int p3), .val (.long q4), .second, .val (.int p5), .val (.int bL), .val (.int bR), .val (.int bLL), .val (.int bRR), .val (.int xl), .val (.int xh), .val (.int xm), .val (.ref root), .val (.long (own4_f0 p0 p1 p2 p3)), .second, .unset, .unset] [(.int bR)])) (fun t kt => ?_) ?_
    · show Steps p.tables e below (T2.setTop (mkF m 108 #[.val (.int p0), .val (.int p1), .val (.int p2), .val (.int p3), .val (.long q4), .second, .val (.int p5), .val (.int bL), .val (.int bR), .val (.int bLL), .val (.int bRR), .val (.int xl), .val (.int xh), .val (.int xm), .val (.ref root), .val (.long (own4_f0 p0 p1 p2 p3)), .second, .unset, .unset] [(.int bL)])) _
      refine XS.ifYes X2.here hx rfl (pc0 := 108) (pc' := 184) rfl (hb hby at_108) rfl ((if0 _ _).trans (teq hcL).1) (by decide) (by decide) ?_
      show Steps p.tables e below (T2.setTop (mkF m 184 #[.val (.int p0), .val (.int p1), .val (.int p2), .val (.int p3), .val (.long q4), .second, .val (.int p5), .val (.int bL), .val (.int bR), .val (.int bLL), .val (.int bRR), .val (.int xl), .val (.int xh), .val (.int xm), .val (.ref root), .val (.long (own4_f0 p0 p1 p2 p3)), .second, .unset, .unset] [])) _
      refine XS.iload X2.here hx rfl (hb hby at_184) rfl ?_
      exact kt
    by_cases hcR : bR = (0 : Int32)
    · refine own_go (B := T2.setTop (mkF m 272 #[.val (.int p0), .val (.int p1), .val (.int p2), .val (.int p3), .val (.long q4), .second, .val (.int p5), .val (.int bL), .val (.int bR), .val (.int bLL), .val (.int bRR), .val (.int xl), .val (.int xh), .val (.int xm), .val (.ref root), .val (.long (own4_f0 p0 p1 p2 p3)), .second, .unset, .unset] [(.ref root)])) (fun t kt => ?_) ?_
      · show Steps p.tables e below (T2.setTop (mkF m 186 #[.val (.int p0), .val (.int p1), .val (.int p2), .val (.int p3), .val (.long q4), .second, .val (.int p5), .val (.int bL), .val (.int bR), .val (.int bLL), .val (.int bRR), .val (.int xl), .val (.int xh), .val (.int xm), .val (.ref root), .val (.long (own4_f0 p0 p1 p2 p3)), .second, .unset, .unset] [(.int bR)])) _
        refine XS.ifYes X2.here hx rfl (pc0 := 186) (pc' := 270) rfl (hb hby at_186) rfl ((if0 _ _).trans (teq hcR).1) (by decide) (by decide) ?_
        show Steps p.tables e below (T2.setTop (mkF m 270 #[.val (.int p0), .val (.int p1), .val (.int p2), .val (.int p3), .val (.long q4), .second, .val (.int p5), .val (.int bL), .val (.int bR), .val (.int bLL), .val (.int bRR), .val (.int xl), .val (.int xh), .val (.int xm), .val (.ref root), .val (.long (own4_f0 p0 p1 p2 p3)), .second, .unset, .unset] [])) _
        refine XS.aload X2.here hx rfl (hb hby at_270) rfl rfl ?_
        exact kt
      have ht := (show own_t3 Z h1 root (((own4_f0 p0 p1 p2 p3) + (0 : Int64)) + (0 : Int64)) from ⟨_, _, _, _, _, _, _, _, ex1, fa1, fb1, fc1, fd1, fleft1, fright1, (Or.inl ⟨rfl, rfl⟩), (Or.inl ⟨rfl, rfl⟩), rfl⟩)
      obtain ⟨cq3, kq3, qa3, qb3, qc3⟩ := isOf hZ e2 ex1
      obtain ⟨_, _, ⟨T3, L3, k3, n3⟩, -, X3, ⟨Lc3, hQ3, l3, y3, z3⟩, st3⟩ := X2.virtualBack hx (y := (⟨"com/example/fleetwire/fleetwire/bench/Bench$Tree", "fieldSum", "()J"⟩ : MethodName)) (z := (⟨"com/example/fleetwire/fleetwire/bench/Bench$Tree", "fieldSum", "()J"⟩ : MethodName)) hown (mvT hZ (hw _ (List.mem_of_getElem? (i := 26) rfl))) (mvT hZ (hw _ (List.mem_of_getElem? (i := 27) rfl))) (notFace_of_selects (args := #[]) (mvT hZ (hw _ (List.mem_of_getElem? (i := 29) rfl)))) (mvT hZ (hw _ (List.mem_of_getElem? (i := 29) rfl))) (mvT hZ (hw _ (List.mem_of_getElem? (i := 28) rfl))) (by decide) (backOf (W := 0) (rm5_3 l Z t0 hw [] root (((own4_f0 p0 p1 p2 p3) + (0 : Int64)) + (0 : Int64)) h1 n0 Z1 ht) hZ (hw _ (List.mem_of_getElem? (i := 30) rfl)) (hw _ (List.mem_of_getElem? (i := 6) rfl)) (by decide) (by decide)) qa3 qc3 (g := (mkF m 272 #[.val (.int p0), .val (.int p1), .val (.int p2), .val (.int p3), .val (.long q4), .second, .val (.int p5), .val (.int bL), .val (.int bR), .val (.int bLL), .val (.int bRR), .val (.int xl), .val (.int xh), .val (.int xm), .val (.ref root), .val (.long (own4_f0 p0 p1 p2 p3)), .second, .unset, .unset] [(.ref root)])) rfl (by rw [hml]; rfl) (Steps.refl _) (argsL := []) (rest := []) (lenOf pd_0_2 rfl) rfl (by show 2 * 0 + _ ≤ _; exact Nat.le_of_eq rfl) (hb hby at_272) (fun _ _ => ⟨rfl, e2, (by decide : 1 + 0 ≤ _), (by decide : 6 + 0 ≤ _)⟩)
      dsimp only [Pt.U, Pt.locs, Pt.cells, Pt.slots] at X3 l3 y3 z3 st3 hQ3
      subst l3 y3 z3
      obtain ⟨rfl, Nq3, hh3⟩ := hQ3
      have N3 := Fr.app N2 Nq3
      have e3 : T3.heap = h1 := hh3
      refine own_go (B := T3.setTop (mkF m 275 #[.val (.int p0), .val (.int p1), .val (.int p2), .val (.int p3), .val (.long q4), .second, .val (.int p5), .val (.int bL), .val (.int bR), .val (.int bLL), .val (.int bRR), .val (.int xl), .val (.int xh), .val (.int xm), .val (.ref root), .val (.long (own4_f0 p0 p1 p2 p3)), .second, .unset, .unset] [(.long (((own4_f0 p0 p1 p2 p3) + (0 : Int64)) + (0 : Int64)))])) (fun t kt => st3.trans kt) ?_
      refine own_go (B := T3.setTop (mkF m 286 #[.val (.int p0), .val (.int p1), .val (.int p2), .val (.int p3), .val (.long q4), .second, .val (.int p5), .val (.int bL), .val (.int bR), .val (.int bLL), .val (.int bRR), .val (.int xl), .val (.int xh), .val (.int xm), .val (.ref root), .val (.long (own4_f0 p0 p1 p2 p3)), .second, .unset, .unset] [(.int (1 : Int32))])) (fun t kt => ?_) ?_
      · show Steps p.tables e below (T3.setTop (mkF m 275 #[.val (.int p0), .val (.int p1), .val (.int p2), .val (.int p3), .val (.long q4), .second, .val (.int p5), .val (.int bL), .val (.int bR), .val (.int bLL), .val (.int bRR), .val (.int xl), .val (.int xh), .val (.int xm), .val (.ref root), .val (.long (own4_f0 p0 p1 p2 p3)), .second, .unset, .unset] [(.long (((own4_f0 p0 p1 p2 p3) + (0 : Int64)) + (0 : Int64)))])) _
        refine XS.lload X3.here hx rfl (hb hby at_275) rfl ?_
        show Steps p.tables e below (T3.setTop (mkF m 277 #[.val (.int p0), .val (.int p1), .val (.int p2), .val (.int p3), .val (.long q4), .second, .val (.int p5), .val (.int bL), .val (.int bR), .val (.int bLL), .val (.int bRR), .val (.int xl), .val (.int xh), .val (.int xm), .val (.ref root), .val (.long (own4_f0 p0 p1 p2 p3)), .second, .unset, .unset] [(.long (own4_f0 p0 p1 p2 p3)), (.long (((own4_f0 p0 p1 p2 p3) + (0 : Int64)) + (0 : Int64)))])) _
        refine XS.lcmp X3.here hx rfl (hb hby at_277) rfl ?_
        show Steps p.tables e below (T3.setTop (mkF m 278 #[.val (.int p0), .val (.int p1), .val (.int p2), .val (.int p3), .val (.long q4), .second, .val (.int p5), .val (.int bL), .val (.int bR), .val (.int bLL), .val (.int bRR), .val (.int xl), .val (.int xh), .val (.int xm), .val (.ref root), .val (.long (own4_f0 p0 p1 p2 p3)), .second, .unset, .unset] [(.int (lcmpW (((own4_f0 p0 p1 p2 p3) + (0 : Int64)) + (0 : Int64)) (own4_f0 p0 p1 p2 p3)))])) _
        refine XS.ifNo X3.here hx rfl (hb hby at_278) rfl ((if0 _ _).trans (teq (show lcmpW (((own4_f0 p0 p1 p2 p3) + (0 : Int64)) + (0 : Int64)) (own4_f0 p0 p1 p2 p3) = (0 : Int32) from (lw_eq _ _).2 (by simp only [Int64.add_zero, Int64.add_assoc]))).2) ?_
        show Steps p.tables e below (T3.setTop (mkF m 281 #[.val (.int p0), .val (.int p1), .val (.int p2), .val (.int p3), .val (.long q4), .second, .val (.int p5), .val (.int bL), .val (.int bR), .val (.int bLL), .val (.int bRR), .val (.int xl), .val (.int xh), .val (.int xm), .val (.ref root), .val (.long (own4_f0 p0 p1 p2 p3)), .second, .unset, .unset] [])) _
        refine XS.iconst X3.here hx rfl (hb hby at_281) ?_
        show Steps p.tables e below (T3.setTop (mkF m 282 #[.val (.int p0), .val (.int p1), .val (.int p2), .val (.int p3), .val (.long q4), .second, .val (.int p5), .val (.int bL), .val (.int bR), .val (.int bLL), .val (.int bRR), .val (.int xl), .val (.int xh), .val (.int xm), .val (.ref root), .val (.long (own4_f0 p0 p1 p2 p3)), .second, .unset, .unset] [(.int (1 : Int32))])) _
        refine XS.goto X3.here hx rfl (pc0 := 282) (pc' := 286) rfl (hb hby at_282) (by decide) (by decide) ?_
        exact kt
      obtain ⟨fs, hr, hrun, hended, hW, hsame⟩ := X3.leave (v := some (.int (1 : Int32))) (fun h => by rw [Bd.returns] at h; cases h)
      refine ⟨_, _, ?_, hrun, hended, _, _, rfl, ?_, ⟨_, rfl⟩, hW, hsame.mono (by decide) (by decide)⟩
      · show Steps p.tables e below (T3.setTop (mkF m 286 #[.val (.int p0), .val (.int p1), .val (.int p2), .val (.int p3), .val (.long q4), .second, .val (.int p5), .val (.int bL), .val (.int bR), .val (.int bLL), .val (.int bRR), .val (.int xl), .val (.int xh), .val (.int xm), .val (.ref root), .val (.long (own4_f0 p0 p1 p2 p3)), .second, .unset, .unset] [(.int (1 : Int32))])) _
        exact retN X3 hx (t := .boolean) Bd.returns (by simp) (hb hby at_286) hr
      · show Q0 n0 _ _
        exact ⟨rfl, N3⟩
    · refine own_go (B := T2.setTop (mkF m 199 #[.val (.int p0), .val (.int p1), .val (.int p2), .val (.int p3), .val (.long q4), .second, .val (.int p5), .val (.int bL), .val (.int bR), .val (.int bLL), .val (.int bRR), .val (.int xl), .val (.int xh), .val (.int xm), .val (.ref root), .val (.long (own4_f0 p0 p1 p2 p3)), .second, .unset, .unset] [(.int (xh ^^^ p0)), (.int (p2 ^^^ (-1 : Int32))), (.int p3), (.int xm)])) (fun t kt => ?_) ?_
      · show Steps p.tables e below (T2.setTop (mkF m 186 #[.val (.int p0), .val (.int p1), .val (.int p2), .val (.int p3), .val (.long q4), .second, .val (.int p5), .val (.int bL), .val (.int bR), .val (.int bLL), .val (.int bRR), .val (.int xl), .val (.int xh), .val (.int xm), .val (.ref root), .val (.long (own4_f0 p0 p1 p2 p3)), .second, .unset, .unset] [(.int bR)])) _
        refine XS.ifNo X2.here hx rfl (hb hby at_186) rfl ((if0 _ _).trans (feq hcR).1) ?_
        show Steps p.tables e below (T2.setTop (mkF m 189 #[.val (.int p0), .val (.int p1), .val (.int p2), .val (.int p3), .val (.long q4), .second, .val (.int p5), .val (.int bL), .val (.int bR), .val (.int bLL), .val (.int bRR), .val (.int xl), .val (.int xh), .val (.int xm), .val (.ref root), .val (.long (own4_f0 p0 p1 p2 p3)), .second, .unset, .unset] [])) _
        refine XS.iload X2.here hx rfl (hb hby at_189) rfl ?_
        show Steps p.tables e below (T2.setTop (mkF m 191 #[.val (.int p0), .val (.int p1), .val (.int p2), .val (.int p3), .val (.long q4), .second, .val (.int p5), .val (.int bL), .val (.int bR), .val (.int bLL), .val (.int bRR), .val (.int xl), .val (.int xh), .val (.int xm), .val (.ref root), .val (.long (own4_f0 p0 p1 p2 p3)), .second, .unset, .unset] [(.int xm)])) _
        refine XS.iloadN X2.here hx rfl (hb hby at_191) rfl ?_
        show Steps p.tables e below (T2.setTop (mkF m 192 #[.val (.int p0), .val (.int p1), .val (.int p2), .val (.int p3), .val (.long q4), .second, .val (.int p5), .val (.int bL), .val (.int bR), .val (.int bLL), .val (.int bRR), .val (.int xl), .val (.int xh), .val (.int xm), .val (.ref root), .val (.long (own4_f0 p0 p1 p2 p3)), .second, .unset, .unset] [(.int p3), (.int xm)])) _
        refine XS.iloadN X2.here hx rfl (hb hby at_192) rfl ?_
        show Steps p.tables e below (T2.setTop (mkF m 193 #[.val (.int p0), .val (.int p1), .val (.int p2), .val (.int p3), .val (.long q4), .second, .val (.int p5), .val (.int bL), .val (.int bR), .val (.int bLL), .val (.int bRR), .val (.int xl), .val (.int xh), .val (.int xm), .val (.ref root), .val (.long (own4_f0 p0 p1 p2 p3)), .second, .unset, .unset] [(.int p2), (.int p3), (.int xm)])) _
        refine XS.iconst X2.here hx rfl (hb hby at_193) ?_
        show Steps p.tables e below (T2.setTop (mkF m 194 #[.val (.int p0), .val (.int p1), .val (.int p2), .val (.int p3), .val (.long q4), .second, .val (.int p5), .val (.int bL), .val (.int bR), .val (.int bLL), .val (.int bRR), .val (.int xl), .val (.int xh), .val (.int xm), .val (.ref root), .val (.long (own4_f0 p0 p1 p2 p3)), .second, .unset, .unset] [(.int (-1 : Int32)), (.int p2), (.int p3), (.int xm)])) _
        refine XS.ixor X2.here hx rfl (hb hby at_194) rfl ?_
        show Steps p.tables e below (T2.setTop (mkF m 195 #[.val (.int p0), .val (.int p1), .val (.int p2), .val (.int p3), .val (.long q4), .second, .val (.int p5), .val (.int bL), .val (.int bR), .val (.int bLL), .val (.int bRR), .val (.int xl), .val (.int xh), .val (.int xm), .val (.ref root), .val (.long (own4_f0 p0 p1 p2 p3)), .second, .unset, .unset] [(.int (p2 ^^^ (-1 : Int32))), (.int p3), (.int xm)])) _
        refine XS.iload X2.here hx rfl (hb hby at_195) rfl ?_
        show Steps p.tables e below (T2.setTop (mkF m 197 #[.val (.int p0), .val (.int p1), .val (.int p2), .val (.int p3), .val (.long q4), .second, .val (.int p5), .val (.int bL), .val (.int bR), .val (.int bLL), .val (.int bRR), .val (.int xl), .val (.int xh), .val (.int xm), .val (.ref root), .val (.long (own4_f0 p0 p1 p2 p3)), .second, .unset, .unset] [(.int xh), (.int (p2 ^^^ (-1 : Int32))), (.int p3), (.int xm)])) _
        refine XS.iloadN X2.here hx rfl (hb hby at_197) rfl ?_
        show Steps p.tables e below (T2.setTop (mkF m 198 #[.val (.int p0), .val (.int p1), .val (.int p2), .val (.int p3), .val (.long q4), .second, .val (.int p5), .val (.int bL), .val (.int bR), .val (.int bLL), .val (.int bRR), .val (.int xl), .val (.int xh), .val (.int xm), .val (.ref root), .val (.long (own4_f0 p0 p1 p2 p3)), .second, .unset, .unset] [(.int p0), (.int xh), (.int (p2 ^^^ (-1 : Int32))), (.int p3), (.int xm)])) _
        refine XS.ixor X2.here hx rfl (hb hby at_198) rfl ?_
        exact kt
      obtain ⟨_, _, ⟨T4, L4, k4, n4⟩, -, X4, ⟨Lc4, hQ4, l4, y4, z4⟩, st4⟩ := Jvm.LawKit.callS X2 hx (y := (⟨"com/example/fleetwire/fleetwire/bench/TreeFieldSumPinLaw", "node", "(IIII)Lcom/example/fleetwire/fleetwire/bench/Bench$Tree;"⟩ : MethodName)) hown (mvT hZ (hw _ (List.mem_of_getElem? (i := 0) rfl))) (mvT hZ (hw _ (List.mem_of_getElem? (i := 1) rfl))) (mvT hZ (hw _ (List.mem_of_getElem? (i := 2) rfl))) (mvT hZ (hw _ (List.mem_of_getElem? (i := 3) rfl))) (by decide) (backOf (W := 0) (rm1 l Z t0 hw [] xm p3 (p2 ^^^ (-1 : Int32)) (xh ^^^ p0) h1 n0 Z1) hZ (hw _ (List.mem_of_getElem? (i := 3) rfl)) (hw _ (List.mem_of_getElem? (i := 2) rfl)) (by decide) (by decide)) (g := (mkF m 199 #[.val (.int p0), .val (.int p1), .val (.int p2), .val (.int p3), .val (.long q4), .second, .val (.int p5), .val (.int bL), .val (.int bR), .val (.int bLL), .val (.int bRR), .val (.int xl), .val (.int xh), .val (.int xm), .val (.ref root), .val (.long (own4_f0 p0 p1 p2 p3)), .second, .unset, .unset] [(.int (xh ^^^ p0)), (.int (p2 ^^^ (-1 : Int32))), (.int p3), (.int xm)])) rfl (by rw [hml]; rfl) (argsL := [(.int xm), (.int p3), (.int (p2 ^^^ (-1 : Int32))), (.int (xh ^^^ p0))]) (rest := []) (lenOf pd_0_0 rfl) rfl (by show 2 * 0 + _ ≤ _; exact Nat.le_of_eq rfl) (hb hby at_199) (fun _ _ => ⟨rfl, e2, (by decide : 1 + 1 ≤ _), (by decide : 6 + 6 ≤ _)⟩)
      dsimp only [Pt.U, Pt.locs, Pt.cells, Pt.slots] at X4 l4 y4 z4 st4 hQ4
      subst l4 y4 z4
      obtain ⟨r, rfl, Nq4, Kc4, zb4, gb4, ex4, fa4, fb4, fc4, fd4, fleft4, fright4⟩ := hQ4
      have N4 := Fr.app N2 Nq4
      obtain ⟨h4, e4⟩ : ∃ z, T4.heap = z := ⟨_, rfl⟩
      rw [e4] at Kc4 fa4 fb4 fc4 fd4 fleft4 fright4 ex4
      have E_root_4 := ex1.keep Kc4
      have F_a_root_4 := fa1.keep Kc4 nin0
      have F_b_root_4 := fb1.keep Kc4 nin0
      have F_c_root_4 := fc1.keep Kc4 nin0
      have F_d_root_4 := fd1.keep Kc4 nin0
      have F_left_root_4 := fleft1.keep Kc4 nin0
      have F_right_root_4 := fright1.keep Kc4 nin0
      have Z4 : n0 ≤ h4.size := Nat.le_trans Z1 Kc4.1
      have ne_root_r : root ≠ r := Nat.ne_of_lt (Nat.lt_of_lt_of_le ex1.lt zb4)
      refine own_go (B := T4.setTop (mkF m 202 #[.val (.int p0), .val (.int p1), .val (.int p2), .val (.int p3), .val (.long q4), .second, .val (.int p5), .val (.int bL), .val (.int bR), .val (.int bLL), .val (.int bRR), .val (.int xl), .val (.int xh), .val (.int xm), .val (.ref root), .val (.long (own4_f0 p0 p1 p2 p3)), .second, .unset, .unset] [(.ref r)])) (fun t kt => st4 t kt) ?_
      refine own_go (B := T4.setTop (mkF m 216 #[.val (.int p0), .val (.int p1), .val (.int p2), .val (.int p3), .val (.long q4), .second, .val (.int p5), .val (.int bL), .val (.int bR), .val (.int bLL), .val (.int bRR), .val (.int xl), .val (.int xh), .val (.int xm), .val (.ref root), .val (.long (own4_f0 p0 p1 p2 p3)), .second, .val (.ref r), .unset] [(.int (xh ^^^ p0)), (.int (p2 ^^^ (-1 : Int32))), (.int p3), (.int xm), (.long (own4_f0 p0 p1 p2 p3))])) (fun t kt => ?_) ?_
      · show Steps p.tables e below (T4.setTop (mkF m 202 #[.val (.int p0), .val (.int p1), .val (.int p2), .val (.int p3), .val (.long q4), .second, .val (.int p5), .val (.int bL), .val (.int bR), .val (.int bLL), .val (.int bRR), .val (.int xl), .val (.int xh), .val (.int xm), .val (.ref root), .val (.long (own4_f0 p0 p1 p2 p3)), .second, .unset, .unset] [(.ref r)])) _
        refine XS.astore X4.here hx rfl (hb hby at_202) rfl rfl (l' := #[.val (.int p0), .val (.int p1), .val (.int p2), .val (.int p3), .val (.long q4), .second, .val (.int p5), .val (.int bL), .val (.int bR), .val (.int bLL), .val (.int bRR), .val (.int xl), .val (.int xh), .val (.int xm), .val (.ref root), .val (.long (own4_f0 p0 p1 p2 p3)), .second, .val (.ref r), .unset]) rfl ?_
        show Steps p.tables e below (T4.setTop (mkF m 204 #[.val (.int p0), .val (.int p1), .val (.int p2), .val (.int p3), .val (.long q4), .second, .val (.int p5), .val (.int bL), .val (.int bR), .val (.int bLL), .val (.int bRR), .val (.int xl), .val (.int xh), .val (.int xm), .val (.ref root), .val (.long (own4_f0 p0 p1 p2 p3)), .second, .val (.ref r), .unset] [])) _
        refine XS.lload X4.here hx rfl (hb hby at_204) rfl ?_
        show Steps p.tables e below (T4.setTop (mkF m 206 #[.val (.int p0), .val (.int p1), .val (.int p2), .val (.int p3), .val (.long q4), .second, .val (.int p5), .val (.int bL), .val (.int bR), .val (.int bLL), .val (.int bRR), .val (.int xl), .val (.int xh), .val (.int xm), .val (.ref root), .val (.long (own4_f0 p0 p1 p2 p3)), .second, .val (.ref r), .unset] [(.long (own4_f0 p0 p1 p2 p3))])) _
        refine XS.iload X4.here hx rfl (hb hby at_206) rfl ?_
        show Steps p.tables e below (T4.setTop (mkF m 208 #[.val (.int p0), .val (.int p1), .val (.int p2), .val (.int p3), .val (.long q4), .second, .val (.int p5), .val (.int bL), .val (.int bR), .val (.int bLL), .val (.int bRR), .val (.int xl), .val (.int xh), .val (.int xm), .val (.ref root), .val (.long (own4_f0 p0 p1 p2 p3)), .second, .val (.ref r), .unset] [(.int xm), (.long (own4_f0 p0 p1 p2 p3))])) _
        refine XS.iloadN X4.here hx rfl (hb hby at_208) rfl ?_
        show Steps p.tables e below (T4.setTop (mkF m 209 #[.val (.int p0), .val (.int p1), .val (.int p2), .val (.int p3), .val (.long q4), .second, .val (.int p5), .val (.int bL), .val (.int bR), .val (.int bLL), .val (.int bRR), .val (.int xl), .val (.int xh), .val (.int xm), .val (.ref root), .val (.long (own4_f0 p0 p1 p2 p3)), .second, .val (.ref r), .unset] [(.int p3), (.int xm), (.long (own4_f0 p0 p1 p2 p3))])) _
        refine XS.iloadN X4.here hx rfl (hb hby at_209) rfl ?_
        show Steps p.tables e below (T4.setTop (mkF m 210 #[.val (.int p0), .val (.int p1), .val (.int p2), .val (.int p3), .val (.long q4), .second, .val (.int p5), .val (.int bL), .val (.int bR), .val (.int bLL), .val (.int bRR), .val (.int xl), .val (.int xh), .val (.int xm), .val (.ref root), .val (.long (own4_f0 p0 p1 p2 p3)), .second, .val (.ref r), .unset] [(.int p2), (.int p3), (.int xm), (.long (own4_f0 p0 p1 p2 p3))])) _
        refine XS.iconst X4.here hx rfl (hb hby at_210) ?_
        show Steps p.tables e below (T4.setTop (mkF m 211 #[.val (.int p0), .val (.int p1), .val (.int p2), .val (.int p3), .val (.long q4), .second, .val (.int p5), .val (.int bL), .val (.int bR), .val (.int bLL), .val (.int bRR), .val (.int xl), .val (.int xh), .val (.int xm), .val (.ref root), .val (.long (own4_f0 p0 p1 p2 p3)), .second, .val (.ref r), .unset] [(.int (-1 : Int32)), (.int p2), (.int p3), (.int xm), (.long (own4_f0 p0 p1 p2 p3))])) _
        refine XS.ixor X4.here hx rfl (hb hby at_211) rfl ?_
        show Steps p.tables e below (T4.setTop (mkF m 212 #[.val (.int p0), .val (.int p1), .val (.int p2), .val (.int p3), .val (.long q4), .second, .val (.int p5), .val (.int bL), .val (.int bR), .val (.int bLL), .val (.int bRR), .val (.int xl), .val (.int xh), .val (.int xm), .val (.ref root), .val (.long (own4_f0 p0 p1 p2 p3)), .second, .val (.ref r), .unset] [(.int (p2 ^^^ (-1 : Int32))), (.int p3), (.int xm), (.long (own4_f0 p0 p1 p2 p3))])) _
        refine XS.iload X4.here hx rfl (hb hby at_212) rfl ?_
        show Steps p.tables e below (T4.setTop (mkF m 214 #[.val (.int p0), .val (.int p1), .val (.int p2), .val (.int p3), .val (.long q4), .second, .val (.int p5), .val (.int bL), .val (.int bR), .val (.int bLL), .val (.int bRR), .val (.int xl), .val (.int xh), .val (.int xm), .val (.ref root), .val (.long (own4_f0 p0 p1 p2 p3)), .second, .val (.ref r), .unset] [(.int xh), (.int (p2 ^^^ (-1 : Int32))), (.int p3), (.int xm), (.long (own4_f0 p0 p1 p2 p3))])) _
        refine XS.iloadN X4.here hx rfl (hb hby at_214) rfl ?_
        show Steps p.tables e below (T4.setTop (mkF m 215 #[.val (.int p0), .val (.int p1), .val (.int p2), .val (.int p3), .val (.long q4), .second, .val (.int p5), .val (.int bL), .val (.int bR), .val (.int bLL), .val (.int bRR), .val (.int xl), .val (.int xh), .val (.int xm), .val (.ref root), .val (.long (own4_f0 p0 p1 p2 p3)), .second, .val (.ref r), .unset] [(.int p0), (.int xh), (.int (p2 ^^^ (-1 : Int32))), (.int p3), (.int xm), (.long (own4_f0 p0 p1 p2 p3))])) _
        refine XS.ixor X4.here hx rfl (hb hby at_215) rfl ?_
        exact kt
      obtain ⟨_, _, ⟨T5, L5, k5, n5⟩, -, X5, ⟨Lc5, hQ5, l5, y5, z5⟩, st5⟩ := Jvm.LawKit.callS X4 hx (y := (⟨"com/example/fleetwire/fleetwire/bench/TreeFieldSumPinLaw", "s", "(IIII)J"⟩ : MethodName)) hown (mvT hZ (hw _ (List.mem_of_getElem? (i := 21) rfl))) (mvT hZ (hw _ (List.mem_of_getElem? (i := 22) rfl))) (mvT hZ (hw _ (List.mem_of_getElem? (i := 2) rfl))) (mvT hZ (hw _ (List.mem_of_getElem? (i := 23) rfl))) (by decide) (backOf (W := 2) (rm4 l Z t0 hw [] xm p3 (p2 ^^^ (-1 : Int32)) (xh ^^^ p0) h4 n0 Z4) hZ (hw _ (List.mem_of_getElem? (i := 23) rfl)) (hw _ (List.mem_of_getElem? (i := 2) rfl)) (by decide) (by decide)) (g := (mkF m 216 #[.val (.int p0), .val (.int p1), .val (.int p2), .val (.int p3), .val (.long q4), .second, .val (.int p5), .val (.int bL), .val (.int bR), .val (.int bLL), .val (.int bRR), .val (.int xl), .val (.int xh), .val (.int xm), .val (.ref root), .val (.long (own4_f0 p0 p1 p2 p3)), .second, .val (.ref r), .unset] [(.int (xh ^^^ p0)), (.int (p2 ^^^ (-1 : Int32))), (.int p3), (.int xm), (.long (own4_f0 p0 p1 p2 p3))])) rfl (by rw [hml]; rfl) (argsL := [(.int xm), (.int p3), (.int (p2 ^^^ (-1 : Int32))), (.int (xh ^^^ p0))]) (rest := [(.long (own4_f0 p0 p1 p2 p3))]) (lenOf pd_0_1 rfl) rfl (by show 2 * 0 + _ ≤ _; exact Nat.le_of_eq rfl) (hb hby at_216) (fun _ _ => ⟨rfl, e4, (by decide : 2 + 0 ≤ _), (by decide : 12 + 0 ≤ _)⟩)
      dsimp only [Pt.U, Pt.locs, Pt.cells, Pt.slots] at X5 l5 y5 z5 st5 hQ5
      subst l5 y5 z5
      obtain ⟨rfl, Nq5, hh5⟩ := hQ5
      have N5 := Fr.app N4 Nq5
      have e5 : T5.heap = h4 := hh5
      refine own_go (B := T5.setTop (mkF m 219 #[.val (.int p0), .val (.int p1), .val (.int p2), .val (.int p3), .val (.long q4), .second, .val (.int p5), .val (.int bL), .val (.int bR), .val (.int bLL), .val (.int bRR), .val (.int xl), .val (.int xh), .val (.int xm), .val (.ref root), .val (.long (own4_f0 p0 p1 p2 p3)), .second, .val (.ref r), .unset] [(.long (own4_f0 xm p3 (p2 ^^^ (-1 : Int32)) (xh ^^^ p0))), (.long (own4_f0 p0 p1 p2 p3))])) (fun t kt => st5 t kt) ?_
      refine own_go (B := T5.setTop (mkF m 224 #[.val (.int p0), .val (.int p1), .val (.int p2), .val (.int p3), .val (.long q4), .second, .val (.int p5), .val (.int bL), .val (.int bR), .val (.int bLL), .val (.int bRR), .val (.int xl), .val (.int xh), .val (.int xm), .val (.ref root), .val (.long ((own4_f0 p0 p1 p2 p3) + (own4_f0 xm p3 (p2 ^^^ (-1 : Int32)) (xh ^^^ p0)))), .second, .val (.ref r), .unset] [(.int bRR)])) (fun t kt => ?_) ?_
      · show Steps p.tables e below (T5.setTop (mkF m 219 #[.val (.int p0), .val (.int p1), .val (.int p2), .val (.int p3), .val (.long q4), .second, .val (.int p5), .val (.int bL), .val (.int bR), .val (.int bLL), .val (.int bRR), .val (.int xl), .val (.int xh), .val (.int xm), .val (.ref root), .val (.long (own4_f0 p0 p1 p2 p3)), .second, .val (.ref r), .unset] [(.long (own4_f0 xm p3 (p2 ^^^ (-1 : Int32)) (xh ^^^ p0))), (.long (own4_f0 p0 p1 p2 p3))])) _
        refine XS.ladd X5.here hx rfl (hb hby at_219) rfl ?_
        show Steps p.tables e below (T5.setTop (mkF m 220 #[.val (.int p0), .val (.int p1), .val (.int p2), .val (.int p3), .val (.long q4), .second, .val (.int p5), .val (.int bL), .val (.int bR), .val (.int bLL), .val (.int bRR), .val (.int xl), .val (.int xh), .val (.int xm), .val (.ref root), .val (.long (own4_f0 p0 p1 p2 p3)), .second, .val (.ref r), .unset] [(.long ((own4_f0 p0 p1 p2 p3) + (own4_f0 xm p3 (p2 ^^^ (-1 : Int32)) (xh ^^^ p0))))])) _
        refine XS.lstore X5.here hx rfl (hb hby at_220) rfl (l' := #[.val (.int p0), .val (.int p1), .val (.int p2), .val (.int p3), .val (.long q4), .second, .val (.int p5), .val (.int bL), .val (.int bR), .val (.int bLL), .val (.int bRR), .val (.int xl), .val (.int xh), .val (.int xm), .val (.ref root), .val (.long ((own4_f0 p0 p1 p2 p3) + (own4_f0 xm p3 (p2 ^^^ (-1 : Int32)) (xh ^^^ p0)))), .second, .val (.ref r), .unset]) rfl ?_
        show Steps p.tables e below (T5.setTop (mkF m 222 #[.val (.int p0), .val (.int p1), .val (.int p2), .val (.int p3), .val (.long q4), .second, .val (.int p5), .val (.int bL), .val (.int bR), .val (.int bLL), .val (.int bRR), .val (.int xl), .val (.int xh), .val (.int xm), .val (.ref root), .val (.long ((own4_f0 p0 p1 p2 p3) + (own4_f0 xm p3 (p2 ^^^ (-1 : Int32)) (xh ^^^ p0)))), .second, .val (.ref r), .unset] [])) _
        refine XS.iload X5.here hx rfl (hb hby at_222) rfl ?_
        exact kt
      by_cases hcRR : bRR = (0 : Int32)
      · refine own_go (B := T5.setTop (mkF m 267 #[.val (.int p0), .val (.int p1), .val (.int p2), .val (.int p3), .val (.long q4), .second, .val (.int p5), .val (.int bL), .val (.int bR), .val (.int bLL), .val (.int bRR), .val (.int xl), .val (.int xh), .val (.int xm), .val (.ref root), .val (.long ((own4_f0 p0 p1 p2 p3) + (own4_f0 xm p3 (p2 ^^^ (-1 : Int32)) (xh ^^^ p0)))), .second, .val (.ref r), .unset] [(.ref r), (.ref root)])) (fun t kt => ?_) ?_
        · show Steps p.tables e below (T5.setTop (mkF m 224 #[.val (.int p0), .val (.int p1), .val (.int p2), .val (.int p3), .val (.long q4), .second, .val (.int p5), .val (.int bL), .val (.int bR), .val (.int bLL), .val (.int bRR), .val (.int xl), .val (.int xh), .val (.int xm), .val (.ref root), .val (.long ((own4_f0 p0 p1 p2 p3) + (own4_f0 xm p3 (p2 ^^^ (-1 : Int32)) (xh ^^^ p0)))), .second, .val (.ref r), .unset] [(.int bRR)])) _
          refine XS.ifYes X5.here hx rfl (pc0 := 224) (pc' := 263) rfl (hb hby at_224) rfl ((if0 _ _).trans (teq hcRR).1) (by decide) (by decide) ?_
          show Steps p.tables e below (T5.setTop (mkF m 263 #[.val (.int p0), .val (.int p1), .val (.int p2), .val (.int p3), .val (.long q4), .second, .val (.int p5), .val (.int bL), .val (.int bR), .val (.int bLL), .val (.int bRR), .val (.int xl), .val (.int xh), .val (.int xm), .val (.ref root), .val (.long ((own4_f0 p0 p1 p2 p3) + (own4_f0 xm p3 (p2 ^^^ (-1 : Int32)) (xh ^^^ p0)))), .second, .val (.ref r), .unset] [])) _
          refine XS.aload X5.here hx rfl (hb hby at_263) rfl rfl ?_
          show Steps p.tables e below (T5.setTop (mkF m 265 #[.val (.int p0), .val (.int p1), .val (.int p2), .val (.int p3), .val (.long q4), .second, .val (.int p5), .val (.int bL), .val (.int bR), .val (.int bLL), .val (.int bRR), .val (.int xl), .val (.int xh), .val (.int xm), .val (.ref root), .val (.long ((own4_f0 p0 p1 p2 p3) + (own4_f0 xm p3 (p2 ^^^ (-1 : Int32)) (xh ^^^ p0)))), .second, .val (.ref r), .unset] [(.ref root)])) _
          refine XS.aload X5.here hx rfl (hb hby at_265) rfl rfl ?_
          exact kt
        obtain ⟨T6, h6, X6, e6, W6, st6⟩ := putF X5 hx hZ hown (host := "") (Or.inl (hw _ (List.mem_of_getElem? (i := 24) rfl))) Via.refl e5 F_right_root_4 E_root_4 (Or.inl (hw _ (List.mem_of_getElem? (i := 25) rfl))) (hw _ (List.mem_of_getElem? (i := 5) rfl)) (ty := (.object "com/example/fleetwire/fleetwire/bench/Bench$Tree")) (by decide) rfl rfl (g := (mkF m 267 #[.val (.int p0), .val (.int p1), .val (.int p2), .val (.int p3), .val (.long q4), .second, .val (.int p5), .val (.int bL), .val (.int bR), .val (.int bLL), .val (.int bRR), .val (.int xl), .val (.int xh), .val (.int xm), .val (.ref root), .val (.long ((own4_f0 p0 p1 p2 p3) + (own4_f0 xm p3 (p2 ^^^ (-1 : Int32)) (xh ^^^ p0)))), .second, .val (.ref r), .unset] [(.ref r), (.ref root)])) rfl rfl (hb hby at_267)
        have F_right_root_6 : Fld Z h6 root "com/example/fleetwire/fleetwire/bench/Bench$Tree" "right" "Lcom/example/fleetwire/fleetwire/bench/Bench$Tree;" (.ref r) := F_right_root_4.same W6
        have E_root_6 := E_root_4.wr W6
        have F_a_root_6 := F_a_root_4.other W6 (Or.inr (slot_ne (Or.inl (hw _ (List.mem_of_getElem? (i := 14) rfl))) (Or.inl (hw _ (List.mem_of_getElem? (i := 25) rfl))) (by decide) (t := .int) (t' := (.object "com/example/fleetwire/fleetwire/bench/Bench$Tree")) (by decide) (by decide)))
        have F_b_root_6 := F_b_root_4.other W6 (Or.inr (slot_ne (Or.inl (hw _ (List.mem_of_getElem? (i := 16) rfl))) (Or.inl (hw _ (List.mem_of_getElem? (i := 25) rfl))) (by decide) (t := .int) (t' := (.object "com/example/fleetwire/fleetwire/bench/Bench$Tree")) (by decide) (by decide)))
        have F_c_root_6 := F_c_root_4.other W6 (Or.inr (slot_ne (Or.inl (hw _ (List.mem_of_getElem? (i := 18) rfl))) (Or.inl (hw _ (List.mem_of_getElem? (i := 25) rfl))) (by decide) (t := .int) (t' := (.object "com/example/fleetwire/fleetwire/bench/Bench$Tree")) (by decide) (by decide)))
        have F_d_root_6 := F_d_root_4.other W6 (Or.inr (slot_ne (Or.inl (hw _ (List.mem_of_getElem? (i := 20) rfl))) (Or.inl (hw _ (List.mem_of_getElem? (i := 25) rfl))) (by decide) (t := .int) (t' := (.object "com/example/fleetwire/fleetwire/bench/Bench$Tree")) (by decide) (by decide)))
        have F_left_root_6 := F_left_root_4.other W6 (Or.inr (slot_ne (Or.inl (hw _ (List.mem_of_getElem? (i := 36) rfl))) (Or.inl (hw _ (List.mem_of_getElem? (i := 25) rfl))) (by decide) (t := (.object "com/example/fleetwire/fleetwire/bench/Bench$Tree")) (t' := (.object "com/example/fleetwire/fleetwire/bench/Bench$Tree")) (by decide) (by decide)))
        have E_r_6 := ex4.wr W6
        have F_a_r_6 := fa4.other W6 (Or.inl (Ne.symm ne_root_r))
        have F_b_r_6 := fb4.other W6 (Or.inl (Ne.symm ne_root_r))
        have F_c_r_6 := fc4.other W6 (Or.inl (Ne.symm ne_root_r))
        have F_d_r_6 := fd4.other W6 (Or.inl (Ne.symm ne_root_r))
        have F_left_r_6 := fleft4.other W6 (Or.inl (Ne.symm ne_root_r))
        have F_right_r_6 := fright4.other W6 (Or.inl (Ne.symm ne_root_r))
        have Z6 : n0 ≤ h6.size := Nat.le_trans Z4 (Keep.of_wr W6).1
        have N6 := Fr.snoc X6 N5 gb1
        refine own_go (B := T6.setTop (mkF m 270 #[.val (.int p0), .val (.int p1), .val (.int p2), .val (.int p3), .val (.long q4), .second, .val (.int p5), .val (.int bL), .val (.int bR), .val (.int bLL), .val (.int bRR), .val (.int xl), .val (.int xh), .val (.int xm), .val (.ref root), .val (.long ((own4_f0 p0 p1 p2 p3) + (own4_f0 xm p3 (p2 ^^^ (-1 : Int32)) (xh ^^^ p0)))), .second, .val (.ref r), .unset] [])) (fun t kt => st6 t kt) ?_
        refine own_go (B := T6.setTop (mkF m 272 #[.val (.int p0), .val (.int p1), .val (.int p2), .val (.int p3), .val (.long q4), .second, .val (.int p5), .val (.int bL), .val (.int bR), .val (.int bLL), .val (.int bRR), .val (.int xl), .val (.int xh), .val (.int xm), .val (.ref root), .val (.long ((own4_f0 p0 p1 p2 p3) + (own4_f0 xm p3 (p2 ^^^ (-1 : Int32)) (xh ^^^ p0)))), .second, .val (.ref r), .unset] [(.ref root)])) (fun t kt => ?_) ?_
        · show Steps p.tables e below (T6.setTop (mkF m 270 #[.val (.int p0), .val (.int p1), .val (.int p2), .val (.int p3), .val (.long q4), .second, .val (.int p5), .val (.int bL), .val (.int bR), .val (.int bLL), .val (.int bRR), .val (.int xl), .val (.int xh), .val (.int xm), .val (.ref root), .val (.long ((own4_f0 p0 p1 p2 p3) + (own4_f0 xm p3 (p2 ^^^ (-1 : Int32)) (xh ^^^ p0)))), .second, .val (.ref r), .unset] [])) _
          refine XS.aload X6.here hx rfl (hb hby at_270) rfl rfl ?_
          exact kt
        have ht := (show own_t3 Z h6 root (((own4_f0 p0 p1 p2 p3) + (0 : Int64)) + (((own4_f0 xm p3 (p2 ^^^ (-1 : Int32)) (xh ^^^ p0)) + (0 : Int64)) + (0 : Int64))) from ⟨_, _, _, _, _, _, _, _, E_root_6, F_a_root_6, F_b_root_6, F_c_root_6, F_d_root_6, F_left_root_6, F_right_root_6, (Or.inl ⟨rfl, rfl⟩), (Or.inr ⟨r, rfl, (show own_t2 Z h6 r (((own4_f0 xm p3 (p2 ^^^ (-1 : Int32)) (xh ^^^ p0)) + (0 : Int64)) + (0 : Int64)) from ⟨_, _, _, _, _, _, _, _, E_r_6, F_a_r_6, F_b_r_6, F_c_r_6, F_d_r_6, F_left_r_6, F_right_r_6, (Or.inl ⟨rfl, rfl⟩), (Or.inl ⟨rfl, rfl⟩), rfl⟩)⟩), rfl⟩)
        obtain ⟨cq7, kq7, qa7, qb7, qc7⟩ := isOf hZ e6 E_root_6
        obtain ⟨_, _, ⟨T7, L7, k7, n7⟩, -, X7, ⟨Lc7, hQ7, l7, y7, z7⟩, st7⟩ := X6.virtualBack hx (y := (⟨"com/example/fleetwire/fleetwire/bench/Bench$Tree", "fieldSum", "()J"⟩ : MethodName)) (z := (⟨"com/example/fleetwire/fleetwire/bench/Bench$Tree", "fieldSum", "()J"⟩ : MethodName)) hown (mvT hZ (hw _ (List.mem_of_getElem? (i := 26) rfl))) (mvT hZ (hw _ (List.mem_of_getElem? (i := 27) rfl))) (notFace_of_selects (args := #[]) (mvT hZ (hw _ (List.mem_of_getElem? (i := 29) rfl)))) (mvT hZ (hw _ (List.mem_of_getElem? (i := 29) rfl))) (mvT hZ (hw _ (List.mem_of_getElem? (i := 28) rfl))) (by decide) (backOf (W := 0) (rm5_3 l Z t0 hw [] root (((own4_f0 p0 p1 p2 p3) + (0 : Int64)) + (((own4_f0 xm p3 (p2 ^^^ (-1 : Int32)) (xh ^^^ p0)) + (0 : Int64)) + (0 : Int64))) h6 n0 Z6 ht) hZ (hw _ (List.mem_of_getElem? (i := 30) rfl)) (hw _ (List.mem_of_getElem? (i := 6) rfl)) (by decide) (by decide)) qa7 qc7 (g := (mkF m 272 #[.val (.int p0), .val (.int p1), .val (.int p2), .val (.int p3), .val (.long q4), .second, .val (.int p5), .val (.int bL), .val (.int bR), .val (.int bLL), .val (.int bRR), .val (.int xl), .val (.int xh), .val (.int xm), .val (.ref root), .val (.long ((own4_f0 p0 p1 p2 p3) + (own4_f0 xm p3 (p2 ^^^ (-1 : Int32)) (xh ^^^ p0)))), .second, .val (.ref r), .unset] [(.ref root)])) rfl (by rw [hml]; rfl) (Steps.refl _) (argsL := []) (rest := []) (lenOf pd_0_2 rfl) rfl (by show 2 * 0 + _ ≤ _; exact Nat.le_of_eq rfl) (hb hby at_272) (fun _ _ => ⟨rfl, e6, (by decide : 2 + 0 ≤ _), (by decide : 12 + 0 ≤ _)⟩)
        dsimp only [Pt.U, Pt.locs, Pt.cells, Pt.slots] at X7 l7 y7 z7 st7 hQ7
        subst l7 y7 z7
        obtain ⟨rfl, Nq7, hh7⟩ := hQ7
        have N7 := Fr.app N6 Nq7
        have e7 : T7.heap = h6 := hh7
        refine own_go (B := T7.setTop (mkF m 275 #[.val (.int p0), .val (.int p1), .val (.int p2), .val (.int p3), .val (.long q4), .second, .val (.int p5), .val (.int bL), .val (.int bR), .val (.int bLL), .val (.int bRR), .val (.int xl), .val (.int xh), .val (.int xm), .val (.ref root), .val (.long ((own4_f0 p0 p1 p2 p3) + (own4_f0 xm p3 (p2 ^^^ (-1 : Int32)) (xh ^^^ p0)))), .second, .val (.ref r), .unset] [(.long (((own4_f0 p0 p1 p2 p3) + (0 : Int64)) + (((own4_f0 xm p3 (p2 ^^^ (-1 : Int32)) (xh ^^^ p0)) + (0 : Int64)) + (0 : Int64))))])) (fun t kt => st7.trans kt) ?_
        refine own_go (B := T7.setTop (mkF m 286 #[.val (.int p0), .val (.int p1), .val (.int p2), .val (.int p3), .val (.long q4), .second, .val (.int p5), .val (.int bL), .val (.int bR), .val (.int bLL), .val (.int bRR), .val (.int xl), .val (.int xh), .val (.int xm), .val (.ref root), .val (.long ((own4_f0 p0 p1 p2 p3) + (own4_f0 xm p3 (p2 ^^^ (-1 : Int32)) (xh ^^^ p0)))), .second, .val (.ref r), .unset] [(.int (1 : Int32))])) (fun t kt => ?_) ?_
        · show Steps p.tables e below (T7.setTop (mkF m 275 #[.val (.int p0), .val (.int p1), .val (.int p2), .val (.int p3), .val (.long q4), .second, .val (.int p5), .val (.int bL), .val (.int bR), .val (.int bLL), .val (.int bRR), .val (.int xl), .val (.int xh), .val (.int xm), .val (.ref root), .val (.long ((own4_f0 p0 p1 p2 p3) + (own4_f0 xm p3 (p2 ^^^ (-1 : Int32)) (xh ^^^ p0)))), .second, .val (.ref r), .unset] [(.long (((own4_f0 p0 p1 p2 p3) + (0 : Int64)) + (((own4_f0 xm p3 (p2 ^^^ (-1 : Int32)) (xh ^^^ p0)) + (0 : Int64)) + (0 : Int64))))])) _
          refine XS.lload X7.here hx rfl (hb hby at_275) rfl ?_
          show Steps p.tables e below (T7.setTop (mkF m 277 #[.val (.int p0), .val (.int p1), .val (.int p2), .val (.int p3), .val (.long q4), .second, .val (.int p5), .val (.int bL), .val (.int bR), .val (.int bLL), .val (.int bRR), .val (.int xl), .val (.int xh), .val (.int xm), .val (.ref root), .val (.long ((own4_f0 p0 p1 p2 p3) + (own4_f0 xm p3 (p2 ^^^ (-1 : Int32)) (xh ^^^ p0)))), .second, .val (.ref r), .unset] [(.long ((own4_f0 p0 p1 p2 p3) + (own4_f0 xm p3 (p2 ^^^ (-1 : Int32)) (xh ^^^ p0)))), (.long (((own4_f0 p0 p1 p2 p3) + (0 : Int64)) + (((own4_f0 xm p3 (p2 ^^^ (-1 : Int32)) (xh ^^^ p0)) + (0 : Int64)) + (0 : Int64))))])) _
          refine XS.lcmp X7.here hx rfl (hb hby at_277) rfl ?_
          show Steps p.tables e below (T7.setTop (mkF m 278 #[.val (.int p0), .val (.int p1), .val (.int p2), .val (.int p3), .val (.long q4), .second, .val (.int p5), .val (.int bL), .val (.int bR), .val (.int bLL), .val (.int bRR), .val (.int xl), .val (.int xh), .val (.int xm), .val (.ref root), .val (.long ((own4_f0 p0 p1 p2 p3) + (own4_f0 xm p3 (p2 ^^^ (-1 : Int32)) (xh ^^^ p0)))), .second, .val (.ref r), .unset] [(.int (lcmpW (((own4_f0 p0 p1 p2 p3) + (0 : Int64)) + (((own4_f0 xm p3 (p2 ^^^ (-1 : Int32)) (xh ^^^ p0)) + (0 : Int64)) + (0 : Int64))) ((own4_f0 p0 p1 p2 p3) + (own4_f0 xm p3 (p2 ^^^ (-1 : Int32)) (xh ^^^ p0)))))])) _
          refine XS.ifNo X7.here hx rfl (hb hby at_278) rfl ((if0 _ _).trans (teq (show lcmpW (((own4_f0 p0 p1 p2 p3) + (0 : Int64)) + (((own4_f0 xm p3 (p2 ^^^ (-1 : Int32)) (xh ^^^ p0)) + (0 : Int64)) + (0 : Int64))) ((own4_f0 p0 p1 p2 p3) + (own4_f0 xm p3 (p2 ^^^ (-1 : Int32)) (xh ^^^ p0))) = (0 : Int32) from (lw_eq _ _).2 (by simp only [Int64.add_zero, Int64.add_assoc]))).2) ?_
          show Steps p.tables e below (T7.setTop (mkF m 281 #[.val (.int p0), .val (.int p1), .val (.int p2), .val (.int p3), .val (.long q4), .second, .val (.int p5), .val (.int bL), .val (.int bR), .val (.int bLL), .val (.int bRR), .val (.int xl), .val (.int xh), .val (.int xm), .val (.ref root), .val (.long ((own4_f0 p0 p1 p2 p3) + (own4_f0 xm p3 (p2 ^^^ (-1 : Int32)) (xh ^^^ p0)))), .second, .val (.ref r), .unset] [])) _
          refine XS.iconst X7.here hx rfl (hb hby at_281) ?_
          show Steps p.tables e below (T7.setTop (mkF m 282 #[.val (.int p0), .val (.int p1), .val (.int p2), .val (.int p3), .val (.long q4), .second, .val (.int p5), .val (.int bL), .val (.int bR), .val (.int bLL), .val (.int bRR), .val (.int xl), .val (.int xh), .val (.int xm), .val (.ref root), .val (.long ((own4_f0 p0 p1 p2 p3) + (own4_f0 xm p3 (p2 ^^^ (-1 : Int32)) (xh ^^^ p0)))), .second, .val (.ref r), .unset] [(.int (1 : Int32))])) _
          refine XS.goto X7.here hx rfl (pc0 := 282) (pc' := 286) rfl (hb hby at_282) (by decide) (by decide) ?_
          exact kt
        obtain ⟨fs, hr, hrun, hended, hW, hsame⟩ := X7.leave (v := some (.int (1 : Int32))) (fun h => by rw [Bd.returns] at h; cases h)
        refine ⟨_, _, ?_, hrun, hended, _, _, rfl, ?_, ⟨_, rfl⟩, hW, hsame.mono (by decide) (by decide)⟩
        · show Steps p.tables e below (T7.setTop (mkF m 286 #[.val (.int p0), .val (.int p1), .val (.int p2), .val (.int p3), .val (.long q4), .second, .val (.int p5), .val (.int bL), .val (.int bR), .val (.int bLL), .val (.int bRR), .val (.int xl), .val (.int xh), .val (.int xm), .val (.ref root), .val (.long ((own4_f0 p0 p1 p2 p3) + (own4_f0 xm p3 (p2 ^^^ (-1 : Int32)) (xh ^^^ p0)))), .second, .val (.ref r), .unset] [(.int (1 : Int32))])) _
          exact retN X7 hx (t := .boolean) Bd.returns (by simp) (hb hby at_286) hr
        · show Q0 n0 _ _
          exact ⟨rfl, N7⟩
      · refine own_go (B := T5.setTop (mkF m 235 #[.val (.int p0), .val (.int p1), .val (.int p2), .val (.int p3), .val (.long q4), .second, .val (.int p5), .val (.int bL), .val (.int bR), .val (.int bLL), .val (.int bRR), .val (.int xl), .val (.int xh), .val (.int xm), .val (.ref root), .val (.long ((own4_f0 p0 p1 p2 p3) + (own4_f0 xm p3 (p2 ^^^ (-1 : Int32)) (xh ^^^ p0)))), .second, .val (.ref r), .unset] [(.int (p3 ^^^ (-1 : Int32))), (.int xh), (.int xl), (.int p1)])) (fun t kt => ?_) ?_
        · show Steps p.tables e below (T5.setTop (mkF m 224 #[.val (.int p0), .val (.int p1), .val (.int p2), .val (.int p3), .val (.long q4), .second, .val (.int p5), .val (.int bL), .val (.int bR), .val (.int bLL), .val (.int bRR), .val (.int xl), .val (.int xh), .val (.int xm), .val (.ref root), .val (.long ((own4_f0 p0 p1 p2 p3) + (own4_f0 xm p3 (p2 ^^^ (-1 : Int32)) (xh ^^^ p0)))), .second, .val (.ref r), .unset] [(.int bRR)])) _
          refine XS.ifNo X5.here hx rfl (hb hby at_224) rfl ((if0 _ _).trans (feq hcRR).1) ?_
          show Steps p.tables e below (T5.setTop (mkF m 227 #[.val (.int p0), .val (.int p1), .val (.int p2), .val (.int p3), .val (.long q4), .second, .val (.int p5), .val (.int bL), .val (.int bR), .val (.int bLL), .val (.int bRR), .val (.int xl), .val (.int xh), .val (.int xm), .val (.ref root), .val (.long ((own4_f0 p0 p1 p2 p3) + (own4_f0 xm p3 (p2 ^^^ (-1 : Int32)) (xh ^^^ p0)))), .second, .val (.ref r), .unset] [])) _
          refine XS.iloadN X5.here hx rfl (hb hby at_227) rfl ?_
          show Steps p.tables e below (T5.setTop (mkF m 228 #[.val (.int p0), .val (.int p1), .val (.int p2), .val (.int p3), .val (.long q4), .second, .val (.int p5), .val (.int bL), .val (.int bR), .val (.int bLL), .val (.int bRR), .val (.int xl), .val (.int xh), .val (.int xm), .val (.ref root), .val (.long ((own4_f0 p0 p1 p2 p3) + (own4_f0 xm p3 (p2 ^^^ (-1 : Int32)) (xh ^^^ p0)))), .second, .val (.ref r), .unset] [(.int p1)])) _
          refine XS.iload X5.here hx rfl (hb hby at_228) rfl ?_
          show Steps p.tables e below (T5.setTop (mkF m 230 #[.val (.int p0), .val (.int p1), .val (.int p2), .val (.int p3), .val (.long q4), .second, .val (.int p5), .val (.int bL), .val (.int bR), .val (.int bLL), .val (.int bRR), .val (.int xl), .val (.int xh), .val (.int xm), .val (.ref root), .val (.long ((own4_f0 p0 p1 p2 p3) + (own4_f0 xm p3 (p2 ^^^ (-1 : Int32)) (xh ^^^ p0)))), .second, .val (.ref r), .unset] [(.int xl), (.int p1)])) _
          refine XS.iload X5.here hx rfl (hb hby at_230) rfl ?_
          show Steps p.tables e below (T5.setTop (mkF m 232 #[.val (.int p0), .val (.int p1), .val (.int p2), .val (.int p3), .val (.long q4), .second, .val (.int p5), .val (.int bL), .val (.int bR), .val (.int bLL), .val (.int bRR), .val (.int xl), .val (.int xh), .val (.int xm), .val (.ref root), .val (.long ((own4_f0 p0 p1 p2 p3) + (own4_f0 xm p3 (p2 ^^^ (-1 : Int32)) (xh ^^^ p0)))), .second, .val (.ref r), .unset] [(.int xh), (.int xl), (.int p1)])) _
          refine XS.iloadN X5.here hx rfl (hb hby at_232) rfl ?_
          show Steps p.tables e below (T5.setTop (mkF m 233 #[.val (.int p0), .val (.int p1), .val (.int p2), .val (.int p3), .val (.long q4), .second, .val (.int p5), .val (.int bL), .val (.int bR), .val (.int bLL), .val (.int bRR), .val (.int xl), .val (.int xh), .val (.int xm), .val (.ref root), .val (.long ((own4_f0 p0 p1 p2 p3) + (own4_f0 xm p3 (p2 ^^^ (-1 : Int32)) (xh ^^^ p0)))), .second, .val (.ref r), .unset] [(.int p3), (.int xh), (.int xl), (.int p1)])) _
          refine XS.iconst X5.here hx rfl (hb hby at_233) ?_
          show Steps p.tables e below (T5.setTop (mkF m 234 #[.val (.int p0), .val (.int p1), .val (.int p2), .val (.int p3), .val (.long q4), .second, .val (.int p5), .val (.int bL), .val (.int bR), .val (.int bLL), .val (.int bRR), .val (.int xl), .val (.int xh), .val (.int xm), .val (.ref root), .val (.long ((own4_f0 p0 p1 p2 p3) + (own4_f0 xm p3 (p2 ^^^ (-1 : Int32)) (xh ^^^ p0)))), .second, .val (.ref r), .unset] [(.int (-1 : Int32)), (.int p3), (.int xh), (.int xl), (.int p1)])) _
          refine XS.ixor X5.here hx rfl (hb hby at_234) rfl ?_
          exact kt
        obtain ⟨_, _, ⟨T8, L8, k8, n8⟩, -, X8, ⟨Lc8, hQ8, l8, y8, z8⟩, st8⟩ := Jvm.LawKit.callS X5 hx (y := (⟨"com/example/fleetwire/fleetwire/bench/TreeFieldSumPinLaw", "node", "(IIII)Lcom/example/fleetwire/fleetwire/bench/Bench$Tree;"⟩ : MethodName)) hown (mvT hZ (hw _ (List.mem_of_getElem? (i := 0) rfl))) (mvT hZ (hw _ (List.mem_of_getElem? (i := 1) rfl))) (mvT hZ (hw _ (List.mem_of_getElem? (i := 2) rfl))) (mvT hZ (hw _ (List.mem_of_getElem? (i := 3) rfl))) (by decide) (backOf (W := 0) (rm1 l Z t0 hw [] p1 xl xh (p3 ^^^ (-1 : Int32)) h4 n0 Z4) hZ (hw _ (List.mem_of_getElem? (i := 3) rfl)) (hw _ (List.mem_of_getElem? (i := 2) rfl)) (by decide) (by decide)) (g := (mkF m 235 #[.val (.int p0), .val (.int p1), .val (.int p2), .val (.int p3), .val (.long q4), .second, .val (.int p5), .val (.int bL), .val (.int bR), .val (.int bLL), .val (.int bRR), .val (.int xl), .val (.int xh), .val (.int xm), .val (.ref root), .val (.long ((own4_f0 p0 p1 p2 p3) + (own4_f0 xm p3 (p2 ^^^ (-1 : Int32)) (xh ^^^ p0)))), .second, .val (.ref r), .unset] [(.int (p3 ^^^ (-1 : Int32))), (.int xh), (.int xl), (.int p1)])) rfl (by rw [hml]; rfl) (argsL := [(.int p1), (.int xl), (.int xh), (.int (p3 ^^^ (-1 : Int32)))]) (rest := []) (lenOf pd_0_0 rfl) rfl (by show 2 * 0 + _ ≤ _; exact Nat.le_of_eq rfl) (hb hby at_235) (fun _ _ => ⟨rfl, e5, (by decide : 2 + 1 ≤ _), (by decide : 12 + 6 ≤ _)⟩)
        dsimp only [Pt.U, Pt.locs, Pt.cells, Pt.slots] at X8 l8 y8 z8 st8 hQ8
        subst l8 y8 z8
        obtain ⟨rr, rfl, Nq8, Kc8, zb8, gb8, ex8, fa8, fb8, fc8, fd8, fleft8, fright8⟩ := hQ8
        have N8 := Fr.app N5 Nq8
        obtain ⟨h8, e8⟩ : ∃ z, T8.heap = z := ⟨_, rfl⟩
        rw [e8] at Kc8 fa8 fb8 fc8 fd8 fleft8 fright8 ex8
        have E_root_8 := E_root_4.keep Kc8
        have F_a_root_8 := F_a_root_4.keep Kc8 nin0
        have F_b_root_8 := F_b_root_4.keep Kc8 nin0
        have F_c_root_8 := F_c_root_4.keep Kc8 nin0
        have F_d_root_8 := F_d_root_4.keep Kc8 nin0
        have F_left_root_8 := F_left_root_4.keep Kc8 nin0
        have F_right_root_8 := F_right_root_4.keep Kc8 nin0
        have E_r_8 := ex4.keep Kc8
        have F_a_r_8 := fa4.keep Kc8 nin0
        have F_b_r_8 := fb4.keep Kc8 nin0
        have F_c_r_8 := fc4.keep Kc8 nin0
        have F_d_r_8 := fd4.keep Kc8 nin0
        have F_left_r_8 := fleft4.keep Kc8 nin0
        have F_right_r_8 := fright4.keep Kc8 nin0
        have Z8 : n0 ≤ h8.size := Nat.le_trans Z4 Kc8.1
        have ne_root_rr : root ≠ rr := Nat.ne_of_lt (Nat.lt_of_lt_of_le E_root_4.lt zb8)
        have ne_r_rr : r ≠ rr := Nat.ne_of_lt (Nat.lt_of_lt_of_le ex4.lt zb8)
        refine own_go (B := T8.setTop (mkF m 238 #[.val (.int p0), .val (.int p1), .val (.int p2), .val (.int p3), .val (.long q4), .second, .val (.int p5), .val (.int bL), .val (.int bR), .val (.int bLL), .val (.int bRR), .val (.int xl), .val (.int xh), .val (.int xm), .val (.ref root), .val (.long ((own4_f0 p0 p1 p2 p3) + (own4_f0 xm p3 (p2 ^^^ (-1 : Int32)) (xh ^^^ p0)))), .second, .val (.ref r), .unset] [(.ref rr)])) (fun t kt => st8 t kt) ?_
        refine own_go (B := T8.setTop (mkF m 250 #[.val (.int p0), .val (.int p1), .val (.int p2), .val (.int p3), .val (.long q4), .second, .val (.int p5), .val (.int bL), .val (.int bR), .val (.int bLL), .val (.int bRR), .val (.int xl), .val (.int xh), .val (.int xm), .val (.ref root), .val (.long ((own4_f0 p0 p1 p2 p3) + (own4_f0 xm p3 (p2 ^^^ (-1 : Int32)) (xh ^^^ p0)))), .second, .val (.ref r), .val (.ref rr)] [(.int (p3 ^^^ (-1 : Int32))), (.int xh), (.int xl), (.int p1), (.long ((own4_f0 p0 p1 p2 p3) + (own4_f0 xm p3 (p2 ^^^ (-1 : Int32)) (xh ^^^ p0))))])) (fun t kt => ?_) ?_
        · show Steps p.tables e below (T8.setTop (mkF m 238 #[.val (.int p0), .val (.int p1), .val (.int p2), .val (.int p3), .val (.long q4), .second, .val (.int p5), .val (.int bL), .val (.int bR), .val (.int bLL), .val (.int bRR), .val (.int xl), .val (.int xh), .val (.int xm), .val (.ref root), .val (.long ((own4_f0 p0 p1 p2 p3) + (own4_f0 xm p3 (p2 ^^^ (-1 : Int32)) (xh ^^^ p0)))), .second, .val (.ref r), .unset] [(.ref rr)])) _
          refine XS.astore X8.here hx rfl (hb hby at_238) rfl rfl (l' := #[.val (.int p0), .val (.int p1), .val (.int p2), .val (.int p3), .val (.long q4), .second, .val (.int p5), .val (.int bL), .val (.int bR), .val (.int bLL), .val (.int bRR), .val (.int xl), .val (.int xh), .val (.int xm), .val (.ref root), .val (.long ((own4_f0 p0 p1 p2 p3) + (own4_f0 xm p3 (p2 ^^^ (-1 : Int32)) (xh ^^^ p0)))), .second, .val (.ref r), .val (.ref rr)]) rfl ?_
          show Steps p.tables e below (T8.setTop (mkF m 240 #[.val (.int p0), .val (.int p1), .val (.int p2), .val (.int p3), .val (.long q4), .second, .val (.int p5), .val (.int bL), .val (.int bR), .val (.int bLL), .val (.int bRR), .val (.int xl), .val (.int xh), .val (.int xm), .val (.ref root), .val (.long ((own4_f0 p0 p1 p2 p3) + (own4_f0 xm p3 (p2 ^^^ (-1 : Int32)) (xh ^^^ p0)))), .second, .val (.ref r), .val (.ref rr)] [])) _
          refine XS.lload X8.here hx rfl (hb hby at_240) rfl ?_
          show Steps p.tables e below (T8.setTop (mkF m 242 #[.val (.int p0), .val (.int p1), .val (.int p2), .val (.int p3), .val (.long q4), .second, .val (.int p5), .val (.int bL), .val (.int bR), .val (.int bLL), .val (.int bRR), .val (.int xl), .val (.int xh), .val (.int xm), .val (.ref root), .val (.long ((own4_f0 p0 p1 p2 p3) + (own4_f0 xm p3 (p2 ^^^ (-1 : Int32)) (xh ^^^ p0)))), .second, .val (.ref r), .val (.ref rr)] [(.long ((own4_f0 p0 p1 p2 p3) + (own4_f0 xm p3 (p2 ^^^ (-1 : Int32)) (xh ^^^ p0))))])) _
          refine XS.iloadN X8.here hx rfl (hb hby at_242) rfl ?_
          show Steps p.tables e below (T8.setTop (mkF m 243 #[.val (.int p0), .val (.int p1), .val (.int p2), .val (.int p3), .val (.long q4), .second, .val (.int p5), .val (.int bL), .val (.int bR), .val (.int bLL), .val (.int bRR), .val (.int xl), .val (.int xh), .val (.int xm), .val (.ref root), .val (.long ((own4_f0 p0 p1 p2 p3) + (own4_f0 xm p3 (p2 ^^^ (-1 : Int32)) (xh ^^^ p0)))), .second, .val (.ref r), .val (.ref rr)] [(.int p1), (.long ((own4_f0 p0 p1 p2 p3) + (own4_f0 xm p3 (p2 ^^^ (-1 : Int32)) (xh ^^^ p0))))])) _
          refine XS.iload X8.here hx rfl (hb hby at_243) rfl ?_
          show Steps p.tables e below (T8.setTop (mkF m 245 #[.val (.int p0), .val (.int p1), .val (.int p2), .val (.int p3), .val (.long q4), .second, .val (.int p5), .val (.int bL), .val (.int bR), .val (.int bLL), .val (.int bRR), .val (.int xl), .val (.int xh), .val (.int xm), .val (.ref root), .val (.long ((own4_f0 p0 p1 p2 p3) + (own4_f0 xm p3 (p2 ^^^ (-1 : Int32)) (xh ^^^ p0)))), .second, .val (.ref r), .val (.ref rr)] [(.int xl), (.int p1), (.long ((own4_f0 p0 p1 p2 p3) + (own4_f0 xm p3 (p2 ^^^ (-1 : Int32)) (xh ^^^ p0))))])) _
          refine XS.iload X8.here hx rfl (hb hby at_245) rfl ?_
          show Steps p.tables e below (T8.setTop (mkF m 247 #[.val (.int p0), .val (.int p1), .val (.int p2), .val (.int p3), .val (.long q4), .second, .val (.int p5), .val (.int bL), .val (.int bR), .val (.int bLL), .val (.int bRR), .val (.int xl), .val (.int xh), .val (.int xm), .val (.ref root), .val (.long ((own4_f0 p0 p1 p2 p3) + (own4_f0 xm p3 (p2 ^^^ (-1 : Int32)) (xh ^^^ p0)))), .second, .val (.ref r), .val (.ref rr)] [(.int xh), (.int xl), (.int p1), (.long ((own4_f0 p0 p1 p2 p3) + (own4_f0 xm p3 (p2 ^^^ (-1 : Int32)) (xh ^^^ p0))))])) _
          refine XS.iloadN X8.here hx rfl (hb hby at_247) rfl ?_
          show Steps p.tables e below (T8.setTop (mkF m 248 #[.val (.int p0), .val (.int p1), .val (.int p2), .val (.int p3), .val (.long q4), .second, .val (.int p5), .val (.int bL), .val (.int bR), .val (.int bLL), .val (.int bRR), .val (.int xl), .val (.int xh), .val (.int xm), .val (.ref root), .val (.long ((own4_f0 p0 p1 p2 p3) + (own4_f0 xm p3 (p2 ^^^ (-1 : Int32)) (xh ^^^ p0)))), .second, .val (.ref r), .val (.ref rr)] [(.int p3), (.int xh), (.int xl), (.int p1), (.long ((own4_f0 p0 p1 p2 p3) + (own4_f0 xm p3 (p2 ^^^ (-1 : Int32)) (xh ^^^ p0))))])) _
          refine XS.iconst X8.here hx rfl (hb hby at_248) ?_
          show Steps p.tables e below (T8.setTop (mkF m 249 #[.val (.int p0), .val (.int p1), .val (.int p2), .val (.int p3), .val (.long q4), .second, .val (.int p5), .val (.int bL), .val (.int bR), .val (.int bLL), .val (.int bRR), .val (.int xl), .val (.int xh), .val (.int xm), .val (.ref root), .val (.long ((own4_f0 p0 p1 p2 p3) + (own4_f0 xm p3 (p2 ^^^ (-1 : Int32)) (xh ^^^ p0)))), .second, .val (.ref r), .val (.ref rr)] [(.int (-1 : Int32)), (.int p3), (.int xh), (.int xl), (.int p1), (.long ((own4_f0 p0 p1 p2 p3) + (own4_f0 xm p3 (p2 ^^^ (-1 : Int32)) (xh ^^^ p0))))])) _
          refine XS.ixor X8.here hx rfl (hb hby at_249) rfl ?_
          exact kt
        obtain ⟨_, _, ⟨T9, L9, k9, n9⟩, -, X9, ⟨Lc9, hQ9, l9, y9, z9⟩, st9⟩ := Jvm.LawKit.callS X8 hx (y := (⟨"com/example/fleetwire/fleetwire/bench/TreeFieldSumPinLaw", "s", "(IIII)J"⟩ : MethodName)) hown (mvT hZ (hw _ (List.mem_of_getElem? (i := 21) rfl))) (mvT hZ (hw _ (List.mem_of_getElem? (i := 22) rfl))) (mvT hZ (hw _ (List.mem_of_getElem? (i := 2) rfl))) (mvT hZ (hw _ (List.mem_of_getElem? (i := 23) rfl))) (by decide) (backOf (W := 2) (rm4 l Z t0 hw [] p1 xl xh (p3 ^^^ (-1 : Int32)) h8 n0 Z8) hZ (hw _ (List.mem_of_getElem? (i := 23) rfl)) (hw _ (List.mem_of_getElem? (i := 2) rfl)) (by decide) (by decide)) (g := (mkF m 250 #[.val (.int p0), .val (.int p1), .val (.int p2), .val (.int p3), .val (.long q4), .second, .val (.int p5), .val (.int bL), .val (.int bR), .val (.int bLL), .val (.int bRR), .val (.int xl), .val (.int xh), .val (.int xm), .val (.ref root), .val (.long ((own4_f0 p0 p1 p2 p3) + (own4_f0 xm p3 (p2 ^^^ (-1 : Int32)) (xh ^^^ p0)))), .second, .val (.ref r), .val (.ref rr)] [(.int (p3 ^^^ (-1 : Int32))), (.int xh), (.int xl), (.int p1), (.long ((own4_f0 p0 p1 p2 p3) + (own4_f0 xm p3 (p2 ^^^ (-1 : Int32)) (xh ^^^ p0))))])) rfl (by rw [hml]; rfl) (argsL := [(.int p1), (.int xl), (.int xh), (.int (p3 ^^^ (-1 : Int32)))]) (rest := [(.long ((own4_f0 p0 p1 p2 p3) + (own4_f0 xm p3 (p2 ^^^ (-1 : Int32)) (xh ^^^ p0))))]) (lenOf pd_0_1 rfl) rfl (by show 2 * 0 + _ ≤ _; exact Nat.le_of_eq rfl) (hb hby at_250) (fun _ _ => ⟨rfl, e8, (by decide : 3 + 0 ≤ _), (by decide : 18 + 0 ≤ _)⟩)
        dsimp only [Pt.U, Pt.locs, Pt.cells, Pt.slots] at X9 l9 y9 z9 st9 hQ9
        subst l9 y9 z9
        obtain ⟨rfl, Nq9, hh9⟩ := hQ9
        have N9 := Fr.app N8 Nq9
        have e9 : T9.heap = h8 := hh9
        refine own_go (B := T9.setTop (mkF m 253 #[.val (.int p0), .val (.int p1), .val (.int p2), .val (.int p3), .val (.long q4), .second, .val (.int p5), .val (.int bL), .val (.int bR), .val (.int bLL), .val (.int bRR), .val (.int xl), .val (.int xh), .val (.int xm), .val (.ref root), .val (.long ((own4_f0 p0 p1 p2 p3) + (own4_f0 xm p3 (p2 ^^^ (-1 : Int32)) (xh ^^^ p0)))), .second, .val (.ref r), .val (.ref rr)] [(.long (own4_f0 p1 xl xh (p3 ^^^ (-1 : Int32)))), (.long ((own4_f0 p0 p1 p2 p3) + (own4_f0 xm p3 (p2 ^^^ (-1 : Int32)) (xh ^^^ p0))))])) (fun t kt => st9 t kt) ?_
        refine own_go (B := T9.setTop (mkF m 260 #[.val (.int p0), .val (.int p1), .val (.int p2), .val (.int p3), .val (.long q4), .second, .val (.int p5), .val (.int bL), .val (.int bR), .val (.int bLL), .val (.int bRR), .val (.int xl), .val (.int xh), .val (.int xm), .val (.ref root), .val (.long (((own4_f0 p0 p1 p2 p3) + (own4_f0 xm p3 (p2 ^^^ (-1 : Int32)) (xh ^^^ p0))) + (own4_f0 p1 xl xh (p3 ^^^ (-1 : Int32))))), .second, .val (.ref r), .val (.ref rr)] [(.ref rr), (.ref r)])) (fun t kt => ?_) ?_
        · show Steps p.tables e below (T9.setTop (mkF m 253 #[.val (.int p0), .val (.int p1), .val (.int p2), .val (.int p3), .val (.long q4), .second, .val (.int p5), .val (.int bL), .val (.int bR), .val (.int bLL), .val (.int bRR), .val (.int xl), .val (.int xh), .val (.int xm), .val (.ref root), .val (.long ((own4_f0 p0 p1 p2 p3) + (own4_f0 xm p3 (p2 ^^^ (-1 : Int32)) (xh ^^^ p0)))), .second, .val (.ref r), .val (.ref rr)] [(.long (own4_f0 p1 xl xh (p3 ^^^ (-1 : Int32)))), (.long ((own4_f0 p0 p1 p2 p3) + (own4_f0 xm p3 (p2 ^^^ (-1 : Int32)) (xh ^^^ p0))))])) _
          refine XS.ladd X9.here hx rfl (hb hby at_253) rfl ?_
          show Steps p.tables e below (T9.setTop (mkF m 254 #[.val (.int p0), .val (.int p1), .val (.int p2), .val (.int p3), .val (.long q4), .second, .val (.int p5), .val (.int bL), .val (.int bR), .val (.int bLL), .val (.int bRR), .val (.int xl), .val (.int xh), .val (.int xm), .val (.ref root), .val (.long ((own4_f0 p0 p1 p2 p3) + (own4_f0 xm p3 (p2 ^^^ (-1 : Int32)) (xh ^^^ p0)))), .second, .val (.ref r), .val (.ref rr)] [(.long (((own4_f0 p0 p1 p2 p3) + (own4_f0 xm p3 (p2 ^^^ (-1 : Int32)) (xh ^^^ p0))) + (own4_f0 p1 xl xh (p3 ^^^ (-1 : Int32)))))])) _
          refine XS.lstore X9.here hx rfl (hb hby at_254) rfl (l' := #[.val (.int p0), .val (.int p1), .val (.int p2), .val (.int p3), .val (.long q4), .second, .val (.int p5), .val (.int bL), .val (.int bR), .val (.int bLL), .val (.int bRR), .val (.int xl), .val (.int xh), .val (.int xm), .val (.ref root), .val (.long (((own4_f0 p0 p1 p2 p3) + (own4_f0 xm p3 (p2 ^^^ (-1 : Int32)) (xh ^^^ p0))) + (own4_f0 p1 xl xh (p3 ^^^ (-1 : Int32))))), .second, .val (.ref r), .val (.ref rr)]) rfl ?_
          show Steps p.tables e below (T9.setTop (mkF m 256 #[.val (.int p0), .val (.int p1), .val (.int p2), .val (.int p3), .val (.long q4), .second, .val (.int p5), .val (.int bL), .val (.int bR), .val (.int bLL), .val (.int bRR), .val (.int xl), .val (.int xh), .val (.int xm), .val (.ref root), .val (.long (((own4_f0 p0 p1 p2 p3) + (own4_f0 xm p3 (p2 ^^^ (-1 : Int32)) (xh ^^^ p0))) + (own4_f0 p1 xl xh (p3 ^^^ (-1 : Int32))))), .second, .val (.ref r), .val (.ref rr)] [])) _
          refine XS.aload X9.here hx rfl (hb hby at_256) rfl rfl ?_
          show Steps p.tables e below (T9.setTop (mkF m 258 #[.val (.int p0), .val (.int p1), .val (.int p2), .val (.int p3), .val (.long q4), .second, .val (.int p5), .val (.int bL), .val (.int bR), .val (.int bLL), .val (.int bRR), .val (.int xl), .val (.int xh), .val (.int xm), .val (.ref root), .val (.long (((own4_f0 p0 p1 p2 p3) + (own4_f0 xm p3 (p2 ^^^ (-1 : Int32)) (xh ^^^ p0))) + (own4_f0 p1 xl xh (p3 ^^^ (-1 : Int32))))), .second, .val (.ref r), .val (.ref rr)] [(.ref r)])) _
          refine XS.aload X9.here hx rfl (hb hby at_258) rfl rfl ?_
          exact kt
        obtain ⟨T10, h10, X10, e10, W10, st10⟩ := putF X9 hx hZ hown (host := "") (Or.inl (hw _ (List.mem_of_getElem? (i := 24) rfl))) Via.refl e9 F_right_r_8 E_r_8 (Or.inl (hw _ (List.mem_of_getElem? (i := 25) rfl))) (hw _ (List.mem_of_getElem? (i := 5) rfl)) (ty := (.object "com/example/fleetwire/fleetwire/bench/Bench$Tree")) (by decide) rfl rfl (g := (mkF m 260 #[.val (.int p0), .val (.int p1), .val (.int p2), .val (.int p3), .val (.long q4), .second, .val (.int p5), .val (.int bL), .val (.int bR), .val (.int bLL), .val (.int bRR), .val (.int xl), .val (.int xh), .val (.int xm), .val (.ref root), .val (.long (((own4_f0 p0 p1 p2 p3) + (own4_f0 xm p3 (p2 ^^^ (-1 : Int32)) (xh ^^^ p0))) + (own4_f0 p1 xl xh (p3 ^^^ (-1 : Int32))))), .second, .val (.ref r), .val (.ref rr)] [(.ref rr), (.ref r)])) rfl rfl (hb hby at_260)
        have F_right_r_10 : Fld Z h10 r "com/example/fleetwire/fleetwire/bench/Bench$Tree" "right" "Lcom/example/fleetwire/fleetwire/bench/Bench$Tree;" (.ref rr) := F_right_r_8.same W10
        have E_root_10 := E_root_8.wr W10
        have F_a_root_10 := F_a_root_8.other W10 (Or.inl ne_root_r)
        have F_b_root_10 := F_b_root_8.other W10 (Or.inl ne_root_r)
        have F_c_root_10 := F_c_root_8.other W10 (Or.inl ne_root_r)
        have F_d_root_10 := F_d_root_8.other W10 (Or.inl ne_root_r)
        have F_left_root_10 := F_left_root_8.other W10 (Or.inl ne_root_r)
        have F_right_root_10 := F_right_root_8.other W10 (Or.inl ne_root_r)
        have E_r_10 := E_r_8.wr W10
        have F_a_r_10 := F_a_r_8.other W10 (Or.inr (slot_ne (Or.inl (hw _ (List.mem_of_getElem? (i := 14) rfl))) (Or.inl (hw _ (List.mem_of_getElem? (i := 25) rfl))) (by decide) (t := .int) (t' := (.object "com/example/fleetwire/fleetwire/bench/Bench$Tree")) (by decide) (by decide)))
        have F_b_r_10 := F_b_r_8.other W10 (Or.inr (slot_ne (Or.inl (hw _ (List.mem_of_getElem? (i := 16) rfl))) (Or.inl (hw _ (List.mem_of_getElem? (i := 25) rfl))) (by decide) (t := .int) (t' := (.object "com/example/fleetwire/fleetwire/bench/Bench$Tree")) (by decide) (by decide)))
        have F_c_r_10 := F_c_r_8.other W10 (Or.inr (slot_ne (Or.inl (hw _ (List.mem_of_getElem? (i := 18) rfl))) (Or.inl (hw _ (List.mem_of_getElem? (i := 25) rfl))) (by decide) (t := .int) (t' := (.object "com/example/fleetwire/fleetwire/bench/Bench$Tree")) (by decide) (by decide)))
        have F_d_r_10 := F_d_r_8.other W10 (Or.inr (slot_ne (Or.inl (hw _ (List.mem_of_getElem? (i := 20) rfl))) (Or.inl (hw _ (List.mem_of_getElem? (i := 25) rfl))) (by decide) (t := .int) (t' := (.object "com/example/fleetwire/fleetwire/bench/Bench$Tree")) (by decide) (by decide)))
        have F_left_r_10 := F_left_r_8.other W10 (Or.inr (slot_ne (Or.inl (hw _ (List.mem_of_getElem? (i := 36) rfl))) (Or.inl (hw _ (List.mem_of_getElem? (i := 25) rfl))) (by decide) (t := (.object "com/example/fleetwire/fleetwire/bench/Bench$Tree")) (t' := (.object "com/example/fleetwire/fleetwire/bench/Bench$Tree")) (by decide) (by decide)))
        have E_rr_10 := ex8.wr W10
        have F_a_rr_10 := fa8.other W10 (Or.inl (Ne.symm ne_r_rr))
        have F_b_rr_10 := fb8.other W10 (Or.inl (Ne.symm ne_r_rr))
        have F_c_rr_10 := fc8.other W10 (Or.inl (Ne.symm ne_r_rr))
        have F_d_rr_10 := fd8.other W10 (Or.inl (Ne.symm ne_r_rr))
        have F_left_rr_10 := fleft8.other W10 (Or.inl (Ne.symm ne_r_rr))
        have F_right_rr_10 := fright8.other W10 (Or.inl (Ne.symm ne_r_rr))
        have Z10 : n0 ≤ h10.size := Nat.le_trans Z8 (Keep.of_wr W10).1
        have N10 := Fr.snoc X10 N9 gb4
        refine own_go (B := T10.setTop (mkF m 263 #[.val (.int p0), .val (.int p1), .val (.int p2), .val (.int p3), .val (.long q4), .second, .val (.int p5), .val (.int bL), .val (.int bR), .val (.int bLL), .val (.int bRR), .val (.int xl), .val (.int xh), .val (.int xm), .val (.ref root), .val (.long (((own4_f0 p0 p1 p2 p3) + (own4_f0 xm p3 (p2 ^^^ (-1 : Int32)) (xh ^^^ p0))) + (own4_f0 p1 xl xh (p3 ^^^ (-1 : Int32))))), .second, .val (.ref r), .val (.ref rr)] [])) (fun t kt => st10 t kt) ?_
        refine own_go (B := T10.setTop (mkF m 267 #[.val (.int p0), .val (.int p1), .val (.int p2), .val (.int p3), .val (.long q4), .second, .val (.int p5), .val (.int bL), .val (.int bR), .val (.int bLL), .val (.int bRR), .val (.int xl), .val (.int xh), .val (.int xm), .val (.ref root), .val (.long (((own4_f0 p0 p1 p2 p3) + (own4_f0 xm p3 (p2 ^^^ (-1 : Int32)) (xh ^^^ p0))) + (own4_f0 p1 xl xh (p3 ^^^ (-1 : Int32))))), .second, .val (.ref r), .val (.ref rr)] [(.ref r), (.ref root)])) (fun t kt => ?_) ?_
        · show Steps p.tables e below (T10.setTop (mkF m 263 #[.val (.int p0), .val (.int p1), .val (.int p2), .val (.int p3), .val (.long q4), .second, .val (.int p5), .val (.int bL), .val (.int bR), .val (.int bLL), .val (.int bRR), .val (.int xl), .val (.int xh), .val (.int xm), .val (.ref root), .val (.long (((own4_f0 p0 p1 p2 p3) + (own4_f0 xm p3 (p2 ^^^ (-1 : Int32)) (xh ^^^ p0))) + (own4_f0 p1 xl xh (p3 ^^^ (-1 : Int32))))), .second, .val (.ref r), .val (.ref rr)] [])) _
          refine XS.aload X10.here hx rfl (hb hby at_263) rfl rfl ?_
          show Steps p.tables e below (T10.setTop (mkF m 265 #[.val (.int p0), .val (.int p1), .val (.int p2), .val (.int p3), .val (.long q4), .second, .val (.int p5), .val (.int bL), .val (.int bR), .val (.int bLL), .val (.int bRR), .val (.int xl), .val (.int xh), .val (.int xm), .val (.ref root), .val (.long (((own4_f0 p0 p1 p2 p3) + (own4_f0 xm p3 (p2 ^^^ (-1 : Int32)) (xh ^^^ p0))) + (own4_f0 p1 xl xh (p3 ^^^ (-1 : Int32))))), .second, .val (.ref r), .val (.ref rr)] [(.ref root)])) _
          refine XS.aload X10.here hx rfl (hb hby at_265) rfl rfl ?_
          exact kt
        obtain ⟨T11, h11, X11, e11, W11, st11⟩ := putF X10 hx hZ hown (host := "") (Or.inl (hw _ (List.mem_of_getElem? (i := 24) rfl))) Via.refl e10 F_right_root_10 E_root_10 (Or.inl (hw _ (List.mem_of_getElem? (i := 25) rfl))) (hw _ (List.mem_of_getElem? (i := 5) rfl)) (ty := (.object "com/example/fleetwire/fleetwire/bench/Bench$Tree")) (by decide) rfl rfl (g := (mkF m 267 #[.val (.int p0), .val (.int p1), .val (.int p2), .val (.int p3), .val (.long q4), .second, .val (.int p5), .val (.int bL), .val (.int bR), .val (.int bLL), .val (.int bRR), .val (.int xl), .val (.int xh), .val (.int xm), .val (.ref root), .val (.long (((own4_f0 p0 p1 p2 p3) + (own4_f0 xm p3 (p2 ^^^ (-1 : Int32)) (xh ^^^ p0))) + (own4_f0 p1 xl xh (p3 ^^^ (-1 : Int32))))), .second, .val (.ref r), .val (.ref rr)] [(.ref r), (.ref root)])) rfl rfl (hb hby at_267)
        have F_right_root_11 : Fld Z h11 root "com/example/fleetwire/fleetwire/bench/Bench$Tree" "right" "Lcom/example/fleetwire/fleetwire/bench/Bench$Tree;" (.ref r) := F_right_root_10.same W11
        have E_root_11 := E_root_10.wr W11
        have F_a_root_11 := F_a_root_10.other W11 (Or.inr (slot_ne (Or.inl (hw _ (List.mem_of_getElem? (i := 14) rfl))) (Or.inl (hw _ (List.mem_of_getElem? (i := 25) rfl))) (by decide) (t := .int) (t' := (.object "com/example/fleetwire/fleetwire/bench/Bench$Tree")) (by decide) (by decide)))
        have F_b_root_11 := F_b_root_10.other W11 (Or.inr (slot_ne (Or.inl (hw _ (List.mem_of_getElem? (i := 16) rfl))) (Or.inl (hw _ (List.mem_of_getElem? (i := 25) rfl))) (by decide) (t := .int) (t' := (.object "com/example/fleetwire/fleetwire/bench/Bench$Tree")) (by decide) (by decide)))
        have F_c_root_11 := F_c_root_10.other W11 (Or.inr (slot_ne (Or.inl (hw _ (List.mem_of_getElem? (i := 18) rfl))) (Or.inl (hw _ (List.mem_of_getElem? (i := 25) rfl))) (by decide) (t := .int) (t' := (.object "com/example/fleetwire/fleetwire/bench/Bench$Tree")) (by decide) (by decide)))
        have F_d_root_11 := F_d_root_10.other W11 (Or.inr (slot_ne (Or.inl (hw _ (List.mem_of_getElem? (i := 20) rfl))) (Or.inl (hw _ (List.mem_of_getElem? (i := 25) rfl))) (by decide) (t := .int) (t' := (.object "com/example/fleetwire/fleetwire/bench/Bench$Tree")) (by decide) (by decide)))
        have F_left_root_11 := F_left_root_10.other W11 (Or.inr (slot_ne (Or.inl (hw _ (List.mem_of_getElem? (i := 36) rfl))) (Or.inl (hw _ (List.mem_of_getElem? (i := 25) rfl))) (by decide) (t := (.object "com/example/fleetwire/fleetwire/bench/Bench$Tree")) (t' := (.object "com/example/fleetwire/fleetwire/bench/Bench$Tree")) (by decide) (by decide)))
        have E_r_11 := E_r_10.wr W11
        have F_a_r_11 := F_a_r_10.other W11 (Or.inl (Ne.symm ne_root_r))
        have F_b_r_11 := F_b_r_10.other W11 (Or.inl (Ne.symm ne_root_r))
        have F_c_r_11 := F_c_r_10.other W11 (Or.inl (Ne.symm ne_root_r))
        have F_d_r_11 := F_d_r_10.other W11 (Or.inl (Ne.symm ne_root_r))
        have F_left_r_11 := F_left_r_10.other W11 (Or.inl (Ne.symm ne_root_r))
        have F_right_r_11 := F_right_r_10.other W11 (Or.inl (Ne.symm ne_root_r))
        have E_rr_11 := E_rr_10.wr W11
        have F_a_rr_11 := F_a_rr_10.other W11 (Or.inl (Ne.symm ne_root_rr))
        have F_b_rr_11 := F_b_rr_10.other W11 (Or.inl (Ne.symm ne_root_rr))
        have F_c_rr_11 := F_c_rr_10.other W11 (Or.inl (Ne.symm ne_root_rr))
        have F_d_rr_11 := F_d_rr_10.other W11 (Or.inl (Ne.symm ne_root_rr))
        have F_left_rr_11 := F_left_rr_10.other W11 (Or.inl (Ne.symm ne_root_rr))
        have F_right_rr_11 := F_right_rr_10.other W11 (Or.inl (Ne.symm ne_root_rr))
        have Z11 : n0 ≤ h11.size := Nat.le_trans Z10 (Keep.of_wr W11).1
        have N11 := Fr.snoc X11 N10 gb1
        refine own_go (B := T11.setTop (mkF m 270 #[.val (.int p0), .val (.int p1), .val (.int p2), .val (.int p3), .val (.long q4), .second, .val (.int p5), .val (.int bL), .val (.int bR), .val (.int bLL), .val (.int bRR), .val (.int xl), .val (.int xh), .val (.int xm), .val (.ref root), .val (.long (((own4_f0 p0 p1 p2 p3) + (own4_f0 xm p3 (p2 ^^^ (-1 : Int32)) (xh ^^^ p0))) + (own4_f0 p1 xl xh (p3 ^^^ (-1 : Int32))))), .second, .val (.ref r), .val (.ref rr)] [])) (fun t kt => st11 t kt) ?_
        refine own_go (B := T11.setTop (mkF m 272 #[.val (.int p0), .val (.int p1), .val (.int p2), .val (.int p3), .val (.long q4), .second, .val (.int p5), .val (.int bL), .val (.int bR), .val (.int bLL), .val (.int bRR), .val (.int xl), .val (.int xh), .val (.int xm), .val (.ref root), .val (.long (((own4_f0 p0 p1 p2 p3) + (own4_f0 xm p3 (p2 ^^^ (-1 : Int32)) (xh ^^^ p0))) + (own4_f0 p1 xl xh (p3 ^^^ (-1 : Int32))))), .second, .val (.ref r), .val (.ref rr)] [(.ref root)])) (fun t kt => ?_) ?_
        · show Steps p.tables e below (T11.setTop (mkF m 270 #[.val (.int p0), .val (.int p1), .val (.int p2), .val (.int p3), .val (.long q4), .second, .val (.int p5), .val (.int bL), .val (.int bR), .val (.int bLL), .val (.int bRR), .val (.int xl), .val (.int xh), .val (.int xm), .val (.ref root), .val (.long (((own4_f0 p0 p1 p2 p3) + (own4_f0 xm p3 (p2 ^^^ (-1 : Int32)) (xh ^^^ p0))) + (own4_f0 p1 xl xh (p3 ^^^ (-1 : Int32))))), .second, .val (.ref r), .val (.ref rr)] [])) _
          refine XS.aload X11.here hx rfl (hb hby at_270) rfl rfl ?_
          exact kt
        have ht := (show own_t3 Z h11 root (((own4_f0 p0 p1 p2 p3) + (0 : Int64)) + (((own4_f0 xm p3 (p2 ^^^ (-1 : Int32)) (xh ^^^ p0)) + (0 : Int64)) + (((own4_f0 p1 xl xh (p3 ^^^ (-1 : Int32))) + (0 : Int64)) + (0 : Int64)))) from ⟨_, _, _, _, _, _, _, _, E_root_11, F_a_root_11, F_b_root_11, F_c_root_11, F_d_root_11, F_left_root_11, F_right_root_11, (Or.inl ⟨rfl, rfl⟩), (Or.inr ⟨r, rfl, (show own_t2 Z h11 r (((own4_f0 xm p3 (p2 ^^^ (-1 : Int32)) (xh ^^^ p0)) + (0 : Int64)) + (((own4_f0 p1 xl xh (p3 ^^^ (-1 : Int32))) + (0 : Int64)) + (0 : Int64))) from ⟨_, _, _, _, _, _, _, _, E_r_11, F_a_r_11, F_b_r_11, F_c_r_11, F_d_r_11, F_left_r_11, F_right_r_11, (Or.inl ⟨rfl, rfl⟩), (Or.inr ⟨rr, rfl, (show own_t1 Z h11 rr (((own4_f0 p1 xl xh (p3 ^^^ (-1 : Int32))) + (0 : Int64)) + (0 : Int64)) from ⟨_, _, _, _, _, _, _, _, E_rr_11, F_a_rr_11, F_b_rr_11, F_c_rr_11, F_d_rr_11, F_left_rr_11, F_right_rr_11, (Or.inl ⟨rfl, rfl⟩), (Or.inl ⟨rfl, rfl⟩), rfl⟩)⟩), rfl⟩)⟩), rfl⟩)
        obtain ⟨cq12, kq12, qa12, qb12, qc12⟩ := isOf hZ e11 E_root_11
        obtain ⟨_, _, ⟨T12, L12, k12, n12⟩, -, X12, ⟨Lc12, hQ12, l12, y12, z12⟩, st12⟩ := X11.virtualBack hx (y := (⟨"com/example/fleetwire/fleetwire/bench/Bench$Tree", "fieldSum", "()J"⟩ : MethodName)) (z := (⟨"com/example/fleetwire/fleetwire/bench/Bench$Tree", "fieldSum", "()J"⟩ : MethodName)) hown (mvT hZ (hw _ (List.mem_of_getElem? (i := 26) rfl))) (mvT hZ (hw _ (List.mem_of_getElem? (i := 27) rfl))) (notFace_of_selects (args := #[]) (mvT hZ (hw _ (List.mem_of_getElem? (i := 29) rfl)))) (mvT hZ (hw _ (List.mem_of_getElem? (i := 29) rfl))) (mvT hZ (hw _ (List.mem_of_getElem? (i := 28) rfl))) (by decide) (backOf (W := 0) (rm5_3 l Z t0 hw [] root (((own4_f0 p0 p1 p2 p3) + (0 : Int64)) + (((own4_f0 xm p3 (p2 ^^^ (-1 : Int32)) (xh ^^^ p0)) + (0 : Int64)) + (((own4_f0 p1 xl xh (p3 ^^^ (-1 : Int32))) + (0 : Int64)) + (0 : Int64)))) h11 n0 Z11 ht) hZ (hw _ (List.mem_of_getElem? (i := 30) rfl)) (hw _ (List.mem_of_getElem? (i := 6) rfl)) (by decide) (by decide)) qa12 qc12 (g := (mkF m 272 #[.val (.int p0), .val (.int p1), .val (.int p2), .val (.int p3), .val (.long q4), .second, .val (.int p5), .val (.int bL), .val (.int bR), .val (.int bLL), .val (.int bRR), .val (.int xl), .val (.int xh), .val (.int xm), .val (.ref root), .val (.long (((own4_f0 p0 p1 p2 p3) + (own4_f0 xm p3 (p2 ^^^ (-1 : Int32)) (xh ^^^ p0))) + (own4_f0 p1 xl xh (p3 ^^^ (-1 : Int32))))), .second, .val (.ref r), .val (.ref rr)] [(.ref root)])) rfl (by rw [hml]; rfl) (Steps.refl _) (argsL := []) (rest := []) (lenOf pd_0_2 rfl) rfl (by show 2 * 0 + _ ≤ _; exact Nat.le_of_eq rfl) (hb hby at_272) (fun _ _ => ⟨rfl, e11, (by decide : 3 + 0 ≤ _), (by decide : 18 + 0 ≤ _)⟩)
        dsimp only [Pt.U, Pt.locs, Pt.cells, Pt.slots] at X12 l12 y12 z12 st12 hQ12
        subst l12 y12 z12
        obtain ⟨rfl, Nq12, hh12⟩ := hQ12
        have N12 := Fr.app N11 Nq12
        have e12 : T12.heap = h11 := hh12
        refine own_go (B := T12.setTop (mkF m 275 #[.val (.int p0), .val (.int p1), .val (.int p2), .val (.int p3), .val (.long q4), .second, .val (.int p5), .val (.int bL), .val (.int bR), .val (.int bLL), .val (.int bRR), .val (.int xl), .val (.int xh), .val (.int xm), .val (.ref root), .val (.long (((own4_f0 p0 p1 p2 p3) + (own4_f0 xm p3 (p2 ^^^ (-1 : Int32)) (xh ^^^ p0))) + (own4_f0 p1 xl xh (p3 ^^^ (-1 : Int32))))), .second, .val (.ref r), .val (.ref rr)] [(.long (((own4_f0 p0 p1 p2 p3) + (0 : Int64)) + (((own4_f0 xm p3 (p2 ^^^ (-1 : Int32)) (xh ^^^ p0)) + (0 : Int64)) + (((own4_f0 p1 xl xh (p3 ^^^ (-1 : Int32))) + (0 : Int64)) + (0 : Int64)))))])) (fun t kt => st12.trans kt) ?_
        refine own_go (B := T12.setTop (mkF m 286 #[.val (.int p0), .val (.int p1), .val (.int p2), .val (.int p3), .val (.long q4), .second, .val (.int p5), .val (.int bL), .val (.int bR), .val (.int bLL), .val (.int bRR), .val (.int xl), .val (.int xh), .val (.int xm), .val (.ref root), .val (.long (((own4_f0 p0 p1 p2 p3) + (own4_f0 xm p3 (p2 ^^^ (-1 : Int32)) (xh ^^^ p0))) + (own4_f0 p1 xl xh (p3 ^^^ (-1 : Int32))))), .second, .val (.ref r), .val (.ref rr)] [(.int (1 : Int32))])) (fun t kt => ?_) ?_
        · show Steps p.tables e below (T12.setTop (mkF m 275 #[.val (.int p0), .val (.int p1), .val (.int p2), .val (.int p3), .val (.long q4), .second, .val (.int p5), .val (.int bL), .val (.int bR), .val (.int bLL), .val (.int bRR), .val (.int xl), .val (.int xh), .val (.int xm), .val (.ref root), .val (.long (((own4_f0 p0 p1 p2 p3) + (own4_f0 xm p3 (p2 ^^^ (-1 : Int32)) (xh ^^^ p0))) + (own4_f0 p1 xl xh (p3 ^^^ (-1 : Int32))))), .second, .val (.ref r), .val (.ref rr)] [(.long (((own4_f0 p0 p1 p2 p3) + (0 : Int64)) + (((own4_f0 xm p3 (p2 ^^^ (-1 : Int32)) (xh ^^^ p0)) + (0 : Int64)) + (((own4_f0 p1 xl xh (p3 ^^^ (-1 : Int32))) + (0 : Int64)) + (0 : Int64)))))])) _
          refine XS.lload X12.here hx rfl (hb hby at_275) rfl ?_
          show Steps p.tables e below (T12.setTop (mkF m 277 #[.val (.int p0), .val (.int p1), .val (.int p2), .val (.int p3), .val (.long q4), .second, .val (.int p5), .val (.int bL), .val (.int bR), .val (.int bLL), .val (.int bRR), .val (.int xl), .val (.int xh), .val (.int xm), .val (.ref root), .val (.long (((own4_f0 p0 p1 p2 p3) + (own4_f0 xm p3 (p2 ^^^ (-1 : Int32)) (xh ^^^ p0))) + (own4_f0 p1 xl xh (p3 ^^^ (-1 : Int32))))), .second, .val (.ref r), .val (.ref rr)] [(.long (((own4_f0 p0 p1 p2 p3) + (own4_f0 xm p3 (p2 ^^^ (-1 : Int32)) (xh ^^^ p0))) + (own4_f0 p1 xl xh (p3 ^^^ (-1 : Int32))))), (.long (((own4_f0 p0 p1 p2 p3) + (0 : Int64)) + (((own4_f0 xm p3 (p2 ^^^ (-1 : Int32)) (xh ^^^ p0)) + (0 : Int64)) + (((own4_f0 p1 xl xh (p3 ^^^ (-1 : Int32))) + (0 : Int64)) + (0 : Int64)))))])) _
          refine XS.lcmp X12.here hx rfl (hb hby at_277) rfl ?_
          show Steps p.tables e below (T12.setTop (mkF m 278 #[.val (.int p0), .val (.int p1), .val (.int p2), .val (.int p3), .val (.long q4), .second, .val (.int p5), .val (.int bL), .val (.int bR), .val (.int bLL), .val (.int bRR), .val (.int xl), .val (.int xh), .val (.int xm), .val (.ref root), .val (.long (((own4_f0 p0 p1 p2 p3) + (own4_f0 xm p3 (p2 ^^^ (-1 : Int32)) (xh ^^^ p0))) + (own4_f0 p1 xl xh (p3 ^^^ (-1 : Int32))))), .second, .val (.ref r), .val (.ref rr)] [(.int (lcmpW (((own4_f0 p0 p1 p2 p3) + (0 : Int64)) + (((own4_f0 xm p3 (p2 ^^^ (-1 : Int32)) (xh ^^^ p0)) + (0 : Int64)) + (((own4_f0 p1 xl xh (p3 ^^^ (-1 : Int32))) + (0 : Int64)) + (0 : Int64)))) (((own4_f0 p0 p1 p2 p3) + (own4_f0 xm p3 (p2 ^^^ (-1 : Int32)) (xh ^^^ p0))) + (own4_f0 p1 xl xh (p3 ^^^ (-1 : Int32))))))])) _
          refine XS.ifNo X12.here hx rfl (hb hby at_278) rfl ((if0 _ _).trans (teq (show lcmpW (((own4_f0 p0 p1 p2 p3) + (0 : Int64)) + (((own4_f0 xm p3 (p2 ^^^ (-1 : Int32)) (xh ^^^ p0)) + (0 : Int64)) + (((own4_f0 p1 xl xh (p3 ^^^ (-1 : Int32))) + (0 : Int64)) + (0 : Int64)))) (((own4_f0 p0 p1 p2 p3) + (own4_f0 xm p3 (p2 ^^^ (-1 : Int32)) (xh ^^^ p0))) + (own4_f0 p1 xl xh (p3 ^^^ (-1 : Int32)))) = (0 : Int32) from (lw_eq _ _).2 (by simp only [Int64.add_zero, Int64.add_assoc]))).2) ?_
          show Steps p.tables e below (T12.setTop (mkF m 281 #[.val (.int p0), .val (.int p1), .val (.int p2), .val (.int p3), .val (.long q4), .second, .val (.int p5), .val (.int bL), .val (.int bR), .val (.int bLL), .val (.int bRR), .val (.int xl), .val (.int xh), .val (.int xm), .val (.ref root), .val (.long (((own4_f0 p0 p1 p2 p3) + (own4_f0 xm p3 (p2 ^^^ (-1 : Int32)) (xh ^^^ p0))) + (own4_f0 p1 xl xh (p3 ^^^ (-1 : Int32))))), .second, .val (.ref r), .val (.ref rr)] [])) _
          refine XS.iconst X12.here hx rfl (hb hby at_281) ?_
          show Steps p.tables e below (T12.setTop (mkF m 282 #[.val (.int p0), .val (.int p1), .val (.int p2), .val (.int p3), .val (.long q4), .second, .val (.int p5), .val (.int bL), .val (.int bR), .val (.int bLL), .val (.int bRR), .val (.int xl), .val (.int xh), .val (.int xm), .val (.ref root), .val (.long (((own4_f0 p0 p1 p2 p3) + (own4_f0 xm p3 (p2 ^^^ (-1 : Int32)) (xh ^^^ p0))) + (own4_f0 p1 xl xh (p3 ^^^ (-1 : Int32))))), .second, .val (.ref r), .val (.ref rr)] [(.int (1 : Int32))])) _
          refine XS.goto X12.here hx rfl (pc0 := 282) (pc' := 286) rfl (hb hby at_282) (by decide) (by decide) ?_
          exact kt
        obtain ⟨fs, hr, hrun, hended, hW, hsame⟩ := X12.leave (v := some (.int (1 : Int32))) (fun h => by rw [Bd.returns] at h; cases h)
        refine ⟨_, _, ?_, hrun, hended, _, _, rfl, ?_, ⟨_, rfl⟩, hW, hsame.mono (by decide) (by decide)⟩
        · show Steps p.tables e below (T12.setTop (mkF m 286 #[.val (.int p0), .val (.int p1), .val (.int p2), .val (.int p3), .val (.long q4), .second, .val (.int p5), .val (.int bL), .val (.int bR), .val (.int bLL), .val (.int bRR), .val (.int xl), .val (.int xh), .val (.int xm), .val (.ref root), .val (.long (((own4_f0 p0 p1 p2 p3) + (own4_f0 xm p3 (p2 ^^^ (-1 : Int32)) (xh ^^^ p0))) + (own4_f0 p1 xl xh (p3 ^^^ (-1 : Int32))))), .second, .val (.ref r), .val (.ref rr)] [(.int (1 : Int32))])) _
          exact retN X12 hx (t := .boolean) Bd.returns (by simp) (hb hby at_286) hr
        · show Q0 n0 _ _
          exact ⟨rfl, N12⟩
  · refine own_go (B := T2.setTop (mkF m 117 #[.val (.int p0), .val (.int p1), .val (.int p2), .val (.int p3), .val (.long q4), .second, .val (.int p5), .val (.int bL), .val (.int bR), .val (.int bLL), .val (.int bRR), .val (.int xl), .val (.int xh), .val (.int xm), .val (.ref root), .val (.long (own4_f0 p0 p1 p2 p3)), .second, .unset, .unset] [(.int p1), (.int p0), (.int xh), (.int xl)])) (fun t kt => ?_) ?_
    · show Steps p.tables e below (T2.setTop (mkF m 108 #[.val (.int p0), .val (.int p1), .val (.int p2), .val (.int p3), .val (.long q4), .second, .val (.int p5), .val (.int bL), .val (.int bR), .val (.int bLL), .val (.int bRR), .val (.int xl), .val (.int xh), .val (.int xm), .val (.ref root), .val (.long (own4_f0 p0 p1 p2 p3)), .second, .unset, .unset] [(.int bL)])) _
      refine XS.ifNo X2.here hx rfl (hb hby at_108) rfl ((if0 _ _).trans (feq hcL).1) ?_
      show Steps p.tables e below (T2.setTop (mkF m 111 #[.val (.int p0), .val (.int p1), .val (.int p2), .val (.int p3), .val (.long q4), .second, .val (.int p5), .val (.int bL), .val (.int bR), .val (.int bLL), .val (.int bRR), .val (.int xl), .val (.int xh), .val (.int xm), .val (.ref root), .val (.long (own4_f0 p0 p1 p2 p3)), .second, .unset, .unset] [])) _
      refine XS.iload X2.here hx rfl (hb hby at_111) rfl ?_
      show Steps p.tables e below (T2.setTop (mkF m 113 #[.val (.int p0), .val (.int p1), .val (.int p2), .val (.int p3), .val (.long q4), .second, .val (.int p5), .val (.int bL), .val (.int bR), .val (.int bLL), .val (.int bRR), .val (.int xl), .val (.int xh), .val (.int xm), .val (.ref root), .val (.long (own4_f0 p0 p1 p2 p3)), .second, .unset, .unset] [(.int xl)])) _
      refine XS.iload X2.here hx rfl (hb hby at_113) rfl ?_
      show Steps p.tables e below (T2.setTop (mkF m 115 #[.val (.int p0), .val (.int p1), .val (.int p2), .val (.int p3), .val (.long q4), .second, .val (.int p5), .val (.int bL), .val (.int bR), .val (.int bLL), .val (.int bRR), .val (.int xl), .val (.int xh), .val (.int xm), .val (.ref root), .val (.long (own4_f0 p0 p1 p2 p3)), .second, .unset, .unset] [(.int xh), (.int xl)])) _
      refine XS.iloadN X2.here hx rfl (hb hby at_115) rfl ?_
      show Steps p.tables e below (T2.setTop (mkF m 116 #[.val (.int p0), .val (.int p1), .val (.int p2), .val (.int p3), .val (.long q4), .second, .val (.int p5), .val (.int bL), .val (.int bR), .val (.int bLL), .val (.int bRR), .val (.int xl), .val (.int xh), .val (.int xm), .val (.ref root), .val (.long (own4_f0 p0 p1 p2 p3)), .second, .unset, .unset] [(.int p0), (.int xh), (.int xl)])) _
      refine XS.iloadN X2.here hx rfl (hb hby at_116) rfl ?_
      exact kt
    obtain ⟨_, _, ⟨T13, L13, k13, n13⟩, -, X13, ⟨Lc13, hQ13, l13, y13, z13⟩, st13⟩ := Jvm.LawKit.callS X2 hx (y := (⟨"com/example/fleetwire/fleetwire/bench/TreeFieldSumPinLaw", "node", "(IIII)Lcom/example/fleetwire/fleetwire/bench/Bench$Tree;"⟩ : MethodName)) hown (mvT hZ (hw _ (List.mem_of_getElem? (i := 0) rfl))) (mvT hZ (hw _ (List.mem_of_getElem? (i := 1) rfl))) (mvT hZ (hw _ (List.mem_of_getElem? (i := 2) rfl))) (mvT hZ (hw _ (List.mem_of_getElem? (i := 3) rfl))) (by decide) (backOf (W := 0) (rm1 l Z t0 hw [] xl xh p0 p1 h1 n0 Z1) hZ (hw _ (List.mem_of_getElem? (i := 3) rfl)) (hw _ (List.mem_of_getElem? (i := 2) rfl)) (by decide) (by decide)) (g := (mkF m 117 #[.val (.int p0), .val (.int p1), .val (.int p2), .val (.int p3), .val (.long q4), .second, .val (.int p5), .val (.int bL), .val (.int bR), .val (.int bLL), .val (.int bRR), .val (.int xl), .val (.int xh), .val (.int xm), .val (.ref root), .val (.long (own4_f0 p0 p1 p2 p3)), .second, .unset, .unset] [(.int p1), (.int p0), (.int xh), (.int xl)])) rfl (by rw [hml]; rfl) (argsL := [(.int xl), (.int xh), (.int p0), (.int p1)]) (rest := []) (lenOf pd_0_0 rfl) rfl (by show 2 * 0 + _ ≤ _; exact Nat.le_of_eq rfl) (hb hby at_117) (fun _ _ => ⟨rfl, e2, (by decide : 1 + 1 ≤ _), (by decide : 6 + 6 ≤ _)⟩)
    dsimp only [Pt.U, Pt.locs, Pt.cells, Pt.slots] at X13 l13 y13 z13 st13 hQ13
    subst l13 y13 z13
    obtain ⟨lf, rfl, Nq13, Kc13, zb13, gb13, ex13, fa13, fb13, fc13, fd13, fleft13, fright13⟩ := hQ13
    have N13 := Fr.app N2 Nq13
    obtain ⟨h13, e13⟩ : ∃ z, T13.heap = z := ⟨_, rfl⟩
    rw [e13] at Kc13 fa13 fb13 fc13 fd13 fleft13 fright13 ex13
    have E_root_13 := ex1.keep Kc13
    have F_a_root_13 := fa1.keep Kc13 nin0
    have F_b_root_13 := fb1.keep Kc13 nin0
    have F_c_root_13 := fc1.keep Kc13 nin0
    have F_d_root_13 := fd1.keep Kc13 nin0
    have F_left_root_13 := fleft1.keep Kc13 nin0
    have F_right_root_13 := fright1.keep Kc13 nin0
    have Z13 : n0 ≤ h13.size := Nat.le_trans Z1 Kc13.1
    have ne_root_lf : root ≠ lf := Nat.ne_of_lt (Nat.lt_of_lt_of_le ex1.lt zb13)
    refine own_go (B := T13.setTop (mkF m 120 #[.val (.int p0), .val (.int p1), .val (.int p2), .val (.int p3), .val (.long q4), .second, .val (.int p5), .val (.int bL), .val (.int bR), .val (.int bLL), .val (.int bRR), .val (.int xl), .val (.int xh), .val (.int xm), .val (.ref root), .val (.long (own4_f0 p0 p1 p2 p3)), .second, .unset, .unset] [(.ref lf)])) (fun t kt => st13 t kt) ?_
    refine own_go (B := T13.setTop (mkF m 130 #[.val (.int p0), .val (.int p1), .val (.int p2), .val (.int p3), .val (.long q4), .second, .val (.int p5), .val (.int bL), .val (.int bR), .val (.int bLL), .val (.int bRR), .val (.int xl), .val (.int xh), .val (.int xm), .val (.ref root), .val (.long (own4_f0 p0 p1 p2 p3)), .second, .val (.ref lf), .unset] [(.int p1), (.int p0), (.int xh), (.int xl), (.long (own4_f0 p0 p1 p2 p3))])) (fun t kt => ?_) ?_
    · show Steps p.tables e below (T13.setTop (mkF m 120 #[.val (.int p0), .val (.int p1), .val (.int p2), .val (.int p3), .val (.long q4), .second, .val (.int p5), .val (.int bL), .val (.int bR), .val (.int bLL), .val (.int bRR), .val (.int xl), .val (.int xh), .val (.int xm), .val (.ref root), .val (.long (own4_f0 p0 p1 p2 p3)), .second, .unset, .unset] [(.ref lf)])) _
      refine XS.astore X13.here hx rfl (hb hby at_120) rfl rfl (l' := #[.val (.int p0), .val (.int p1), .val (.int p2), .val (.int p3), .val (.long q4), .second, .val (.int p5), .val (.int bL), .val (.int bR), .val (.int bLL), .val (.int bRR), .val (.int xl), .val (.int xh), .val (.int xm), .val (.ref root), .val (.long (own4_f0 p0 p1 p2 p3)), .second, .val (.ref lf), .unset]) rfl ?_
      show Steps p.tables e below (T13.setTop (mkF m 122 #[.val (.int p0), .val (.int p1), .val (.int p2), .val (.int p3), .val (.long q4), .second, .val (.int p5), .val (.int bL), .val (.int bR), .val (.int bLL), .val (.int bRR), .val (.int xl), .val (.int xh), .val (.int xm), .val (.ref root), .val (.long (own4_f0 p0 p1 p2 p3)), .second, .val (.ref lf), .unset] [])) _
      refine XS.lload X13.here hx rfl (hb hby at_122) rfl ?_
      show Steps p.tables e below (T13.setTop (mkF m 124 #[.val (.int p0), .val (.int p1), .val (.int p2), .val (.int p3), .val (.long q4), .second, .val (.int p5), .val (.int bL), .val (.int bR), .val (.int bLL), .val (.int bRR), .val (.int xl), .val (.int xh), .val (.int xm), .val (.ref root), .val (.long (own4_f0 p0 p1 p2 p3)), .second, .val (.ref lf), .unset] [(.long (own4_f0 p0 p1 p2 p3))])) _
      refine XS.iload X13.here hx rfl (hb hby at_124) rfl ?_
      show Steps p.tables e below (T13.setTop (mkF m 126 #[.val (.int p0), .val (.int p1), .val (.int p2), .val (.int p3), .val (.long q4), .second, .val (.int p5), .val (.int bL), .val (.int bR), .val (.int bLL), .val (.int bRR), .val (.int xl), .val (.int xh), .val (.int xm), .val (.ref root), .val (.long (own4_f0 p0 p1 p2 p3)), .second, .val (.ref lf), .unset] [(.int xl), (.long (own4_f0 p0 p1 p2 p3))])) _
      refine XS.iload X13.here hx rfl (hb hby at_126) rfl ?_
      show Steps p.tables e below (T13.setTop (mkF m 128 #[.val (.int p0), .val (.int p1), .val (.int p2), .val (.int p3), .val (.long q4), .second, .val (.int p5), .val (.int bL), .val (.int bR), .val (.int bLL), .val (.int bRR), .val (.int xl), .val (.int xh), .val (.int xm), .val (.ref root), .val (.long (own4_f0 p0 p1 p2 p3)), .second, .val (.ref lf), .unset] [(.int xh), (.int xl), (.long (own4_f0 p0 p1 p2 p3))])) _
      refine XS.iloadN X13.here hx rfl (hb hby at_128) rfl ?_
      show Steps p.tables e below (T13.setTop (mkF m 129 #[.val (.int p0), .val (.int p1), .val (.int p2), .val (.int p3), .val (.long q4), .second, .val (.int p5), .val (.int bL), .val (.int bR), .val (.int bLL), .val (.int bRR), .val (.int xl), .val (.int xh), .val (.int xm), .val (.ref root), .val (.long (own4_f0 p0 p1 p2 p3)), .second, .val (.ref lf), .unset] [(.int p0), (.int xh), (.int xl), (.long (own4_f0 p0 p1 p2 p3))])) _
      refine XS.iloadN X13.here hx rfl (hb hby at_129) rfl ?_
      exact kt
    obtain ⟨_, _, ⟨T14, L14, k14, n14⟩, -, X14, ⟨Lc14, hQ14, l14, y14, z14⟩, st14⟩ := Jvm.LawKit.callS X13 hx (y := (⟨"com/example/fleetwire/fleetwire/bench/TreeFieldSumPinLaw", "s", "(IIII)J"⟩ : MethodName)) hown (mvT hZ (hw _ (List.mem_of_getElem? (i := 21) rfl))) (mvT hZ (hw _ (List.mem_of_getElem? (i := 22) rfl))) (mvT hZ (hw _ (List.mem_of_getElem? (i := 2) rfl))) (mvT hZ (hw _ (List.mem_of_getElem? (i := 23) rfl))) (by decide) (backOf (W := 2) (rm4 l Z t0 hw [] xl xh p0 p1 h13 n0 Z13) hZ (hw _ (List.mem_of_getElem? (i := 23) rfl)) (hw _ (List.mem_of_getElem? (i := 2) rfl)) (by decide) (by decide)) (g := (mkF m 130 #[.val (.int p0), .val (.int p1), .val (.int p2), .val (.int p3), .val (.long q4), .second, .val (.int p5), .val (.int bL), .val (.int bR), .val (.int bLL), .val (.int bRR), .val (.int xl), .val (.int xh), .val (.int xm), .val (.ref root), .val (.long (own4_f0 p0 p1 p2 p3)), .second, .val (.ref lf), .unset] [(.int p1), (.int p0), (.int xh), (.int xl), (.long (own4_f0 p0 p1 p2 p3))])) rfl (by rw [hml]; rfl) (argsL := [(.int xl), (.int xh), (.int p0), (.int p1)]) (rest := [(.long (own4_f0 p0 p1 p2 p3))]) (lenOf pd_0_1 rfl) rfl (by show 2 * 0 + _ ≤ _; exact Nat.le_of_eq rfl) (hb hby at_130) (fun _ _ => ⟨rfl, e13, (by decide : 2 + 0 ≤ _), (by decide : 12 + 0 ≤ _)⟩)
    dsimp only [Pt.U, Pt.locs, Pt.cells, Pt.slots] at X14 l14 y14 z14 st14 hQ14
    subst l14 y14 z14
    obtain ⟨rfl, Nq14, hh14⟩ := hQ14
    have N14 := Fr.app N13 Nq14
    have e14 : T14.heap = h13 := hh14
    refine own_go (B := T14.setTop (mkF m 133 #[.val (.int p0), .val (.int p1), .val (.int p2), .val (.int p3), .val (.long q4), .second, .val (.int p5), .val (.int bL), .val (.int bR), .val (.int bLL), .val (.int bRR), .val (.int xl), .val (.int xh), .val (.int xm), .val (.ref root), .val (.long (own4_f0 p0 p1 p2 p3)), .second, .val (.ref lf), .unset] [(.long (own4_f0 xl xh p0 p1)), (.long (own4_f0 p0 p1 p2 p3))])) (fun t kt => st14 t kt) ?_
    refine own_go (B := T14.setTop (mkF m 138 #[.val (.int p0), .val (.int p1), .val (.int p2), .val (.int p3), .val (.long q4), .second, .val (.int p5), .val (.int bL), .val (.int bR), .val (.int bLL), .val (.int bRR), .val (.int xl), .val (.int xh), .val (.int xm), .val (.ref root), .val (.long ((own4_f0 p0 p1 p2 p3) + (own4_f0 xl xh p0 p1))), .second, .val (.ref lf), .unset] [(.int bLL)])) (fun t kt => ?_) ?_
    · show Steps p.tables e below (T14.setTop (mkF m 133 #[.val (.int p0), .val (.int p1), .val (.int p2), .val (.int p3), .val (.long q4), .second, .val (.int p5), .val (.int bL), .val (.int bR), .val (.int bLL), .val (.int bRR), .val (.int xl), .val (.int xh), .val (.int xm), .val (.ref root), .val (.long (own4_f0 p0 p1 p2 p3)), .second, .val (.ref lf), .unset] [(.long (own4_f0 xl xh p0 p1)), (.long (own4_f0 p0 p1 p2 p3))])) _
      refine XS.ladd X14.here hx rfl (hb hby at_133) rfl ?_
      show Steps p.tables e below (T14.setTop (mkF m 134 #[.val (.int p0), .val (.int p1), .val (.int p2), .val (.int p3), .val (.long q4), .second, .val (.int p5), .val (.int bL), .val (.int bR), .val (.int bLL), .val (.int bRR), .val (.int xl), .val (.int xh), .val (.int xm), .val (.ref root), .val (.long (own4_f0 p0 p1 p2 p3)), .second, .val (.ref lf), .unset] [(.long ((own4_f0 p0 p1 p2 p3) + (own4_f0 xl xh p0 p1)))])) _
      refine XS.lstore X14.here hx rfl (hb hby at_134) rfl (l' := #[.val (.int p0), .val (.int p1), .val (.int p2), .val (.int p3), .val (.long q4), .second, .val (.int p5), .val (.int bL), .val (.int bR), .val (.int bLL), .val (.int bRR), .val (.int xl), .val (.int xh), .val (.int xm), .val (.ref root), .val (.long ((own4_f0 p0 p1 p2 p3) + (own4_f0 xl xh p0 p1))), .second, .val (.ref lf), .unset]) rfl ?_
      show Steps p.tables e below (T14.setTop (mkF m 136 #[.val (.int p0), .val (.int p1), .val (.int p2), .val (.int p3), .val (.long q4), .second, .val (.int p5), .val (.int bL), .val (.int bR), .val (.int bLL), .val (.int bRR), .val (.int xl), .val (.int xh), .val (.int xm), .val (.ref root), .val (.long ((own4_f0 p0 p1 p2 p3) + (own4_f0 xl xh p0 p1))), .second, .val (.ref lf), .unset] [])) _
      refine XS.iload X14.here hx rfl (hb hby at_136) rfl ?_
      exact kt
    by_cases hcLL : bLL = (0 : Int32)
    · refine own_go (B := T14.setTop (mkF m 181 #[.val (.int p0), .val (.int p1), .val (.int p2), .val (.int p3), .val (.long q4), .second, .val (.int p5), .val (.int bL), .val (.int bR), .val (.int bLL), .val (.int bRR), .val (.int xl), .val (.int xh), .val (.int xm), .val (.ref root), .val (.long ((own4_f0 p0 p1 p2 p3) + (own4_f0 xl xh p0 p1))), .second, .val (.ref lf), .unset] [(.ref lf), (.ref root)])) (fun t kt => ?_) ?_
      · show Steps p.tables e below (T14.setTop (mkF m 138 #[.val (.int p0), .val (.int p1), .val (.int p2), .val (.int p3), .val (.long q4), .second, .val (.int p5), .val (.int bL), .val (.int bR), .val (.int bLL), .val (.int bRR), .val (.int xl), .val (.int xh), .val (.int xm), .val (.ref root), .val (.long ((own4_f0 p0 p1 p2 p3) + (own4_f0 xl xh p0 p1))), .second, .val (.ref lf), .unset] [(.int bLL)])) _
        refine XS.ifYes X14.here hx rfl (pc0 := 138) (pc' := 177) rfl (hb hby at_138) rfl ((if0 _ _).trans (teq hcLL).1) (by decide) (by decide) ?_
        show Steps p.tables e below (T14.setTop (mkF m 177 #[.val (.int p0), .val (.int p1), .val (.int p2), .val (.int p3), .val (.long q4), .second, .val (.int p5), .val (.int bL), .val (.int bR), .val (.int bLL), .val (.int bRR), .val (.int xl), .val (.int xh), .val (.int xm), .val (.ref root), .val (.long ((own4_f0 p0 p1 p2 p3) + (own4_f0 xl xh p0 p1))), .second, .val (.ref lf), .unset] [])) _
        refine XS.aload X14.here hx rfl (hb hby at_177) rfl rfl ?_
        show Steps p.tables e below (T14.setTop (mkF m 179 #[.val (.int p0), .val (.int p1), .val (.int p2), .val (.int p3), .val (.long q4), .second, .val (.int p5), .val (.int bL), .val (.int bR), .val (.int bLL), .val (.int bRR), .val (.int xl), .val (.int xh), .val (.int xm), .val (.ref root), .val (.long ((own4_f0 p0 p1 p2 p3) + (own4_f0 xl xh p0 p1))), .second, .val (.ref lf), .unset] [(.ref root)])) _
        refine XS.aload X14.here hx rfl (hb hby at_179) rfl rfl ?_
        exact kt
      obtain ⟨T15, h15, X15, e15, W15, st15⟩ := putF X14 hx hZ hown (host := "") (Or.inl (hw _ (List.mem_of_getElem? (i := 39) rfl))) Via.refl e14 F_left_root_13 E_root_13 (Or.inl (hw _ (List.mem_of_getElem? (i := 36) rfl))) (hw _ (List.mem_of_getElem? (i := 5) rfl)) (ty := (.object "com/example/fleetwire/fleetwire/bench/Bench$Tree")) (by decide) rfl rfl (g := (mkF m 181 #[.val (.int p0), .val (.int p1), .val (.int p2), .val (.int p3), .val (.long q4), .second, .val (.int p5), .val (.int bL), .val (.int bR), .val (.int bLL), .val (.int bRR), .val (.int xl), .val (.int xh), .val (.int xm), .val (.ref root), .val (.long ((own4_f0 p0 p1 p2 p3) + (own4_f0 xl xh p0 p1))), .second, .val (.ref lf), .unset] [(.ref lf), (.ref root)])) rfl rfl (hb hby at_181)
      have F_left_root_15 : Fld Z h15 root "com/example/fleetwire/fleetwire/bench/Bench$Tree" "left" "Lcom/example/fleetwire/fleetwire/bench/Bench$Tree;" (.ref lf) := F_left_root_13.same W15
      have E_root_15 := E_root_13.wr W15
      have F_a_root_15 := F_a_root_13.other W15 (Or.inr (slot_ne (Or.inl (hw _ (List.mem_of_getElem? (i := 14) rfl))) (Or.inl (hw _ (List.mem_of_getElem? (i := 36) rfl))) (by decide) (t := .int) (t' := (.object "com/example/fleetwire/fleetwire/bench/Bench$Tree")) (by decide) (by decide)))
      have F_b_root_15 := F_b_root_13.other W15 (Or.inr (slot_ne (Or.inl (hw _ (List.mem_of_getElem? (i := 16) rfl))) (Or.inl (hw _ (List.mem_of_getElem? (i := 36) rfl))) (by decide) (t := .int) (t' := (.object "com/example/fleetwire/fleetwire/bench/Bench$Tree")) (by decide) (by decide)))
      have F_c_root_15 := F_c_root_13.other W15 (Or.inr (slot_ne (Or.inl (hw _ (List.mem_of_getElem? (i := 18) rfl))) (Or.inl (hw _ (List.mem_of_getElem? (i := 36) rfl))) (by decide) (t := .int) (t' := (.object "com/example/fleetwire/fleetwire/bench/Bench$Tree")) (by decide) (by decide)))
      have F_d_root_15 := F_d_root_13.other W15 (Or.inr (slot_ne (Or.inl (hw _ (List.mem_of_getElem? (i := 20) rfl))) (Or.inl (hw _ (List.mem_of_getElem? (i := 36) rfl))) (by decide) (t := .int) (t' := (.object "com/example/fleetwire/fleetwire/bench/Bench$Tree")) (by decide) (by decide)))
      have F_right_root_15 := F_right_root_13.other W15 (Or.inr (slot_ne (Or.inl (hw _ (List.mem_of_getElem? (i := 25) rfl))) (Or.inl (hw _ (List.mem_of_getElem? (i := 36) rfl))) (by decide) (t := (.object "com/example/fleetwire/fleetwire/bench/Bench$Tree")) (t' := (.object "com/example/fleetwire/fleetwire/bench/Bench$Tree")) (by decide) (by decide)))
      have E_lf_15 := ex13.wr W15
      have F_a_lf_15 := fa13.other W15 (Or.inl (Ne.symm ne_root_lf))
      have F_b_lf_15 := fb13.other W15 (Or.inl (Ne.symm ne_root_lf))
      have F_c_lf_15 := fc13.other W15 (Or.inl (Ne.symm ne_root_lf))
      have F_d_lf_15 := fd13.other W15 (Or.inl (Ne.symm ne_root_lf))
      have F_left_lf_15 := fleft13.other W15 (Or.inl (Ne.symm ne_root_lf))
      have F_right_lf_15 := fright13.other W15 (Or.inl (Ne.symm ne_root_lf))
      have Z15 : n0 ≤ h15.size := Nat.le_trans Z13 (Keep.of_wr W15).1
      have N15 := Fr.snoc X15 N14 gb1
      refine own_go (B := T15.setTop (mkF m 184 #[.val (.int p0), .val (.int p1), .val (.int p2), .val (.int p3), .val (.long q4), .second, .val (.int p5), .val (.int bL), .val (.int bR), .val (.int bLL), .val (.int bRR), .val (.int xl), .val (.int xh), .val (.int xm), .val (.ref root), .val (.long ((own4_f0 p0 p1 p2 p3) + (own4_f0 xl xh p0 p1))), .second, .val (.ref lf), .unset] [])) (fun t kt => st15 t kt) ?_
      by_cases hcR : bR = (0 : Int32)
      · refine own_go (B := T15.setTop (mkF m 272 #[.val (.int p0), .val (.int p1), .val (.int p2), .val (.int p3), .val (.long q4), .second, .val (.int p5), .val (.int bL), .val (.int bR), .val (.int bLL), .val (.int bRR), .val (.int xl), .val (.int xh), .val (.int xm), .val (.ref root), .val (.long ((own4_f0 p0 p1 p2 p3) + (own4_f0 xl xh p0 p1))), .second, .val (.ref lf), .unset] [(.ref root)])) (fun t kt => ?_) ?_
        · show Steps p.tables e below (T15.setTop (mkF m 184 #[.val (.int p0), .val (.int p1), .val (.int p2), .val (.int p3), .val (.long q4), .second, .val (.int p5), .val (.int bL), .val (.int bR), .val (.int bLL), .val (.int bRR), .val (.int xl), .val (.int xh), .val (.int xm), .val (.ref root), .val (.long ((own4_f0 p0 p1 p2 p3) + (own4_f0 xl xh p0 p1))), .second, .val (.ref lf), .unset] [])) _
          refine XS.iload X15.here hx rfl (hb hby at_184) rfl ?_
          show Steps p.tables e below (T15.setTop (mkF m 186 #[.val (.int p0), .val (.int p1), .val (.int p2), .val (.int p3), .val (.long q4), .second, .val (.int p5), .val (.int bL), .val (.int bR), .val (.int bLL), .val (.int bRR), .val (.int xl), .val (.int xh), .val (.int xm), .val (.ref root), .val (.long ((own4_f0 p0 p1 p2 p3) + (own4_f0 xl xh p0 p1))), .second, .val (.ref lf), .unset] [(.int bR)])) _
          refine XS.ifYes X15.here hx rfl (pc0 := 186) (pc' := 270) rfl (hb hby at_186) rfl ((if0 _ _).trans (teq hcR).1) (by decide) (by decide) ?_
          show Steps p.tables e below (T15.setTop (mkF m 270 #[.val (.int p0), .val (.int p1), .val (.int p2), .val (.int p3), .val (.long q4), .second, .val (.int p5), .val (.int bL), .val (.int bR), .val (.int bLL), .val (.int bRR), .val (.int xl), .val (.int xh), .val (.int xm), .val (.ref root), .val (.long ((own4_f0 p0 p1 p2 p3) + (own4_f0 xl xh p0 p1))), .second, .val (.ref lf), .unset] [])) _
          refine XS.aload X15.here hx rfl (hb hby at_270) rfl rfl ?_
          exact kt
        have ht := (show own_t3 Z h15 root (((own4_f0 p0 p1 p2 p3) + (((own4_f0 xl xh p0 p1) + (0 : Int64)) + (0 : Int64))) + (0 : Int64)) from ⟨_, _, _, _, _, _, _, _, E_root_15, F_a_root_15, F_b_root_15, F_c_root_15, F_d_root_15, F_left_root_15, F_right_root_15, (Or.inr ⟨lf, rfl, (show own_t2 Z h15 lf (((own4_f0 xl xh p0 p1) + (0 : Int64)) + (0 : Int64)) from ⟨_, _, _, _, _, _, _, _, E_lf_15, F_a_lf_15, F_b_lf_15, F_c_lf_15, F_d_lf_15, F_left_lf_15, F_right_lf_15, (Or.inl ⟨rfl, rfl⟩), (Or.inl ⟨rfl, rfl⟩), rfl⟩)⟩), (Or.inl ⟨rfl, rfl⟩), rfl⟩)
        obtain ⟨cq16, kq16, qa16, qb16, qc16⟩ := isOf hZ e15 E_root_15
        obtain ⟨_, _, ⟨T16, L16, k16, n16⟩, -, X16, ⟨Lc16, hQ16, l16, y16, z16⟩, st16⟩ := X15.virtualBack hx (y := (⟨"com/example/fleetwire/fleetwire/bench/Bench$Tree", "fieldSum", "()J"⟩ : MethodName)) (z := (⟨"com/example/fleetwire/fleetwire/bench/Bench$Tree", "fieldSum", "()J"⟩ : MethodName)) hown (mvT hZ (hw _ (List.mem_of_getElem? (i := 26) rfl))) (mvT hZ (hw _ (List.mem_of_getElem? (i := 27) rfl))) (notFace_of_selects (args := #[]) (mvT hZ (hw _ (List.mem_of_getElem? (i := 29) rfl)))) (mvT hZ (hw _ (List.mem_of_getElem? (i := 29) rfl))) (mvT hZ (hw _ (List.mem_of_getElem? (i := 28) rfl))) (by decide) (backOf (W := 0) (rm5_3 l Z t0 hw [] root (((own4_f0 p0 p1 p2 p3) + (((own4_f0 xl xh p0 p1) + (0 : Int64)) + (0 : Int64))) + (0 : Int64)) h15 n0 Z15 ht) hZ (hw _ (List.mem_of_getElem? (i := 30) rfl)) (hw _ (List.mem_of_getElem? (i := 6) rfl)) (by decide) (by decide)) qa16 qc16 (g := (mkF m 272 #[.val (.int p0), .val (.int p1), .val (.int p2), .val (.int p3), .val (.long q4), .second, .val (.int p5), .val (.int bL), .val (.int bR), .val (.int bLL), .val (.int bRR), .val (.int xl), .val (.int xh), .val (.int xm), .val (.ref root), .val (.long ((own4_f0 p0 p1 p2 p3) + (own4_f0 xl xh p0 p1))), .second, .val (.ref lf), .unset] [(.ref root)])) rfl (by rw [hml]; rfl) (Steps.refl _) (argsL := []) (rest := []) (lenOf pd_0_2 rfl) rfl (by show 2 * 0 + _ ≤ _; exact Nat.le_of_eq rfl) (hb hby at_272) (fun _ _ => ⟨rfl, e15, (by decide : 2 + 0 ≤ _), (by decide : 12 + 0 ≤ _)⟩)
        dsimp only [Pt.U, Pt.locs, Pt.cells, Pt.slots] at X16 l16 y16 z16 st16 hQ16
        subst l16 y16 z16
        obtain ⟨rfl, Nq16, hh16⟩ := hQ16
        have N16 := Fr.app N15 Nq16
        have e16 : T16.heap = h15 := hh16
        refine own_go (B := T16.setTop (mkF m 275 #[.val (.int p0), .val (.int p1), .val (.int p2), .val (.int p3), .val (.long q4), .second, .val (.int p5), .val (.int bL), .val (.int bR), .val (.int bLL), .val (.int bRR), .val (.int xl), .val (.int xh), .val (.int xm), .val (.ref root), .val (.long ((own4_f0 p0 p1 p2 p3) + (own4_f0 xl xh p0 p1))), .second, .val (.ref lf), .unset] [(.long (((own4_f0 p0 p1 p2 p3) + (((own4_f0 xl xh p0 p1) + (0 : Int64)) + (0 : Int64))) + (0 : Int64)))])) (fun t kt => st16.trans kt) ?_
        refine own_go (B := T16.setTop (mkF m 286 #[.val (.int p0), .val (.int p1), .val (.int p2), .val (.int p3), .val (.long q4), .second, .val (.int p5), .val (.int bL), .val (.int bR), .val (.int bLL), .val (.int bRR), .val (.int xl), .val (.int xh), .val (.int xm), .val (.ref root), .val (.long ((own4_f0 p0 p1 p2 p3) + (own4_f0 xl xh p0 p1))), .second, .val (.ref lf), .unset] [(.int (1 : Int32))])) (fun t kt => ?_) ?_
        · show Steps p.tables e below (T16.setTop (mkF m 275 #[.val (.int p0), .val (.int p1), .val (.int p2), .val (.int p3), .val (.long q4), .second, .val (.int p5), .val (.int bL), .val (.int bR), .val (.int bLL), .val (.int bRR), .val (.int xl), .val (.int xh), .val (.int xm), .val (.ref root), .val (.long ((own4_f0 p0 p1 p2 p3) + (own4_f0 xl xh p0 p1))), .second, .val (.ref lf), .unset] [(.long (((own4_f0 p0 p1 p2 p3) + (((own4_f0 xl xh p0 p1) + (0 : Int64)) + (0 : Int64))) + (0 : Int64)))])) _
          refine XS.lload X16.here hx rfl (hb hby at_275) rfl ?_
          show Steps p.tables e below (T16.setTop (mkF m 277 #[.val (.int p0), .val (.int p1), .val (.int p2), .val (.int p3), .val (.long q4), .second, .val (.int p5), .val (.int bL), .val (.int bR), .val (.int bLL), .val (.int bRR), .val (.int xl), .val (.int xh), .val (.int xm), .val (.ref root), .val (.long ((own4_f0 p0 p1 p2 p3) + (own4_f0 xl xh p0 p1))), .second, .val (.ref lf), .unset] [(.long ((own4_f0 p0 p1 p2 p3) + (own4_f0 xl xh p0 p1))), (.long (((own4_f0 p0 p1 p2 p3) + (((own4_f0 xl xh p0 p1) + (0 : Int64)) + (0 : Int64))) + (0 : Int64)))])) _
          refine XS.lcmp X16.here hx rfl (hb hby at_277) rfl ?_
          show Steps p.tables e below (T16.setTop (mkF m 278 #[.val (.int p0), .val (.int p1), .val (.int p2), .val (.int p3), .val (.long q4), .second, .val (.int p5), .val (.int bL), .val (.int bR), .val (.int bLL), .val (.int bRR), .val (.int xl), .val (.int xh), .val (.int xm), .val (.ref root), .val (.long ((own4_f0 p0 p1 p2 p3) + (own4_f0 xl xh p0 p1))), .second, .val (.ref lf), .unset] [(.int (lcmpW (((own4_f0 p0 p1 p2 p3) + (((own4_f0 xl xh p0 p1) + (0 : Int64)) + (0 : Int64))) + (0 : Int64)) ((own4_f0 p0 p1 p2 p3) + (own4_f0 xl xh p0 p1))))])) _
          refine XS.ifNo X16.here hx rfl (hb hby at_278) rfl ((if0 _ _).trans (teq (show lcmpW (((own4_f0 p0 p1 p2 p3) + (((own4_f0 xl xh p0 p1) + (0 : Int64)) + (0 : Int64))) + (0 : Int64)) ((own4_f0 p0 p1 p2 p3) + (own4_f0 xl xh p0 p1)) = (0 : Int32) from (lw_eq _ _).2 (by simp only [Int64.add_zero, Int64.add_assoc]))).2) ?_
          show Steps p.tables e below (T16.setTop (mkF m 281 #[.val (.int p0), .val (.int p1), .val (.int p2), .val (.int p3), .val (.long q4), .second, .val (.int p5), .val (.int bL), .val (.int bR), .val (.int bLL), .val (.int bRR), .val (.int xl), .val (.int xh), .val (.int xm), .val (.ref root), .val (.long ((own4_f0 p0 p1 p2 p3) + (own4_f0 xl xh p0 p1))), .second, .val (.ref lf), .unset] [])) _
          refine XS.iconst X16.here hx rfl (hb hby at_281) ?_
          show Steps p.tables e below (T16.setTop (mkF m 282 #[.val (.int p0), .val (.int p1), .val (.int p2), .val (.int p3), .val (.long q4), .second, .val (.int p5), .val (.int bL), .val (.int bR), .val (.int bLL), .val (.int bRR), .val (.int xl), .val (.int xh), .val (.int xm), .val (.ref root), .val (.long ((own4_f0 p0 p1 p2 p3) + (own4_f0 xl xh p0 p1))), .second, .val (.ref lf), .unset] [(.int (1 : Int32))])) _
          refine XS.goto X16.here hx rfl (pc0 := 282) (pc' := 286) rfl (hb hby at_282) (by decide) (by decide) ?_
          exact kt
        obtain ⟨fs, hr, hrun, hended, hW, hsame⟩ := X16.leave (v := some (.int (1 : Int32))) (fun h => by rw [Bd.returns] at h; cases h)
        refine ⟨_, _, ?_, hrun, hended, _, _, rfl, ?_, ⟨_, rfl⟩, hW, hsame.mono (by decide) (by decide)⟩
        · show Steps p.tables e below (T16.setTop (mkF m 286 #[.val (.int p0), .val (.int p1), .val (.int p2), .val (.int p3), .val (.long q4), .second, .val (.int p5), .val (.int bL), .val (.int bR), .val (.int bLL), .val (.int bRR), .val (.int xl), .val (.int xh), .val (.int xm), .val (.ref root), .val (.long ((own4_f0 p0 p1 p2 p3) + (own4_f0 xl xh p0 p1))), .second, .val (.ref lf), .unset] [(.int (1 : Int32))])) _
          exact retN X16 hx (t := .boolean) Bd.returns (by simp) (hb hby at_286) hr
        · show Q0 n0 _ _
          exact ⟨rfl, N16⟩
      · refine own_go (B := T15.setTop (mkF m 199 #[.val (.int p0), .val (.int p1), .val (.int p2), .val (.int p3), .val (.long q4), .second, .val (.int p5), .val (.int bL), .val (.int bR), .val (.int bLL), .val (.int bRR), .val (.int xl), .val (.int xh), .val (.int xm), .val (.ref root), .val (.long ((own4_f0 p0 p1 p2 p3) + (own4_f0 xl xh p0 p1))), .second, .val (.ref lf), .unset] [(.int (xh ^^^ p0)), (.int (p2 ^^^ (-1 : Int32))), (.int p3), (.int xm)])) (fun t kt => ?_) ?_
        · show Steps p.tables e below (T15.setTop (mkF m 184 #[.val (.int p0), .val (.int p1), .val (.int p2), .val (.int p3), .val (.long q4), .second, .val (.int p5), .val (.int bL), .val (.int bR), .val (.int bLL), .val (.int bRR), .val (.int xl), .val (.int xh), .val (.int xm), .val (.ref root), .val (.long ((own4_f0 p0 p1 p2 p3) + (own4_f0 xl xh p0 p1))), .second, .val (.ref lf), .unset] [])) _
          refine XS.iload X15.here hx rfl (hb hby at_184) rfl ?_
          show Steps p.tables e below (T15.setTop (mkF m 186 #[.val (.int p0), .val (.int p1), .val (.int p2), .val (.int p3), .val (.long q4), .second, .val (.int p5), .val (.int bL), .val (.int bR), .val (.int bLL), .val (.int bRR), .val (.int xl), .val (.int xh), .val (.int xm), .val (.ref root), .val (.long ((own4_f0 p0 p1 p2 p3) + (own4_f0 xl xh p0 p1))), .second, .val (.ref lf), .unset] [(.int bR)])) _
          refine XS.ifNo X15.here hx rfl (hb hby at_186) rfl ((if0 _ _).trans (feq hcR).1) ?_
          show Steps p.tables e below (T15.setTop (mkF m 189 #[.val (.int p0), .val (.int p1), .val (.int p2), .val (.int p3), .val (.long q4), .second, .val (.int p5), .val (.int bL), .val (.int bR), .val (.int bLL), .val (.int bRR), .val (.int xl), .val (.int xh), .val (.int xm), .val (.ref root), .val (.long ((own4_f0 p0 p1 p2 p3) + (own4_f0 xl xh p0 p1))), .second, .val (.ref lf), .unset] [])) _
          refine XS.iload X15.here hx rfl (hb hby at_189) rfl ?_
          show Steps p.tables e below (T15.setTop (mkF m 191 #[.val (.int p0), .val (.int p1), .val (.int p2), .val (.int p3), .val (.long q4), .second, .val (.int p5), .val (.int bL), .val (.int bR), .val (.int bLL), .val (.int bRR), .val (.int xl), .val (.int xh), .val (.int xm), .val (.ref root), .val (.long ((own4_f0 p0 p1 p2 p3) + (own4_f0 xl xh p0 p1))), .second, .val (.ref lf), .unset] [(.int xm)])) _
          refine XS.iloadN X15.here hx rfl (hb hby at_191) rfl ?_
          show Steps p.tables e below (T15.setTop (mkF m 192 #[.val (.int p0), .val (.int p1), .val (.int p2), .val (.int p3), .val (.long q4), .second, .val (.int p5), .val (.int bL), .val (.int bR), .val (.int bLL), .val (.int bRR), .val (.int xl), .val (.int xh), .val (.int xm), .val (.ref root), .val (.long ((own4_f0 p0 p1 p2 p3) + (own4_f0 xl xh p0 p1))), .second, .val (.ref lf), .unset] [(.int p3), (.int xm)])) _
          refine XS.iloadN X15.here hx rfl (hb hby at_192) rfl ?_
          show Steps p.tables e below (T15.setTop (mkF m 193 #[.val (.int p0), .val (.int p1), .val (.int p2), .val (.int p3), .val (.long q4), .second, .val (.int p5), .val (.int bL), .val (.int bR), .val (.int bLL), .val (.int bRR), .val (.int xl), .val (.int xh), .val (.int xm), .val (.ref root), .val (.long ((own4_f0 p0 p1 p2 p3) + (own4_f0 xl xh p0 p1))), .second, .val (.ref lf), .unset] [(.int p2), (.int p3), (.int xm)])) _
          refine XS.iconst X15.here hx rfl (hb hby at_193) ?_
          show Steps p.tables e below (T15.setTop (mkF m 194 #[.val (.int p0), .val (.int p1), .val (.int p2), .val (.int p3), .val (.long q4), .second, .val (.int p5), .val (.int bL), .val (.int bR), .val (.int bLL), .val (.int bRR), .val (.int xl), .val (.int xh), .val (.int xm), .val (.ref root), .val (.long ((own4_f0 p0 p1 p2 p3) + (own4_f0 xl xh p0 p1))), .second, .val (.ref lf), .unset] [(.int (-1 : Int32)), (.int p2), (.int p3), (.int xm)])) _
          refine XS.ixor X15.here hx rfl (hb hby at_194) rfl ?_
          show Steps p.tables e below (T15.setTop (mkF m 195 #[.val (.int p0), .val (.int p1), .val (.int p2), .val (.int p3), .val (.long q4), .second, .val (.int p5), .val (.int bL), .val (.int bR), .val (.int bLL), .val (.int bRR), .val (.int xl), .val (.int xh), .val (.int xm), .val (.ref root), .val (.long ((own4_f0 p0 p1 p2 p3) + (own4_f0 xl xh p0 p1))), .second, .val (.ref lf), .unset] [(.int (p2 ^^^ (-1 : Int32))), (.int p3), (.int xm)])) _
          refine XS.iload X15.here hx rfl (hb hby at_195) rfl ?_
          show Steps p.tables e below (T15.setTop (mkF m 197 #[.val (.int p0), .val (.int p1), .val (.int p2), .val (.int p3), .val (.long q4), .second, .val (.int p5), .val (.int bL), .val (.int bR), .val (.int bLL), .val (.int bRR), .val (.int xl), .val (.int xh), .val (.int xm), .val (.ref root), .val (.long ((own4_f0 p0 p1 p2 p3) + (own4_f0 xl xh p0 p1))), .second, .val (.ref lf), .unset] [(.int xh), (.int (p2 ^^^ (-1 : Int32))), (.int p3), (.int xm)])) _
          refine XS.iloadN X15.here hx rfl (hb hby at_197) rfl ?_
          show Steps p.tables e below (T15.setTop (mkF m 198 #[.val (.int p0), .val (.int p1), .val (.int p2), .val (.int p3), .val (.long q4), .second, .val (.int p5), .val (.int bL), .val (.int bR), .val (.int bLL), .val (.int bRR), .val (.int xl), .val (.int xh), .val (.int xm), .val (.ref root), .val (.long ((own4_f0 p0 p1 p2 p3) + (own4_f0 xl xh p0 p1))), .second, .val (.ref lf), .unset] [(.int p0), (.int xh), (.int (p2 ^^^ (-1 : Int32))), (.int p3), (.int xm)])) _
          refine XS.ixor X15.here hx rfl (hb hby at_198) rfl ?_
          exact kt
        obtain ⟨_, _, ⟨T17, L17, k17, n17⟩, -, X17, ⟨Lc17, hQ17, l17, y17, z17⟩, st17⟩ := Jvm.LawKit.callS X15 hx (y := (⟨"com/example/fleetwire/fleetwire/bench/TreeFieldSumPinLaw", "node", "(IIII)Lcom/example/fleetwire/fleetwire/bench/Bench$Tree;"⟩ : MethodName)) hown (mvT hZ (hw _ (List.mem_of_getElem? (i := 0) rfl))) (mvT hZ (hw _ (List.mem_of_getElem? (i := 1) rfl))) (mvT hZ (hw _ (List.mem_of_getElem? (i := 2) rfl))) (mvT hZ (hw _ (List.mem_of_getElem? (i := 3) rfl))) (by decide) (backOf (W := 0) (rm1 l Z t0 hw [] xm p3 (p2 ^^^ (-1 : Int32)) (xh ^^^ p0) h15 n0 Z15) hZ (hw _ (List.mem_of_getElem? (i := 3) rfl)) (hw _ (List.mem_of_getElem? (i := 2) rfl)) (by decide) (by decide)) (g := (mkF m 199 #[.val (.int p0), .val (.int p1), .val (.int p2), .val (.int p3), .val (.long q4), .second, .val (.int p5), .val (.int bL), .val (.int bR), .val (.int bLL), .val (.int bRR), .val (.int xl), .val (.int xh), .val (.int xm), .val (.ref root), .val (.long ((own4_f0 p0 p1 p2 p3) + (own4_f0 xl xh p0 p1))), .second, .val (.ref lf), .unset] [(.int (xh ^^^ p0)), (.int (p2 ^^^ (-1 : Int32))), (.int p3), (.int xm)])) rfl (by rw [hml]; rfl) (argsL := [(.int xm), (.int p3), (.int (p2 ^^^ (-1 : Int32))), (.int (xh ^^^ p0))]) (rest := []) (lenOf pd_0_0 rfl) rfl (by show 2 * 0 + _ ≤ _; exact Nat.le_of_eq rfl) (hb hby at_199) (fun _ _ => ⟨rfl, e15, (by decide : 2 + 1 ≤ _), (by decide : 12 + 6 ≤ _)⟩)
        dsimp only [Pt.U, Pt.locs, Pt.cells, Pt.slots] at X17 l17 y17 z17 st17 hQ17
        subst l17 y17 z17
        obtain ⟨r, rfl, Nq17, Kc17, zb17, gb17, ex17, fa17, fb17, fc17, fd17, fleft17, fright17⟩ := hQ17
        have N17 := Fr.app N15 Nq17
        obtain ⟨h17, e17⟩ : ∃ z, T17.heap = z := ⟨_, rfl⟩
        rw [e17] at Kc17 fa17 fb17 fc17 fd17 fleft17 fright17 ex17
        have E_root_17 := E_root_15.keep Kc17
        have F_a_root_17 := F_a_root_15.keep Kc17 nin0
        have F_b_root_17 := F_b_root_15.keep Kc17 nin0
        have F_c_root_17 := F_c_root_15.keep Kc17 nin0
        have F_d_root_17 := F_d_root_15.keep Kc17 nin0
        have F_left_root_17 := F_left_root_15.keep Kc17 nin0
        have F_right_root_17 := F_right_root_15.keep Kc17 nin0
        have E_lf_17 := E_lf_15.keep Kc17
        have F_a_lf_17 := F_a_lf_15.keep Kc17 nin0
        have F_b_lf_17 := F_b_lf_15.keep Kc17 nin0
        have F_c_lf_17 := F_c_lf_15.keep Kc17 nin0
        have F_d_lf_17 := F_d_lf_15.keep Kc17 nin0
        have F_left_lf_17 := F_left_lf_15.keep Kc17 nin0
        have F_right_lf_17 := F_right_lf_15.keep Kc17 nin0
        have Z17 : n0 ≤ h17.size := Nat.le_trans Z15 Kc17.1
        have ne_root_r : root ≠ r := Nat.ne_of_lt (Nat.lt_of_lt_of_le E_root_15.lt zb17)
        have ne_lf_r : lf ≠ r := Nat.ne_of_lt (Nat.lt_of_lt_of_le E_lf_15.lt zb17)
        refine own_go (B := T17.setTop (mkF m 202 #[.val (.int p0), .val (.int p1), .val (.int p2), .val (.int p3), .val (.long q4), .second, .val (.int p5), .val (.int bL), .val (.int bR), .val (.int bLL), .val (.int bRR), .val (.int xl), .val (.int xh), .val (.int xm), .val (.ref root), .val (.long ((own4_f0 p0 p1 p2 p3) + (own4_f0 xl xh p0 p1))), .second, .val (.ref lf), .unset] [(.ref r)])) (fun t kt => st17 t kt) ?_
        refine own_go (B := T17.setTop (mkF m 216 #[.val (.int p0), .val (.int p1), .val (.int p2), .val (.int p3), .val (.long q4), .second, .val (.int p5), .val (.int bL), .val (.int bR), .val (.int bLL), .val (.int bRR), .val (.int xl), .val (.int xh), .val (.int xm), .val (.ref root), .val (.long ((own4_f0 p0 p1 p2 p3) + (own4_f0 xl xh p0 p1))), .second, .val (.ref r), .unset] [(.int (xh ^^^ p0)), (.int (p2 ^^^ (-1 : Int32))), (.int p3), (.int xm), (.long ((own4_f0 p0 p1 p2 p3) + (own4_f0 xl xh p0 p1)))])) (fun t kt => ?_) ?_
        · show Steps p.tables e below (T17.setTop (mkF m 202 #[.val (.int p0), .val (.int p1), .val (.int p2), .val (.int p3), .val (.long q4), .second, .val (.int p5), .val (.int bL), .val (.int bR), .val (.int bLL), .val (.int bRR), .val (.int xl), .val (.int xh), .val (.int xm), .val (.ref root), .val (.long ((own4_f0 p0 p1 p2 p3) + (own4_f0 xl xh p0 p1))), .second, .val (.ref lf), .unset] [(.ref r)])) _
          refine XS.astore X17.here hx rfl (hb hby at_202) rfl rfl (l' := #[.val (.int p0), .val (.int p1), .val (.int p2), .val (.int p3), .val (.long q4), .second, .val (.int p5), .val (.int bL), .val (.int bR), .val (.int bLL), .val (.int bRR), .val (.int xl), .val (.int xh), .val (.int xm), .val (.ref root), .val (.long ((own4_f0 p0 p1 p2 p3) + (own4_f0 xl xh p0 p1))), .second, .val (.ref r), .unset]) rfl ?_
          show Steps p.tables e below (T17.setTop (mkF m 204 #[.val (.int p0), .val (.int p1), .val (.int p2), .val (.int p3), .val (.long q4), .second, .val (.int p5), .val (.int bL), .val (.int bR), .val (.int bLL), .val (.int bRR), .val (.int xl), .val (.int xh), .val (.int xm), .val (.ref root), .val (.long ((own4_f0 p0 p1 p2 p3) + (own4_f0 xl xh p0 p1))), .second, .val (.ref r), .unset] [])) _
          refine XS.lload X17.here hx rfl (hb hby at_204) rfl ?_
          show Steps p.tables e below (T17.setTop (mkF m 206 #[.val (.int p0), .val (.int p1), .val (.int p2), .val (.int p3), .val (.long q4), .second, .val (.int p5), .val (.int bL), .val (.int bR), .val (.int bLL), .val (.int bRR), .val (.int xl), .val (.int xh), .val (.int xm), .val (.ref root), .val (.long ((own4_f0 p0 p1 p2 p3) + (own4_f0 xl xh p0 p1))), .second, .val (.ref r), .unset] [(.long ((own4_f0 p0 p1 p2 p3) + (own4_f0 xl xh p0 p1)))])) _
          refine XS.iload X17.here hx rfl (hb hby at_206) rfl ?_
          show Steps p.tables e below (T17.setTop (mkF m 208 #[.val (.int p0), .val (.int p1), .val (.int p2), .val (.int p3), .val (.long q4), .second, .val (.int p5), .val (.int bL), .val (.int bR), .val (.int bLL), .val (.int bRR), .val (.int xl), .val (.int xh), .val (.int xm), .val (.ref root), .val (.long ((own4_f0 p0 p1 p2 p3) + (own4_f0 xl xh p0 p1))), .second, .val (.ref r), .unset] [(.int xm), (.long ((own4_f0 p0 p1 p2 p3) + (own4_f0 xl xh p0 p1)))])) _
          refine XS.iloadN X17.here hx rfl (hb hby at_208) rfl ?_
          show Steps p.tables e below (T17.setTop (mkF m 209 #[.val (.int p0), .val (.int p1), .val (.int p2), .val (.int p3), .val (.long q4), .second, .val (.int p5), .val (.int bL), .val (.int bR), .val (.int bLL), .val (.int bRR), .val (.int xl), .val (.int xh), .val (.int xm), .val (.ref root), .val (.long ((own4_f0 p0 p1 p2 p3) + (own4_f0 xl xh p0 p1))), .second, .val (.ref r), .unset] [(.int p3), (.int xm), (.long ((own4_f0 p0 p1 p2 p3) + (own4_f0 xl xh p0 p1)))])) _
          refine XS.iloadN X17.here hx rfl (hb hby at_209) rfl ?_
          show Steps p.tables e below (T17.setTop (mkF m 210 #[.val (.int p0), .val (.int p1), .val (.int p2), .val (.int p3), .val (.long q4), .second, .val (.int p5), .val (.int bL), .val (.int bR), .val (.int bLL), .val (.int bRR), .val (.int xl), .val (.int xh), .val (.int xm), .val (.ref root), .val (.long ((own4_f0 p0 p1 p2 p3) + (own4_f0 xl xh p0 p1))), .second, .val (.ref r), .unset] [(.int p2), (.int p3), (.int xm), (.long ((own4_f0 p0 p1 p2 p3) + (own4_f0 xl xh p0 p1)))])) _
          refine XS.iconst X17.here hx rfl (hb hby at_210) ?_
          show Steps p.tables e below (T17.setTop (mkF m 211 #[.val (.int p0), .val (.int p1), .val (.int p2), .val (.int p3), .val (.long q4), .second, .val (.int p5), .val (.int bL), .val (.int bR), .val (.int bLL), .val (.int bRR), .val (.int xl), .val (.int xh), .val (.int xm), .val (.ref root), .val (.long ((own4_f0 p0 p1 p2 p3) + (own4_f0 xl xh p0 p1))), .second, .val (.ref r), .unset] [(.int (-1 : Int32)), (.int p2), (.int p3), (.int xm), (.long ((own4_f0 p0 p1 p2 p3) + (own4_f0 xl xh p0 p1)))])) _
          refine XS.ixor X17.here hx rfl (hb hby at_211) rfl ?_
          show Steps p.tables e below (T17.setTop (mkF m 212 #[.val (.int p0), .val (.int p1), .val (.int p2), .val (.int p3), .val (.long q4), .second, .val (.int p5), .val (.int bL), .val (.int bR), .val (.int bLL), .val (.int bRR), .val (.int xl), .val (.int xh), .val (.int xm), .val (.ref root), .val (.long ((own4_f0 p0 p1 p2 p3) + (own4_f0 xl xh p0 p1))), .second, .val (.ref r), .unset] [(.int (p2 ^^^ (-1 : Int32))), (.int p3), (.int xm), (.long ((own4_f0 p0 p1 p2 p3) + (own4_f0 xl xh p0 p1)))])) _
          refine XS.iload X17.here hx rfl (hb hby at_212) rfl ?_
          show Steps p.tables e below (T17.setTop (mkF m 214 #[.val (.int p0), .val (.int p1), .val (.int p2), .val (.int p3), .val (.long q4), .second, .val (.int p5), .val (.int bL), .val (.int bR), .val (.int bLL), .val (.int bRR), .val (.int xl), .val (.int xh), .val (.int xm), .val (.ref root), .val (.long ((own4_f0 p0 p1 p2 p3) + (own4_f0 xl xh p0 p1))), .second, .val (.ref r), .unset] [(.int xh), (.int (p2 ^^^ (-1 : Int32))), (.int p3), (.int xm), (.long ((own4_f0 p0 p1 p2 p3) + (own4_f0 xl xh p0 p1)))])) _
          refine XS.iloadN X17.here hx rfl (hb hby at_214) rfl ?_
          show Steps p.tables e below (T17.setTop (mkF m 215 #[.val (.int p0), .val (.int p1), .val (.int p2), .val (.int p3), .val (.long q4), .second, .val (.int p5), .val (.int bL), .val (.int bR), .val (.int bLL), .val (.int bRR), .val (.int xl), .val (.int xh), .val (.int xm), .val (.ref root), .val (.long ((own4_f0 p0 p1 p2 p3) + (own4_f0 xl xh p0 p1))), .second, .val (.ref r), .unset] [(.int p0), (.int xh), (.int (p2 ^^^ (-1 : Int32))), (.int p3), (.int xm), (.long ((own4_f0 p0 p1 p2 p3) + (own4_f0 xl xh p0 p1)))])) _
          refine XS.ixor X17.here hx rfl (hb hby at_215) rfl ?_
          exact kt
        obtain ⟨_, _, ⟨T18, L18, k18, n18⟩, -, X18, ⟨Lc18, hQ18, l18, y18, z18⟩, st18⟩ := Jvm.LawKit.callS X17 hx (y := (⟨"com/example/fleetwire/fleetwire/bench/TreeFieldSumPinLaw", "s", "(IIII)J"⟩ : MethodName)) hown (mvT hZ (hw _ (List.mem_of_getElem? (i := 21) rfl))) (mvT hZ (hw _ (List.mem_of_getElem? (i := 22) rfl))) (mvT hZ (hw _ (List.mem_of_getElem? (i := 2) rfl))) (mvT hZ (hw _ (List.mem_of_getElem? (i := 23) rfl))) (by decide) (backOf (W := 2) (rm4 l Z t0 hw [] xm p3 (p2 ^^^ (-1 : Int32)) (xh ^^^ p0) h17 n0 Z17) hZ (hw _ (List.mem_of_getElem? (i := 23) rfl)) (hw _ (List.mem_of_getElem? (i := 2) rfl)) (by decide) (by decide)) (g := (mkF m 216 #[.val (.int p0), .val (.int p1), .val (.int p2), .val (.int p3), .val (.long q4), .second, .val (.int p5), .val (.int bL), .val (.int bR), .val (.int bLL), .val (.int bRR), .val (.int xl), .val (.int xh), .val (.int xm), .val (.ref root), .val (.long ((own4_f0 p0 p1 p2 p3) + (own4_f0 xl xh p0 p1))), .second, .val (.ref r), .unset] [(.int (xh ^^^ p0)), (.int (p2 ^^^ (-1 : Int32))), (.int p3), (.int xm), (.long ((own4_f0 p0 p1 p2 p3) + (own4_f0 xl xh p0 p1)))])) rfl (by rw [hml]; rfl) (argsL := [(.int xm), (.int p3), (.int (p2 ^^^ (-1 : Int32))), (.int (xh ^^^ p0))]) (rest := [(.long ((own4_f0 p0 p1 p2 p3) + (own4_f0 xl xh p0 p1)))]) (lenOf pd_0_1 rfl) rfl (by show 2 * 0 + _ ≤ _; exact Nat.le_of_eq rfl) (hb hby at_216) (fun _ _ => ⟨rfl, e17, (by decide : 3 + 0 ≤ _), (by decide : 18 + 0 ≤ _)⟩)
        dsimp only [Pt.U, Pt.locs, Pt.cells, Pt.slots] at X18 l18 y18 z18 st18 hQ18
        subst l18 y18 z18
        obtain ⟨rfl, Nq18, hh18⟩ := hQ18
        have N18 := Fr.app N17 Nq18
        have e18 : T18.heap = h17 := hh18
        refine own_go (B := T18.setTop (mkF m 219 #[.val (.int p0), .val (.int p1), .val (.int p2), .val (.int p3), .val (.long q4), .second, .val (.int p5), .val (.int bL), .val (.int bR), .val (.int bLL), .val (.int bRR), .val (.int xl), .val (.int xh), .val (.int xm), .val (.ref root), .val (.long ((own4_f0 p0 p1 p2 p3) + (own4_f0 xl xh p0 p1))), .second, .val (.ref r), .unset] [(.long (own4_f0 xm p3 (p2 ^^^ (-1 : Int32)) (xh ^^^ p0))), (.long ((own4_f0 p0 p1 p2 p3) + (own4_f0 xl xh p0 p1)))])) (fun t kt => st18 t kt) ?_
        refine own_go (B := T18.setTop (mkF m 224 #[.val (.int p0), .val (.int p1), .val (.int p2), .val (.int p3), .val (.long q4), .second, .val (.int p5), .val (.int bL), .val (.int bR), .val (.int bLL), .val (.int bRR), .val (.int xl), .val (.int xh), .val (.int xm), .val (.ref root), .val (.long (((own4_f0 p0 p1 p2 p3) + (own4_f0 xl xh p0 p1)) + (own4_f0 xm p3 (p2 ^^^ (-1 : Int32)) (xh ^^^ p0)))), .second, .val (.ref r), .unset] [(.int bRR)])) (fun t kt => ?_) ?_
        · show Steps p.tables e below (T18.setTop (mkF m 219 #[.val (.int p0), .val (.int p1), .val (.int p2), .val (.int p3), .val (.long q4), .second, .val (.int p5), .val (.int bL), .val (.int bR), .val (.int bLL), .val (.int bRR), .val (.int xl), .val (.int xh), .val (.int xm), .val (.ref root), .val (.long ((own4_f0 p0 p1 p2 p3) + (own4_f0 xl xh p0 p1))), .second, .val (.ref r), .unset] [(.long (own4_f0 xm p3 (p2 ^^^ (-1 : Int32)) (xh ^^^ p0))), (.long ((own4_f0 p0 p1 p2 p3) + (own4_f0 xl xh p0 p1)))])) _
          refine XS.ladd X18.here hx rfl (hb hby at_219) rfl ?_
          show Steps p.tables e below (T18.setTop (mkF m 220 #[.val (.int p0), .val (.int p1), .val (.int p2), .val (.int p3), .val (.long q4), .second, .val (.int p5), .val (.int bL), .val (.int bR), .val (.int bLL), .val (.int bRR), .val (.int xl), .val (.int xh), .val (.int xm), .val (.ref root), .val (.long ((own4_f0 p0 p1 p2 p3) + (own4_f0 xl xh p0 p1))), .second, .val (.ref r), .unset] [(.long (((own4_f0 p0 p1 p2 p3) + (own4_f0 xl xh p0 p1)) + (own4_f0 xm p3 (p2 ^^^ (-1 : Int32)) (xh ^^^ p0))))])) _
          refine XS.lstore X18.here hx rfl (hb hby at_220) rfl (l' := #[.val (.int p0), .val (.int p1), .val (.int p2), .val (.int p3), .val (.long q4), .second, .val (.int p5), .val (.int bL), .val (.int bR), .val (.int bLL), .val (.int bRR), .val (.int xl), .val (.int xh), .val (.int xm), .val (.ref root), .val (.long (((own4_f0 p0 p1 p2 p3) + (own4_f0 xl xh p0 p1)) + (own4_f0 xm p3 (p2 ^^^ (-1 : Int32)) (xh ^^^ p0)))), .second, .val (.ref r), .unset]) rfl ?_
          show Steps p.tables e below (T18.setTop (mkF m 222 #[.val (.int p0), .val (.int p1), .val (.int p2), .val (.int p3), .val (.long q4), .second, .val (.int p5), .val (.int bL), .val (.int bR), .val (.int bLL), .val (.int bRR), .val (.int xl), .val (.int xh), .val (.int xm), .val (.ref root), .val (.long (((own4_f0 p0 p1 p2 p3) + (own4_f0 xl xh p0 p1)) + (own4_f0 xm p3 (p2 ^^^ (-1 : Int32)) (xh ^^^ p0)))), .second, .val (.ref r), .unset] [])) _
          refine XS.iload X18.here hx rfl (hb hby at_222) rfl ?_
          exact kt
        by_cases hcRR : bRR = (0 : Int32)
        · refine own_go (B := T18.setTop (mkF m 267 #[.val (.int p0), .val (.int p1), .val (.int p2), .val (.int p3), .val (.long q4), .second, .val (.int p5), .val (.int bL), .val (.int bR), .val (.int bLL), .val (.int bRR), .val (.int xl), .val (.int xh), .val (.int xm), .val (.ref root), .val (.long (((own4_f0 p0 p1 p2 p3) + (own4_f0 xl xh p0 p1)) + (own4_f0 xm p3 (p2 ^^^ (-1 : Int32)) (xh ^^^ p0)))), .second, .val (.ref r), .unset] [(.ref r), (.ref root)])) (fun t kt => ?_) ?_
          · show Steps p.tables e below (T18.setTop (mkF m 224 #[.val (.int p0), .val (.int p1), .val (.int p2), .val (.int p3), .val (.long q4), .second, .val (.int p5), .val (.int bL), .val (.int bR), .val (.int bLL), .val (.int bRR), .val (.int xl), .val (.int xh), .val (.int xm), .val (.ref root), .val (.long (((own4_f0 p0 p1 p2 p3) + (own4_f0 xl xh p0 p1)) + (own4_f0 xm p3 (p2 ^^^ (-1 : Int32)) (xh ^^^ p0)))), .second, .val (.ref r), .unset] [(.int bRR)])) _
            refine XS.ifYes X18.here hx rfl (pc0 := 224) (pc' := 263) rfl (hb hby at_224) rfl ((if0 _ _).trans (teq hcRR).1) (by decide) (by decide) ?_
            show Steps p.tables e below (T18.setTop (mkF m 263 #[.val (.int p0), .val (.int p1), .val (.int p2), .val (.int p3), .val (.long q4), .second, .val (.int p5), .val (.int bL), .val (.int bR), .val (.int bLL), .val (.int bRR), .val (.int xl), .val (.int xh), .val (.int xm), .val (.ref root), .val (.long (((own4_f0 p0 p1 p2 p3) + (own4_f0 xl xh p0 p1)) + (own4_f0 xm p3 (p2 ^^^ (-1 : Int32)) (xh ^^^ p0)))), .second, .val (.ref r), .unset] [])) _
            refine XS.aload X18.here hx rfl (hb hby at_263) rfl rfl ?_
            show Steps p.tables e below (T18.setTop (mkF m 265 #[.val (.int p0), .val (.int p1), .val (.int p2), .val (.int p3), .val (.long q4), .second, .val (.int p5), .val (.int bL), .val (.int bR), .val (.int bLL), .val (.int bRR), .val (.int xl), .val (.int xh), .val (.int xm), .val (.ref root), .val (.long (((own4_f0 p0 p1 p2 p3) + (own4_f0 xl xh p0 p1)) + (own4_f0 xm p3 (p2 ^^^ (-1 : Int32)) (xh ^^^ p0)))), .second, .val (.ref r), .unset] [(.ref root)])) _
            refine XS.aload X18.here hx rfl (hb hby at_265) rfl rfl ?_
            exact kt
          obtain ⟨T19, h19, X19, e19, W19, st19⟩ := putF X18 hx hZ hown (host := "") (Or.inl (hw _ (List.mem_of_getElem? (i := 24) rfl))) Via.refl e18 F_right_root_17 E_root_17 (Or.inl (hw _ (List.mem_of_getElem? (i := 25) rfl))) (hw _ (List.mem_of_getElem? (i := 5) rfl)) (ty := (.object "com/example/fleetwire/fleetwire/bench/Bench$Tree")) (by decide) rfl rfl (g := (mkF m 267 #[.val (.int p0), .val (.int p1), .val (.int p2), .val (.int p3), .val (.long q4), .second, .val (.int p5), .val (.int bL), .val (.int bR), .val (.int bLL), .val (.int bRR), .val (.int xl), .val (.int xh), .val (.int xm), .val (.ref root), .val (.long (((own4_f0 p0 p1 p2 p3) + (own4_f0 xl xh p0 p1)) + (own4_f0 xm p3 (p2 ^^^ (-1 : Int32)) (xh ^^^ p0)))), .second, .val (.ref r), .unset] [(.ref r), (.ref root)])) rfl rfl (hb hby at_267)
          have F_right_root_19 : Fld Z h19 root "com/example/fleetwire/fleetwire/bench/Bench$Tree" "right" "Lcom/example/fleetwire/fleetwire/bench/Bench$Tree;" (.ref r) := F_right_root_17.same W19
          have E_root_19 := E_root_17.wr W19
          have F_a_root_19 := F_a_root_17.other W19 (Or.inr (slot_ne (Or.inl (hw _ (List.mem_of_getElem? (i := 14) rfl))) (Or.inl (hw _ (List.mem_of_getElem? (i := 25) rfl))) (by decide) (t := .int) (t' := (.object "com/example/fleetwire/fleetwire/bench/Bench$Tree")) (by decide) (by decide)))
          have F_b_root_19 := F_b_root_17.other W19 (Or.inr (slot_ne (Or.inl (hw _ (List.mem_of_getElem? (i := 16) rfl))) (Or.inl (hw _ (List.mem_of_getElem? (i := 25) rfl))) (by decide) (t := .int) (t' := (.object "com/example/fleetwire/fleetwire/bench/Bench$Tree")) (by decide) (by decide)))
          have F_c_root_19 := F_c_root_17.other W19 (Or.inr (slot_ne (Or.inl (hw _ (List.mem_of_getElem? (i := 18) rfl))) (Or.inl (hw _ (List.mem_of_getElem? (i := 25) rfl))) (by decide) (t := .int) (t' := (.object "com/example/fleetwire/fleetwire/bench/Bench$Tree")) (by decide) (by decide)))
          have F_d_root_19 := F_d_root_17.other W19 (Or.inr (slot_ne (Or.inl (hw _ (List.mem_of_getElem? (i := 20) rfl))) (Or.inl (hw _ (List.mem_of_getElem? (i := 25) rfl))) (by decide) (t := .int) (t' := (.object "com/example/fleetwire/fleetwire/bench/Bench$Tree")) (by decide) (by decide)))
          have F_left_root_19 := F_left_root_17.other W19 (Or.inr (slot_ne (Or.inl (hw _ (List.mem_of_getElem? (i := 36) rfl))) (Or.inl (hw _ (List.mem_of_getElem? (i := 25) rfl))) (by decide) (t := (.object "com/example/fleetwire/fleetwire/bench/Bench$Tree")) (t' := (.object "com/example/fleetwire/fleetwire/bench/Bench$Tree")) (by decide) (by decide)))
          have E_lf_19 := E_lf_17.wr W19
          have F_a_lf_19 := F_a_lf_17.other W19 (Or.inl (Ne.symm ne_root_lf))
          have F_b_lf_19 := F_b_lf_17.other W19 (Or.inl (Ne.symm ne_root_lf))
          have F_c_lf_19 := F_c_lf_17.other W19 (Or.inl (Ne.symm ne_root_lf))
          have F_d_lf_19 := F_d_lf_17.other W19 (Or.inl (Ne.symm ne_root_lf))
          have F_left_lf_19 := F_left_lf_17.other W19 (Or.inl (Ne.symm ne_root_lf))
          have F_right_lf_19 := F_right_lf_17.other W19 (Or.inl (Ne.symm ne_root_lf))
          have E_r_19 := ex17.wr W19
          have F_a_r_19 := fa17.other W19 (Or.inl (Ne.symm ne_root_r))
          have F_b_r_19 := fb17.other W19 (Or.inl (Ne.symm ne_root_r))
          have F_c_r_19 := fc17.other W19 (Or.inl (Ne.symm ne_root_r))
          have F_d_r_19 := fd17.other W19 (Or.inl (Ne.symm ne_root_r))
          have F_left_r_19 := fleft17.other W19 (Or.inl (Ne.symm ne_root_r))
          have F_right_r_19 := fright17.other W19 (Or.inl (Ne.symm ne_root_r))
          have Z19 : n0 ≤ h19.size := Nat.le_trans Z17 (Keep.of_wr W19).1
          have N19 := Fr.snoc X19 N18 gb1
          refine own_go (B := T19.setTop (mkF m 270 #[.val (.int p0), .val (.int p1), .val (.int p2), .val (.int p3), .val (.long q4), .second, .val (.int p5), .val (.int bL), .val (.int bR), .val (.int bLL), .val (.int bRR), .val (.int xl), .val (.int xh), .val (.int xm), .val (.ref root), .val (.long (((own4_f0 p0 p1 p2 p3) + (own4_f0 xl xh p0 p1)) + (own4_f0 xm p3 (p2 ^^^ (-1 : Int32)) (xh ^^^ p0)))), .second, .val (.ref r), .unset] [])) (fun t kt => st19 t kt) ?_
          refine own_go (B := T19.setTop (mkF m 272 #[.val (.int p0), .val (.int p1), .val (.int p2), .val (.int p3), .val (.long q4), .second, .val (.int p5), .val (.int bL), .val (.int bR), .val (.int bLL), .val (.int bRR), .val (.int xl), .val (.int xh), .val (.int xm), .val (.ref root), .val (.long (((own4_f0 p0 p1 p2 p3) + (own4_f0 xl xh p0 p1)) + (own4_f0 xm p3 (p2 ^^^ (-1 : Int32)) (xh ^^^ p0)))), .second, .val (.ref r), .unset] [(.ref root)])) (fun t kt => ?_) ?_
          · show Steps p.tables e below (T19.setTop (mkF m 270 #[.val (.int p0), .val (.int p1), .val (.int p2), .val (.int p3), .val (.long q4), .second, .val (.int p5), .val (.int bL), .val (.int bR), .val (.int bLL), .val (.int bRR), .val (.int xl), .val (.int xh), .val (.int xm), .val (.ref root), .val (.long (((own4_f0 p0 p1 p2 p3) + (own4_f0 xl xh p0 p1)) + (own4_f0 xm p3 (p2 ^^^ (-1 : Int32)) (xh ^^^ p0)))), .second, .val (.ref r), .unset] [])) _
            refine XS.aload X19.here hx rfl (hb hby at_270) rfl rfl ?_
            exact kt
          have ht := (show own_t3 Z h19 root (((own4_f0 p0 p1 p2 p3) + (((own4_f0 xl xh p0 p1) + (0 : Int64)) + (0 : Int64))) + (((own4_f0 xm p3 (p2 ^^^ (-1 : Int32)) (xh ^^^ p0)) + (0 : Int64)) + (0 : Int64))) from ⟨_, _, _, _, _, _, _, _, E_root_19, F_a_root_19, F_b_root_19, F_c_root_19, F_d_root_19, F_left_root_19, F_right_root_19, (Or.inr ⟨lf, rfl, (show own_t2 Z h19 lf (((own4_f0 xl xh p0 p1) + (0 : Int64)) + (0 : Int64)) from ⟨_, _, _, _, _, _, _, _, E_lf_19, F_a_lf_19, F_b_lf_19, F_c_lf_19, F_d_lf_19, F_left_lf_19, F_right_lf_19, (Or.inl ⟨rfl, rfl⟩), (Or.inl ⟨rfl, rfl⟩), rfl⟩)⟩), (Or.inr ⟨r, rfl, (show own_t2 Z h19 r (((own4_f0 xm p3 (p2 ^^^ (-1 : Int32)) (xh ^^^ p0)) + (0 : Int64)) + (0 : Int64)) from ⟨_, _, _, _, _, _, _, _, E_r_19, F_a_r_19, F_b_r_19, F_c_r_19, F_d_r_19, F_left_r_19, F_right_r_19, (Or.inl ⟨rfl, rfl⟩), (Or.inl ⟨rfl, rfl⟩), rfl⟩)⟩), rfl⟩)
          obtain ⟨cq20, kq20, qa20, qb20, qc20⟩ := isOf hZ e19 E_root_19
          obtain ⟨_, _, ⟨T20, L20, k20, n20⟩, -, X20, ⟨Lc20, hQ20, l20, y20, z20⟩, st20⟩ := X19.virtualBack hx (y := (⟨"com/example/fleetwire/fleetwire/bench/Bench$Tree", "fieldSum", "()J"⟩ : MethodName)) (z := (⟨"com/example/fleetwire/fleetwire/bench/Bench$Tree", "fieldSum", "()J"⟩ : MethodName)) hown (mvT hZ (hw _ (List.mem_of_getElem? (i := 26) rfl))) (mvT hZ (hw _ (List.mem_of_getElem? (i := 27) rfl))) (notFace_of_selects (args := #[]) (mvT hZ (hw _ (List.mem_of_getElem? (i := 29) rfl)))) (mvT hZ (hw _ (List.mem_of_getElem? (i := 29) rfl))) (mvT hZ (hw _ (List.mem_of_getElem? (i := 28) rfl))) (by decide) (backOf (W := 0) (rm5_3 l Z t0 hw [] root (((own4_f0 p0 p1 p2 p3) + (((own4_f0 xl xh p0 p1) + (0 : Int64)) + (0 : Int64))) + (((own4_f0 xm p3 (p2 ^^^ (-1 : Int32)) (xh ^^^ p0)) + (0 : Int64)) + (0 : Int64))) h19 n0 Z19 ht) hZ (hw _ (List.mem_of_getElem? (i := 30) rfl)) (hw _ (List.mem_of_getElem? (i := 6) rfl)) (by decide) (by decide)) qa20 qc20 (g := (mkF m 272 #[.val (.int p0), .val (.int p1), .val (.int p2), .val (.int p3), .val (.long q4), .second, .val (.int p5), .val (.int bL), .val (.int bR), .val (.int bLL), .val (.int bRR), .val (.int xl), .val (.int xh), .val (.int xm), .val (.ref root), .val (.long (((own4_f0 p0 p1 p2 p3) + (own4_f0 xl xh p0 p1)) + (own4_f0 xm p3 (p2 ^^^ (-1 : Int32)) (xh ^^^ p0)))), .second, .val (.ref r), .unset] [(.ref root)])) rfl (by rw [hml]; rfl) (Steps.refl _) (argsL := []) (rest := []) (lenOf pd_0_2 rfl) rfl (by show 2 * 0 + _ ≤ _; exact Nat.le_of_eq rfl) (hb hby at_272) (fun _ _ => ⟨rfl, e19, (by decide : 3 + 0 ≤ _), (by decide : 18 + 0 ≤ _)⟩)
          dsimp only [Pt.U, Pt.locs, Pt.cells, Pt.slots] at X20 l20 y20 z20 st20 hQ20
          subst l20 y20 z20
          obtain ⟨rfl, Nq20, hh20⟩ := hQ20
          have N20 := Fr.app N19 Nq20
          have e20 : T20.heap = h19 := hh20
          refine own_go (B := T20.setTop (mkF m 275 #[.val (.int p0), .val (.int p1), .val (.int p2), .val (.int p3), .val (.long q4), .second, .val (.int p5), .val (.int bL), .val (.int bR), .val (.int bLL), .val (.int bRR), .val (.int xl), .val (.int xh), .val (.int xm), .val (.ref root), .val (.long (((own4_f0 p0 p1 p2 p3) + (own4_f0 xl xh p0 p1)) + (own4_f0 xm p3 (p2 ^^^ (-1 : Int32)) (xh ^^^ p0)))), .second, .val (.ref r), .unset] [(.long (((own4_f0 p0 p1 p2 p3) + (((own4_f0 xl xh p0 p1) + (0 : Int64)) + (0 : Int64))) + (((own4_f0 xm p3 (p2 ^^^ (-1 : Int32)) (xh ^^^ p0)) + (0 : Int64)) + (0 : Int64))))])) (fun t kt => st20.trans kt) ?_
          refine own_go (B := T20.setTop (mkF m 286 #[.val (.int p0), .val (.int p1), .val (.int p2), .val (.int p3), .val (.long q4), .second, .val (.int p5), .val (.int bL), .val (.int bR), .val (.int bLL), .val (.int bRR), .val (.int xl), .val (.int xh), .val (.int xm), .val (.ref root), .val (.long (((own4_f0 p0 p1 p2 p3) + (own4_f0 xl xh p0 p1)) + (own4_f0 xm p3 (p2 ^^^ (-1 : Int32)) (xh ^^^ p0)))), .second, .val (.ref r), .unset] [(.int (1 : Int32))])) (fun t kt => ?_) ?_
          · show Steps p.tables e below (T20.setTop (mkF m 275 #[.val (.int p0), .val (.int p1), .val (.int p2), .val (.int p3), .val (.long q4), .second, .val (.int p5), .val (.int bL), .val (.int bR), .val (.int bLL), .val (.int bRR), .val (.int xl), .val (.int xh), .val (.int xm), .val (.ref root), .val (.long (((own4_f0 p0 p1 p2 p3) + (own4_f0 xl xh p0 p1)) + (own4_f0 xm p3 (p2 ^^^ (-1 : Int32)) (xh ^^^ p0)))), .second, .val (.ref r), .unset] [(.long (((own4_f0 p0 p1 p2 p3) + (((own4_f0 xl xh p0 p1) + (0 : Int64)) + (0 : Int64))) + (((own4_f0 xm p3 (p2 ^^^ (-1 : Int32)) (xh ^^^ p0)) + (0 : Int64)) + (0 : Int64))))])) _
            refine XS.lload X20.here hx rfl (hb hby at_275) rfl ?_
            show Steps p.tables e below (T20.setTop (mkF m 277 #[.val (.int p0), .val (.int p1), .val (.int p2), .val (.int p3), .val (.long q4), .second, .val (.int p5), .val (.int bL), .val (.int bR), .val (.int bLL), .val (.int bRR), .val (.int xl), .val (.int xh), .val (.int xm), .val (.ref root), .val (.long (((own4_f0 p0 p1 p2 p3) + (own4_f0 xl xh p0 p1)) + (own4_f0 xm p3 (p2 ^^^ (-1 : Int32)) (xh ^^^ p0)))), .second, .val (.ref r), .unset] [(.long (((own4_f0 p0 p1 p2 p3) + (own4_f0 xl xh p0 p1)) + (own4_f0 xm p3 (p2 ^^^ (-1 : Int32)) (xh ^^^ p0)))), (.long (((own4_f0 p0 p1 p2 p3) + (((own4_f0 xl xh p0 p1) + (0 : Int64)) + (0 : Int64))) + (((own4_f0 xm p3 (p2 ^^^ (-1 : Int32)) (xh ^^^ p0)) + (0 : Int64)) + (0 : Int64))))])) _
            refine XS.lcmp X20.here hx rfl (hb hby at_277) rfl ?_
            show Steps p.tables e below (T20.setTop (mkF m 278 #[.val (.int p0), .val (.int p1), .val (.int p2), .val (.int p3), .val (.long q4), .second, .val (.int p5), .val (.int bL), .val (.int bR), .val (.int bLL), .val (.int bRR), .val (.int xl), .val (.int xh), .val (.int xm), .val (.ref root), .val (.long (((own4_f0 p0 p1 p2 p3) + (own4_f0 xl xh p0 p1)) + (own4_f0 xm p3 (p2 ^^^ (-1 : Int32)) (xh ^^^ p0)))), .second, .val (.ref r), .unset] [(.int (lcmpW (((own4_f0 p0 p1 p2 p3) + (((own4_f0 xl xh p0 p1) + (0 : Int64)) + (0 : Int64))) + (((own4_f0 xm p3 (p2 ^^^ (-1 : Int32)) (xh ^^^ p0)) + (0 : Int64)) + (0 : Int64))) (((own4_f0 p0 p1 p2 p3) + (own4_f0 xl xh p0 p1)) + (own4_f0 xm p3 (p2 ^^^ (-1 : Int32)) (xh ^^^ p0)))))])) _
            refine XS.ifNo X20.here hx rfl (hb hby at_278) rfl ((if0 _ _).trans (teq (show lcmpW (((own4_f0 p0 p1 p2 p3) + (((own4_f0 xl xh p0 p1) + (0 : Int64)) + (0 : Int64))) + (((own4_f0 xm p3 (p2 ^^^ (-1 : Int32)) (xh ^^^ p0)) + (0 : Int64)) + (0 : Int64))) (((own4_f0 p0 p1 p2 p3) + (own4_f0 xl xh p0 p1)) + (own4_f0 xm p3 (p2 ^^^ (-1 : Int32)) (xh ^^^ p0))) = (0 : Int32) from (lw_eq _ _).2 (by simp only [Int64.add_zero, Int64.add_assoc]))).2) ?_
            show Steps p.tables e below (T20.setTop (mkF m 281 #[.val (.int p0), .val (.int p1), .val (.int p2), .val (.int p3), .val (.long q4), .second, .val (.int p5), .val (.int bL), .val (.int bR), .val (.int bLL), .val (.int bRR), .val (.int xl), .val (.int xh), .val (.int xm), .val (.ref root), .val (.long (((own4_f0 p0 p1 p2 p3) + (own4_f0 xl xh p0 p1)) + (own4_f0 xm p3 (p2 ^^^ (-1 : Int32)) (xh ^^^ p0)))), .second, .val (.ref r), .unset] [])) _
            refine XS.iconst X20.here hx rfl (hb hby at_281) ?_
            show Steps p.tables e below (T20.setTop (mkF m 282 #[.val (.int p0), .val (.int p1), .val (.int p2), .val (.int p3), .val (.long q4), .second, .val (.int p5), .val (.int bL), .val (.int bR), .val (.int bLL), .val (.int bRR), .val (.int xl), .val (.int xh), .val (.int xm), .val (.ref root), .val (.long (((own4_f0 p0 p1 p2 p3) + (own4_f0 xl xh p0 p1)) + (own4_f0 xm p3 (p2 ^^^ (-1 : Int32)) (xh ^^^ p0)))), .second, .val (.ref r), .unset] [(.int (1 : Int32))])) _
            refine XS.goto X20.here hx rfl (pc0 := 282) (pc' := 286) rfl (hb hby at_282) (by decide) (by decide) ?_
            exact kt
          obtain ⟨fs, hr, hrun, hended, hW, hsame⟩ := X20.leave (v := some (.int (1 : Int32))) (fun h => by rw [Bd.returns] at h; cases h)
          refine ⟨_, _, ?_, hrun, hended, _, _, rfl, ?_, ⟨_, rfl⟩, hW, hsame.mono (by decide) (by decide)⟩
          · show Steps p.tables e below (T20.setTop (mkF m 286 #[.val (.int p0), .val (.int p1), .val (.int p2), .val (.int p3), .val (.long q4), .second, .val (.int p5), .val (.int bL), .val (.int bR), .val (.int bLL), .val (.int bRR), .val (.int xl), .val (.int xh), .val (.int xm), .val (.ref root), .val (.long (((own4_f0 p0 p1 p2 p3) + (own4_f0 xl xh p0 p1)) + (own4_f0 xm p3 (p2 ^^^ (-1 : Int32)) (xh ^^^ p0)))), .second, .val (.ref r), .unset] [(.int (1 : Int32))])) _
            exact retN X20 hx (t := .boolean) Bd.returns (by simp) (hb hby at_286) hr
          · show Q0 n0 _ _
            exact ⟨rfl, N20⟩
        · refine own_go (B := T18.setTop (mkF m 235 #[.val (.int p0), .val (.int p1), .val (.int p2), .val (.int p3), .val (.long q4), .second, .val (.int p5), .val (.int bL), .val (.int bR), .val (.int bLL), .val (.int bRR), .val (.int xl), .val (.int xh), .val (.int xm), .val (.ref root), .val (.long (((own4_f0 p0 p1 p2 p3) + (own4_f0 xl xh p0 p1)) + (own4_f0 xm p3 (p2 ^^^ (-1 : Int32)) (xh ^^^ p0)))), .second, .val (.ref r), .unset] [(.int (p3 ^^^ (-1 : Int32))), (.int xh), (.int xl), (.int p1)])) (fun t kt => ?_) ?_
          · show Steps p.tables e below (T18.setTop (mkF m 224 #[.val (.int p0), .val (.int p1), .val (.int p2), .val (.int p3), .val (.long q4), .second, .val (.int p5), .val (.int bL), .val (.int bR), .val (.int bLL), .val (.int bRR), .val (.int xl), .val (.int xh), .val (.int xm), .val (.ref root), .val (.long (((own4_f0 p0 p1 p2 p3) + (own4_f0 xl xh p0 p1)) + (own4_f0 xm p3 (p2 ^^^ (-1 : Int32)) (xh ^^^ p0)))), .second, .val (.ref r), .unset] [(.int bRR)])) _
            refine XS.ifNo X18.here hx rfl (hb hby at_224) rfl ((if0 _ _).trans (feq hcRR).1) ?_
            show Steps p.tables e below (T18.setTop (mkF m 227 #[.val (.int p0), .val (.int p1), .val (.int p2), .val (.int p3), .val (.long q4), .second, .val (.int p5), .val (.int bL), .val (.int bR), .val (.int bLL), .val (.int bRR), .val (.int xl), .val (.int xh), .val (.int xm), .val (.ref root), .val (.long (((own4_f0 p0 p1 p2 p3) + (own4_f0 xl xh p0 p1)) + (own4_f0 xm p3 (p2 ^^^ (-1 : Int32)) (xh ^^^ p0)))), .second, .val (.ref r), .unset] [])) _
            refine XS.iloadN X18.here hx rfl (hb hby at_227) rfl ?_
            show Steps p.tables e below (T18.setTop (mkF m 228 #[.val (.int p0), .val (.int p1), .val (.int p2), .val (.int p3), .val (.long q4), .second, .val (.int p5), .val (.int bL), .val (.int bR), .val (.int bLL), .val (.int bRR), .val (.int xl), .val (.int xh), .val (.int xm), .val (.ref root), .val (.long (((own4_f0 p0 p1 p2 p3) + (own4_f0 xl xh p0 p1)) + (own4_f0 xm p3 (p2 ^^^ (-1 : Int32)) (xh ^^^ p0)))), .second, .val (.ref r), .unset] [(.int p1)])) _
            refine XS.iload X18.here hx rfl (hb hby at_228) rfl ?_
            show Steps p.tables e below (T18.setTop (mkF m 230 #[.val (.int p0), .val (.int p1), .val (.int p2), .val (.int p3), .val (.long q4), .second, .val (.int p5), .val (.int bL), .val (.int bR), .val (.int bLL), .val (.int bRR), .val (.int xl), .val (.int xh), .val (.int xm), .val (.ref root), .val (.long (((own4_f0 p0 p1 p2 p3) + (own4_f0 xl xh p0 p1)) + (own4_f0 xm p3 (p2 ^^^ (-1 : Int32)) (xh ^^^ p0)))), .second, .val (.ref r), .unset] [(.int xl), (.int p1)])) _
            refine XS.iload X18.here hx rfl (hb hby at_230) rfl ?_
            show Steps p.tables e below (T18.setTop (mkF m 232 #[.val (.int p0), .val (.int p1), .val (.int p2), .val (.int p3), .val (.long q4), .second, .val (.int p5), .val (.int bL), .val (.int bR), .val (.int bLL), .val (.int bRR), .val (.int xl), .val (.int xh), .val (.int xm), .val (.ref root), .val (.long (((own4_f0 p0 p1 p2 p3) + (own4_f0 xl xh p0 p1)) + (own4_f0 xm p3 (p2 ^^^ (-1 : Int32)) (xh ^^^ p0)))), .second, .val (.ref r), .unset] [(.int xh), (.int xl), (.int p1)])) _
            refine XS.iloadN X18.here hx rfl (hb hby at_232) rfl ?_
            show Steps p.tables e below (T18.setTop (mkF m 233 #[.val (.int p0), .val (.int p1), .val (.int p2), .val (.int p3), .val (.long q4), .second, .val (.int p5), .val (.int bL), .val (.int bR), .val (.int bLL), .val (.int bRR), .val (.int xl), .val (.int xh), .val (.int xm), .val (.ref root), .val (.long (((own4_f0 p0 p1 p2 p3) + (own4_f0 xl xh p0 p1)) + (own4_f0 xm p3 (p2 ^^^ (-1 : Int32)) (xh ^^^ p0)))), .second, .val (.ref r), .unset] [(.int p3), (.int xh), (.int xl), (.int p1)])) _
            refine XS.iconst X18.here hx rfl (hb hby at_233) ?_
            show Steps p.tables e below (T18.setTop (mkF m 234 #[.val (.int p0), .val (.int p1), .val (.int p2), .val (.int p3), .val (.long q4), .second, .val (.int p5), .val (.int bL), .val (.int bR), .val (.int bLL), .val (.int bRR), .val (.int xl), .val (.int xh), .val (.int xm), .val (.ref root), .val (.long (((own4_f0 p0 p1 p2 p3) + (own4_f0 xl xh p0 p1)) + (own4_f0 xm p3 (p2 ^^^ (-1 : Int32)) (xh ^^^ p0)))), .second, .val (.ref r), .unset] [(.int (-1 : Int32)), (.int p3), (.int xh), (.int xl), (.int p1)])) _
            refine XS.ixor X18.here hx rfl (hb hby at_234) rfl ?_
            exact kt
          obtain ⟨_, _, ⟨T21, L21, k21, n21⟩, -, X21, ⟨Lc21, hQ21, l21, y21, z21⟩, st21⟩ := Jvm.LawKit.callS X18 hx (y := (⟨"com/example/fleetwire/fleetwire/bench/TreeFieldSumPinLaw", "node", "(IIII)Lcom/example/fleetwire/fleetwire/bench/Bench$Tree;"⟩ : MethodName)) hown (mvT hZ (hw _ (List.mem_of_getElem? (i := 0) rfl))) (mvT hZ (hw _ (List.mem_of_getElem? (i := 1) rfl))) (mvT hZ (hw _ (List.mem_of_getElem? (i := 2) rfl))) (mvT hZ (hw _ (List.mem_of_getElem? (i := 3) rfl))) (by decide) (backOf (W := 0) (rm1 l Z t0 hw [] p1 xl xh (p3 ^^^ (-1 : Int32)) h17 n0 Z17) hZ (hw _ (List.mem_of_getElem? (i := 3) rfl)) (hw _ (List.mem_of_getElem? (i := 2) rfl)) (by decide) (by decide)) (g := (mkF m 235 #[.val (.int p0), .val (.int p1), .val (.int p2), .val (.int p3), .val (.long q4), .second, .val (.int p5), .val (.int bL), .val (.int bR), .val (.int bLL), .val (.int bRR), .val (.int xl), .val (.int xh), .val (.int xm), .val (.ref root), .val (.long (((own4_f0 p0 p1 p2 p3) + (own4_f0 xl xh p0 p1)) + (own4_f0 xm p3 (p2 ^^^ (-1 : Int32)) (xh ^^^ p0)))), .second, .val (.ref r), .unset] [(.int (p3 ^^^ (-1 : Int32))), (.int xh), (.int xl), (.int p1)])) rfl (by rw [hml]; rfl) (argsL := [(.int p1), (.int xl), (.int xh), (.int (p3 ^^^ (-1 : Int32)))]) (rest := []) (lenOf pd_0_0 rfl) rfl (by show 2 * 0 + _ ≤ _; exact Nat.le_of_eq rfl) (hb hby at_235) (fun _ _ => ⟨rfl, e18, (by decide : 3 + 1 ≤ _), (by decide : 18 + 6 ≤ _)⟩)
          dsimp only [Pt.U, Pt.locs, Pt.cells, Pt.slots] at X21 l21 y21 z21 st21 hQ21
          subst l21 y21 z21
          obtain ⟨rr, rfl, Nq21, Kc21, zb21, gb21, ex21, fa21, fb21, fc21, fd21, fleft21, fright21⟩ := hQ21
          have N21 := Fr.app N18 Nq21
          obtain ⟨h21, e21⟩ : ∃ z, T21.heap = z := ⟨_, rfl⟩
          rw [e21] at Kc21 fa21 fb21 fc21 fd21 fleft21 fright21 ex21
          have E_root_21 := E_root_17.keep Kc21
          have F_a_root_21 := F_a_root_17.keep Kc21 nin0
          have F_b_root_21 := F_b_root_17.keep Kc21 nin0
          have F_c_root_21 := F_c_root_17.keep Kc21 nin0
          have F_d_root_21 := F_d_root_17.keep Kc21 nin0
          have F_left_root_21 := F_left_root_17.keep Kc21 nin0
          have F_right_root_21 := F_right_root_17.keep Kc21 nin0
          have E_lf_21 := E_lf_17.keep Kc21
          have F_a_lf_21 := F_a_lf_17.keep Kc21 nin0
          have F_b_lf_21 := F_b_lf_17.keep Kc21 nin0
          have F_c_lf_21 := F_c_lf_17.keep Kc21 nin0
          have F_d_lf_21 := F_d_lf_17.keep Kc21 nin0
          have F_left_lf_21 := F_left_lf_17.keep Kc21 nin0
          have F_right_lf_21 := F_right_lf_17.keep Kc21 nin0
          have E_r_21 := ex17.keep Kc21
          have F_a_r_21 := fa17.keep Kc21 nin0
          have F_b_r_21 := fb17.keep Kc21 nin0
          have F_c_r_21 := fc17.keep Kc21 nin0
          have F_d_r_21 := fd17.keep Kc21 nin0
          have F_left_r_21 := fleft17.keep Kc21 nin0
          have F_right_r_21 := fright17.keep Kc21 nin0
          have Z21 : n0 ≤ h21.size := Nat.le_trans Z17 Kc21.1
          have ne_root_rr : root ≠ rr := Nat.ne_of_lt (Nat.lt_of_lt_of_le E_root_17.lt zb21)
          have ne_lf_rr : lf ≠ rr := Nat.ne_of_lt (Nat.lt_of_lt_of_le E_lf_17.lt zb21)
          have ne_r_rr : r ≠ rr := Nat.ne_of_lt (Nat.lt_of_lt_of_le ex17.lt zb21)
          refine own_go (B := T21.setTop (mkF m 238 #[.val (.int p0), .val (.int p1), .val (.int p2), .val (.int p3), .val (.long q4), .second, .val (.int p5), .val (.int bL), .val (.int bR), .val (.int bLL), .val (.int bRR), .val (.int xl), .val (.int xh), .val (.int xm), .val (.ref root), .val (.long (((own4_f0 p0 p1 p2 p3) + (own4_f0 xl xh p0 p1)) + (own4_f0 xm p3 (p2 ^^^ (-1 : Int32)) (xh ^^^ p0)))), .second, .val (.ref r), .unset] [(.ref rr)])) (fun t kt => st21 t kt) ?_
          refine own_go (B := T21.setTop (mkF m 250 #[.val (.int p0), .val (.int p1), .val (.int p2), .val (.int p3), .val (.long q4), .second, .val (.int p5), .val (.int bL), .val (.int bR), .val (.int bLL), .val (.int bRR), .val (.int xl), .val (.int xh), .val (.int xm), .val (.ref root), .val (.long (((own4_f0 p0 p1 p2 p3) + (own4_f0 xl xh p0 p1)) + (own4_f0 xm p3 (p2 ^^^ (-1 : Int32)) (xh ^^^ p0)))), .second, .val (.ref r), .val (.ref rr)] [(.int (p3 ^^^ (-1 : Int32))), (.int xh), (.int xl), (.int p1), (.long (((own4_f0 p0 p1 p2 p3) + (own4_f0 xl xh p0 p1)) + (own4_f0 xm p3 (p2 ^^^ (-1 : Int32)) (xh ^^^ p0))))])) (fun t kt => ?_) ?_
          · show Steps p.tables e below (T21.setTop (mkF m 238 #[.val (.int p0), .val (.int p1), .val (.int p2), .val (.int p3), .val (.long q4), .second, .val (.int p5), .val (.int bL), .val (.int bR), .val (.int bLL), .val (.int bRR), .val (.int xl), .val (.int xh), .val (.int xm), .val (.ref root), .val (.long (((own4_f0 p0 p1 p2 p3) + (own4_f0 xl xh p0 p1)) + (own4_f0 xm p3 (p2 ^^^ (-1 : Int32)) (xh ^^^ p0)))), .second, .val (.ref r), .unset] [(.ref rr)])) _
            refine XS.astore X21.here hx rfl (hb hby at_238) rfl rfl (l' := #[.val (.int p0), .val (.int p1), .val (.int p2), .val (.int p3), .val (.long q4), .second, .val (.int p5), .val (.int bL), .val (.int bR), .val (.int bLL), .val (.int bRR), .val (.int xl), .val (.int xh), .val (.int xm), .val (.ref root), .val (.long (((own4_f0 p0 p1 p2 p3) + (own4_f0 xl xh p0 p1)) + (own4_f0 xm p3 (p2 ^^^ (-1 : Int32)) (xh ^^^ p0)))), .second, .val (.ref r), .val (.ref rr)]) rfl ?_
            show Steps p.tables e below (T21.setTop (mkF m 240 #[.val (.int p0), .val (.int p1), .val (.int p2), .val (.int p3), .val (.long q4), .second, .val (.int p5), .val (.int bL), .val (.int bR), .val (.int bLL), .val (.int bRR), .val (.int xl), .val (.int xh), .val (.int xm), .val (.ref root), .val (.long (((own4_f0 p0 p1 p2 p3) + (own4_f0 xl xh p0 p1)) + (own4_f0 xm p3 (p2 ^^^ (-1 : Int32)) (xh ^^^ p0)))), .second, .val (.ref r), .val (.ref rr)] [])) _
            refine XS.lload X21.here hx rfl (hb hby at_240) rfl ?_
            show Steps p.tables e below (T21.setTop (mkF m 242 #[.val (.int p0), .val (.int p1), .val (.int p2), .val (.int p3), .val (.long q4), .second, .val (.int p5), .val (.int bL), .val (.int bR), .val (.int bLL), .val (.int bRR), .val (.int xl), .val (.int xh), .val (.int xm), .val (.ref root), .val (.long (((own4_f0 p0 p1 p2 p3) + (own4_f0 xl xh p0 p1)) + (own4_f0 xm p3 (p2 ^^^ (-1 : Int32)) (xh ^^^ p0)))), .second, .val (.ref r), .val (.ref rr)] [(.long (((own4_f0 p0 p1 p2 p3) + (own4_f0 xl xh p0 p1)) + (own4_f0 xm p3 (p2 ^^^ (-1 : Int32)) (xh ^^^ p0))))])) _
            refine XS.iloadN X21.here hx rfl (hb hby at_242) rfl ?_
            show Steps p.tables e below (T21.setTop (mkF m 243 #[.val (.int p0), .val (.int p1), .val (.int p2), .val (.int p3), .val (.long q4), .second, .val (.int p5), .val (.int bL), .val (.int bR), .val (.int bLL), .val (.int bRR), .val (.int xl), .val (.int xh), .val (.int xm), .val (.ref root), .val (.long (((own4_f0 p0 p1 p2 p3) + (own4_f0 xl xh p0 p1)) + (own4_f0 xm p3 (p2 ^^^ (-1 : Int32)) (xh ^^^ p0)))), .second, .val (.ref r), .val (.ref rr)] [(.int p1), (.long (((own4_f0 p0 p1 p2 p3) + (own4_f0 xl xh p0 p1)) + (own4_f0 xm p3 (p2 ^^^ (-1 : Int32)) (xh ^^^ p0))))])) _
            refine XS.iload X21.here hx rfl (hb hby at_243) rfl ?_
            show Steps p.tables e below (T21.setTop (mkF m 245 #[.val (.int p0), .val (.int p1), .val (.int p2), .val (.int p3), .val (.long q4), .second, .val (.int p5), .val (.int bL), .val (.int bR), .val (.int bLL), .val (.int bRR), .val (.int xl), .val (.int xh), .val (.int xm), .val (.ref root), .val (.long (((own4_f0 p0 p1 p2 p3) + (own4_f0 xl xh p0 p1)) + (own4_f0 xm p3 (p2 ^^^ (-1 : Int32)) (xh ^^^ p0)))), .second, .val (.ref r), .val (.ref rr)] [(.int xl), (.int p1), (.long (((own4_f0 p0 p1 p2 p3) + (own4_f0 xl xh p0 p1)) + (own4_f0 xm p3 (p2 ^^^ (-1 : Int32)) (xh ^^^ p0))))])) _
            refine XS.iload X21.here hx rfl (hb hby at_245) rfl ?_
            show Steps p.tables e below (T21.setTop (mkF m 247 #[.val (.int p0), .val (.int p1), .val (.int p2), .val (.int p3), .val (.long q4), .second, .val (.int p5), .val (.int bL), .val (.int bR), .val (.int bLL), .val (.int bRR), .val (.int xl), .val (.int xh), .val (.int xm), .val (.ref root), .val (.long (((own4_f0 p0 p1 p2 p3) + (own4_f0 xl xh p0 p1)) + (own4_f0 xm p3 (p2 ^^^ (-1 : Int32)) (xh ^^^ p0)))), .second, .val (.ref r), .val (.ref rr)] [(.int xh), (.int xl), (.int p1), (.long (((own4_f0 p0 p1 p2 p3) + (own4_f0 xl xh p0 p1)) + (own4_f0 xm p3 (p2 ^^^ (-1 : Int32)) (xh ^^^ p0))))])) _
            refine XS.iloadN X21.here hx rfl (hb hby at_247) rfl ?_
            show Steps p.tables e below (T21.setTop (mkF m 248 #[.val (.int p0), .val (.int p1), .val (.int p2), .val (.int p3), .val (.long q4), .second, .val (.int p5), .val (.int bL), .val (.int bR), .val (.int bLL), .val (.int bRR), .val (.int xl), .val (.int xh), .val (.int xm), .val (.ref root), .val (.long (((own4_f0 p0 p1 p2 p3) + (own4_f0 xl xh p0 p1)) + (own4_f0 xm p3 (p2 ^^^ (-1 : Int32)) (xh ^^^ p0)))), .second, .val (.ref r), .val (.ref rr)] [(.int p3), (.int xh), (.int xl), (.int p1), (.long (((own4_f0 p0 p1 p2 p3) + (own4_f0 xl xh p0 p1)) + (own4_f0 xm p3 (p2 ^^^ (-1 : Int32)) (xh ^^^ p0))))])) _
            refine XS.iconst X21.here hx rfl (hb hby at_248) ?_
            show Steps p.tables e below (T21.setTop (mkF m 249 #[.val (.int p0), .val (.int p1), .val (.int p2), .val (.int p3), .val (.long q4), .second, .val (.int p5), .val (.int bL), .val (.int bR), .val (.int bLL), .val (.int bRR), .val (.int xl), .val (.int xh), .val (.int xm), .val (.ref root), .val (.long (((own4_f0 p0 p1 p2 p3) + (own4_f0 xl xh p0 p1)) + (own4_f0 xm p3 (p2 ^^^ (-1 : Int32)) (xh ^^^ p0)))), .second, .val (.ref r), .val (.ref rr)] [(.int (-1 : Int32)), (.int p3), (.int xh), (.int xl), (.int p1), (.long (((own4_f0 p0 p1 p2 p3) + (own4_f0 xl xh p0 p1)) + (own4_f0 xm p3 (p2 ^^^ (-1 : Int32)) (xh ^^^ p0))))])) _
            refine XS.ixor X21.here hx rfl (hb hby at_249) rfl ?_
            exact kt
          obtain ⟨_, _, ⟨T22, L22, k22, n22⟩, -, X22, ⟨Lc22, hQ22, l22, y22, z22⟩, st22⟩ := Jvm.LawKit.callS X21 hx (y := (⟨"com/example/fleetwire/fleetwire/bench/TreeFieldSumPinLaw", "s", "(IIII)J"⟩ : MethodName)) hown (mvT hZ (hw _ (List.mem_of_getElem? (i := 21) rfl))) (mvT hZ (hw _ (List.mem_of_getElem? (i := 22) rfl))) (mvT hZ (hw _ (List.mem_of_getElem? (i := 2) rfl))) (mvT hZ (hw _ (List.mem_of_getElem? (i := 23) rfl))) (by decide) (backOf (W := 2) (rm4 l Z t0 hw [] p1 xl xh (p3 ^^^ (-1 : Int32)) h21 n0 Z21) hZ (hw _ (List.mem_of_getElem? (i := 23) rfl)) (hw _ (List.mem_of_getElem? (i := 2) rfl)) (by decide) (by decide)) (g := (mkF m 250 #[.val (.int p0), .val (.int p1), .val (.int p2), .val (.int p3), .val (.long q4), .second, .val (.int p5), .val (.int bL), .val (.int bR), .val (.int bLL), .val (.int bRR), .val (.int xl), .val (.int xh), .val (.int xm), .val (.ref root), .val (.long (((own4_f0 p0 p1 p2 p3) + (own4_f0 xl xh p0 p1)) + (own4_f0 xm p3 (p2 ^^^ (-1 : Int32)) (xh ^^^ p0)))), .second, .val (.ref r), .val (.ref rr)] [(.int (p3 ^^^ (-1 : Int32))), (.int xh), (.int xl), (.int p1), (.long (((own4_f0 p0 p1 p2 p3) + (own4_f0 xl xh p0 p1)) + (own4_f0 xm p3 (p2 ^^^ (-1 : Int32)) (xh ^^^ p0))))])) rfl (by rw [hml]; rfl) (argsL := [(.int p1), (.int xl), (.int xh), (.int (p3 ^^^ (-1 : Int32)))]) (rest := [(.long (((own4_f0 p0 p1 p2 p3) + (own4_f0 xl xh p0 p1)) + (own4_f0 xm p3 (p2 ^^^ (-1 : Int32)) (xh ^^^ p0))))]) (lenOf pd_0_1 rfl) rfl (by show 2 * 0 + _ ≤ _; exact Nat.le_of_eq rfl) (hb hby at_250) (fun _ _ => ⟨rfl, e21, (by decide : 4 + 0 ≤ _), (by decide : 24 + 0 ≤ _)⟩)
          dsimp only [Pt.U, Pt.locs, Pt.cells, Pt.slots] at X22 l22 y22 z22 st22 hQ22
          subst l22 y22 z22
          obtain ⟨rfl, Nq22, hh22⟩ := hQ22
          have N22 := Fr.app N21 Nq22
          have e22 : T22.heap = h21 := hh22
          refine own_go (B := T22.setTop (mkF m 253 #[.val (.int p0), .val (.int p1), .val (.int p2), .val (.int p3), .val (.long q4), .second, .val (.int p5), .val (.int bL), .val (.int bR), .val (.int bLL), .val (.int bRR), .val (.int xl), .val (.int xh), .val (.int xm), .val (.ref root), .val (.long (((own4_f0 p0 p1 p2 p3) + (own4_f0 xl xh p0 p1)) + (own4_f0 xm p3 (p2 ^^^ (-1 : Int32)) (xh ^^^ p0)))), .second, .val (.ref r), .val (.ref rr)] [(.long (own4_f0 p1 xl xh (p3 ^^^ (-1 : Int32)))), (.long (((own4_f0 p0 p1 p2 p3) + (own4_f0 xl xh p0 p1)) + (own4_f0 xm p3 (p2 ^^^ (-1 : Int32)) (xh ^^^ p0))))])) (fun t kt => st22 t kt) ?_
          refine own_go (B := T22.setTop (mkF m 260 #[.val (.int p0), .val (.int p1), .val (.int p2), .val (.int p3), .val (.long q4), .second, .val (.int p5), .val (.int bL), .val (.int bR), .val (.int bLL), .val (.int bRR), .val (.int xl), .val (.int xh), .val (.int xm), .val (.ref root), .val (.long ((((own4_f0 p0 p1 p2 p3) + (own4_f0 xl xh p0 p1)) + (own4_f0 xm p3 (p2 ^^^ (-1 : Int32)) (xh ^^^ p0))) + (own4_f0 p1 xl xh (p3 ^^^ (-1 : Int32))))), .second, .val (.ref r), .val (.ref rr)] [(.ref rr), (.ref r)])) (fun t kt => ?_) ?_
          · show Steps p.tables e below (T22.setTop (mkF m 253 #[.val (.int p0), .val (.int p1), .val (.int p2), .val (.int p3), .val (.long q4), .second, .val (.int p5), .val (.int bL), .val (.int bR), .val (.int bLL), .val (.int bRR), .val (.int xl), .val (.int xh), .val (.int xm), .val (.ref root), .val (.long (((own4_f0 p0 p1 p2 p3) + (own4_f0 xl xh p0 p1)) + (own4_f0 xm p3 (p2 ^^^ (-1 : Int32)) (xh ^^^ p0)))), .second, .val (.ref r), .val (.ref rr)] [(.long (own4_f0 p1 xl xh (p3 ^^^ (-1 : Int32)))), (.long (((own4_f0 p0 p1 p2 p3) + (own4_f0 xl xh p0 p1)) + (own4_f0 xm p3 (p2 ^^^ (-1 : Int32)) (xh ^^^ p0))))])) _
            refine XS.ladd X22.here hx rfl (hb hby at_253) rfl ?_
            show Steps p.tables e below (T22.setTop (mkF m 254 #[.val (.int p0), .val (.int p1), .val (.int p2), .val (.int p3), .val (.long q4), .second, .val (.int p5), .val (.int bL), .val (.int bR), .val (.int bLL), .val (.int bRR), .val (.int xl), .val (.int xh), .val (.int xm), .val (.ref root), .val (.long (((own4_f0 p0 p1 p2 p3) + (own4_f0 xl xh p0 p1)) + (own4_f0 xm p3 (p2 ^^^ (-1 : Int32)) (xh ^^^ p0)))), .second, .val (.ref r), .val (.ref rr)] [(.long ((((own4_f0 p0 p1 p2 p3) + (own4_f0 xl xh p0 p1)) + (own4_f0 xm p3 (p2 ^^^ (-1 : Int32)) (xh ^^^ p0))) + (own4_f0 p1 xl xh (p3 ^^^ (-1 : Int32)))))])) _
            refine XS.lstore X22.here hx rfl (hb hby at_254) rfl (l' := #[.val (.int p0), .val (.int p1), .val (.int p2), .val (.int p3), .val (.long q4), .second, .val (.int p5), .val (.int bL), .val (.int bR), .val (.int bLL), .val (.int bRR), .val (.int xl), .val (.int xh), .val (.int xm), .val (.ref root), .val (.long ((((own4_f0 p0 p1 p2 p3) + (own4_f0 xl xh p0 p1)) + (own4_f0 xm p3 (p2 ^^^ (-1 : Int32)) (xh ^^^ p0))) + (own4_f0 p1 xl xh (p3 ^^^ (-1 : Int32))))), .second, .val (.ref r), .val (.ref rr)]) rfl ?_
            show Steps p.tables e below (T22.setTop (mkF m 256 #[.val (.int p0), .val (.int p1), .val (.int p2), .val (.int p3), .val (.long q4), .second, .val (.int p5), .val (.int bL), .val (.int bR), .val (.int bLL), .val (.int bRR), .val (.int xl), .val (.int xh), .val (.int xm), .val (.ref root), .val (.long ((((own4_f0 p0 p1 p2 p3) + (own4_f0 xl xh p0 p1)) + (own4_f0 xm p3 (p2 ^^^ (-1 : Int32)) (xh ^^^ p0))) + (own4_f0 p1 xl xh (p3 ^^^ (-1 : Int32))))), .second, .val (.ref r), .val (.ref rr)] [])) _
            refine XS.aload X22.here hx rfl (hb hby at_256) rfl rfl ?_
            show Steps p.tables e below (T22.setTop (mkF m 258 #[.val (.int p0), .val (.int p1), .val (.int p2), .val (.int p3), .val (.long q4), .second, .val (.int p5), .val (.int bL), .val (.int bR), .val (.int bLL), .val (.int bRR), .val (.int xl), .val (.int xh), .val (.int xm), .val (.ref root), .val (.long ((((own4_f0 p0 p1 p2 p3) + (own4_f0 xl xh p0 p1)) + (own4_f0 xm p3 (p2 ^^^ (-1 : Int32)) (xh ^^^ p0))) + (own4_f0 p1 xl xh (p3 ^^^ (-1 : Int32))))), .second, .val (.ref r), .val (.ref rr)] [(.ref r)])) _
            refine XS.aload X22.here hx rfl (hb hby at_258) rfl rfl ?_
            exact kt
          obtain ⟨T23, h23, X23, e23, W23, st23⟩ := putF X22 hx hZ hown (host := "") (Or.inl (hw _ (List.mem_of_getElem? (i := 24) rfl))) Via.refl e22 F_right_r_21 E_r_21 (Or.inl (hw _ (List.mem_of_getElem? (i := 25) rfl))) (hw _ (List.mem_of_getElem? (i := 5) rfl)) (ty := (.object "com/example/fleetwire/fleetwire/bench/Bench$Tree")) (by decide) rfl rfl (g := (mkF m 260 #[.val (.int p0), .val (.int p1), .val (.int p2), .val (.int p3), .val (.long q4), .second, .val (.int p5), .val (.int bL), .val (.int bR), .val (.int bLL), .val (.int bRR), .val (.int xl), .val (.int xh), .val (.int xm), .val (.ref root), .val (.long ((((own4_f0 p0 p1 p2 p3) + (own4_f0 xl xh p0 p1)) + (own4_f0 xm p3 (p2 ^^^ (-1 : Int32)) (xh ^^^ p0))) + (own4_f0 p1 xl xh (p3 ^^^ (-1 : Int32))))), .second, .val (.ref r), .val (.ref rr)] [(.ref rr), (.ref r)])) rfl rfl (hb hby at_260)
          have F_right_r_23 : Fld Z h23 r "com/example/fleetwire/fleetwire/bench/Bench$Tree" "right" "Lcom/example/fleetwire/fleetwire/bench/Bench$Tree;" (.ref rr) := F_right_r_21.same W23
          have E_root_23 := E_root_21.wr W23
          have F_a_root_23 := F_a_root_21.other W23 (Or.inl ne_root_r)
          have F_b_root_23 := F_b_root_21.other W23 (Or.inl ne_root_r)
          have F_c_root_23 := F_c_root_21.other W23 (Or.inl ne_root_r)
          have F_d_root_23 := F_d_root_21.other W23 (Or.inl ne_root_r)
          have F_left_root_23 := F_left_root_21.other W23 (Or.inl ne_root_r)
          have F_right_root_23 := F_right_root_21.other W23 (Or.inl ne_root_r)
          have E_lf_23 := E_lf_21.wr W23
          have F_a_lf_23 := F_a_lf_21.other W23 (Or.inl ne_lf_r)
          have F_b_lf_23 := F_b_lf_21.other W23 (Or.inl ne_lf_r)
          have F_c_lf_23 := F_c_lf_21.other W23 (Or.inl ne_lf_r)
          have F_d_lf_23 := F_d_lf_21.other W23 (Or.inl ne_lf_r)
          have F_left_lf_23 := F_left_lf_21.other W23 (Or.inl ne_lf_r)
          have F_right_lf_23 := F_right_lf_21.other W23 (Or.inl ne_lf_r)
          have E_r_23 := E_r_21.wr W23
          have F_a_r_23 := F_a_r_21.other W23 (Or.inr (slot_ne (Or.inl (hw _ (List.mem_of_getElem? (i := 14) rfl))) (Or.inl (hw _ (List.mem_of_getElem? (i := 25) rfl))) (by decide) (t := .int) (t' := (.object "com/example/fleetwire/fleetwire/bench/Bench$Tree")) (by decide) (by decide)))
          have F_b_r_23 := F_b_r_21.other W23 (Or.inr (slot_ne (Or.inl (hw _ (List.mem_of_getElem? (i := 16) rfl))) (Or.inl (hw _ (List.mem_of_getElem? (i := 25) rfl))) (by decide) (t := .int) (t' := (.object "com/example/fleetwire/fleetwire/bench/Bench$Tree")) (by decide) (by decide)))
          have F_c_r_23 := F_c_r_21.other W23 (Or.inr (slot_ne (Or.inl (hw _ (List.mem_of_getElem? (i := 18) rfl))) (Or.inl (hw _ (List.mem_of_getElem? (i := 25) rfl))) (by decide) (t := .int) (t' := (.object "com/example/fleetwire/fleetwire/bench/Bench$Tree")) (by decide) (by decide)))
          have F_d_r_23 := F_d_r_21.other W23 (Or.inr (slot_ne (Or.inl (hw _ (List.mem_of_getElem? (i := 20) rfl))) (Or.inl (hw _ (List.mem_of_getElem? (i := 25) rfl))) (by decide) (t := .int) (t' := (.object "com/example/fleetwire/fleetwire/bench/Bench$Tree")) (by decide) (by decide)))
          have F_left_r_23 := F_left_r_21.other W23 (Or.inr (slot_ne (Or.inl (hw _ (List.mem_of_getElem? (i := 36) rfl))) (Or.inl (hw _ (List.mem_of_getElem? (i := 25) rfl))) (by decide) (t := (.object "com/example/fleetwire/fleetwire/bench/Bench$Tree")) (t' := (.object "com/example/fleetwire/fleetwire/bench/Bench$Tree")) (by decide) (by decide)))
          have E_rr_23 := ex21.wr W23
          have F_a_rr_23 := fa21.other W23 (Or.inl (Ne.symm ne_r_rr))
          have F_b_rr_23 := fb21.other W23 (Or.inl (Ne.symm ne_r_rr))
          have F_c_rr_23 := fc21.other W23 (Or.inl (Ne.symm ne_r_rr))
          have F_d_rr_23 := fd21.other W23 (Or.inl (Ne.symm ne_r_rr))
          have F_left_rr_23 := fleft21.other W23 (Or.inl (Ne.symm ne_r_rr))
          have F_right_rr_23 := fright21.other W23 (Or.inl (Ne.symm ne_r_rr))
          have Z23 : n0 ≤ h23.size := Nat.le_trans Z21 (Keep.of_wr W23).1
          have N23 := Fr.snoc X23 N22 gb17
          refine own_go (B := T23.setTop (mkF m 263 #[.val (.int p0), .val (.int p1), .val (.int p2), .val (.int p3), .val (.long q4), .second, .val (.int p5), .val (.int bL), .val (.int bR), .val (.int bLL), .val (.int bRR), .val (.int xl), .val (.int xh), .val (.int xm), .val (.ref root), .val (.long ((((own4_f0 p0 p1 p2 p3) + (own4_f0 xl xh p0 p1)) + (own4_f0 xm p3 (p2 ^^^ (-1 : Int32)) (xh ^^^ p0))) + (own4_f0 p1 xl xh (p3 ^^^ (-1 : Int32))))), .second, .val (.ref r), .val (.ref rr)] [])) (fun t kt => st23 t kt) ?_
          refine own_go (B := T23.setTop (mkF m 267 #[.val (.int p0), .val (.int p1), .val (.int p2), .val (.int p3), .val (.long q4), .second, .val (.int p5), .val (.int bL), .val (.int bR), .val (.int bLL), .val (.int bRR), .val (.int xl), .val (.int xh), .val (.int xm), .val (.ref root), .val (.long ((((own4_f0 p0 p1 p2 p3) + (own4_f0 xl xh p0 p1)) + (own4_f0 xm p3 (p2 ^^^ (-1 : Int32)) (xh ^^^ p0))) + (own4_f0 p1 xl xh (p3 ^^^ (-1 : Int32))))), .second, .val (.ref r), .val (.ref rr)] [(.ref r), (.ref root)])) (fun t kt => ?_) ?_
          · show Steps p.tables e below (T23.setTop (mkF m 263 #[.val (.int p0), .val (.int p1), .val (.int p2), .val (.int p3), .val (.long q4), .second, .val (.int p5), .val (.int bL), .val (.int bR), .val (.int bLL), .val (.int bRR), .val (.int xl), .val (.int xh), .val (.int xm), .val (.ref root), .val (.long ((((own4_f0 p0 p1 p2 p3) + (own4_f0 xl xh p0 p1)) + (own4_f0 xm p3 (p2 ^^^ (-1 : Int32)) (xh ^^^ p0))) + (own4_f0 p1 xl xh (p3 ^^^ (-1 : Int32))))), .second, .val (.ref r), .val (.ref rr)] [])) _
            refine XS.aload X23.here hx rfl (hb hby at_263) rfl rfl ?_
            show Steps p.tables e below (T23.setTop (mkF m 265 #[.val (.int p0), .val (.int p1), .val (.int p2), .val (.int p3), .val (.long q4), .second, .val (.int p5), .val (.int bL), .val (.int bR), .val (.int bLL), .val (.int bRR), .val (.int xl), .val (.int xh), .val (.int xm), .val (.ref root), .val (.long ((((own4_f0 p0 p1 p2 p3) + (own4_f0 xl xh p0 p1)) + (own4_f0 xm p3 (p2 ^^^ (-1 : Int32)) (xh ^^^ p0))) + (own4_f0 p1 xl xh (p3 ^^^ (-1 : Int32))))), .second, .val (.ref r), .val (.ref rr)] [(.ref root)])) _
            refine XS.aload X23.here hx rfl (hb hby at_265) rfl rfl ?_
            exact kt
          obtain ⟨T24, h24, X24, e24, W24, st24⟩ := putF X23 hx hZ hown (host := "") (Or.inl (hw _ (List.mem_of_getElem? (i := 24) rfl))) Via.refl e23 F_right_root_23 E_root_23 (Or.inl (hw _ (List.mem_of_getElem? (i := 25) rfl))) (hw _ (List.mem_of_getElem? (i := 5) rfl)) (ty := (.object "com/example/fleetwire/fleetwire/bench/Bench$Tree")) (by decide) rfl rfl (g := (mkF m 267 #[.val (.int p0), .val (.int p1), .val (.int p2), .val (.int p3), .val (.long q4), .second, .val (.int p5), .val (.int bL), .val (.int bR), .val (.int bLL), .val (.int bRR), .val (.int xl), .val (.int xh), .val (.int xm), .val (.ref root), .val (.long ((((own4_f0 p0 p1 p2 p3) + (own4_f0 xl xh p0 p1)) + (own4_f0 xm p3 (p2 ^^^ (-1 : Int32)) (xh ^^^ p0))) + (own4_f0 p1 xl xh (p3 ^^^ (-1 : Int32))))), .second, .val (.ref r), .val (.ref rr)] [(.ref r), (.ref root)])) rfl rfl (hb hby at_267)
          have F_right_root_24 : Fld Z h24 root "com/example/fleetwire/fleetwire/bench/Bench$Tree" "right" "Lcom/example/fleetwire/fleetwire/bench/Bench$Tree;" (.ref r) := F_right_root_23.same W24
          have E_root_24 := E_root_23.wr W24
          have F_a_root_24 := F_a_root_23.other W24 (Or.inr (slot_ne (Or.inl (hw _ (List.mem_of_getElem? (i := 14) rfl))) (Or.inl (hw _ (List.mem_of_getElem? (i := 25) rfl))) (by decide) (t := .int) (t' := (.object "com/example/fleetwire/fleetwire/bench/Bench$Tree")) (by decide) (by decide)))
          have F_b_root_24 := F_b_root_23.other W24 (Or.inr (slot_ne (Or.inl (hw _ (List.mem_of_getElem? (i := 16) rfl))) (Or.inl (hw _ (List.mem_of_getElem? (i := 25) rfl))) (by decide) (t := .int) (t' := (.object "com/example/fleetwire/fleetwire/bench/Bench$Tree")) (by decide) (by decide)))
          have F_c_root_24 := F_c_root_23.other W24 (Or.inr (slot_ne (Or.inl (hw _ (List.mem_of_getElem? (i := 18) rfl))) (Or.inl (hw _ (List.mem_of_getElem? (i := 25) rfl))) (by decide) (t := .int) (t' := (.object "com/example/fleetwire/fleetwire/bench/Bench$Tree")) (by decide) (by decide)))
          have F_d_root_24 := F_d_root_23.other W24 (Or.inr (slot_ne (Or.inl (hw _ (List.mem_of_getElem? (i := 20) rfl))) (Or.inl (hw _ (List.mem_of_getElem? (i := 25) rfl))) (by decide) (t := .int) (t' := (.object "com/example/fleetwire/fleetwire/bench/Bench$Tree")) (by decide) (by decide)))
          have F_left_root_24 := F_left_root_23.other W24 (Or.inr (slot_ne (Or.inl (hw _ (List.mem_of_getElem? (i := 36) rfl))) (Or.inl (hw _ (List.mem_of_getElem? (i := 25) rfl))) (by decide) (t := (.object "com/example/fleetwire/fleetwire/bench/Bench$Tree")) (t' := (.object "com/example/fleetwire/fleetwire/bench/Bench$Tree")) (by decide) (by decide)))
          have E_lf_24 := E_lf_23.wr W24
          have F_a_lf_24 := F_a_lf_23.other W24 (Or.inl (Ne.symm ne_root_lf))
          have F_b_lf_24 := F_b_lf_23.other W24 (Or.inl (Ne.symm ne_root_lf))
          have F_c_lf_24 := F_c_lf_23.other W24 (Or.inl (Ne.symm ne_root_lf))
          have F_d_lf_24 := F_d_lf_23.other W24 (Or.inl (Ne.symm ne_root_lf))
          have F_left_lf_24 := F_left_lf_23.other W24 (Or.inl (Ne.symm ne_root_lf))
          have F_right_lf_24 := F_right_lf_23.other W24 (Or.inl (Ne.symm ne_root_lf))
          have E_r_24 := E_r_23.wr W24
          have F_a_r_24 := F_a_r_23.other W24 (Or.inl (Ne.symm ne_root_r))
          have F_b_r_24 := F_b_r_23.other W24 (Or.inl (Ne.symm ne_root_r))
          have F_c_r_24 := F_c_r_23.other W24 (Or.inl (Ne.symm ne_root_r))
          have F_d_r_24 := F_d_r_23.other W24 (Or.inl (Ne.symm ne_root_r))
          have F_left_r_24 := F_left_r_23.other W24 (Or.inl (Ne.symm ne_root_r))
          have F_right_r_24 := F_right_r_23.other W24 (Or.inl (Ne.symm ne_root_r))
          have E_rr_24 := E_rr_23.wr W24
          have F_a_rr_24 := F_a_rr_23.other W24 (Or.inl (Ne.symm ne_root_rr))
          have F_b_rr_24 := F_b_rr_23.other W24 (Or.inl (Ne.symm ne_root_rr))
          have F_c_rr_24 := F_c_rr_23.other W24 (Or.inl (Ne.symm ne_root_rr))
          have F_d_rr_24 := F_d_rr_23.other W24 (Or.inl (Ne.symm ne_root_rr))
          have F_left_rr_24 := F_left_rr_23.other W24 (Or.inl (Ne.symm ne_root_rr))
          have F_right_rr_24 := F_right_rr_23.other W24 (Or.inl (Ne.symm ne_root_rr))
          have Z24 : n0 ≤ h24.size := Nat.le_trans Z23 (Keep.of_wr W24).1
          have N24 := Fr.snoc X24 N23 gb1
          refine own_go (B := T24.setTop (mkF m 270 #[.val (.int p0), .val (.int p1), .val (.int p2), .val (.int p3), .val (.long q4), .second, .val (.int p5), .val (.int bL), .val (.int bR), .val (.int bLL), .val (.int bRR), .val (.int xl), .val (.int xh), .val (.int xm), .val (.ref root), .val (.long ((((own4_f0 p0 p1 p2 p3) + (own4_f0 xl xh p0 p1)) + (own4_f0 xm p3 (p2 ^^^ (-1 : Int32)) (xh ^^^ p0))) + (own4_f0 p1 xl xh (p3 ^^^ (-1 : Int32))))), .second, .val (.ref r), .val (.ref rr)] [])) (fun t kt => st24 t kt) ?_
          refine own_go (B := T24.setTop (mkF m 272 #[.val (.int p0), .val (.int p1), .val (.int p2), .val (.int p3), .val (.long q4), .second, .val (.int p5), .val (.int bL), .val (.int bR), .val (.int bLL), .val (.int bRR), .val (.int xl), .val (.int xh), .val (.int xm), .val (.ref root), .val (.long ((((own4_f0 p0 p1 p2 p3) + (own4_f0 xl xh p0 p1)) + (own4_f0 xm p3 (p2 ^^^ (-1 : Int32)) (xh ^^^ p0))) + (own4_f0 p1 xl xh (p3 ^^^ (-1 : Int32))))), .second, .val (.ref r), .val (.ref rr)] [(.ref root)])) (fun t kt => ?_) ?_
          · show Steps p.tables e below (T24.setTop (mkF m 270 #[.val (.int p0), .val (.int p1), .val (.int p2), .val (.int p3), .val (.long q4), .second, .val (.int p5), .val (.int bL), .val (.int bR), .val (.int bLL), .val (.int bRR), .val (.int xl), .val (.int xh), .val (.int xm), .val (.ref root), .val (.long ((((own4_f0 p0 p1 p2 p3) + (own4_f0 xl xh p0 p1)) + (own4_f0 xm p3 (p2 ^^^ (-1 : Int32)) (xh ^^^ p0))) + (own4_f0 p1 xl xh (p3 ^^^ (-1 : Int32))))), .second, .val (.ref r), .val (.ref rr)] [])) _
            refine XS.aload X24.here hx rfl (hb hby at_270) rfl rfl ?_
            exact kt
          have ht := (show own_t3 Z h24 root (((own4_f0 p0 p1 p2 p3) + (((own4_f0 xl xh p0 p1) + (0 : Int64)) + (0 : Int64))) + (((own4_f0 xm p3 (p2 ^^^ (-1 : Int32)) (xh ^^^ p0)) + (0 : Int64)) + (((own4_f0 p1 xl xh (p3 ^^^ (-1 : Int32))) + (0 : Int64)) + (0 : Int64)))) from ⟨_, _, _, _, _, _, _, _, E_root_24, F_a_root_24, F_b_root_24, F_c_root_24, F_d_root_24, F_left_root_24, F_right_root_24, (Or.inr ⟨lf, rfl, (show own_t2 Z h24 lf (((own4_f0 xl xh p0 p1) + (0 : Int64)) + (0 : Int64)) from ⟨_, _, _, _, _, _, _, _, E_lf_24, F_a_lf_24, F_b_lf_24, F_c_lf_24, F_d_lf_24, F_left_lf_24, F_right_lf_24, (Or.inl ⟨rfl, rfl⟩), (Or.inl ⟨rfl, rfl⟩), rfl⟩)⟩), (Or.inr ⟨r, rfl, (show own_t2 Z h24 r (((own4_f0 xm p3 (p2 ^^^ (-1 : Int32)) (xh ^^^ p0)) + (0 : Int64)) + (((own4_f0 p1 xl xh (p3 ^^^ (-1 : Int32))) + (0 : Int64)) + (0 : Int64))) from ⟨_, _, _, _, _, _, _, _, E_r_24, F_a_r_24, F_b_r_24, F_c_r_24, F_d_r_24, F_left_r_24, F_right_r_24, (Or.inl ⟨rfl, rfl⟩), (Or.inr ⟨rr, rfl, (show own_t1 Z h24 rr (((own4_f0 p1 xl xh (p3 ^^^ (-1 : Int32))) + (0 : Int64)) + (0 : Int64)) from ⟨_, _, _, _, _, _, _, _, E_rr_24, F_a_rr_24, F_b_rr_24, F_c_rr_24, F_d_rr_24, F_left_rr_24, F_right_rr_24, (Or.inl ⟨rfl, rfl⟩), (Or.inl ⟨rfl, rfl⟩), rfl⟩)⟩), rfl⟩)⟩), rfl⟩)
          obtain ⟨cq25, kq25, qa25, qb25, qc25⟩ := isOf hZ e24 E_root_24
          obtain ⟨_, _, ⟨T25, L25, k25, n25⟩, -, X25, ⟨Lc25, hQ25, l25, y25, z25⟩, st25⟩ := X24.virtualBack hx (y := (⟨"com/example/fleetwire/fleetwire/bench/Bench$Tree", "fieldSum", "()J"⟩ : MethodName)) (z := (⟨"com/example/fleetwire/fleetwire/bench/Bench$Tree", "fieldSum", "()J"⟩ : MethodName)) hown (mvT hZ (hw _ (List.mem_of_getElem? (i := 26) rfl))) (mvT hZ (hw _ (List.mem_of_getElem? (i := 27) rfl))) (notFace_of_selects (args := #[]) (mvT hZ (hw _ (List.mem_of_getElem? (i := 29) rfl)))) (mvT hZ (hw _ (List.mem_of_getElem? (i := 29) rfl))) (mvT hZ (hw _ (List.mem_of_getElem? (i := 28) rfl))) (by decide) (backOf (W := 0) (rm5_3 l Z t0 hw [] root (((own4_f0 p0 p1 p2 p3) + (((own4_f0 xl xh p0 p1) + (0 : Int64)) + (0 : Int64))) + (((own4_f0 xm p3 (p2 ^^^ (-1 : Int32)) (xh ^^^ p0)) + (0 : Int64)) + (((own4_f0 p1 xl xh (p3 ^^^ (-1 : Int32))) + (0 : Int64)) + (0 : Int64)))) h24 n0 Z24 ht) hZ (hw _ (List.mem_of_getElem? (i := 30) rfl)) (hw _ (List.mem_of_getElem? (i := 6) rfl)) (by decide) (by decide)) qa25 qc25 (g := (mkF m 272 #[.val (.int p0), .val (.int p1), .val (.int p2), .val (.int p3), .val (.long q4), .second, .val (.int p5), .val (.int bL), .val (.int bR), .val (.int bLL), .val (.int bRR), .val (.int xl), .val (.int xh), .val (.int xm), .val (.ref root), .val (.long ((((own4_f0 p0 p1 p2 p3) + (own4_f0 xl xh p0 p1)) + (own4_f0 xm p3 (p2 ^^^ (-1 : Int32)) (xh ^^^ p0))) + (own4_f0 p1 xl xh (p3 ^^^ (-1 : Int32))))), .second, .val (.ref r), .val (.ref rr)] [(.ref root)])) rfl (by rw [hml]; rfl) (Steps.refl _) (argsL := []) (rest := []) (lenOf pd_0_2 rfl) rfl (by show 2 * 0 + _ ≤ _; exact Nat.le_of_eq rfl) (hb hby at_272) (fun _ _ => ⟨rfl, e24, (by decide : 4 + 0 ≤ _), (by decide : 24 + 0 ≤ _)⟩)
          dsimp only [Pt.U, Pt.locs, Pt.cells, Pt.slots] at X25 l25 y25 z25 st25 hQ25
          subst l25 y25 z25
          obtain ⟨rfl, Nq25, hh25⟩ := hQ25
          have N25 := Fr.app N24 Nq25
          have e25 : T25.heap = h24 := hh25
          refine own_go (B := T25.setTop (mkF m 275 #[.val (.int p0), .val (.int p1), .val (.int p2), .val (.int p3), .val (.long q4), .second, .val (.int p5), .val (.int bL), .val (.int bR), .val (.int bLL), .val (.int bRR), .val (.int xl), .val (.int xh), .val (.int xm), .val (.ref root), .val (.long ((((own4_f0 p0 p1 p2 p3) + (own4_f0 xl xh p0 p1)) + (own4_f0 xm p3 (p2 ^^^ (-1 : Int32)) (xh ^^^ p0))) + (own4_f0 p1 xl xh (p3 ^^^ (-1 : Int32))))), .second, .val (.ref r), .val (.ref rr)] [(.long (((own4_f0 p0 p1 p2 p3) + (((own4_f0 xl xh p0 p1) + (0 : Int64)) + (0 : Int64))) + (((own4_f0 xm p3 (p2 ^^^ (-1 : Int32)) (xh ^^^ p0)) + (0 : Int64)) + (((own4_f0 p1 xl xh (p3 ^^^ (-1 : Int32))) + (0 : Int64)) + (0 : Int64)))))])) (fun t kt => st25.trans kt) ?_
          refine own_go (B := T25.setTop (mkF m 286 #[.val (.int p0), .val (.int p1), .val (.int p2), .val (.int p3), .val (.long q4), .second, .val (.int p5), .val (.int bL), .val (.int bR), .val (.int bLL), .val (.int bRR), .val (.int xl), .val (.int xh), .val (.int xm), .val (.ref root), .val (.long ((((own4_f0 p0 p1 p2 p3) + (own4_f0 xl xh p0 p1)) + (own4_f0 xm p3 (p2 ^^^ (-1 : Int32)) (xh ^^^ p0))) + (own4_f0 p1 xl xh (p3 ^^^ (-1 : Int32))))), .second, .val (.ref r), .val (.ref rr)] [(.int (1 : Int32))])) (fun t kt => ?_) ?_
          · show Steps p.tables e below (T25.setTop (mkF m 275 #[.val (.int p0), .val (.int p1), .val (.int p2), .val (.int p3), .val (.long q4), .second, .val (.int p5), .val (.int bL), .val (.int bR), .val (.int bLL), .val (.int bRR), .val (.int xl), .val (.int xh), .val (.int xm), .val (.ref root), .val (.long ((((own4_f0 p0 p1 p2 p3) + (own4_f0 xl xh p0 p1)) + (own4_f0 xm p3 (p2 ^^^ (-1 : Int32)) (xh ^^^ p0))) + (own4_f0 p1 xl xh (p3 ^^^ (-1 : Int32))))), .second, .val (.ref r), .val (.ref rr)] [(.long (((own4_f0 p0 p1 p2 p3) + (((own4_f0 xl xh p0 p1) + (0 : Int64)) + (0 : Int64))) + (((own4_f0 xm p3 (p2 ^^^ (-1 : Int32)) (xh ^^^ p0)) + (0 : Int64)) + (((own4_f0 p1 xl xh (p3 ^^^ (-1 : Int32))) + (0 : Int64)) + (0 : Int64)))))])) _
            refine XS.lload X25.here hx rfl (hb hby at_275) rfl ?_
            show Steps p.tables e below (T25.setTop (mkF m 277 #[.val (.int p0), .val (.int p1), .val (.int p2), .val (.int p3), .val (.long q4), .second, .val (.int p5), .val (.int bL), .val (.int bR), .val (.int bLL), .val (.int bRR), .val (.int xl), .val (.int xh), .val (.int xm), .val (.ref root), .val (.long ((((own4_f0 p0 p1 p2 p3) + (own4_f0 xl xh p0 p1)) + (own4_f0 xm p3 (p2 ^^^ (-1 : Int32)) (xh ^^^ p0))) + (own4_f0 p1 xl xh (p3 ^^^ (-1 : Int32))))), .second, .val (.ref r), .val (.ref rr)] [(.long ((((own4_f0 p0 p1 p2 p3) + (own4_f0 xl xh p0 p1)) + (own4_f0 xm p3 (p2 ^^^ (-1 : Int32)) (xh ^^^ p0))) + (own4_f0 p1 xl xh (p3 ^^^ (-1 : Int32))))), (.long (((own4_f0 p0 p1 p2 p3) + (((own4_f0 xl xh p0 p1) + (0 : Int64)) + (0 : Int64))) + (((own4_f0 xm p3 (p2 ^^^ (-1 : Int32)) (xh ^^^ p0)) + (0 : Int64)) + (((own4_f0 p1 xl xh (p3 ^^^ (-1 : Int32))) + (0 : Int64)) + (0 : Int64)))))])) _
            refine XS.lcmp X25.here hx rfl (hb hby at_277) rfl ?_
            show Steps p.tables e below (T25.setTop (mkF m 278 #[.val (.int p0), .val (.int p1), .val (.int p2), .val (.int p3), .val (.long q4), .second, .val (.int p5), .val (.int bL), .val (.int bR), .val (.int bLL), .val (.int bRR), .val (.int xl), .val (.int xh), .val (.int xm), .val (.ref root), .val (.long ((((own4_f0 p0 p1 p2 p3) + (own4_f0 xl xh p0 p1)) + (own4_f0 xm p3 (p2 ^^^ (-1 : Int32)) (xh ^^^ p0))) + (own4_f0 p1 xl xh (p3 ^^^ (-1 : Int32))))), .second, .val (.ref r), .val (.ref rr)] [(.int (lcmpW (((own4_f0 p0 p1 p2 p3) + (((own4_f0 xl xh p0 p1) + (0 : Int64)) + (0 : Int64))) + (((own4_f0 xm p3 (p2 ^^^ (-1 : Int32)) (xh ^^^ p0)) + (0 : Int64)) + (((own4_f0 p1 xl xh (p3 ^^^ (-1 : Int32))) + (0 : Int64)) + (0 : Int64)))) ((((own4_f0 p0 p1 p2 p3) + (own4_f0 xl xh p0 p1)) + (own4_f0 xm p3 (p2 ^^^ (-1 : Int32)) (xh ^^^ p0))) + (own4_f0 p1 xl xh (p3 ^^^ (-1 : Int32))))))])) _
            refine XS.ifNo X25.here hx rfl (hb hby at_278) rfl ((if0 _ _).trans (teq (show lcmpW (((own4_f0 p0 p1 p2 p3) + (((own4_f0 xl xh p0 p1) + (0 : Int64)) + (0 : Int64))) + (((own4_f0 xm p3 (p2 ^^^ (-1 : Int32)) (xh ^^^ p0)) + (0 : Int64)) + (((own4_f0 p1 xl xh (p3 ^^^ (-1 : Int32))) + (0 : Int64)) + (0 : Int64)))) ((((own4_f0 p0 p1 p2 p3) + (own4_f0 xl xh p0 p1)) + (own4_f0 xm p3 (p2 ^^^ (-1 : Int32)) (xh ^^^ p0))) + (own4_f0 p1 xl xh (p3 ^^^ (-1 : Int32)))) = (0 : Int32) from (lw_eq _ _).2 (by simp only [Int64.add_zero, Int64.add_assoc]))).2) ?_
            show Steps p.tables e below (T25.setTop (mkF m 281 #[.val (.int p0), .val (.int p1), .val (.int p2), .val (.int p3), .val (.long q4), .second, .val (.int p5), .val (.int bL), .val (.int bR), .val (.int bLL), .val (.int bRR), .val (.int xl), .val (.int xh), .val (.int xm), .val (.ref root), .val (.long ((((own4_f0 p0 p1 p2 p3) + (own4_f0 xl xh p0 p1)) + (own4_f0 xm p3 (p2 ^^^ (-1 : Int32)) (xh ^^^ p0))) + (own4_f0 p1 xl xh (p3 ^^^ (-1 : Int32))))), .second, .val (.ref r), .val (.ref rr)] [])) _
            refine XS.iconst X25.here hx rfl (hb hby at_281) ?_
            show Steps p.tables e below (T25.setTop (mkF m 282 #[.val (.int p0), .val (.int p1), .val (.int p2), .val (.int p3), .val (.long q4), .second, .val (.int p5), .val (.int bL), .val (.int bR), .val (.int bLL), .val (.int bRR), .val (.int xl), .val (.int xh), .val (.int xm), .val (.ref root), .val (.long ((((own4_f0 p0 p1 p2 p3) + (own4_f0 xl xh p0 p1)) + (own4_f0 xm p3 (p2 ^^^ (-1 : Int32)) (xh ^^^ p0))) + (own4_f0 p1 xl xh (p3 ^^^ (-1 : Int32))))), .second, .val (.ref r), .val (.ref rr)] [(.int (1 : Int32))])) _
            refine XS.goto X25.here hx rfl (pc0 := 282) (pc' := 286) rfl (hb hby at_282) (by decide) (by decide) ?_
            exact kt
          obtain ⟨fs, hr, hrun, hended, hW, hsame⟩ := X25.leave (v := some (.int (1 : Int32))) (fun h => by rw [Bd.returns] at h; cases h)
          refine ⟨_, _, ?_, hrun, hended, _, _, rfl, ?_, ⟨_, rfl⟩, hW, hsame.mono (by decide) (by decide)⟩
          · show Steps p.tables e below (T25.setTop (mkF m 286 #[.val (.int p0), .val (.int p1), .val (.int p2), .val (.int p3), .val (.long q4), .second, .val (.int p5), .val (.int bL), .val (.int bR), .val (.int bLL), .val (.int bRR), .val (.int xl), .val (.int xh), .val (.int xm), .val (.ref root), .val (.long ((((own4_f0 p0 p1 p2 p3) + (own4_f0 xl xh p0 p1)) + (own4_f0 xm p3 (p2 ^^^ (-1 : Int32)) (xh ^^^ p0))) + (own4_f0 p1 xl xh (p3 ^^^ (-1 : Int32))))), .second, .val (.ref r), .val (.ref rr)] [(.int (1 : Int32))])) _
            exact retN X25 hx (t := .boolean) Bd.returns (by simp) (hb hby at_286) hr
          · show Q0 n0 _ _
            exact ⟨rfl, N25⟩
    · refine own_go (B := T14.setTop (mkF m 149 #[.val (.int p0), .val (.int p1), .val (.int p2), .val (.int p3), .val (.long q4), .second, .val (.int p5), .val (.int bL), .val (.int bR), .val (.int bLL), .val (.int bRR), .val (.int xl), .val (.int xh), .val (.int xm), .val (.ref root), .val (.long ((own4_f0 p0 p1 p2 p3) + (own4_f0 xl xh p0 p1))), .second, .val (.ref lf), .unset] [(.int (xl ^^^ (-1 : Int32))), (.int xm), (.int p3), (.int p2)])) (fun t kt => ?_) ?_
      · show Steps p.tables e below (T14.setTop (mkF m 138 #[.val (.int p0), .val (.int p1), .val (.int p2), .val (.int p3), .val (.long q4), .second, .val (.int p5), .val (.int bL), .val (.int bR), .val (.int bLL), .val (.int bRR), .val (.int xl), .val (.int xh), .val (.int xm), .val (.ref root), .val (.long ((own4_f0 p0 p1 p2 p3) + (own4_f0 xl xh p0 p1))), .second, .val (.ref lf), .unset] [(.int bLL)])) _
        refine XS.ifNo X14.here hx rfl (hb hby at_138) rfl ((if0 _ _).trans (feq hcLL).1) ?_
        show Steps p.tables e below (T14.setTop (mkF m 141 #[.val (.int p0), .val (.int p1), .val (.int p2), .val (.int p3), .val (.long q4), .second, .val (.int p5), .val (.int bL), .val (.int bR), .val (.int bLL), .val (.int bRR), .val (.int xl), .val (.int xh), .val (.int xm), .val (.ref root), .val (.long ((own4_f0 p0 p1 p2 p3) + (own4_f0 xl xh p0 p1))), .second, .val (.ref lf), .unset] [])) _
        refine XS.iloadN X14.here hx rfl (hb hby at_141) rfl ?_
        show Steps p.tables e below (T14.setTop (mkF m 142 #[.val (.int p0), .val (.int p1), .val (.int p2), .val (.int p3), .val (.long q4), .second, .val (.int p5), .val (.int bL), .val (.int bR), .val (.int bLL), .val (.int bRR), .val (.int xl), .val (.int xh), .val (.int xm), .val (.ref root), .val (.long ((own4_f0 p0 p1 p2 p3) + (own4_f0 xl xh p0 p1))), .second, .val (.ref lf), .unset] [(.int p2)])) _
        refine XS.iloadN X14.here hx rfl (hb hby at_142) rfl ?_
        show Steps p.tables e below (T14.setTop (mkF m 143 #[.val (.int p0), .val (.int p1), .val (.int p2), .val (.int p3), .val (.long q4), .second, .val (.int p5), .val (.int bL), .val (.int bR), .val (.int bLL), .val (.int bRR), .val (.int xl), .val (.int xh), .val (.int xm), .val (.ref root), .val (.long ((own4_f0 p0 p1 p2 p3) + (own4_f0 xl xh p0 p1))), .second, .val (.ref lf), .unset] [(.int p3), (.int p2)])) _
        refine XS.iload X14.here hx rfl (hb hby at_143) rfl ?_
        show Steps p.tables e below (T14.setTop (mkF m 145 #[.val (.int p0), .val (.int p1), .val (.int p2), .val (.int p3), .val (.long q4), .second, .val (.int p5), .val (.int bL), .val (.int bR), .val (.int bLL), .val (.int bRR), .val (.int xl), .val (.int xh), .val (.int xm), .val (.ref root), .val (.long ((own4_f0 p0 p1 p2 p3) + (own4_f0 xl xh p0 p1))), .second, .val (.ref lf), .unset] [(.int xm), (.int p3), (.int p2)])) _
        refine XS.iload X14.here hx rfl (hb hby at_145) rfl ?_
        show Steps p.tables e below (T14.setTop (mkF m 147 #[.val (.int p0), .val (.int p1), .val (.int p2), .val (.int p3), .val (.long q4), .second, .val (.int p5), .val (.int bL), .val (.int bR), .val (.int bLL), .val (.int bRR), .val (.int xl), .val (.int xh), .val (.int xm), .val (.ref root), .val (.long ((own4_f0 p0 p1 p2 p3) + (own4_f0 xl xh p0 p1))), .second, .val (.ref lf), .unset] [(.int xl), (.int xm), (.int p3), (.int p2)])) _
        refine XS.iconst X14.here hx rfl (hb hby at_147) ?_
        show Steps p.tables e below (T14.setTop (mkF m 148 #[.val (.int p0), .val (.int p1), .val (.int p2), .val (.int p3), .val (.long q4), .second, .val (.int p5), .val (.int bL), .val (.int bR), .val (.int bLL), .val (.int bRR), .val (.int xl), .val (.int xh), .val (.int xm), .val (.ref root), .val (.long ((own4_f0 p0 p1 p2 p3) + (own4_f0 xl xh p0 p1))), .second, .val (.ref lf), .unset] [(.int (-1 : Int32)), (.int xl), (.int xm), (.int p3), (.int p2)])) _
        refine XS.ixor X14.here hx rfl (hb hby at_148) rfl ?_
        exact kt
      obtain ⟨_, _, ⟨T26, L26, k26, n26⟩, -, X26, ⟨Lc26, hQ26, l26, y26, z26⟩, st26⟩ := Jvm.LawKit.callS X14 hx (y := (⟨"com/example/fleetwire/fleetwire/bench/TreeFieldSumPinLaw", "node", "(IIII)Lcom/example/fleetwire/fleetwire/bench/Bench$Tree;"⟩ : MethodName)) hown (mvT hZ (hw _ (List.mem_of_getElem? (i := 0) rfl))) (mvT hZ (hw _ (List.mem_of_getElem? (i := 1) rfl))) (mvT hZ (hw _ (List.mem_of_getElem? (i := 2) rfl))) (mvT hZ (hw _ (List.mem_of_getElem? (i := 3) rfl))) (by decide) (backOf (W := 0) (rm1 l Z t0 hw [] p2 p3 xm (xl ^^^ (-1 : Int32)) h13 n0 Z13) hZ (hw _ (List.mem_of_getElem? (i := 3) rfl)) (hw _ (List.mem_of_getElem? (i := 2) rfl)) (by decide) (by decide)) (g := (mkF m 149 #[.val (.int p0), .val (.int p1), .val (.int p2), .val (.int p3), .val (.long q4), .second, .val (.int p5), .val (.int bL), .val (.int bR), .val (.int bLL), .val (.int bRR), .val (.int xl), .val (.int xh), .val (.int xm), .val (.ref root), .val (.long ((own4_f0 p0 p1 p2 p3) + (own4_f0 xl xh p0 p1))), .second, .val (.ref lf), .unset] [(.int (xl ^^^ (-1 : Int32))), (.int xm), (.int p3), (.int p2)])) rfl (by rw [hml]; rfl) (argsL := [(.int p2), (.int p3), (.int xm), (.int (xl ^^^ (-1 : Int32)))]) (rest := []) (lenOf pd_0_0 rfl) rfl (by show 2 * 0 + _ ≤ _; exact Nat.le_of_eq rfl) (hb hby at_149) (fun _ _ => ⟨rfl, e14, (by decide : 2 + 1 ≤ _), (by decide : 12 + 6 ≤ _)⟩)
      dsimp only [Pt.U, Pt.locs, Pt.cells, Pt.slots] at X26 l26 y26 z26 st26 hQ26
      subst l26 y26 z26
      obtain ⟨ll, rfl, Nq26, Kc26, zb26, gb26, ex26, fa26, fb26, fc26, fd26, fleft26, fright26⟩ := hQ26
      have N26 := Fr.app N14 Nq26
      obtain ⟨h26, e26⟩ : ∃ z, T26.heap = z := ⟨_, rfl⟩
      rw [e26] at Kc26 fa26 fb26 fc26 fd26 fleft26 fright26 ex26
      have E_root_26 := E_root_13.keep Kc26
      have F_a_root_26 := F_a_root_13.keep Kc26 nin0
      have F_b_root_26 := F_b_root_13.keep Kc26 nin0
      have F_c_root_26 := F_c_root_13.keep Kc26 nin0
      have F_d_root_26 := F_d_root_13.keep Kc26 nin0
      have F_left_root_26 := F_left_root_13.keep Kc26 nin0
      have F_right_root_26 := F_right_root_13.keep Kc26 nin0
      have E_lf_26 := ex13.keep Kc26
      have F_a_lf_26 := fa13.keep Kc26 nin0
      have F_b_lf_26 := fb13.keep Kc26 nin0
      have F_c_lf_26 := fc13.keep Kc26 nin0
      have F_d_lf_26 := fd13.keep Kc26 nin0
      have F_left_lf_26 := fleft13.keep Kc26 nin0
      have F_right_lf_26 := fright13.keep Kc26 nin0
      have Z26 : n0 ≤ h26.size := Nat.le_trans Z13 Kc26.1
      have ne_root_ll : root ≠ ll := Nat.ne_of_lt (Nat.lt_of_lt_of_le E_root_13.lt zb26)
      have ne_lf_ll : lf ≠ ll := Nat.ne_of_lt (Nat.lt_of_lt_of_le ex13.lt zb26)
      refine own_go (B := T26.setTop (mkF m 152 #[.val (.int p0), .val (.int p1), .val (.int p2), .val (.int p3), .val (.long q4), .second, .val (.int p5), .val (.int bL), .val (.int bR), .val (.int bLL), .val (.int bRR), .val (.int xl), .val (.int xh), .val (.int xm), .val (.ref root), .val (.long ((own4_f0 p0 p1 p2 p3) + (own4_f0 xl xh p0 p1))), .second, .val (.ref lf), .unset] [(.ref ll)])) (fun t kt => st26 t kt) ?_
      refine own_go (B := T26.setTop (mkF m 164 #[.val (.int p0), .val (.int p1), .val (.int p2), .val (.int p3), .val (.long q4), .second, .val (.int p5), .val (.int bL), .val (.int bR), .val (.int bLL), .val (.int bRR), .val (.int xl), .val (.int xh), .val (.int xm), .val (.ref root), .val (.long ((own4_f0 p0 p1 p2 p3) + (own4_f0 xl xh p0 p1))), .second, .val (.ref lf), .val (.ref ll)] [(.int (xl ^^^ (-1 : Int32))), (.int xm), (.int p3), (.int p2), (.long ((own4_f0 p0 p1 p2 p3) + (own4_f0 xl xh p0 p1)))])) (fun t kt => ?_) ?_
      · show Steps p.tables e below (T26.setTop (mkF m 152 #[.val (.int p0), .val (.int p1), .val (.int p2), .val (.int p3), .val (.long q4), .second, .val (.int p5), .val (.int bL), .val (.int bR), .val (.int bLL), .val (.int bRR), .val (.int xl), .val (.int xh), .val (.int xm), .val (.ref root), .val (.long ((own4_f0 p0 p1 p2 p3) + (own4_f0 xl xh p0 p1))), .second, .val (.ref lf), .unset] [(.ref ll)])) _
        refine XS.astore X26.here hx rfl (hb hby at_152) rfl rfl (l' := #[.val (.int p0), .val (.int p1), .val (.int p2), .val (.int p3), .val (.long q4), .second, .val (.int p5), .val (.int bL), .val (.int bR), .val (.int bLL), .val (.int bRR), .val (.int xl), .val (.int xh), .val (.int xm), .val (.ref root), .val (.long ((own4_f0 p0 p1 p2 p3) + (own4_f0 xl xh p0 p1))), .second, .val (.ref lf), .val (.ref ll)]) rfl ?_
        show Steps p.tables e below (T26.setTop (mkF m 154 #[.val (.int p0), .val (.int p1), .val (.int p2), .val (.int p3), .val (.long q4), .second, .val (.int p5), .val (.int bL), .val (.int bR), .val (.int bLL), .val (.int bRR), .val (.int xl), .val (.int xh), .val (.int xm), .val (.ref root), .val (.long ((own4_f0 p0 p1 p2 p3) + (own4_f0 xl xh p0 p1))), .second, .val (.ref lf), .val (.ref ll)] [])) _
        refine XS.lload X26.here hx rfl (hb hby at_154) rfl ?_
        show Steps p.tables e below (T26.setTop (mkF m 156 #[.val (.int p0), .val (.int p1), .val (.int p2), .val (.int p3), .val (.long q4), .second, .val (.int p5), .val (.int bL), .val (.int bR), .val (.int bLL), .val (.int bRR), .val (.int xl), .val (.int xh), .val (.int xm), .val (.ref root), .val (.long ((own4_f0 p0 p1 p2 p3) + (own4_f0 xl xh p0 p1))), .second, .val (.ref lf), .val (.ref ll)] [(.long ((own4_f0 p0 p1 p2 p3) + (own4_f0 xl xh p0 p1)))])) _
        refine XS.iloadN X26.here hx rfl (hb hby at_156) rfl ?_
        show Steps p.tables e below (T26.setTop (mkF m 157 #[.val (.int p0), .val (.int p1), .val (.int p2), .val (.int p3), .val (.long q4), .second, .val (.int p5), .val (.int bL), .val (.int bR), .val (.int bLL), .val (.int bRR), .val (.int xl), .val (.int xh), .val (.int xm), .val (.ref root), .val (.long ((own4_f0 p0 p1 p2 p3) + (own4_f0 xl xh p0 p1))), .second, .val (.ref lf), .val (.ref ll)] [(.int p2), (.long ((own4_f0 p0 p1 p2 p3) + (own4_f0 xl xh p0 p1)))])) _
        refine XS.iloadN X26.here hx rfl (hb hby at_157) rfl ?_
        show Steps p.tables e below (T26.setTop (mkF m 158 #[.val (.int p0), .val (.int p1), .val (.int p2), .val (.int p3), .val (.long q4), .second, .val (.int p5), .val (.int bL), .val (.int bR), .val (.int bLL), .val (.int bRR), .val (.int xl), .val (.int xh), .val (.int xm), .val (.ref root), .val (.long ((own4_f0 p0 p1 p2 p3) + (own4_f0 xl xh p0 p1))), .second, .val (.ref lf), .val (.ref ll)] [(.int p3), (.int p2), (.long ((own4_f0 p0 p1 p2 p3) + (own4_f0 xl xh p0 p1)))])) _
        refine XS.iload X26.here hx rfl (hb hby at_158) rfl ?_
        show Steps p.tables e below (T26.setTop (mkF m 160 #[.val (.int p0), .val (.int p1), .val (.int p2), .val (.int p3), .val (.long q4), .second, .val (.int p5), .val (.int bL), .val (.int bR), .val (.int bLL), .val (.int bRR), .val (.int xl), .val (.int xh), .val (.int xm), .val (.ref root), .val (.long ((own4_f0 p0 p1 p2 p3) + (own4_f0 xl xh p0 p1))), .second, .val (.ref lf), .val (.ref ll)] [(.int xm), (.int p3), (.int p2), (.long ((own4_f0 p0 p1 p2 p3) + (own4_f0 xl xh p0 p1)))])) _
        refine XS.iload X26.here hx rfl (hb hby at_160) rfl ?_
        show Steps p.tables e below (T26.setTop (mkF m 162 #[.val (.int p0), .val (.int p1), .val (.int p2), .val (.int p3), .val (.long q4), .second, .val (.int p5), .val (.int bL), .val (.int bR), .val (.int bLL), .val (.int bRR), .val (.int xl), .val (.int xh), .val (.int xm), .val (.ref root), .val (.long ((own4_f0 p0 p1 p2 p3) + (own4_f0 xl xh p0 p1))), .second, .val (.ref lf), .val (.ref ll)] [(.int xl), (.int xm), (.int p3), (.int p2), (.long ((own4_f0 p0 p1 p2 p3) + (own4_f0 xl xh p0 p1)))])) _
        refine XS.iconst X26.here hx rfl (hb hby at_162) ?_
        show Steps p.tables e below (T26.setTop (mkF m 163 #[.val (.int p0), .val (.int p1), .val (.int p2), .val (.int p3), .val (.long q4), .second, .val (.int p5), .val (.int bL), .val (.int bR), .val (.int bLL), .val (.int bRR), .val (.int xl), .val (.int xh), .val (.int xm), .val (.ref root), .val (.long ((own4_f0 p0 p1 p2 p3) + (own4_f0 xl xh p0 p1))), .second, .val (.ref lf), .val (.ref ll)] [(.int (-1 : Int32)), (.int xl), (.int xm), (.int p3), (.int p2), (.long ((own4_f0 p0 p1 p2 p3) + (own4_f0 xl xh p0 p1)))])) _
        refine XS.ixor X26.here hx rfl (hb hby at_163) rfl ?_
        exact kt
      obtain ⟨_, _, ⟨T27, L27, k27, n27⟩, -, X27, ⟨Lc27, hQ27, l27, y27, z27⟩, st27⟩ := Jvm.LawKit.callS X26 hx (y := (⟨"com/example/fleetwire/fleetwire/bench/TreeFieldSumPinLaw", "s", "(IIII)J"⟩ : MethodName)) hown (mvT hZ (hw _ (List.mem_of_getElem? (i := 21) rfl))) (mvT hZ (hw _ (List.mem_of_getElem? (i := 22) rfl))) (mvT hZ (hw _ (List.mem_of_getElem? (i := 2) rfl))) (mvT hZ (hw _ (List.mem_of_getElem? (i := 23) rfl))) (by decide) (backOf (W := 2) (rm4 l Z t0 hw [] p2 p3 xm (xl ^^^ (-1 : Int32)) h26 n0 Z26) hZ (hw _ (List.mem_of_getElem? (i := 23) rfl)) (hw _ (List.mem_of_getElem? (i := 2) rfl)) (by decide) (by decide)) (g := (mkF m 164 #[.val (.int p0), .val (.int p1), .val (.int p2), .val (.int p3), .val (.long q4), .second, .val (.int p5), .val (.int bL), .val (.int bR), .val (.int bLL), .val (.int bRR), .val (.int xl), .val (.int xh), .val (.int xm), .val (.ref root), .val (.long ((own4_f0 p0 p1 p2 p3) + (own4_f0 xl xh p0 p1))), .second, .val (.ref lf), .val (.ref ll)] [(.int (xl ^^^ (-1 : Int32))), (.int xm), (.int p3), (.int p2), (.long ((own4_f0 p0 p1 p2 p3) + (own4_f0 xl xh p0 p1)))])) rfl (by rw [hml]; rfl) (argsL := [(.int p2), (.int p3), (.int xm), (.int (xl ^^^ (-1 : Int32)))]) (rest := [(.long ((own4_f0 p0 p1 p2 p3) + (own4_f0 xl xh p0 p1)))]) (lenOf pd_0_1 rfl) rfl (by show 2 * 0 + _ ≤ _; exact Nat.le_of_eq rfl) (hb hby at_164) (fun _ _ => ⟨rfl, e26, (by decide : 3 + 0 ≤ _), (by decide : 18 + 0 ≤ _)⟩)
      dsimp only [Pt.U, Pt.locs, Pt.cells, Pt.slots] at X27 l27 y27 z27 st27 hQ27
      subst l27 y27 z27
      obtain ⟨rfl, Nq27, hh27⟩ := hQ27
      have N27 := Fr.app N26 Nq27
      have e27 : T27.heap = h26 := hh27
      refine own_go (B := T27.setTop (mkF m 167 #[.val (.int p0), .val (.int p1), .val (.int p2), .val (.int p3), .val (.long q4), .second, .val (.int p5), .val (.int bL), .val (.int bR), .val (.int bLL), .val (.int bRR), .val (.int xl), .val (.int xh), .val (.int xm), .val (.ref root), .val (.long ((own4_f0 p0 p1 p2 p3) + (own4_f0 xl xh p0 p1))), .second, .val (.ref lf), .val (.ref ll)] [(.long (own4_f0 p2 p3 xm (xl ^^^ (-1 : Int32)))), (.long ((own4_f0 p0 p1 p2 p3) + (own4_f0 xl xh p0 p1)))])) (fun t kt => st27 t kt) ?_
      refine own_go (B := T27.setTop (mkF m 174 #[.val (.int p0), .val (.int p1), .val (.int p2), .val (.int p3), .val (.long q4), .second, .val (.int p5), .val (.int bL), .val (.int bR), .val (.int bLL), .val (.int bRR), .val (.int xl), .val (.int xh), .val (.int xm), .val (.ref root), .val (.long (((own4_f0 p0 p1 p2 p3) + (own4_f0 xl xh p0 p1)) + (own4_f0 p2 p3 xm (xl ^^^ (-1 : Int32))))), .second, .val (.ref lf), .val (.ref ll)] [(.ref ll), (.ref lf)])) (fun t kt => ?_) ?_
      · show Steps p.tables e below (T27.setTop (mkF m 167 #[.val (.int p0), .val (.int p1), .val (.int p2), .val (.int p3), .val (.long q4), .second, .val (.int p5), .val (.int bL), .val (.int bR), .val (.int bLL), .val (.int bRR), .val (.int xl), .val (.int xh), .val (.int xm), .val (.ref root), .val (.long ((own4_f0 p0 p1 p2 p3) + (own4_f0 xl xh p0 p1))), .second, .val (.ref lf), .val (.ref ll)] [(.long (own4_f0 p2 p3 xm (xl ^^^ (-1 : Int32)))), (.long ((own4_f0 p0 p1 p2 p3) + (own4_f0 xl xh p0 p1)))])) _
        refine XS.ladd X27.here hx rfl (hb hby at_167) rfl ?_
        show Steps p.tables e below (T27.setTop (mkF m 168 #[.val (.int p0), .val (.int p1), .val (.int p2), .val (.int p3), .val (.long q4), .second, .val (.int p5), .val (.int bL), .val (.int bR), .val (.int bLL), .val (.int bRR), .val (.int xl), .val (.int xh), .val (.int xm), .val (.ref root), .val (.long ((own4_f0 p0 p1 p2 p3) + (own4_f0 xl xh p0 p1))), .second, .val (.ref lf), .val (.ref ll)] [(.long (((own4_f0 p0 p1 p2 p3) + (own4_f0 xl xh p0 p1)) + (own4_f0 p2 p3 xm (xl ^^^ (-1 : Int32)))))])) _
        refine XS.lstore X27.here hx rfl (hb hby at_168) rfl (l' := #[.val (.int p0), .val (.int p1), .val (.int p2), .val (.int p3), .val (.long q4), .second, .val (.int p5), .val (.int bL), .val (.int bR), .val (.int bLL), .val (.int bRR), .val (.int xl), .val (.int xh), .val (.int xm), .val (.ref root), .val (.long (((own4_f0 p0 p1 p2 p3) + (own4_f0 xl xh p0 p1)) + (own4_f0 p2 p3 xm (xl ^^^ (-1 : Int32))))), .second, .val (.ref lf), .val (.ref ll)]) rfl ?_
        show Steps p.tables e below (T27.setTop (mkF m 170 #[.val (.int p0), .val (.int p1), .val (.int p2), .val (.int p3), .val (.long q4), .second, .val (.int p5), .val (.int bL), .val (.int bR), .val (.int bLL), .val (.int bRR), .val (.int xl), .val (.int xh), .val (.int xm), .val (.ref root), .val (.long (((own4_f0 p0 p1 p2 p3) + (own4_f0 xl xh p0 p1)) + (own4_f0 p2 p3 xm (xl ^^^ (-1 : Int32))))), .second, .val (.ref lf), .val (.ref ll)] [])) _
        refine XS.aload X27.here hx rfl (hb hby at_170) rfl rfl ?_
        show Steps p.tables e below (T27.setTop (mkF m 172 #[.val (.int p0), .val (.int p1), .val (.int p2), .val (.int p3), .val (.long q4), .second, .val (.int p5), .val (.int bL), .val (.int bR), .val (.int bLL), .val (.int bRR), .val (.int xl), .val (.int xh), .val (.int xm), .val (.ref root), .val (.long (((own4_f0 p0 p1 p2 p3) + (own4_f0 xl xh p0 p1)) + (own4_f0 p2 p3 xm (xl ^^^ (-1 : Int32))))), .second, .val (.ref lf), .val (.ref ll)] [(.ref lf)])) _
        refine XS.aload X27.here hx rfl (hb hby at_172) rfl rfl ?_
        exact kt
      obtain ⟨T28, h28, X28, e28, W28, st28⟩ := putF X27 hx hZ hown (host := "") (Or.inl (hw _ (List.mem_of_getElem? (i := 39) rfl))) Via.refl e27 F_left_lf_26 E_lf_26 (Or.inl (hw _ (List.mem_of_getElem? (i := 36) rfl))) (hw _ (List.mem_of_getElem? (i := 5) rfl)) (ty := (.object "com/example/fleetwire/fleetwire/bench/Bench$Tree")) (by decide) rfl rfl (g := (mkF m 174 #[.val (.int p0), .val (.int p1), .val (.int p2), .val (.int p3), .val (.long q4), .second, .val (.int p5), .val (.int bL), .val (.int bR), .val (.int bLL), .val (.int bRR), .val (.int xl), .val (.int xh), .val (.int xm), .val (.ref root), .val (.long (((own4_f0 p0 p1 p2 p3) + (own4_f0 xl xh p0 p1)) + (own4_f0 p2 p3 xm (xl ^^^ (-1 : Int32))))), .second, .val (.ref lf), .val (.ref ll)] [(.ref ll), (.ref lf)])) rfl rfl (hb hby at_174)
      have F_left_lf_28 : Fld Z h28 lf "com/example/fleetwire/fleetwire/bench/Bench$Tree" "left" "Lcom/example/fleetwire/fleetwire/bench/Bench$Tree;" (.ref ll) := F_left_lf_26.same W28
      have E_root_28 := E_root_26.wr W28
      have F_a_root_28 := F_a_root_26.other W28 (Or.inl ne_root_lf)
      have F_b_root_28 := F_b_root_26.other W28 (Or.inl ne_root_lf)
      have F_c_root_28 := F_c_root_26.other W28 (Or.inl ne_root_lf)
      have F_d_root_28 := F_d_root_26.other W28 (Or.inl ne_root_lf)
      have F_left_root_28 := F_left_root_26.other W28 (Or.inl ne_root_lf)
      have F_right_root_28 := F_right_root_26.other W28 (Or.inl ne_root_lf)
      have E_lf_28 := E_lf_26.wr W28
      have F_a_lf_28 := F_a_lf_26.other W28 (Or.inr (slot_ne (Or.inl (hw _ (List.mem_of_getElem? (i := 14) rfl))) (Or.inl (hw _ (List.mem_of_getElem? (i := 36) rfl))) (by decide) (t := .int) (t' := (.object "com/example/fleetwire/fleetwire/bench/Bench$Tree")) (by decide) (by decide)))
      have F_b_lf_28 := F_b_lf_26.other W28 (Or.inr (slot_ne (Or.inl (hw _ (List.mem_of_getElem? (i := 16) rfl))) (Or.inl (hw _ (List.mem_of_getElem? (i := 36) rfl))) (by decide) (t := .int) (t' := (.object "com/example/fleetwire/fleetwire/bench/Bench$Tree")) (by decide) (by decide)))
      have F_c_lf_28 := F_c_lf_26.other W28 (Or.inr (slot_ne (Or.inl (hw _ (List.mem_of_getElem? (i := 18) rfl))) (Or.inl (hw _ (List.mem_of_getElem? (i := 36) rfl))) (by decide) (t := .int) (t' := (.object "com/example/fleetwire/fleetwire/bench/Bench$Tree")) (by decide) (by decide)))
      have F_d_lf_28 := F_d_lf_26.other W28 (Or.inr (slot_ne (Or.inl (hw _ (List.mem_of_getElem? (i := 20) rfl))) (Or.inl (hw _ (List.mem_of_getElem? (i := 36) rfl))) (by decide) (t := .int) (t' := (.object "com/example/fleetwire/fleetwire/bench/Bench$Tree")) (by decide) (by decide)))
      have F_right_lf_28 := F_right_lf_26.other W28 (Or.inr (slot_ne (Or.inl (hw _ (List.mem_of_getElem? (i := 25) rfl))) (Or.inl (hw _ (List.mem_of_getElem? (i := 36) rfl))) (by decide) (t := (.object "com/example/fleetwire/fleetwire/bench/Bench$Tree")) (t' := (.object "com/example/fleetwire/fleetwire/bench/Bench$Tree")) (by decide) (by decide)))
      have E_ll_28 := ex26.wr W28
      have F_a_ll_28 := fa26.other W28 (Or.inl (Ne.symm ne_lf_ll))
      have F_b_ll_28 := fb26.other W28 (Or.inl (Ne.symm ne_lf_ll))
      have F_c_ll_28 := fc26.other W28 (Or.inl (Ne.symm ne_lf_ll))
      have F_d_ll_28 := fd26.other W28 (Or.inl (Ne.symm ne_lf_ll))
      have F_left_ll_28 := fleft26.other W28 (Or.inl (Ne.symm ne_lf_ll))
      have F_right_ll_28 := fright26.other W28 (Or.inl (Ne.symm ne_lf_ll))
      have Z28 : n0 ≤ h28.size := Nat.le_trans Z26 (Keep.of_wr W28).1
      have N28 := Fr.snoc X28 N27 gb13
      refine own_go (B := T28.setTop (mkF m 177 #[.val (.int p0), .val (.int p1), .val (.int p2), .val (.int p3), .val (.long q4), .second, .val (.int p5), .val (.int bL), .val (.int bR), .val (.int bLL), .val (.int bRR), .val (.int xl), .val (.int xh), .val (.int xm), .val (.ref root), .val (.long (((own4_f0 p0 p1 p2 p3) + (own4_f0 xl xh p0 p1)) + (own4_f0 p2 p3 xm (xl ^^^ (-1 : Int32))))), .second, .val (.ref lf), .val (.ref ll)] [])) (fun t kt => st28 t kt) ?_
      refine own_go (B := T28.setTop (mkF m 181 #[.val (.int p0), .val (.int p1), .val (.int p2), .val (.int p3), .val (.long q4), .second, .val (.int p5), .val (.int bL), .val (.int bR), .val (.int bLL), .val (.int bRR), .val (.int xl), .val (.int xh), .val (.int xm), .val (.ref root), .val (.long (((own4_f0 p0 p1 p2 p3) + (own4_f0 xl xh p0 p1)) + (own4_f0 p2 p3 xm (xl ^^^ (-1 : Int32))))), .second, .val (.ref lf), .val (.ref ll)] [(.ref lf), (.ref root)])) (fun t kt => ?_) ?_
      · show Steps p.tables e below (T28.setTop (mkF m 177 #[.val (.int p0), .val (.int p1), .val (.int p2), .val (.int p3), .val (.long q4), .second, .val (.int p5), .val (.int bL), .val (.int bR), .val (.int bLL), .val (.int bRR), .val (.int xl), .val (.int xh), .val (.int xm), .val (.ref root), .val (.long (((own4_f0 p0 p1 p2 p3) + (own4_f0 xl xh p0 p1)) + (own4_f0 p2 p3 xm (xl ^^^ (-1 : Int32))))), .second, .val (.ref lf), .val (.ref ll)] [])) _
        refine XS.aload X28.here hx rfl (hb hby at_177) rfl rfl ?_
        show Steps p.tables e below (T28.setTop (mkF m 179 #[.val (.int p0), .val (.int p1), .val (.int p2), .val (.int p3), .val (.long q4), .second, .val (.int p5), .val (.int bL), .val (.int bR), .val (.int bLL), .val (.int bRR), .val (.int xl), .val (.int xh), .val (.int xm), .val (.ref root), .val (.long (((own4_f0 p0 p1 p2 p3) + (own4_f0 xl xh p0 p1)) + (own4_f0 p2 p3 xm (xl ^^^ (-1 : Int32))))), .second, .val (.ref lf), .val (.ref ll)] [(.ref root)])) _
        refine XS.aload X28.here hx rfl (hb hby at_179) rfl rfl ?_
        exact kt
      obtain ⟨T29, h29, X29, e29, W29, st29⟩ := putF X28 hx hZ hown (host := "") (Or.inl (hw _ (List.mem_of_getElem? (i := 39) rfl))) Via.refl e28 F_left_root_28 E_root_28 (Or.inl (hw _ (List.mem_of_getElem? (i := 36) rfl))) (hw _ (List.mem_of_getElem? (i := 5) rfl)) (ty := (.object "com/example/fleetwire/fleetwire/bench/Bench$Tree")) (by decide) rfl rfl (g := (mkF m 181 #[.val (.int p0), .val (.int p1), .val (.int p2), .val (.int p3), .val (.long q4), .second, .val (.int p5), .val (.int bL), .val (.int bR), .val (.int bLL), .val (.int bRR), .val (.int xl), .val (.int xh), .val (.int xm), .val (.ref root), .val (.long (((own4_f0 p0 p1 p2 p3) + (own4_f0 xl xh p0 p1)) + (own4_f0 p2 p3 xm (xl ^^^ (-1 : Int32))))), .second, .val (.ref lf), .val (.ref ll)] [(.ref lf), (.ref root)])) rfl rfl (hb hby at_181)
      have F_left_root_29 : Fld Z h29 root "com/example/fleetwire/fleetwire/bench/Bench$Tree" "left" "Lcom/example/fleetwire/fleetwire/bench/Bench$Tree;" (.ref lf) := F_left_root_28.same W29
      have E_root_29 := E_root_28.wr W29
      have F_a_root_29 := F_a_root_28.other W29 (Or.inr (slot_ne (Or.inl (hw _ (List.mem_of_getElem? (i := 14) rfl))) (Or.inl (hw _ (List.mem_of_getElem? (i := 36) rfl))) (by decide) (t := .int) (t' := (.object "com/example/fleetwire/fleetwire/bench/Bench$Tree")) (by decide) (by decide)))
      have F_b_root_29 := F_b_root_28.other W29 (Or.inr (slot_ne (Or.inl (hw _ (List.mem_of_getElem? (i := 16) rfl))) (Or.inl (hw _ (List.mem_of_getElem? (i := 36) rfl))) (by decide) (t := .int) (t' := (.object "com/example/fleetwire/fleetwire/bench/Bench$Tree")) (by decide) (by decide)))
      have F_c_root_29 := F_c_root_28.other W29 (Or.inr (slot_ne (Or.inl (hw _ (List.mem_of_getElem? (i := 18) rfl))) (Or.inl (hw _ (List.mem_of_getElem? (i := 36) rfl))) (by decide) (t := .int) (t' := (.object "com/example/fleetwire/fleetwire/bench/Bench$Tree")) (by decide) (by decide)))
      have F_d_root_29 := F_d_root_28.other W29 (Or.inr (slot_ne (Or.inl (hw _ (List.mem_of_getElem? (i := 20) rfl))) (Or.inl (hw _ (List.mem_of_getElem? (i := 36) rfl))) (by decide) (t := .int) (t' := (.object "com/example/fleetwire/fleetwire/bench/Bench$Tree")) (by decide) (by decide)))
      have F_right_root_29 := F_right_root_28.other W29 (Or.inr (slot_ne (Or.inl (hw _ (List.mem_of_getElem? (i := 25) rfl))) (Or.inl (hw _ (List.mem_of_getElem? (i := 36) rfl))) (by decide) (t := (.object "com/example/fleetwire/fleetwire/bench/Bench$Tree")) (t' := (.object "com/example/fleetwire/fleetwire/bench/Bench$Tree")) (by decide) (by decide)))
      have E_lf_29 := E_lf_28.wr W29
      have F_a_lf_29 := F_a_lf_28.other W29 (Or.inl (Ne.symm ne_root_lf))
      have F_b_lf_29 := F_b_lf_28.other W29 (Or.inl (Ne.symm ne_root_lf))
      have F_c_lf_29 := F_c_lf_28.other W29 (Or.inl (Ne.symm ne_root_lf))
      have F_d_lf_29 := F_d_lf_28.other W29 (Or.inl (Ne.symm ne_root_lf))
      have F_left_lf_29 := F_left_lf_28.other W29 (Or.inl (Ne.symm ne_root_lf))
      have F_right_lf_29 := F_right_lf_28.other W29 (Or.inl (Ne.symm ne_root_lf))
      have E_ll_29 := E_ll_28.wr W29
      have F_a_ll_29 := F_a_ll_28.other W29 (Or.inl (Ne.symm ne_root_ll))
      have F_b_ll_29 := F_b_ll_28.other W29 (Or.inl (Ne.symm ne_root_ll))
      have F_c_ll_29 := F_c_ll_28.other W29 (Or.inl (Ne.symm ne_root_ll))
      have F_d_ll_29 := F_d_ll_28.other W29 (Or.inl (Ne.symm ne_root_ll))
      have F_left_ll_29 := F_left_ll_28.other W29 (Or.inl (Ne.symm ne_root_ll))
      have F_right_ll_29 := F_right_ll_28.other W29 (Or.inl (Ne.symm ne_root_ll))
      have Z29 : n0 ≤ h29.size := Nat.le_trans Z28 (Keep.of_wr W29).1
      have N29 := Fr.snoc X29 N28 gb1
      refine own_go (B := T29.setTop (mkF m 184 #[.val (.int p0), .val (.int p1), .val (.int p2), .val (.int p3), .val (.long q4), .second, .val (.int p5), .val (.int bL), .val (.int bR), .val (.int bLL), .val (.int bRR), .val (.int xl), .val (.int xh), .val (.int xm), .val (.ref root), .val (.long (((own4_f0 p0 p1 p2 p3) + (own4_f0 xl xh p0 p1)) + (own4_f0 p2 p3 xm (xl ^^^ (-1 : Int32))))), .second, .val (.ref lf), .val (.ref ll)] [])) (fun t kt => st29 t kt) ?_
      by_cases hcR : bR = (0 : Int32)
      · refine own_go (B := T29.setTop (mkF m 272 #[.val (.int p0), .val (.int p1), .val (.int p2), .val (.int p3), .val (.long q4), .second, .val (.int p5), .val (.int bL), .val (.int bR), .val (.int bLL), .val (.int bRR), .val (.int xl), .val (.int xh), .val (.int xm), .val (.ref root), .val (.long (((own4_f0 p0 p1 p2 p3) + (own4_f0 xl xh p0 p1)) + (own4_f0 p2 p3 xm (xl ^^^ (-1 : Int32))))), .second, .val (.ref lf), .val (.ref ll)] [(.ref root)])) (fun t kt => ?_) ?_
        · show Steps p.tables e below (T29.setTop (mkF m 184 #[.val (.int p0), .val (.int p1), .val (.int p2), .val (.int p3), .val (.long q4), .second, .val (.int p5), .val (.int bL), .val (.int bR), .val (.int bLL), .val (.int bRR), .val (.int xl), .val (.int xh), .val (.int xm), .val (.ref root), .val (.long (((own4_f0 p0 p1 p2 p3) + (own4_f0 xl xh p0 p1)) + (own4_f0 p2 p3 xm (xl ^^^ (-1 : Int32))))), .second, .val (.ref lf), .val (.ref ll)] [])) _
          refine XS.iload X29.here hx rfl (hb hby at_184) rfl ?_
          show Steps p.tables e below (T29.setTop (mkF m 186 #[.val (.int p0), .val (.int p1), .val (.int p2), .val (.int p3), .val (.long q4), .second, .val (.int p5), .val (.int bL), .val (.int bR), .val (.int bLL), .val (.int bRR), .val (.int xl), .val (.int xh), .val (.int xm), .val (.ref root), .val (.long (((own4_f0 p0 p1 p2 p3) + (own4_f0 xl xh p0 p1)) + (own4_f0 p2 p3 xm (xl ^^^ (-1 : Int32))))), .second, .val (.ref lf), .val (.ref ll)] [(.int bR)])) _
          refine XS.ifYes X29.here hx rfl (pc0 := 186) (pc' := 270) rfl (hb hby at_186) rfl ((if0 _ _).trans (teq hcR).1) (by decide) (by decide) ?_
          show Steps p.tables e below (T29.setTop (mkF m 270 #[.val (.int p0), .val (.int p1), .val (.int p2), .val (.int p3), .val (.long q4), .second, .val (.int p5), .val (.int bL), .val (.int bR), .val (.int bLL), .val (.int bRR), .val (.int xl), .val (.int xh), .val (.int xm), .val (.ref root), .val (.long (((own4_f0 p0 p1 p2 p3) + (own4_f0 xl xh p0 p1)) + (own4_f0 p2 p3 xm (xl ^^^ (-1 : Int32))))), .second, .val (.ref lf), .val (.ref ll)] [])) _
          refine XS.aload X29.here hx rfl (hb hby at_270) rfl rfl ?_
          exact kt
        have ht := (show own_t3 Z h29 root (((own4_f0 p0 p1 p2 p3) + (((own4_f0 xl xh p0 p1) + (((own4_f0 p2 p3 xm (xl ^^^ (-1 : Int32))) + (0 : Int64)) + (0 : Int64))) + (0 : Int64))) + (0 : Int64)) from ⟨_, _, _, _, _, _, _, _, E_root_29, F_a_root_29, F_b_root_29, F_c_root_29, F_d_root_29, F_left_root_29, F_right_root_29, (Or.inr ⟨lf, rfl, (show own_t2 Z h29 lf (((own4_f0 xl xh p0 p1) + (((own4_f0 p2 p3 xm (xl ^^^ (-1 : Int32))) + (0 : Int64)) + (0 : Int64))) + (0 : Int64)) from ⟨_, _, _, _, _, _, _, _, E_lf_29, F_a_lf_29, F_b_lf_29, F_c_lf_29, F_d_lf_29, F_left_lf_29, F_right_lf_29, (Or.inr ⟨ll, rfl, (show own_t1 Z h29 ll (((own4_f0 p2 p3 xm (xl ^^^ (-1 : Int32))) + (0 : Int64)) + (0 : Int64)) from ⟨_, _, _, _, _, _, _, _, E_ll_29, F_a_ll_29, F_b_ll_29, F_c_ll_29, F_d_ll_29, F_left_ll_29, F_right_ll_29, (Or.inl ⟨rfl, rfl⟩), (Or.inl ⟨rfl, rfl⟩), rfl⟩)⟩), (Or.inl ⟨rfl, rfl⟩), rfl⟩)⟩), (Or.inl ⟨rfl, rfl⟩), rfl⟩)
        obtain ⟨cq30, kq30, qa30, qb30, qc30⟩ := isOf hZ e29 E_root_29
        obtain ⟨_, _, ⟨T30, L30, k30, n30⟩, -, X30, ⟨Lc30, hQ30, l30, y30, z30⟩, st30⟩ := X29.virtualBack hx (y := (⟨"com/example/fleetwire/fleetwire/bench/Bench$Tree", "fieldSum", "()J"⟩ : MethodName)) (z := (⟨"com/example/fleetwire/fleetwire/bench/Bench$Tree", "fieldSum", "()J"⟩ : MethodName)) hown (mvT hZ (hw _ (List.mem_of_getElem? (i := 26) rfl))) (mvT hZ (hw _ (List.mem_of_getElem? (i := 27) rfl))) (notFace_of_selects (args := #[]) (mvT hZ (hw _ (List.mem_of_getElem? (i := 29) rfl)))) (mvT hZ (hw _ (List.mem_of_getElem? (i := 29) rfl))) (mvT hZ (hw _ (List.mem_of_getElem? (i := 28) rfl))) (by decide) (backOf (W := 0) (rm5_3 l Z t0 hw [] root (((own4_f0 p0 p1 p2 p3) + (((own4_f0 xl xh p0 p1) + (((own4_f0 p2 p3 xm (xl ^^^ (-1 : Int32))) + (0 : Int64)) + (0 : Int64))) + (0 : Int64))) + (0 : Int64)) h29 n0 Z29 ht) hZ (hw _ (List.mem_of_getElem? (i := 30) rfl)) (hw _ (List.mem_of_getElem? (i := 6) rfl)) (by decide) (by decide)) qa30 qc30 (g := (mkF m 272 #[.val (.int p0), .val (.int p1), .val (.int p2), .val (.int p3), .val (.long q4), .second, .val (.int p5), .val (.int bL), .val (.int bR), .val (.int bLL), .val (.int bRR), .val (.int xl), .val (.int xh), .val (.int xm), .val (.ref root), .val (.long (((own4_f0 p0 p1 p2 p3) + (own4_f0 xl xh p0 p1)) + (own4_f0 p2 p3 xm (xl ^^^ (-1 : Int32))))), .second, .val (.ref lf), .val (.ref ll)] [(.ref root)])) rfl (by rw [hml]; rfl) (Steps.refl _) (argsL := []) (rest := []) (lenOf pd_0_2 rfl) rfl (by show 2 * 0 + _ ≤ _; exact Nat.le_of_eq rfl) (hb hby at_272) (fun _ _ => ⟨rfl, e29, (by decide : 3 + 0 ≤ _), (by decide : 18 + 0 ≤ _)⟩)
        dsimp only [Pt.U, Pt.locs, Pt.cells, Pt.slots] at X30 l30 y30 z30 st30 hQ30
        subst l30 y30 z30
        obtain ⟨rfl, Nq30, hh30⟩ := hQ30
        have N30 := Fr.app N29 Nq30
        have e30 : T30.heap = h29 := hh30
        refine own_go (B := T30.setTop (mkF m 275 #[.val (.int p0), .val (.int p1), .val (.int p2), .val (.int p3), .val (.long q4), .second, .val (.int p5), .val (.int bL), .val (.int bR), .val (.int bLL), .val (.int bRR), .val (.int xl), .val (.int xh), .val (.int xm), .val (.ref root), .val (.long (((own4_f0 p0 p1 p2 p3) + (own4_f0 xl xh p0 p1)) + (own4_f0 p2 p3 xm (xl ^^^ (-1 : Int32))))), .second, .val (.ref lf), .val (.ref ll)] [(.long (((own4_f0 p0 p1 p2 p3) + (((own4_f0 xl xh p0 p1) + (((own4_f0 p2 p3 xm (xl ^^^ (-1 : Int32))) + (0 : Int64)) + (0 : Int64))) + (0 : Int64))) + (0 : Int64)))])) (fun t kt => st30.trans kt) ?_
        refine own_go (B := T30.setTop (mkF m 286 #[.val (.int p0), .val (.int p1), .val (.int p2), .val (.int p3), .val (.long q4), .second, .val (.int p5), .val (.int bL), .val (.int bR), .val (.int bLL), .val (.int bRR), .val (.int xl), .val (.int xh), .val (.int xm), .val (.ref root), .val (.long (((own4_f0 p0 p1 p2 p3) + (own4_f0 xl xh p0 p1)) + (own4_f0 p2 p3 xm (xl ^^^ (-1 : Int32))))), .second, .val (.ref lf), .val (.ref ll)] [(.int (1 : Int32))])) (fun t kt => ?_) ?_
        · show Steps p.tables e below (T30.setTop (mkF m 275 #[.val (.int p0), .val (.int p1), .val (.int p2), .val (.int p3), .val (.long q4), .second, .val (.int p5), .val (.int bL), .val (.int bR), .val (.int bLL), .val (.int bRR), .val (.int xl), .val (.int xh), .val (.int xm), .val (.ref root), .val (.long (((own4_f0 p0 p1 p2 p3) + (own4_f0 xl xh p0 p1)) + (own4_f0 p2 p3 xm (xl ^^^ (-1 : Int32))))), .second, .val (.ref lf), .val (.ref ll)] [(.long (((own4_f0 p0 p1 p2 p3) + (((own4_f0 xl xh p0 p1) + (((own4_f0 p2 p3 xm (xl ^^^ (-1 : Int32))) + (0 : Int64)) + (0 : Int64))) + (0 : Int64))) + (0 : Int64)))])) _
          refine XS.lload X30.here hx rfl (hb hby at_275) rfl ?_
          show Steps p.tables e below (T30.setTop (mkF m 277 #[.val (.int p0), .val (.int p1), .val (.int p2), .val (.int p3), .val (.long q4), .second, .val (.int p5), .val (.int bL), .val (.int bR), .val (.int bLL), .val (.int bRR), .val (.int xl), .val (.int xh), .val (.int xm), .val (.ref root), .val (.long (((own4_f0 p0 p1 p2 p3) + (own4_f0 xl xh p0 p1)) + (own4_f0 p2 p3 xm (xl ^^^ (-1 : Int32))))), .second, .val (.ref lf), .val (.ref ll)] [(.long (((own4_f0 p0 p1 p2 p3) + (own4_f0 xl xh p0 p1)) + (own4_f0 p2 p3 xm (xl ^^^ (-1 : Int32))))), (.long (((own4_f0 p0 p1 p2 p3) + (((own4_f0 xl xh p0 p1) + (((own4_f0 p2 p3 xm (xl ^^^ (-1 : Int32))) + (0 : Int64)) + (0 : Int64))) + (0 : Int64))) + (0 : Int64)))])) _
          refine XS.lcmp X30.here hx rfl (hb hby at_277) rfl ?_
          show Steps p.tables e below (T30.setTop (mkF m 278 #[.val (.int p0), .val (.int p1), .val (.int p2), .val (.int p3), .val (.long q4), .second, .val (.int p5), .val (.int bL), .val (.int bR), .val (.int bLL), .val (.int bRR), .val (.int xl), .val (.int xh), .val (.int xm), .val (.ref root), .val (.long (((own4_f0 p0 p1 p2 p3) + (own4_f0 xl xh p0 p1)) + (own4_f0 p2 p3 xm (xl ^^^ (-1 : Int32))))), .second, .val (.ref lf), .val (.ref ll)] [(.int (lcmpW (((own4_f0 p0 p1 p2 p3) + (((own4_f0 xl xh p0 p1) + (((own4_f0 p2 p3 xm (xl ^^^ (-1 : Int32))) + (0 : Int64)) + (0 : Int64))) + (0 : Int64))) + (0 : Int64)) (((own4_f0 p0 p1 p2 p3) + (own4_f0 xl xh p0 p1)) + (own4_f0 p2 p3 xm (xl ^^^ (-1 : Int32))))))])) _
          refine XS.ifNo X30.here hx rfl (hb hby at_278) rfl ((if0 _ _).trans (teq (show lcmpW (((own4_f0 p0 p1 p2 p3) + (((own4_f0 xl xh p0 p1) + (((own4_f0 p2 p3 xm (xl ^^^ (-1 : Int32))) + (0 : Int64)) + (0 : Int64))) + (0 : Int64))) + (0 : Int64)) (((own4_f0 p0 p1 p2 p3) + (own4_f0 xl xh p0 p1)) + (own4_f0 p2 p3 xm (xl ^^^ (-1 : Int32)))) = (0 : Int32) from (lw_eq _ _).2 (by simp only [Int64.add_zero, Int64.add_assoc]))).2) ?_
          show Steps p.tables e below (T30.setTop (mkF m 281 #[.val (.int p0), .val (.int p1), .val (.int p2), .val (.int p3), .val (.long q4), .second, .val (.int p5), .val (.int bL), .val (.int bR), .val (.int bLL), .val (.int bRR), .val (.int xl), .val (.int xh), .val (.int xm), .val (.ref root), .val (.long (((own4_f0 p0 p1 p2 p3) + (own4_f0 xl xh p0 p1)) + (own4_f0 p2 p3 xm (xl ^^^ (-1 : Int32))))), .second, .val (.ref lf), .val (.ref ll)] [])) _
          refine XS.iconst X30.here hx rfl (hb hby at_281) ?_
          show Steps p.tables e below (T30.setTop (mkF m 282 #[.val (.int p0), .val (.int p1), .val (.int p2), .val (.int p3), .val (.long q4), .second, .val (.int p5), .val (.int bL), .val (.int bR), .val (.int bLL), .val (.int bRR), .val (.int xl), .val (.int xh), .val (.int xm), .val (.ref root), .val (.long (((own4_f0 p0 p1 p2 p3) + (own4_f0 xl xh p0 p1)) + (own4_f0 p2 p3 xm (xl ^^^ (-1 : Int32))))), .second, .val (.ref lf), .val (.ref ll)] [(.int (1 : Int32))])) _
          refine XS.goto X30.here hx rfl (pc0 := 282) (pc' := 286) rfl (hb hby at_282) (by decide) (by decide) ?_
          exact kt
        obtain ⟨fs, hr, hrun, hended, hW, hsame⟩ := X30.leave (v := some (.int (1 : Int32))) (fun h => by rw [Bd.returns] at h; cases h)
        refine ⟨_, _, ?_, hrun, hended, _, _, rfl, ?_, ⟨_, rfl⟩, hW, hsame.mono (by decide) (by decide)⟩
        · show Steps p.tables e below (T30.setTop (mkF m 286 #[.val (.int p0), .val (.int p1), .val (.int p2), .val (.int p3), .val (.long q4), .second, .val (.int p5), .val (.int bL), .val (.int bR), .val (.int bLL), .val (.int bRR), .val (.int xl), .val (.int xh), .val (.int xm), .val (.ref root), .val (.long (((own4_f0 p0 p1 p2 p3) + (own4_f0 xl xh p0 p1)) + (own4_f0 p2 p3 xm (xl ^^^ (-1 : Int32))))), .second, .val (.ref lf), .val (.ref ll)] [(.int (1 : Int32))])) _
          exact retN X30 hx (t := .boolean) Bd.returns (by simp) (hb hby at_286) hr
        · show Q0 n0 _ _
          exact ⟨rfl, N30⟩
      · refine own_go (B := T29.setTop (mkF m 199 #[.val (.int p0), .val (.int p1), .val (.int p2), .val (.int p3), .val (.long q4), .second, .val (.int p5), .val (.int bL), .val (.int bR), .val (.int bLL), .val (.int bRR), .val (.int xl), .val (.int xh), .val (.int xm), .val (.ref root), .val (.long (((own4_f0 p0 p1 p2 p3) + (own4_f0 xl xh p0 p1)) + (own4_f0 p2 p3 xm (xl ^^^ (-1 : Int32))))), .second, .val (.ref lf), .val (.ref ll)] [(.int (xh ^^^ p0)), (.int (p2 ^^^ (-1 : Int32))), (.int p3), (.int xm)])) (fun t kt => ?_) ?_
        · show Steps p.tables e below (T29.setTop (mkF m 184 #[.val (.int p0), .val (.int p1), .val (.int p2), .val (.int p3), .val (.long q4), .second, .val (.int p5), .val (.int bL), .val (.int bR), .val (.int bLL), .val (.int bRR), .val (.int xl), .val (.int xh), .val (.int xm), .val (.ref root), .val (.long (((own4_f0 p0 p1 p2 p3) + (own4_f0 xl xh p0 p1)) + (own4_f0 p2 p3 xm (xl ^^^ (-1 : Int32))))), .second, .val (.ref lf), .val (.ref ll)] [])) _
          refine XS.iload X29.here hx rfl (hb hby at_184) rfl ?_
          show Steps p.tables e below (T29.setTop (mkF m 186 #[.val (.int p0), .val (.int p1), .val (.int p2), .val (.int p3), .val (.long q4), .second, .val (.int p5), .val (.int bL), .val (.int bR), .val (.int bLL), .val (.int bRR), .val (.int xl), .val (.int xh), .val (.int xm), .val (.ref root), .val (.long (((own4_f0 p0 p1 p2 p3) + (own4_f0 xl xh p0 p1)) + (own4_f0 p2 p3 xm (xl ^^^ (-1 : Int32))))), .second, .val (.ref lf), .val (.ref ll)] [(.int bR)])) _
          refine XS.ifNo X29.here hx rfl (hb hby at_186) rfl ((if0 _ _).trans (feq hcR).1) ?_
          show Steps p.tables e below (T29.setTop (mkF m 189 #[.val (.int p0), .val (.int p1), .val (.int p2), .val (.int p3), .val (.long q4), .second, .val (.int p5), .val (.int bL), .val (.int bR), .val (.int bLL), .val (.int bRR), .val (.int xl), .val (.int xh), .val (.int xm), .val (.ref root), .val (.long (((own4_f0 p0 p1 p2 p3) + (own4_f0 xl xh p0 p1)) + (own4_f0 p2 p3 xm (xl ^^^ (-1 : Int32))))), .second, .val (.ref lf), .val (.ref ll)] [])) _
          refine XS.iload X29.here hx rfl (hb hby at_189) rfl ?_
          show Steps p.tables e below (T29.setTop (mkF m 191 #[.val (.int p0), .val (.int p1), .val (.int p2), .val (.int p3), .val (.long q4), .second, .val (.int p5), .val (.int bL), .val (.int bR), .val (.int bLL), .val (.int bRR), .val (.int xl), .val (.int xh), .val (.int xm), .val (.ref root), .val (.long (((own4_f0 p0 p1 p2 p3) + (own4_f0 xl xh p0 p1)) + (own4_f0 p2 p3 xm (xl ^^^ (-1 : Int32))))), .second, .val (.ref lf), .val (.ref ll)] [(.int xm)])) _
          refine XS.iloadN X29.here hx rfl (hb hby at_191) rfl ?_
          show Steps p.tables e below (T29.setTop (mkF m 192 #[.val (.int p0), .val (.int p1), .val (.int p2), .val (.int p3), .val (.long q4), .second, .val (.int p5), .val (.int bL), .val (.int bR), .val (.int bLL), .val (.int bRR), .val (.int xl), .val (.int xh), .val (.int xm), .val (.ref root), .val (.long (((own4_f0 p0 p1 p2 p3) + (own4_f0 xl xh p0 p1)) + (own4_f0 p2 p3 xm (xl ^^^ (-1 : Int32))))), .second, .val (.ref lf), .val (.ref ll)] [(.int p3), (.int xm)])) _
          refine XS.iloadN X29.here hx rfl (hb hby at_192) rfl ?_
          show Steps p.tables e below (T29.setTop (mkF m 193 #[.val (.int p0), .val (.int p1), .val (.int p2), .val (.int p3), .val (.long q4), .second, .val (.int p5), .val (.int bL), .val (.int bR), .val (.int bLL), .val (.int bRR), .val (.int xl), .val (.int xh), .val (.int xm), .val (.ref root), .val (.long (((own4_f0 p0 p1 p2 p3) + (own4_f0 xl xh p0 p1)) + (own4_f0 p2 p3 xm (xl ^^^ (-1 : Int32))))), .second, .val (.ref lf), .val (.ref ll)] [(.int p2), (.int p3), (.int xm)])) _
          refine XS.iconst X29.here hx rfl (hb hby at_193) ?_
          show Steps p.tables e below (T29.setTop (mkF m 194 #[.val (.int p0), .val (.int p1), .val (.int p2), .val (.int p3), .val (.long q4), .second, .val (.int p5), .val (.int bL), .val (.int bR), .val (.int bLL), .val (.int bRR), .val (.int xl), .val (.int xh), .val (.int xm), .val (.ref root), .val (.long (((own4_f0 p0 p1 p2 p3) + (own4_f0 xl xh p0 p1)) + (own4_f0 p2 p3 xm (xl ^^^ (-1 : Int32))))), .second, .val (.ref lf), .val (.ref ll)] [(.int (-1 : Int32)), (.int p2), (.int p3), (.int xm)])) _
          refine XS.ixor X29.here hx rfl (hb hby at_194) rfl ?_
          show Steps p.tables e below (T29.setTop (mkF m 195 #[.val (.int p0), .val (.int p1), .val (.int p2), .val (.int p3), .val (.long q4), .second, .val (.int p5), .val (.int bL), .val (.int bR), .val (.int bLL), .val (.int bRR), .val (.int xl), .val (.int xh), .val (.int xm), .val (.ref root), .val (.long (((own4_f0 p0 p1 p2 p3) + (own4_f0 xl xh p0 p1)) + (own4_f0 p2 p3 xm (xl ^^^ (-1 : Int32))))), .second, .val (.ref lf), .val (.ref ll)] [(.int (p2 ^^^ (-1 : Int32))), (.int p3), (.int xm)])) _
          refine XS.iload X29.here hx rfl (hb hby at_195) rfl ?_
          show Steps p.tables e below (T29.setTop (mkF m 197 #[.val (.int p0), .val (.int p1), .val (.int p2), .val (.int p3), .val (.long q4), .second, .val (.int p5), .val (.int bL), .val (.int bR), .val (.int bLL), .val (.int bRR), .val (.int xl), .val (.int xh), .val (.int xm), .val (.ref root), .val (.long (((own4_f0 p0 p1 p2 p3) + (own4_f0 xl xh p0 p1)) + (own4_f0 p2 p3 xm (xl ^^^ (-1 : Int32))))), .second, .val (.ref lf), .val (.ref ll)] [(.int xh), (.int (p2 ^^^ (-1 : Int32))), (.int p3), (.int xm)])) _
          refine XS.iloadN X29.here hx rfl (hb hby at_197) rfl ?_
          show Steps p.tables e below (T29.setTop (mkF m 198 #[.val (.int p0), .val (.int p1), .val (.int p2), .val (.int p3), .val (.long q4), .second, .val (.int p5), .val (.int bL), .val (.int bR), .val (.int bLL), .val (.int bRR), .val (.int xl), .val (.int xh), .val (.int xm), .val (.ref root), .val (.long (((own4_f0 p0 p1 p2 p3) + (own4_f0 xl xh p0 p1)) + (own4_f0 p2 p3 xm (xl ^^^ (-1 : Int32))))), .second, .val (.ref lf), .val (.ref ll)] [(.int p0), (.int xh), (.int (p2 ^^^ (-1 : Int32))), (.int p3), (.int xm)])) _
          refine XS.ixor X29.here hx rfl (hb hby at_198) rfl ?_
          exact kt
        obtain ⟨_, _, ⟨T31, L31, k31, n31⟩, -, X31, ⟨Lc31, hQ31, l31, y31, z31⟩, st31⟩ := Jvm.LawKit.callS X29 hx (y := (⟨"com/example/fleetwire/fleetwire/bench/TreeFieldSumPinLaw", "node", "(IIII)Lcom/example/fleetwire/fleetwire/bench/Bench$Tree;"⟩ : MethodName)) hown (mvT hZ (hw _ (List.mem_of_getElem? (i := 0) rfl))) (mvT hZ (hw _ (List.mem_of_getElem? (i := 1) rfl))) (mvT hZ (hw _ (List.mem_of_getElem? (i := 2) rfl))) (mvT hZ (hw _ (List.mem_of_getElem? (i := 3) rfl))) (by decide) (backOf (W := 0) (rm1 l Z t0 hw [] xm p3 (p2 ^^^ (-1 : Int32)) (xh ^^^ p0) h29 n0 Z29) hZ (hw _ (List.mem_of_getElem? (i := 3) rfl)) (hw _ (List.mem_of_getElem? (i := 2) rfl)) (by decide) (by decide)) (g := (mkF m 199 #[.val (.int p0), .val (.int p1), .val (.int p2), .val (.int p3), .val (.long q4), .second, .val (.int p5), .val (.int bL), .val (.int bR), .val (.int bLL), .val (.int bRR), .val (.int xl), .val (.int xh), .val (.int xm), .val (.ref root), .val (.long (((own4_f0 p0 p1 p2 p3) + (own4_f0 xl xh p0 p1)) + (own4_f0 p2 p3 xm (xl ^^^ (-1 : Int32))))), .second, .val (.ref lf), .val (.ref ll)] [(.int (xh ^^^ p0)), (.int (p2 ^^^ (-1 : Int32))), (.int p3), (.int xm)])) rfl (by rw [hml]; rfl) (argsL := [(.int xm), (.int p3), (.int (p2 ^^^ (-1 : Int32))), (.int (xh ^^^ p0))]) (rest := []) (lenOf pd_0_0 rfl) rfl (by show 2 * 0 + _ ≤ _; exact Nat.le_of_eq rfl) (hb hby at_199) (fun _ _ => ⟨rfl, e29, (by decide : 3 + 1 ≤ _), (by decide : 18 + 6 ≤ _)⟩)
        dsimp only [Pt.U, Pt.locs, Pt.cells, Pt.slots] at X31 l31 y31 z31 st31 hQ31
        subst l31 y31 z31
        obtain ⟨r, rfl, Nq31, Kc31, zb31, gb31, ex31, fa31, fb31, fc31, fd31, fleft31, fright31⟩ := hQ31
        have N31 := Fr.app N29 Nq31
        obtain ⟨h31, e31⟩ : ∃ z, T31.heap = z := ⟨_, rfl⟩
        rw [e31] at Kc31 fa31 fb31 fc31 fd31 fleft31 fright31 ex31
        have E_root_31 := E_root_29.keep Kc31
        have F_a_root_31 := F_a_root_29.keep Kc31 nin0
        have F_b_root_31 := F_b_root_29.keep Kc31 nin0
        have F_c_root_31 := F_c_root_29.keep Kc31 nin0
        have F_d_root_31 := F_d_root_29.keep Kc31 nin0
        have F_left_root_31 := F_left_root_29.keep Kc31 nin0
        have F_right_root_31 := F_right_root_29.keep Kc31 nin0
        have E_lf_31 := E_lf_29.keep Kc31
        have F_a_lf_31 := F_a_lf_29.keep Kc31 nin0
        have F_b_lf_31 := F_b_lf_29.keep Kc31 nin0
        have F_c_lf_31 := F_c_lf_29.keep Kc31 nin0
        have F_d_lf_31 := F_d_lf_29.keep Kc31 nin0
        have F_left_lf_31 := F_left_lf_29.keep Kc31 nin0
        have F_right_lf_31 := F_right_lf_29.keep Kc31 nin0
        have E_ll_31 := E_ll_29.keep Kc31
        have F_a_ll_31 := F_a_ll_29.keep Kc31 nin0
        have F_b_ll_31 := F_b_ll_29.keep Kc31 nin0
        have F_c_ll_31 := F_c_ll_29.keep Kc31 nin0
        have F_d_ll_31 := F_d_ll_29.keep Kc31 nin0
        have F_left_ll_31 := F_left_ll_29.keep Kc31 nin0
        have F_right_ll_31 := F_right_ll_29.keep Kc31 nin0
        have Z31 : n0 ≤ h31.size := Nat.le_trans Z29 Kc31.1
        have ne_root_r : root ≠ r := Nat.ne_of_lt (Nat.lt_of_lt_of_le E_root_29.lt zb31)
        have ne_lf_r : lf ≠ r := Nat.ne_of_lt (Nat.lt_of_lt_of_le E_lf_29.lt zb31)
        have ne_ll_r : ll ≠ r := Nat.ne_of_lt (Nat.lt_of_lt_of_le E_ll_29.lt zb31)
        refine own_go (B := T31.setTop (mkF m 202 #[.val (.int p0), .val (.int p1), .val (.int p2), .val (.int p3), .val (.long q4), .second, .val (.int p5), .val (.int bL), .val (.int bR), .val (.int bLL), .val (.int bRR), .val (.int xl), .val (.int xh), .val (.int xm), .val (.ref root), .val (.long (((own4_f0 p0 p1 p2 p3) + (own4_f0 xl xh p0 p1)) + (own4_f0 p2 p3 xm (xl ^^^ (-1 : Int32))))), .second, .val (.ref lf), .val (.ref ll)] [(.ref r)])) (fun t kt => st31 t kt) ?_
        refine own_go (B := T31.setTop (mkF m 216 #[.val (.int p0), .val (.int p1), .val (.int p2), .val (.int p3), .val (.long q4), .second, .val (.int p5), .val (.int bL), .val (.int bR), .val (.int bLL), .val (.int bRR), .val (.int xl), .val (.int xh), .val (.int xm), .val (.ref root), .val (.long (((own4_f0 p0 p1 p2 p3) + (own4_f0 xl xh p0 p1)) + (own4_f0 p2 p3 xm (xl ^^^ (-1 : Int32))))), .second, .val (.ref r), .val (.ref ll)] [(.int (xh ^^^ p0)), (.int (p2 ^^^ (-1 : Int32))), (.int p3), (.int xm), (.long (((own4_f0 p0 p1 p2 p3) + (own4_f0 xl xh p0 p1)) + (own4_f0 p2 p3 xm (xl ^^^ (-1 : Int32)))))])) (fun t kt => ?_) ?_
        · show Steps p.tables e below (T31.setTop (mkF m 202 #[.val (.int p0), .val (.int p1), .val (.int p2), .val (.int p3), .val (.long q4), .second, .val (.int p5), .val (.int bL), .val (.int bR), .val (.int bLL), .val (.int bRR), .val (.int xl), .val (.int xh), .val (.int xm), .val (.ref root), .val (.long (((own4_f0 p0 p1 p2 p3) + (own4_f0 xl xh p0 p1)) + (own4_f0 p2 p3 xm (xl ^^^ (-1 : Int32))))), .second, .val (.ref lf), .val (.ref ll)] [(.ref r)])) _
          refine XS.astore X31.here hx rfl (hb hby at_202) rfl rfl (l' := #[.val (.int p0), .val (.int p1), .val (.int p2), .val (.int p3), .val (.long q4), .second, .val (.int p5), .val (.int bL), .val (.int bR), .val (.int bLL), .val (.int bRR), .val (.int xl), .val (.int xh), .val (.int xm), .val (.ref root), .val (.long (((own4_f0 p0 p1 p2 p3) + (own4_f0 xl xh p0 p1)) + (own4_f0 p2 p3 xm (xl ^^^ (-1 : Int32))))), .second, .val (.ref r), .val (.ref ll)]) rfl ?_
          show Steps p.tables e below (T31.setTop (mkF m 204 #[.val (.int p0), .val (.int p1), .val (.int p2), .val (.int p3), .val (.long q4), .second, .val (.int p5), .val (.int bL), .val (.int bR), .val (.int bLL), .val (.int bRR), .val (.int xl), .val (.int xh), .val (.int xm), .val (.ref root), .val (.long (((own4_f0 p0 p1 p2 p3) + (own4_f0 xl xh p0 p1)) + (own4_f0 p2 p3 xm (xl ^^^ (-1 : Int32))))), .second, .val (.ref r), .val (.ref ll)] [])) _
          refine XS.lload X31.here hx rfl (hb hby at_204) rfl ?_
          show Steps p.tables e below (T31.setTop (mkF m 206 #[.val (.int p0), .val (.int p1), .val (.int p2), .val (.int p3), .val (.long q4), .second, .val (.int p5), .val (.int bL), .val (.int bR), .val (.int bLL), .val (.int bRR), .val (.int xl), .val (.int xh), .val (.int xm), .val (.ref root), .val (.long (((own4_f0 p0 p1 p2 p3) + (own4_f0 xl xh p0 p1)) + (own4_f0 p2 p3 xm (xl ^^^ (-1 : Int32))))), .second, .val (.ref r), .val (.ref ll)] [(.long (((own4_f0 p0 p1 p2 p3) + (own4_f0 xl xh p0 p1)) + (own4_f0 p2 p3 xm (xl ^^^ (-1 : Int32)))))])) _
          refine XS.iload X31.here hx rfl (hb hby at_206) rfl ?_
          show Steps p.tables e below (T31.setTop (mkF m 208 #[.val (.int p0), .val (.int p1), .val (.int p2), .val (.int p3), .val (.long q4), .second, .val (.int p5), .val (.int bL), .val (.int bR), .val (.int bLL), .val (.int bRR), .val (.int xl), .val (.int xh), .val (.int xm), .val (.ref root), .val (.long (((own4_f0 p0 p1 p2 p3) + (own4_f0 xl xh p0 p1)) + (own4_f0 p2 p3 xm (xl ^^^ (-1 : Int32))))), .second, .val (.ref r), .val (.ref ll)] [(.int xm), (.long (((own4_f0 p0 p1 p2 p3) + (own4_f0 xl xh p0 p1)) + (own4_f0 p2 p3 xm (xl ^^^ (-1 : Int32)))))])) _
          refine XS.iloadN X31.here hx rfl (hb hby at_208) rfl ?_
          show Steps p.tables e below (T31.setTop (mkF m 209 #[.val (.int p0), .val (.int p1), .val (.int p2), .val (.int p3), .val (.long q4), .second, .val (.int p5), .val (.int bL), .val (.int bR), .val (.int bLL), .val (.int bRR), .val (.int xl), .val (.int xh), .val (.int xm), .val (.ref root), .val (.long (((own4_f0 p0 p1 p2 p3) + (own4_f0 xl xh p0 p1)) + (own4_f0 p2 p3 xm (xl ^^^ (-1 : Int32))))), .second, .val (.ref r), .val (.ref ll)] [(.int p3), (.int xm), (.long (((own4_f0 p0 p1 p2 p3) + (own4_f0 xl xh p0 p1)) + (own4_f0 p2 p3 xm (xl ^^^ (-1 : Int32)))))])) _
          refine XS.iloadN X31.here hx rfl (hb hby at_209) rfl ?_
          show Steps p.tables e below (T31.setTop (mkF m 210 #[.val (.int p0), .val (.int p1), .val (.int p2), .val (.int p3), .val (.long q4), .second, .val (.int p5), .val (.int bL), .val (.int bR), .val (.int bLL), .val (.int bRR), .val (.int xl), .val (.int xh), .val (.int xm), .val (.ref root), .val (.long (((own4_f0 p0 p1 p2 p3) + (own4_f0 xl xh p0 p1)) + (own4_f0 p2 p3 xm (xl ^^^ (-1 : Int32))))), .second, .val (.ref r), .val (.ref ll)] [(.int p2), (.int p3), (.int xm), (.long (((own4_f0 p0 p1 p2 p3) + (own4_f0 xl xh p0 p1)) + (own4_f0 p2 p3 xm (xl ^^^ (-1 : Int32)))))])) _
          refine XS.iconst X31.here hx rfl (hb hby at_210) ?_
          show Steps p.tables e below (T31.setTop (mkF m 211 #[.val (.int p0), .val (.int p1), .val (.int p2), .val (.int p3), .val (.long q4), .second, .val (.int p5), .val (.int bL), .val (.int bR), .val (.int bLL), .val (.int bRR), .val (.int xl), .val (.int xh), .val (.int xm), .val (.ref root), .val (.long (((own4_f0 p0 p1 p2 p3) + (own4_f0 xl xh p0 p1)) + (own4_f0 p2 p3 xm (xl ^^^ (-1 : Int32))))), .second, .val (.ref r), .val (.ref ll)] [(.int (-1 : Int32)), (.int p2), (.int p3), (.int xm), (.long (((own4_f0 p0 p1 p2 p3) + (own4_f0 xl xh p0 p1)) + (own4_f0 p2 p3 xm (xl ^^^ (-1 : Int32)))))])) _
          refine XS.ixor X31.here hx rfl (hb hby at_211) rfl ?_
          show Steps p.tables e below (T31.setTop (mkF m 212 #[.val (.int p0), .val (.int p1), .val (.int p2), .val (.int p3), .val (.long q4), .second, .val (.int p5), .val (.int bL), .val (.int bR), .val (.int bLL), .val (.int bRR), .val (.int xl), .val (.int xh), .val (.int xm), .val (.ref root), .val (.long (((own4_f0 p0 p1 p2 p3) + (own4_f0 xl xh p0 p1)) + (own4_f0 p2 p3 xm (xl ^^^ (-1 : Int32))))), .second, .val (.ref r), .val (.ref ll)] [(.int (p2 ^^^ (-1 : Int32))), (.int p3), (.int xm), (.long (((own4_f0 p0 p1 p2 p3) + (own4_f0 xl xh p0 p1)) + (own4_f0 p2 p3 xm (xl ^^^ (-1 : Int32)))))])) _
          refine XS.iload X31.here hx rfl (hb hby at_212) rfl ?_
          show Steps p.tables e below (T31.setTop (mkF m 214 #[.val (.int p0), .val (.int p1), .val (.int p2), .val (.int p3), .val (.long q4), .second, .val (.int p5), .val (.int bL), .val (.int bR), .val (.int bLL), .val (.int bRR), .val (.int xl), .val (.int xh), .val (.int xm), .val (.ref root), .val (.long (((own4_f0 p0 p1 p2 p3) + (own4_f0 xl xh p0 p1)) + (own4_f0 p2 p3 xm (xl ^^^ (-1 : Int32))))), .second, .val (.ref r), .val (.ref ll)] [(.int xh), (.int (p2 ^^^ (-1 : Int32))), (.int p3), (.int xm), (.long (((own4_f0 p0 p1 p2 p3) + (own4_f0 xl xh p0 p1)) + (own4_f0 p2 p3 xm (xl ^^^ (-1 : Int32)))))])) _
          refine XS.iloadN X31.here hx rfl (hb hby at_214) rfl ?_
          show Steps p.tables e below (T31.setTop (mkF m 215 #[.val (.int p0), .val (.int p1), .val (.int p2), .val (.int p3), .val (.long q4), .second, .val (.int p5), .val (.int bL), .val (.int bR), .val (.int bLL), .val (.int bRR), .val (.int xl), .val (.int xh), .val (.int xm), .val (.ref root), .val (.long (((own4_f0 p0 p1 p2 p3) + (own4_f0 xl xh p0 p1)) + (own4_f0 p2 p3 xm (xl ^^^ (-1 : Int32))))), .second, .val (.ref r), .val (.ref ll)] [(.int p0), (.int xh), (.int (p2 ^^^ (-1 : Int32))), (.int p3), (.int xm), (.long (((own4_f0 p0 p1 p2 p3) + (own4_f0 xl xh p0 p1)) + (own4_f0 p2 p3 xm (xl ^^^ (-1 : Int32)))))])) _
          refine XS.ixor X31.here hx rfl (hb hby at_215) rfl ?_
          exact kt
        obtain ⟨_, _, ⟨T32, L32, k32, n32⟩, -, X32, ⟨Lc32, hQ32, l32, y32, z32⟩, st32⟩ := Jvm.LawKit.callS X31 hx (y := (⟨"com/example/fleetwire/fleetwire/bench/TreeFieldSumPinLaw", "s", "(IIII)J"⟩ : MethodName)) hown (mvT hZ (hw _ (List.mem_of_getElem? (i := 21) rfl))) (mvT hZ (hw _ (List.mem_of_getElem? (i := 22) rfl))) (mvT hZ (hw _ (List.mem_of_getElem? (i := 2) rfl))) (mvT hZ (hw _ (List.mem_of_getElem? (i := 23) rfl))) (by decide) (backOf (W := 2) (rm4 l Z t0 hw [] xm p3 (p2 ^^^ (-1 : Int32)) (xh ^^^ p0) h31 n0 Z31) hZ (hw _ (List.mem_of_getElem? (i := 23) rfl)) (hw _ (List.mem_of_getElem? (i := 2) rfl)) (by decide) (by decide)) (g := (mkF m 216 #[.val (.int p0), .val (.int p1), .val (.int p2), .val (.int p3), .val (.long q4), .second, .val (.int p5), .val (.int bL), .val (.int bR), .val (.int bLL), .val (.int bRR), .val (.int xl), .val (.int xh), .val (.int xm), .val (.ref root), .val (.long (((own4_f0 p0 p1 p2 p3) + (own4_f0 xl xh p0 p1)) + (own4_f0 p2 p3 xm (xl ^^^ (-1 : Int32))))), .second, .val (.ref r), .val (.ref ll)] [(.int (xh ^^^ p0)), (.int (p2 ^^^ (-1 : Int32))), (.int p3), (.int xm), (.long (((own4_f0 p0 p1 p2 p3) + (own4_f0 xl xh p0 p1)) + (own4_f0 p2 p3 xm (xl ^^^ (-1 : Int32)))))])) rfl (by rw [hml]; rfl) (argsL := [(.int xm), (.int p3), (.int (p2 ^^^ (-1 : Int32))), (.int (xh ^^^ p0))]) (rest := [(.long (((own4_f0 p0 p1 p2 p3) + (own4_f0 xl xh p0 p1)) + (own4_f0 p2 p3 xm (xl ^^^ (-1 : Int32)))))]) (lenOf pd_0_1 rfl) rfl (by show 2 * 0 + _ ≤ _; exact Nat.le_of_eq rfl) (hb hby at_216) (fun _ _ => ⟨rfl, e31, (by decide : 4 + 0 ≤ _), (by decide : 24 + 0 ≤ _)⟩)
        dsimp only [Pt.U, Pt.locs, Pt.cells, Pt.slots] at X32 l32 y32 z32 st32 hQ32
        subst l32 y32 z32
        obtain ⟨rfl, Nq32, hh32⟩ := hQ32
        have N32 := Fr.app N31 Nq32
        have e32 : T32.heap = h31 := hh32
        refine own_go (B := T32.setTop (mkF m 219 #[.val (.int p0), .val (.int p1), .val (.int p2), .val (.int p3), .val (.long q4), .second, .val (.int p5), .val (.int bL), .val (.int bR), .val (.int bLL), .val (.int bRR), .val (.int xl), .val (.int xh), .val (.int xm), .val (.ref root), .val (.long (((own4_f0 p0 p1 p2 p3) + (own4_f0 xl xh p0 p1)) + (own4_f0 p2 p3 xm (xl ^^^ (-1 : Int32))))), .second, .val (.ref r), .val (.ref ll)] [(.long (own4_f0 xm p3 (p2 ^^^ (-1 : Int32)) (xh ^^^ p0))), (.long (((own4_f0 p0 p1 p2 p3) + (own4_f0 xl xh p0 p1)) + (own4_f0 p2 p3 xm (xl ^^^ (-1 : Int32)))))])) (fun t kt => st32 t kt) ?_
        refine own_go (B := T32.setTop (mkF m 224 #[.val (.int p0), .val (.int p1), .val (.int p2), .val (.int p3), .val (.long q4), .second, .val (.int p5), .val (.int bL), .val (.int bR), .val (.int bLL), .val (.int bRR), .val (.int xl), .val (.int xh), .val (.int xm), .val (.ref root), .val (.long ((((own4_f0 p0 p1 p2 p3) + (own4_f0 xl xh p0 p1)) + (own4_f0 p2 p3 xm (xl ^^^ (-1 : Int32)))) + (own4_f0 xm p3 (p2 ^^^ (-1 : Int32)) (xh ^^^ p0)))), .second, .val (.ref r), .val (.ref ll)] [(.int bRR)])) (fun t kt => ?_) ?_
        · show Steps p.tables e below (T32.setTop (mkF m 219 #[.val (.int p0), .val (.int p1), .val (.int p2), .val (.int p3), .val (.long q4), .second, .val (.int p5), .val (.int bL), .val (.int bR), .val (.int bLL), .val (.int bRR), .val (.int xl), .val (.int xh), .val (.int xm), .val (.ref root), .val (.long (((own4_f0 p0 p1 p2 p3) + (own4_f0 xl xh p0 p1)) + (own4_f0 p2 p3 xm (xl ^^^ (-1 : Int32))))), .second, .val (.ref r), .val (.ref ll)] [(.long (own4_f0 xm p3 (p2 ^^^ (-1 : Int32)) (xh ^^^ p0))), (.long (((own4_f0 p0 p1 p2 p3) + (own4_f0 xl xh p0 p1)) + (own4_f0 p2 p3 xm (xl ^^^ (-1 : Int32)))))])) _
          refine XS.ladd X32.here hx rfl (hb hby at_219) rfl ?_
          show Steps p.tables e below (T32.setTop (mkF m 220 #[.val (.int p0), .val (.int p1), .val (.int p2), .val (.int p3), .val (.long q4), .second, .val (.int p5), .val (.int bL), .val (.int bR), .val (.int bLL), .val (.int bRR), .val (.int xl), .val (.int xh), .val (.int xm), .val (.ref root), .val (.long (((own4_f0 p0 p1 p2 p3) + (own4_f0 xl xh p0 p1)) + (own4_f0 p2 p3 xm (xl ^^^ (-1 : Int32))))), .second, .val (.ref r), .val (.ref ll)] [(.long ((((own4_f0 p0 p1 p2 p3) + (own4_f0 xl xh p0 p1)) + (own4_f0 p2 p3 xm (xl ^^^ (-1 : Int32)))) + (own4_f0 xm p3 (p2 ^^^ (-1 : Int32)) (xh ^^^ p0))))])) _
          refine XS.lstore X32.here hx rfl (hb hby at_220) rfl (l' := #[.val (.int p0), .val (.int p1), .val (.int p2), .val (.int p3), .val (.long q4), .second, .val (.int p5), .val (.int bL), .val (.int bR), .val (.int bLL), .val (.int bRR), .val (.int xl), .val (.int xh), .val (.int xm), .val (.ref root), .val (.long ((((own4_f0 p0 p1 p2 p3) + (own4_f0 xl xh p0 p1)) + (own4_f0 p2 p3 xm (xl ^^^ (-1 : Int32)))) + (own4_f0 xm p3 (p2 ^^^ (-1 : Int32)) (xh ^^^ p0)))), .second, .val (.ref r), .val (.ref ll)]) rfl ?_
          show Steps p.tables e below (T32.setTop (mkF m 222 #[.val (.int p0), .val (.int p1), .val (.int p2), .val (.int p3), .val (.long q4), .second, .val (.int p5), .val (.int bL), .val (.int bR), .val (.int bLL), .val (.int bRR), .val (.int xl), .val (.int xh), .val (.int xm), .val (.ref root), .val (.long ((((own4_f0 p0 p1 p2 p3) + (own4_f0 xl xh p0 p1)) + (own4_f0 p2 p3 xm (xl ^^^ (-1 : Int32)))) + (own4_f0 xm p3 (p2 ^^^ (-1 : Int32)) (xh ^^^ p0)))), .second, .val (.ref r), .val (.ref ll)] [])) _
          refine XS.iload X32.here hx rfl (hb hby at_222) rfl ?_
          exact kt
        by_cases hcRR : bRR = (0 : Int32)
        · refine own_go (B := T32.setTop (mkF m 267 #[.val (.int p0), .val (.int p1), .val (.int p2), .val (.int p3), .val (.long q4), .second, .val (.int p5), .val (.int bL), .val (.int bR), .val (.int bLL), .val (.int bRR), .val (.int xl), .val (.int xh), .val (.int xm), .val (.ref root), .val (.long ((((own4_f0 p0 p1 p2 p3) + (own4_f0 xl xh p0 p1)) + (own4_f0 p2 p3 xm (xl ^^^ (-1 : Int32)))) + (own4_f0 xm p3 (p2 ^^^ (-1 : Int32)) (xh ^^^ p0)))), .second, .val (.ref r), .val (.ref ll)] [(.ref r), (.ref root)])) (fun t kt => ?_) ?_
          · show Steps p.tables e below (T32.setTop (mkF m 224 #[.val (.int p0), .val (.int p1), .val (.int p2), .val (.int p3), .val (.long q4), .second, .val (.int p5), .val (.int bL), .val (.int bR), .val (.int bLL), .val (.int bRR), .val (.int xl), .val (.int xh), .val (.int xm), .val (.ref root), .val (.long ((((own4_f0 p0 p1 p2 p3) + (own4_f0 xl xh p0 p1)) + (own4_f0 p2 p3 xm (xl ^^^ (-1 : Int32)))) + (own4_f0 xm p3 (p2 ^^^ (-1 : Int32)) (xh ^^^ p0)))), .second, .val (.ref r), .val (.ref ll)] [(.int bRR)])) _
            refine XS.ifYes X32.here hx rfl (pc0 := 224) (pc' := 263) rfl (hb hby at_224) rfl ((if0 _ _).trans (teq hcRR).1) (by decide) (by decide) ?_
            show Steps p.tables e below (T32.setTop (mkF m 263 #[.val (.int p0), .val (.int p1), .val (.int p2), .val (.int p3), .val (.long q4), .second, .val (.int p5), .val (.int bL), .val (.int bR), .val (.int bLL), .val (.int bRR), .val (.int xl), .val (.int xh), .val (.int xm), .val (.ref root), .val (.long ((((own4_f0 p0 p1 p2 p3) + (own4_f0 xl xh p0 p1)) + (own4_f0 p2 p3 xm (xl ^^^ (-1 : Int32)))) + (own4_f0 xm p3 (p2 ^^^ (-1 : Int32)) (xh ^^^ p0)))), .second, .val (.ref r), .val (.ref ll)] [])) _
            refine XS.aload X32.here hx rfl (hb hby at_263) rfl rfl ?_
            show Steps p.tables e below (T32.setTop (mkF m 265 #[.val (.int p0), .val (.int p1), .val (.int p2), .val (.int p3), .val (.long q4), .second, .val (.int p5), .val (.int bL), .val (.int bR), .val (.int bLL), .val (.int bRR), .val (.int xl), .val (.int xh), .val (.int xm), .val (.ref root), .val (.long ((((own4_f0 p0 p1 p2 p3) + (own4_f0 xl xh p0 p1)) + (own4_f0 p2 p3 xm (xl ^^^ (-1 : Int32)))) + (own4_f0 xm p3 (p2 ^^^ (-1 : Int32)) (xh ^^^ p0)))), .second, .val (.ref r), .val (.ref ll)] [(.ref root)])) _
            refine XS.aload X32.here hx rfl (hb hby at_265) rfl rfl ?_
            exact kt
          obtain ⟨T33, h33, X33, e33, W33, st33⟩ := putF X32 hx hZ hown (host := "") (Or.inl (hw _ (List.mem_of_getElem? (i := 24) rfl))) Via.refl e32 F_right_root_31 E_root_31 (Or.inl (hw _ (List.mem_of_getElem? (i := 25) rfl))) (hw _ (List.mem_of_getElem? (i := 5) rfl)) (ty := (.object "com/example/fleetwire/fleetwire/bench/Bench$Tree")) (by decide) rfl rfl (g := (mkF m 267 #[.val (.int p0), .val (.int p1), .val (.int p2), .val (.int p3), .val (.long q4), .second, .val (.int p5), .val (.int bL), .val (.int bR), .val (.int bLL), .val (.int bRR), .val (.int xl), .val (.int xh), .val (.int xm), .val (.ref root), .val (.long ((((own4_f0 p0 p1 p2 p3) + (own4_f0 xl xh p0 p1)) + (own4_f0 p2 p3 xm (xl ^^^ (-1 : Int32)))) + (own4_f0 xm p3 (p2 ^^^ (-1 : Int32)) (xh ^^^ p0)))), .second, .val (.ref r), .val (.ref ll)] [(.ref r), (.ref root)])) rfl rfl (hb hby at_267)
          have F_right_root_33 : Fld Z h33 root "com/example/fleetwire/fleetwire/bench/Bench$Tree" "right" "Lcom/example/fleetwire/fleetwire/bench/Bench$Tree;" (.ref r) := F_right_root_31.same W33
          have E_root_33 := E_root_31.wr W33
          have F_a_root_33 := F_a_root_31.other W33 (Or.inr (slot_ne (Or.inl (hw _ (List.mem_of_getElem? (i := 14) rfl))) (Or.inl (hw _ (List.mem_of_getElem? (i := 25) rfl))) (by decide) (t := .int) (t' := (.object "com/example/fleetwire/fleetwire/bench/Bench$Tree")) (by decide) (by decide)))
          have F_b_root_33 := F_b_root_31.other W33 (Or.inr (slot_ne (Or.inl (hw _ (List.mem_of_getElem? (i := 16) rfl))) (Or.inl (hw _ (List.mem_of_getElem? (i := 25) rfl))) (by decide) (t := .int) (t' := (.object "com/example/fleetwire/fleetwire/bench/Bench$Tree")) (by decide) (by decide)))
          have F_c_root_33 := F_c_root_31.other W33 (Or.inr (slot_ne (Or.inl (hw _ (List.mem_of_getElem? (i := 18) rfl))) (Or.inl (hw _ (List.mem_of_getElem? (i := 25) rfl))) (by decide) (t := .int) (t' := (.object "com/example/fleetwire/fleetwire/bench/Bench$Tree")) (by decide) (by decide)))
          have F_d_root_33 := F_d_root_31.other W33 (Or.inr (slot_ne (Or.inl (hw _ (List.mem_of_getElem? (i := 20) rfl))) (Or.inl (hw _ (List.mem_of_getElem? (i := 25) rfl))) (by decide) (t := .int) (t' := (.object "com/example/fleetwire/fleetwire/bench/Bench$Tree")) (by decide) (by decide)))
          have F_left_root_33 := F_left_root_31.other W33 (Or.inr (slot_ne (Or.inl (hw _ (List.mem_of_getElem? (i := 36) rfl))) (Or.inl (hw _ (List.mem_of_getElem? (i := 25) rfl))) (by decide) (t := (.object "com/example/fleetwire/fleetwire/bench/Bench$Tree")) (t' := (.object "com/example/fleetwire/fleetwire/bench/Bench$Tree")) (by decide) (by decide)))
          have E_lf_33 := E_lf_31.wr W33
          have F_a_lf_33 := F_a_lf_31.other W33 (Or.inl (Ne.symm ne_root_lf))
          have F_b_lf_33 := F_b_lf_31.other W33 (Or.inl (Ne.symm ne_root_lf))
          have F_c_lf_33 := F_c_lf_31.other W33 (Or.inl (Ne.symm ne_root_lf))
          have F_d_lf_33 := F_d_lf_31.other W33 (Or.inl (Ne.symm ne_root_lf))
          have F_left_lf_33 := F_left_lf_31.other W33 (Or.inl (Ne.symm ne_root_lf))
          have F_right_lf_33 := F_right_lf_31.other W33 (Or.inl (Ne.symm ne_root_lf))
          have E_ll_33 := E_ll_31.wr W33
          have F_a_ll_33 := F_a_ll_31.other W33 (Or.inl (Ne.symm ne_root_ll))
          have F_b_ll_33 := F_b_ll_31.other W33 (Or.inl (Ne.symm ne_root_ll))
          have F_c_ll_33 := F_c_ll_31.other W33 (Or.inl (Ne.symm ne_root_ll))
          have F_d_ll_33 := F_d_ll_31.other W33 (Or.inl (Ne.symm ne_root_ll))
          have F_left_ll_33 := F_left_ll_31.other W33 (Or.inl (Ne.symm ne_root_ll))
          have F_right_ll_33 := F_right_ll_31.other W33 (Or.inl (Ne.symm ne_root_ll))
          have E_r_33 := ex31.wr W33
          have F_a_r_33 := fa31.other W33 (Or.inl (Ne.symm ne_root_r))
          have F_b_r_33 := fb31.other W33 (Or.inl (Ne.symm ne_root_r))
          have F_c_r_33 := fc31.other W33 (Or.inl (Ne.symm ne_root_r))
          have F_d_r_33 := fd31.other W33 (Or.inl (Ne.symm ne_root_r))
          have F_left_r_33 := fleft31.other W33 (Or.inl (Ne.symm ne_root_r))
          have F_right_r_33 := fright31.other W33 (Or.inl (Ne.symm ne_root_r))
          have Z33 : n0 ≤ h33.size := Nat.le_trans Z31 (Keep.of_wr W33).1
          have N33 := Fr.snoc X33 N32 gb1
          refine own_go (B := T33.setTop (mkF m 270 #[.val (.int p0), .val (.int p1), .val (.int p2), .val (.int p3), .val (.long q4), .second, .val (.int p5), .val (.int bL), .val (.int bR), .val (.int bLL), .val (.int bRR), .val (.int xl), .val (.int xh), .val (.int xm), .val (.ref root), .val (.long ((((own4_f0 p0 p1 p2 p3) + (own4_f0 xl xh p0 p1)) + (own4_f0 p2 p3 xm (xl ^^^ (-1 : Int32)))) + (own4_f0 xm p3 (p2 ^^^ (-1 : Int32)) (xh ^^^ p0)))), .second, .val (.ref r), .val (.ref ll)] [])) (fun t kt => st33 t kt) ?_
          refine own_go (B := T33.setTop (mkF m 272 #[.val (.int p0), .val (.int p1), .val (.int p2), .val (.int p3), .val (.long q4), .second, .val (.int p5), .val (.int bL), .val (.int bR), .val (.int bLL), .val (.int bRR), .val (.int xl), .val (.int xh), .val (.int xm), .val (.ref root), .val (.long ((((own4_f0 p0 p1 p2 p3) + (own4_f0 xl xh p0 p1)) + (own4_f0 p2 p3 xm (xl ^^^ (-1 : Int32)))) + (own4_f0 xm p3 (p2 ^^^ (-1 : Int32)) (xh ^^^ p0)))), .second, .val (.ref r), .val (.ref ll)] [(.ref root)])) (fun t kt => ?_) ?_
          · show Steps p.tables e below (T33.setTop (mkF m 270 #[.val (.int p0), .val (.int p1), .val (.int p2), .val (.int p3), .val (.long q4), .second, .val (.int p5), .val (.int bL), .val (.int bR), .val (.int bLL), .val (.int bRR), .val (.int xl), .val (.int xh), .val (.int xm), .val (.ref root), .val (.long ((((own4_f0 p0 p1 p2 p3) + (own4_f0 xl xh p0 p1)) + (own4_f0 p2 p3 xm (xl ^^^ (-1 : Int32)))) + (own4_f0 xm p3 (p2 ^^^ (-1 : Int32)) (xh ^^^ p0)))), .second, .val (.ref r), .val (.ref ll)] [])) _
            refine XS.aload X33.here hx rfl (hb hby at_270) rfl rfl ?_
            exact kt
          have ht := (show own_t3 Z h33 root (((own4_f0 p0 p1 p2 p3) + (((own4_f0 xl xh p0 p1) + (((own4_f0 p2 p3 xm (xl ^^^ (-1 : Int32))) + (0 : Int64)) + (0 : Int64))) + (0 : Int64))) + (((own4_f0 xm p3 (p2 ^^^ (-1 : Int32)) (xh ^^^ p0)) + (0 : Int64)) + (0 : Int64))) from ⟨_, _, _, _, _, _, _, _, E_root_33, F_a_root_33, F_b_root_33, F_c_root_33, F_d_root_33, F_left_root_33, F_right_root_33, (Or.inr ⟨lf, rfl, (show own_t2 Z h33 lf (((own4_f0 xl xh p0 p1) + (((own4_f0 p2 p3 xm (xl ^^^ (-1 : Int32))) + (0 : Int64)) + (0 : Int64))) + (0 : Int64)) from ⟨_, _, _, _, _, _, _, _, E_lf_33, F_a_lf_33, F_b_lf_33, F_c_lf_33, F_d_lf_33, F_left_lf_33, F_right_lf_33, (Or.inr ⟨ll, rfl, (show own_t1 Z h33 ll (((own4_f0 p2 p3 xm (xl ^^^ (-1 : Int32))) + (0 : Int64)) + (0 : Int64)) from ⟨_, _, _, _, _, _, _, _, E_ll_33, F_a_ll_33, F_b_ll_33, F_c_ll_33, F_d_ll_33, F_left_ll_33, F_right_ll_33, (Or.inl ⟨rfl, rfl⟩), (Or.inl ⟨rfl, rfl⟩), rfl⟩)⟩), (Or.inl ⟨rfl, rfl⟩), rfl⟩)⟩), (Or.inr ⟨r, rfl, (show own_t2 Z h33 r (((own4_f0 xm p3 (p2 ^^^ (-1 : Int32)) (xh ^^^ p0)) + (0 : Int64)) + (0 : Int64)) from ⟨_, _, _, _, _, _, _, _, E_r_33, F_a_r_33, F_b_r_33, F_c_r_33, F_d_r_33, F_left_r_33, F_right_r_33, (Or.inl ⟨rfl, rfl⟩), (Or.inl ⟨rfl, rfl⟩), rfl⟩)⟩), rfl⟩)
          obtain ⟨cq34, kq34, qa34, qb34, qc34⟩ := isOf hZ e33 E_root_33
          obtain ⟨_, _, ⟨T34, L34, k34, n34⟩, -, X34, ⟨Lc34, hQ34, l34, y34, z34⟩, st34⟩ := X33.virtualBack hx (y := (⟨"com/example/fleetwire/fleetwire/bench/Bench$Tree", "fieldSum", "()J"⟩ : MethodName)) (z := (⟨"com/example/fleetwire/fleetwire/bench/Bench$Tree", "fieldSum", "()J"⟩ : MethodName)) hown (mvT hZ (hw _ (List.mem_of_getElem? (i := 26) rfl))) (mvT hZ (hw _ (List.mem_of_getElem? (i := 27) rfl))) (notFace_of_selects (args := #[]) (mvT hZ (hw _ (List.mem_of_getElem? (i := 29) rfl)))) (mvT hZ (hw _ (List.mem_of_getElem? (i := 29) rfl))) (mvT hZ (hw _ (List.mem_of_getElem? (i := 28) rfl))) (by decide) (backOf (W := 0) (rm5_3 l Z t0 hw [] root (((own4_f0 p0 p1 p2 p3) + (((own4_f0 xl xh p0 p1) + (((own4_f0 p2 p3 xm (xl ^^^ (-1 : Int32))) + (0 : Int64)) + (0 : Int64))) + (0 : Int64))) + (((own4_f0 xm p3 (p2 ^^^ (-1 : Int32)) (xh ^^^ p0)) + (0 : Int64)) + (0 : Int64))) h33 n0 Z33 ht) hZ (hw _ (List.mem_of_getElem? (i := 30) rfl)) (hw _ (List.mem_of_getElem? (i := 6) rfl)) (by decide) (by decide)) qa34 qc34 (g := (mkF m 272 #[.val (.int p0), .val (.int p1), .val (.int p2), .val (.int p3), .val (.long q4), .second, .val (.int p5), .val (.int bL), .val (.int bR), .val (.int bLL), .val (.int bRR), .val (.int xl), .val (.int xh), .val (.int xm), .val (.ref root), .val (.long ((((own4_f0 p0 p1 p2 p3) + (own4_f0 xl xh p0 p1)) + (own4_f0 p2 p3 xm (xl ^^^ (-1 : Int32)))) + (own4_f0 xm p3 (p2 ^^^ (-1 : Int32)) (xh ^^^ p0)))), .second, .val (.ref r), .val (.ref ll)] [(.ref root)])) rfl (by rw [hml]; rfl) (Steps.refl _) (argsL := []) (rest := []) (lenOf pd_0_2 rfl) rfl (by show 2 * 0 + _ ≤ _; exact Nat.le_of_eq rfl) (hb hby at_272) (fun _ _ => ⟨rfl, e33, (by decide : 4 + 0 ≤ _), (by decide : 24 + 0 ≤ _)⟩)
          dsimp only [Pt.U, Pt.locs, Pt.cells, Pt.slots] at X34 l34 y34 z34 st34 hQ34
          subst l34 y34 z34
          obtain ⟨rfl, Nq34, hh34⟩ := hQ34
          have N34 := Fr.app N33 Nq34
          have e34 : T34.heap = h33 := hh34
          refine own_go (B := T34.setTop (mkF m 275 #[.val (.int p0), .val (.int p1), .val (.int p2), .val (.int p3), .val (.long q4), .second, .val (.int p5), .val (.int bL), .val (.int bR), .val (.int bLL), .val (.int bRR), .val (.int xl), .val (.int xh), .val (.int xm), .val (.ref root), .val (.long ((((own4_f0 p0 p1 p2 p3) + (own4_f0 xl xh p0 p1)) + (own4_f0 p2 p3 xm (xl ^^^ (-1 : Int32)))) + (own4_f0 xm p3 (p2 ^^^ (-1 : Int32)) (xh ^^^ p0)))), .second, .val (.ref r), .val (.ref ll)] [(.long (((own4_f0 p0 p1 p2 p3) + (((own4_f0 xl xh p0 p1) + (((own4_f0 p2 p3 xm (xl ^^^ (-1 : Int32))) + (0 : Int64)) + (0 : Int64))) + (0 : Int64))) + (((own4_f0 xm p3 (p2 ^^^ (-1 : Int32)) (xh ^^^ p0)) + (0 : Int64)) + (0 : Int64))))])) (fun t kt => st34.trans kt) ?_
          refine own_go (B := T34.setTop (mkF m 286 #[.val (.int p0), .val (.int p1), .val (.int p2), .val (.int p3), .val (.long q4), .second, .val (.int p5), .val (.int bL), .val (.int bR), .val (.int bLL), .val (.int bRR), .val (.int xl), .val (.int xh), .val (.int xm), .val (.ref root), .val (.long ((((own4_f0 p0 p1 p2 p3) + (own4_f0 xl xh p0 p1)) + (own4_f0 p2 p3 xm (xl ^^^ (-1 : Int32)))) + (own4_f0 xm p3 (p2 ^^^ (-1 : Int32)) (xh ^^^ p0)))), .second, .val (.ref r), .val (.ref ll)] [(.int (1 : Int32))])) (fun t kt => ?_) ?_
          · show Steps p.tables e below (T34.setTop (mkF m 275 #[.val (.int p0), .val (.int p1), .val (.int p2), .val (.int p3), .val (.long q4), .second, .val (.int p5), .val (.int bL), .val (.int bR), .val (.int bLL), .val (.int bRR), .val (.int xl), .val (.int xh), .val (.int xm), .val (.ref root), .val (.long ((((own4_f0 p0 p1 p2 p3) + (own4_f0 xl xh p0 p1)) + (own4_f0 p2 p3 xm (xl ^^^ (-1 : Int32)))) + (own4_f0 xm p3 (p2 ^^^ (-1 : Int32)) (xh ^^^ p0)))), .second, .val (.ref r), .val (.ref ll)] [(.long (((own4_f0 p0 p1 p2 p3) + (((own4_f0 xl xh p0 p1) + (((own4_f0 p2 p3 xm (xl ^^^ (-1 : Int32))) + (0 : Int64)) + (0 : Int64))) + (0 : Int64))) + (((own4_f0 xm p3 (p2 ^^^ (-1 : Int32)) (xh ^^^ p0)) + (0 : Int64)) + (0 : Int64))))])) _
            refine XS.lload X34.here hx rfl (hb hby at_275) rfl ?_
            show Steps p.tables e below (T34.setTop (mkF m 277 #[.val (.int p0), .val (.int p1), .val (.int p2), .val (.int p3), .val (.long q4), .second, .val (.int p5), .val (.int bL), .val (.int bR), .val (.int bLL), .val (.int bRR), .val (.int xl), .val (.int xh), .val (.int xm), .val (.ref root), .val (.long ((((own4_f0 p0 p1 p2 p3) + (own4_f0 xl xh p0 p1)) + (own4_f0 p2 p3 xm (xl ^^^ (-1 : Int32)))) + (own4_f0 xm p3 (p2 ^^^ (-1 : Int32)) (xh ^^^ p0)))), .second, .val (.ref r), .val (.ref ll)] [(.long ((((own4_f0 p0 p1 p2 p3) + (own4_f0 xl xh p0 p1)) + (own4_f0 p2 p3 xm (xl ^^^ (-1 : Int32)))) + (own4_f0 xm p3 (p2 ^^^ (-1 : Int32)) (xh ^^^ p0)))), (.long (((own4_f0 p0 p1 p2 p3) + (((own4_f0 xl xh p0 p1) + (((own4_f0 p2 p3 xm (xl ^^^ (-1 : Int32))) + (0 : Int64)) + (0 : Int64))) + (0 : Int64))) + (((own4_f0 xm p3 (p2 ^^^ (-1 : Int32)) (xh ^^^ p0)) + (0 : Int64)) + (0 : Int64))))])) _
            refine XS.lcmp X34.here hx rfl (hb hby at_277) rfl ?_
            show Steps p.tables e below (T34.setTop (mkF m 278 #[.val (.int p0), .val (.int p1), .val (.int p2), .val (.int p3), .val (.long q4), .second, .val (.int p5), .val (.int bL), .val (.int bR), .val (.int bLL), .val (.int bRR), .val (.int xl), .val (.int xh), .val (.int xm), .val (.ref root), .val (.long ((((own4_f0 p0 p1 p2 p3) + (own4_f0 xl xh p0 p1)) + (own4_f0 p2 p3 xm (xl ^^^ (-1 : Int32)))) + (own4_f0 xm p3 (p2 ^^^ (-1 : Int32)) (xh ^^^ p0)))), .second, .val (.ref r), .val (.ref ll)] [(.int (lcmpW (((own4_f0 p0 p1 p2 p3) + (((own4_f0 xl xh p0 p1) + (((own4_f0 p2 p3 xm (xl ^^^ (-1 : Int32))) + (0 : Int64)) + (0 : Int64))) + (0 : Int64))) + (((own4_f0 xm p3 (p2 ^^^ (-1 : Int32)) (xh ^^^ p0)) + (0 : Int64)) + (0 : Int64))) ((((own4_f0 p0 p1 p2 p3) + (own4_f0 xl xh p0 p1)) + (own4_f0 p2 p3 xm (xl ^^^ (-1 : Int32)))) + (own4_f0 xm p3 (p2 ^^^ (-1 : Int32)) (xh ^^^ p0)))))])) _
            refine XS.ifNo X34.here hx rfl (hb hby at_278) rfl ((if0 _ _).trans (teq (show lcmpW (((own4_f0 p0 p1 p2 p3) + (((own4_f0 xl xh p0 p1) + (((own4_f0 p2 p3 xm (xl ^^^ (-1 : Int32))) + (0 : Int64)) + (0 : Int64))) + (0 : Int64))) + (((own4_f0 xm p3 (p2 ^^^ (-1 : Int32)) (xh ^^^ p0)) + (0 : Int64)) + (0 : Int64))) ((((own4_f0 p0 p1 p2 p3) + (own4_f0 xl xh p0 p1)) + (own4_f0 p2 p3 xm (xl ^^^ (-1 : Int32)))) + (own4_f0 xm p3 (p2 ^^^ (-1 : Int32)) (xh ^^^ p0))) = (0 : Int32) from (lw_eq _ _).2 (by simp only [Int64.add_zero, Int64.add_assoc]))).2) ?_
            show Steps p.tables e below (T34.setTop (mkF m 281 #[.val (.int p0), .val (.int p1), .val (.int p2), .val (.int p3), .val (.long q4), .second, .val (.int p5), .val (.int bL), .val (.int bR), .val (.int bLL), .val (.int bRR), .val (.int xl), .val (.int xh), .val (.int xm), .val (.ref root), .val (.long ((((own4_f0 p0 p1 p2 p3) + (own4_f0 xl xh p0 p1)) + (own4_f0 p2 p3 xm (xl ^^^ (-1 : Int32)))) + (own4_f0 xm p3 (p2 ^^^ (-1 : Int32)) (xh ^^^ p0)))), .second, .val (.ref r), .val (.ref ll)] [])) _
            refine XS.iconst X34.here hx rfl (hb hby at_281) ?_
            show Steps p.tables e below (T34.setTop (mkF m 282 #[.val (.int p0), .val (.int p1), .val (.int p2), .val (.int p3), .val (.long q4), .second, .val (.int p5), .val (.int bL), .val (.int bR), .val (.int bLL), .val (.int bRR), .val (.int xl), .val (.int xh), .val (.int xm), .val (.ref root), .val (.long ((((own4_f0 p0 p1 p2 p3) + (own4_f0 xl xh p0 p1)) + (own4_f0 p2 p3 xm (xl ^^^ (-1 : Int32)))) + (own4_f0 xm p3 (p2 ^^^ (-1 : Int32)) (xh ^^^ p0)))), .second, .val (.ref r), .val (.ref ll)] [(.int (1 : Int32))])) _
            refine XS.goto X34.here hx rfl (pc0 := 282) (pc' := 286) rfl (hb hby at_282) (by decide) (by decide) ?_
            exact kt
          obtain ⟨fs, hr, hrun, hended, hW, hsame⟩ := X34.leave (v := some (.int (1 : Int32))) (fun h => by rw [Bd.returns] at h; cases h)
          refine ⟨_, _, ?_, hrun, hended, _, _, rfl, ?_, ⟨_, rfl⟩, hW, hsame.mono (by decide) (by decide)⟩
          · show Steps p.tables e below (T34.setTop (mkF m 286 #[.val (.int p0), .val (.int p1), .val (.int p2), .val (.int p3), .val (.long q4), .second, .val (.int p5), .val (.int bL), .val (.int bR), .val (.int bLL), .val (.int bRR), .val (.int xl), .val (.int xh), .val (.int xm), .val (.ref root), .val (.long ((((own4_f0 p0 p1 p2 p3) + (own4_f0 xl xh p0 p1)) + (own4_f0 p2 p3 xm (xl ^^^ (-1 : Int32)))) + (own4_f0 xm p3 (p2 ^^^ (-1 : Int32)) (xh ^^^ p0)))), .second, .val (.ref r), .val (.ref ll)] [(.int (1 : Int32))])) _
            exact retN X34 hx (t := .boolean) Bd.returns (by simp) (hb hby at_286) hr
          · show Q0 n0 _ _
            exact ⟨rfl, N34⟩
        · refine own_go (B := T32.setTop (mkF m 235 #[.val (.int p0), .val (.int p1), .val (.int p2), .val (.int p3), .val (.long q4), .second, .val (.int p5), .val (.int bL), .val (.int bR), .val (.int bLL), .val (.int bRR), .val (.int xl), .val (.int xh), .val (.int xm), .val (.ref root), .val (.long ((((own4_f0 p0 p1 p2 p3) + (own4_f0 xl xh p0 p1)) + (own4_f0 p2 p3 xm (xl ^^^ (-1 : Int32)))) + (own4_f0 xm p3 (p2 ^^^ (-1 : Int32)) (xh ^^^ p0)))), .second, .val (.ref r), .val (.ref ll)] [(.int (p3 ^^^ (-1 : Int32))), (.int xh), (.int xl), (.int p1)])) (fun t kt => ?_) ?_
          · show Steps p.tables e below (T32.setTop (mkF m 224 #[.val (.int p0), .val (.int p1), .val (.int p2), .val (.int p3), .val (.long q4), .second, .val (.int p5), .val (.int bL), .val (.int bR), .val (.int bLL), .val (.int bRR), .val (.int xl), .val (.int xh), .val (.int xm), .val (.ref root), .val (.long ((((own4_f0 p0 p1 p2 p3) + (own4_f0 xl xh p0 p1)) + (own4_f0 p2 p3 xm (xl ^^^ (-1 : Int32)))) + (own4_f0 xm p3 (p2 ^^^ (-1 : Int32)) (xh ^^^ p0)))), .second, .val (.ref r), .val (.ref ll)] [(.int bRR)])) _
            refine XS.ifNo X32.here hx rfl (hb hby at_224) rfl ((if0 _ _).trans (feq hcRR).1) ?_
            show Steps p.tables e below (T32.setTop (mkF m 227 #[.val (.int p0), .val (.int p1), .val (.int p2), .val (.int p3), .val (.long q4), .second, .val (.int p5), .val (.int bL), .val (.int bR), .val (.int bLL), .val (.int bRR), .val (.int xl), .val (.int xh), .val (.int xm), .val (.ref root), .val (.long ((((own4_f0 p0 p1 p2 p3) + (own4_f0 xl xh p0 p1)) + (own4_f0 p2 p3 xm (xl ^^^ (-1 : Int32)))) + (own4_f0 xm p3 (p2 ^^^ (-1 : Int32)) (xh ^^^ p0)))), .second, .val (.ref r), .val (.ref ll)] [])) _
            refine XS.iloadN X32.here hx rfl (hb hby at_227) rfl ?_
            show Steps p.tables e below (T32.setTop (mkF m 228 #[.val (.int p0), .val (.int p1), .val (.int p2), .val (.int p3), .val (.long q4), .second, .val (.int p5), .val (.int bL), .val (.int bR), .val (.int bLL), .val (.int bRR), .val (.int xl), .val (.int xh), .val (.int xm), .val (.ref root), .val (.long ((((own4_f0 p0 p1 p2 p3) + (own4_f0 xl xh p0 p1)) + (own4_f0 p2 p3 xm (xl ^^^ (-1 : Int32)))) + (own4_f0 xm p3 (p2 ^^^ (-1 : Int32)) (xh ^^^ p0)))), .second, .val (.ref r), .val (.ref ll)] [(.int p1)])) _
            refine XS.iload X32.here hx rfl (hb hby at_228) rfl ?_
            show Steps p.tables e below (T32.setTop (mkF m 230 #[.val (.int p0), .val (.int p1), .val (.int p2), .val (.int p3), .val (.long q4), .second, .val (.int p5), .val (.int bL), .val (.int bR), .val (.int bLL), .val (.int bRR), .val (.int xl), .val (.int xh), .val (.int xm), .val (.ref root), .val (.long ((((own4_f0 p0 p1 p2 p3) + (own4_f0 xl xh p0 p1)) + (own4_f0 p2 p3 xm (xl ^^^ (-1 : Int32)))) + (own4_f0 xm p3 (p2 ^^^ (-1 : Int32)) (xh ^^^ p0)))), .second, .val (.ref r), .val (.ref ll)] [(.int xl), (.int p1)])) _
            refine XS.iload X32.here hx rfl (hb hby at_230) rfl ?_
            show Steps p.tables e below (T32.setTop (mkF m 232 #[.val (.int p0), .val (.int p1), .val (.int p2), .val (.int p3), .val (.long q4), .second, .val (.int p5), .val (.int bL), .val (.int bR), .val (.int bLL), .val (.int bRR), .val (.int xl), .val (.int xh), .val (.int xm), .val (.ref root), .val (.long ((((own4_f0 p0 p1 p2 p3) + (own4_f0 xl xh p0 p1)) + (own4_f0 p2 p3 xm (xl ^^^ (-1 : Int32)))) + (own4_f0 xm p3 (p2 ^^^ (-1 : Int32)) (xh ^^^ p0)))), .second, .val (.ref r), .val (.ref ll)] [(.int xh), (.int xl), (.int p1)])) _
            refine XS.iloadN X32.here hx rfl (hb hby at_232) rfl ?_
            show Steps p.tables e below (T32.setTop (mkF m 233 #[.val (.int p0), .val (.int p1), .val (.int p2), .val (.int p3), .val (.long q4), .second, .val (.int p5), .val (.int bL), .val (.int bR), .val (.int bLL), .val (.int bRR), .val (.int xl), .val (.int xh), .val (.int xm), .val (.ref root), .val (.long ((((own4_f0 p0 p1 p2 p3) + (own4_f0 xl xh p0 p1)) + (own4_f0 p2 p3 xm (xl ^^^ (-1 : Int32)))) + (own4_f0 xm p3 (p2 ^^^ (-1 : Int32)) (xh ^^^ p0)))), .second, .val (.ref r), .val (.ref ll)] [(.int p3), (.int xh), (.int xl), (.int p1)])) _
            refine XS.iconst X32.here hx rfl (hb hby at_233) ?_
            show Steps p.tables e below (T32.setTop (mkF m 234 #[.val (.int p0), .val (.int p1), .val (.int p2), .val (.int p3), .val (.long q4), .second, .val (.int p5), .val (.int bL), .val (.int bR), .val (.int bLL), .val (.int bRR), .val (.int xl), .val (.int xh), .val (.int xm), .val (.ref root), .val (.long ((((own4_f0 p0 p1 p2 p3) + (own4_f0 xl xh p0 p1)) + (own4_f0 p2 p3 xm (xl ^^^ (-1 : Int32)))) + (own4_f0 xm p3 (p2 ^^^ (-1 : Int32)) (xh ^^^ p0)))), .second, .val (.ref r), .val (.ref ll)] [(.int (-1 : Int32)), (.int p3), (.int xh), (.int xl), (.int p1)])) _
            refine XS.ixor X32.here hx rfl (hb hby at_234) rfl ?_
            exact kt
          obtain ⟨_, _, ⟨T35, L35, k35, n35⟩, -, X35, ⟨Lc35, hQ35, l35, y35, z35⟩, st35⟩ := Jvm.LawKit.callS X32 hx (y := (⟨"com/example/fleetwire/fleetwire/bench/TreeFieldSumPinLaw", "node", "(IIII)Lcom/example/fleetwire/fleetwire/bench/Bench$Tree;"⟩ : MethodName)) hown (mvT hZ (hw _ (List.mem_of_getElem? (i := 0) rfl))) (mvT hZ (hw _ (List.mem_of_getElem? (i := 1) rfl))) (mvT hZ (hw _ (List.mem_of_getElem? (i := 2) rfl))) (mvT hZ (hw _ (List.mem_of_getElem? (i := 3) rfl))) (by decide) (backOf (W := 0) (rm1 l Z t0 hw [] p1 xl xh (p3 ^^^ (-1 : Int32)) h31 n0 Z31) hZ (hw _ (List.mem_of_getElem? (i := 3) rfl)) (hw _ (List.mem_of_getElem? (i := 2) rfl)) (by decide) (by decide)) (g := (mkF m 235 #[.val (.int p0), .val (.int p1), .val (.int p2), .val (.int p3), .val (.long q4), .second, .val (.int p5), .val (.int bL), .val (.int bR), .val (.int bLL), .val (.int bRR), .val (.int xl), .val (.int xh), .val (.int xm), .val (.ref root), .val (.long ((((own4_f0 p0 p1 p2 p3) + (own4_f0 xl xh p0 p1)) + (own4_f0 p2 p3 xm (xl ^^^ (-1 : Int32)))) + (own4_f0 xm p3 (p2 ^^^ (-1 : Int32)) (xh ^^^ p0)))), .second, .val (.ref r), .val (.ref ll)] [(.int (p3 ^^^ (-1 : Int32))), (.int xh), (.int xl), (.int p1)])) rfl (by rw [hml]; rfl) (argsL := [(.int p1), (.int xl), (.int xh), (.int (p3 ^^^ (-1 : Int32)))]) (rest := []) (lenOf pd_0_0 rfl) rfl (by show 2 * 0 + _ ≤ _; exact Nat.le_of_eq rfl) (hb hby at_235) (fun _ _ => ⟨rfl, e32, (by decide : 4 + 1 ≤ _), (by decide : 24 + 6 ≤ _)⟩)
          dsimp only [Pt.U, Pt.locs, Pt.cells, Pt.slots] at X35 l35 y35 z35 st35 hQ35
          subst l35 y35 z35
          obtain ⟨rr, rfl, Nq35, Kc35, zb35, gb35, ex35, fa35, fb35, fc35, fd35, fleft35, fright35⟩ := hQ35
          have N35 := Fr.app N32 Nq35
          obtain ⟨h35, e35⟩ : ∃ z, T35.heap = z := ⟨_, rfl⟩
          rw [e35] at Kc35 fa35 fb35 fc35 fd35 fleft35 fright35 ex35
          have E_root_35 := E_root_31.keep Kc35
          have F_a_root_35 := F_a_root_31.keep Kc35 nin0
          have F_b_root_35 := F_b_root_31.keep Kc35 nin0
          have F_c_root_35 := F_c_root_31.keep Kc35 nin0
          have F_d_root_35 := F_d_root_31.keep Kc35 nin0
          have F_left_root_35 := F_left_root_31.keep Kc35 nin0
          have F_right_root_35 := F_right_root_31.keep Kc35 nin0
          have E_lf_35 := E_lf_31.keep Kc35
          have F_a_lf_35 := F_a_lf_31.keep Kc35 nin0
          have F_b_lf_35 := F_b_lf_31.keep Kc35 nin0
          have F_c_lf_35 := F_c_lf_31.keep Kc35 nin0
          have F_d_lf_35 := F_d_lf_31.keep Kc35 nin0
          have F_left_lf_35 := F_left_lf_31.keep Kc35 nin0
          have F_right_lf_35 := F_right_lf_31.keep Kc35 nin0
          have E_ll_35 := E_ll_31.keep Kc35
          have F_a_ll_35 := F_a_ll_31.keep Kc35 nin0
          have F_b_ll_35 := F_b_ll_31.keep Kc35 nin0
          have F_c_ll_35 := F_c_ll_31.keep Kc35 nin0
          have F_d_ll_35 := F_d_ll_31.keep Kc35 nin0
          have F_left_ll_35 := F_left_ll_31.keep Kc35 nin0
          have F_right_ll_35 := F_right_ll_31.keep Kc35 nin0
          have E_r_35 := ex31.keep Kc35
          have F_a_r_35 := fa31.keep Kc35 nin0
          have F_b_r_35 := fb31.keep Kc35 nin0
          have F_c_r_35 := fc31.keep Kc35 nin0
          have F_d_r_35 := fd31.keep Kc35 nin0
          have F_left_r_35 := fleft31.keep Kc35 nin0
          have F_right_r_35 := fright31.keep Kc35 nin0
          have Z35 : n0 ≤ h35.size := Nat.le_trans Z31 Kc35.1
          have ne_root_rr : root ≠ rr := Nat.ne_of_lt (Nat.lt_of_lt_of_le E_root_31.lt zb35)
          have ne_lf_rr : lf ≠ rr := Nat.ne_of_lt (Nat.lt_of_lt_of_le E_lf_31.lt zb35)
          have ne_ll_rr : ll ≠ rr := Nat.ne_of_lt (Nat.lt_of_lt_of_le E_ll_31.lt zb35)
          have ne_r_rr : r ≠ rr := Nat.ne_of_lt (Nat.lt_of_lt_of_le ex31.lt zb35)
          refine own_go (B := T35.setTop (mkF m 238 #[.val (.int p0), .val (.int p1), .val (.int p2), .val (.int p3), .val (.long q4), .second, .val (.int p5), .val (.int bL), .val (.int bR), .val (.int bLL), .val (.int bRR), .val (.int xl), .val (.int xh), .val (.int xm), .val (.ref root), .val (.long ((((own4_f0 p0 p1 p2 p3) + (own4_f0 xl xh p0 p1)) + (own4_f0 p2 p3 xm (xl ^^^ (-1 : Int32)))) + (own4_f0 xm p3 (p2 ^^^ (-1 : Int32)) (xh ^^^ p0)))), .second, .val (.ref r), .val (.ref ll)] [(.ref rr)])) (fun t kt => st35 t kt) ?_
          refine own_go (B := T35.setTop (mkF m 250 #[.val (.int p0), .val (.int p1), .val (.int p2), .val (.int p3), .val (.long q4), .second, .val (.int p5), .val (.int bL), .val (.int bR), .val (.int bLL), .val (.int bRR), .val (.int xl), .val (.int xh), .val (.int xm), .val (.ref root), .val (.long ((((own4_f0 p0 p1 p2 p3) + (own4_f0 xl xh p0 p1)) + (own4_f0 p2 p3 xm (xl ^^^ (-1 : Int32)))) + (own4_f0 xm p3 (p2 ^^^ (-1 : Int32)) (xh ^^^ p0)))), .second, .val (.ref r), .val (.ref rr)] [(.int (p3 ^^^ (-1 : Int32))), (.int xh), (.int xl), (.int p1), (.long ((((own4_f0 p0 p1 p2 p3) + (own4_f0 xl xh p0 p1)) + (own4_f0 p2 p3 xm (xl ^^^ (-1 : Int32)))) + (own4_f0 xm p3 (p2 ^^^ (-1 : Int32)) (xh ^^^ p0))))])) (fun t kt => ?_) ?_
          · show Steps p.tables e below (T35.setTop (mkF m 238 #[.val (.int p0), .val (.int p1), .val (.int p2), .val (.int p3), .val (.long q4), .second, .val (.int p5), .val (.int bL), .val (.int bR), .val (.int bLL), .val (.int bRR), .val (.int xl), .val (.int xh), .val (.int xm), .val (.ref root), .val (.long ((((own4_f0 p0 p1 p2 p3) + (own4_f0 xl xh p0 p1)) + (own4_f0 p2 p3 xm (xl ^^^ (-1 : Int32)))) + (own4_f0 xm p3 (p2 ^^^ (-1 : Int32)) (xh ^^^ p0)))), .second, .val (.ref r), .val (.ref ll)] [(.ref rr)])) _
            refine XS.astore X35.here hx rfl (hb hby at_238) rfl rfl (l' := #[.val (.int p0), .val (.int p1), .val (.int p2), .val (.int p3), .val (.long q4), .second, .val (.int p5), .val (.int bL), .val (.int bR), .val (.int bLL), .val (.int bRR), .val (.int xl), .val (.int xh), .val (.int xm), .val (.ref root), .val (.long ((((own4_f0 p0 p1 p2 p3) + (own4_f0 xl xh p0 p1)) + (own4_f0 p2 p3 xm (xl ^^^ (-1 : Int32)))) + (own4_f0 xm p3 (p2 ^^^ (-1 : Int32)) (xh ^^^ p0)))), .second, .val (.ref r), .val (.ref rr)]) rfl ?_
            show Steps p.tables e below (T35.setTop (mkF m 240 #[.val (.int p0), .val (.int p1), .val (.int p2), .val (.int p3), .val (.long q4), .second, .val (.int p5), .val (.int bL), .val (.int bR), .val (.int bLL), .val (.int bRR), .val (.int xl), .val (.int xh), .val (.int xm), .val (.ref root), .val (.long ((((own4_f0 p0 p1 p2 p3) + (own4_f0 xl xh p0 p1)) + (own4_f0 p2 p3 xm (xl ^^^ (-1 : Int32)))) + (own4_f0 xm p3 (p2 ^^^ (-1 : Int32)) (xh ^^^ p0)))), .second, .val (.ref r), .val (.ref rr)] [])) _
            refine XS.lload X35.here hx rfl (hb hby at_240) rfl ?_
            show Steps p.tables e below (T35.setTop (mkF m 242 #[.val (.int p0), .val (.int p1), .val (.int p2), .val (.int p3), .val (.long q4), .second, .val (.int p5), .val (.int bL), .val (.int bR), .val (.int bLL), .val (.int bRR), .val (.int xl), .val (.int xh), .val (.int xm), .val (.ref root), .val (.long ((((own4_f0 p0 p1 p2 p3) + (own4_f0 xl xh p0 p1)) + (own4_f0 p2 p3 xm (xl ^^^ (-1 : Int32)))) + (own4_f0 xm p3 (p2 ^^^ (-1 : Int32)) (xh ^^^ p0)))), .second, .val (.ref r), .val (.ref rr)] [(.long ((((own4_f0 p0 p1 p2 p3) + (own4_f0 xl xh p0 p1)) + (own4_f0 p2 p3 xm (xl ^^^ (-1 : Int32)))) + (own4_f0 xm p3 (p2 ^^^ (-1 : Int32)) (xh ^^^ p0))))])) _
            refine XS.iloadN X35.here hx rfl (hb hby at_242) rfl ?_
            show Steps p.tables e below (T35.setTop (mkF m 243 #[.val (.int p0), .val (.int p1), .val (.int p2), .val (.int p3), .val (.long q4), .second, .val (.int p5), .val (.int bL), .val (.int bR), .val (.int bLL), .val (.int bRR), .val (.int xl), .val (.int xh), .val (.int xm), .val (.ref root), .val (.long ((((own4_f0 p0 p1 p2 p3) + (own4_f0 xl xh p0 p1)) + (own4_f0 p2 p3 xm (xl ^^^ (-1 : Int32)))) + (own4_f0 xm p3 (p2 ^^^ (-1 : Int32)) (xh ^^^ p0)))), .second, .val (.ref r), .val (.ref rr)] [(.int p1), (.long ((((own4_f0 p0 p1 p2 p3) + (own4_f0 xl xh p0 p1)) + (own4_f0 p2 p3 xm (xl ^^^ (-1 : Int32)))) + (own4_f0 xm p3 (p2 ^^^ (-1 : Int32)) (xh ^^^ p0))))])) _
            refine XS.iload X35.here hx rfl (hb hby at_243) rfl ?_
            show Steps p.tables e below (T35.setTop (mkF m 245 #[.val (.int p0), .val (.int p1), .val (.int p2), .val (.int p3), .val (.long q4), .second, .val (.int p5), .val (.int bL), .val (.int bR), .val (.int bLL), .val (.int bRR), .val (.int xl), .val (.int xh), .val (.int xm), .val (.ref root), .val (.long ((((own4_f0 p0 p1 p2 p3) + (own4_f0 xl xh p0 p1)) + (own4_f0 p2 p3 xm (xl ^^^ (-1 : Int32)))) + (own4_f0 xm p3 (p2 ^^^ (-1 : Int32)) (xh ^^^ p0)))), .second, .val (.ref r), .val (.ref rr)] [(.int xl), (.int p1), (.long ((((own4_f0 p0 p1 p2 p3) + (own4_f0 xl xh p0 p1)) + (own4_f0 p2 p3 xm (xl ^^^ (-1 : Int32)))) + (own4_f0 xm p3 (p2 ^^^ (-1 : Int32)) (xh ^^^ p0))))])) _
            refine XS.iload X35.here hx rfl (hb hby at_245) rfl ?_
            show Steps p.tables e below (T35.setTop (mkF m 247 #[.val (.int p0), .val (.int p1), .val (.int p2), .val (.int p3), .val (.long q4), .second, .val (.int p5), .val (.int bL), .val (.int bR), .val (.int bLL), .val (.int bRR), .val (.int xl), .val (.int xh), .val (.int xm), .val (.ref root), .val (.long ((((own4_f0 p0 p1 p2 p3) + (own4_f0 xl xh p0 p1)) + (own4_f0 p2 p3 xm (xl ^^^ (-1 : Int32)))) + (own4_f0 xm p3 (p2 ^^^ (-1 : Int32)) (xh ^^^ p0)))), .second, .val (.ref r), .val (.ref rr)] [(.int xh), (.int xl), (.int p1), (.long ((((own4_f0 p0 p1 p2 p3) + (own4_f0 xl xh p0 p1)) + (own4_f0 p2 p3 xm (xl ^^^ (-1 : Int32)))) + (own4_f0 xm p3 (p2 ^^^ (-1 : Int32)) (xh ^^^ p0))))])) _
            refine XS.iloadN X35.here hx rfl (hb hby at_247) rfl ?_
            show Steps p.tables e below (T35.setTop (mkF m 248 #[.val (.int p0), .val (.int p1), .val (.int p2), .val (.int p3), .val (.long q4), .second, .val (.int p5), .val (.int bL), .val (.int bR), .val (.int bLL), .val (.int bRR), .val (.int xl), .val (.int xh), .val (.int xm), .val (.ref root), .val (.long ((((own4_f0 p0 p1 p2 p3) + (own4_f0 xl xh p0 p1)) + (own4_f0 p2 p3 xm (xl ^^^ (-1 : Int32)))) + (own4_f0 xm p3 (p2 ^^^ (-1 : Int32)) (xh ^^^ p0)))), .second, .val (.ref r), .val (.ref rr)] [(.int p3), (.int xh), (.int xl), (.int p1), (.long ((((own4_f0 p0 p1 p2 p3) + (own4_f0 xl xh p0 p1)) + (own4_f0 p2 p3 xm (xl ^^^ (-1 : Int32)))) + (own4_f0 xm p3 (p2 ^^^ (-1 : Int32)) (xh ^^^ p0))))])) _
            refine XS.iconst X35.here hx rfl (hb hby at_248) ?_
            show Steps p.tables e below (T35.setTop (mkF m 249 #[.val (.int p0), .val (.int p1), .val (.int p2), .val (.int p3), .val (.long q4), .second, .val (.int p5), .val (.int bL), .val (.int bR), .val (.int bLL), .val (.int bRR), .val (.int xl), .val (.int xh), .val (.int xm), .val (.ref root), .val (.long ((((own4_f0 p0 p1 p2 p3) + (own4_f0 xl xh p0 p1)) + (own4_f0 p2 p3 xm (xl ^^^ (-1 : Int32)))) + (own4_f0 xm p3 (p2 ^^^ (-1 : Int32)) (xh ^^^ p0)))), .second, .val (.ref r), .val (.ref rr)] [(.int (-1 : Int32)), (.int p3), (.int xh), (.int xl), (.int p1), (.long ((((own4_f0 p0 p1 p2 p3) + (own4_f0 xl xh p0 p1)) + (own4_f0 p2 p3 xm (xl ^^^ (-1 : Int32)))) + (own4_f0 xm p3 (p2 ^^^ (-1 : Int32)) (xh ^^^ p0))))])) _
            refine XS.ixor X35.here hx rfl (hb hby at_249) rfl ?_
            exact kt
          obtain ⟨_, _, ⟨T36, L36, k36, n36⟩, -, X36, ⟨Lc36, hQ36, l36, y36, z36⟩, st36⟩ := Jvm.LawKit.callS X35 hx (y := (⟨"com/example/fleetwire/fleetwire/bench/TreeFieldSumPinLaw", "s", "(IIII)J"⟩ : MethodName)) hown (mvT hZ (hw _ (List.mem_of_getElem? (i := 21) rfl))) (mvT hZ (hw _ (List.mem_of_getElem? (i := 22) rfl))) (mvT hZ (hw _ (List.mem_of_getElem? (i := 2) rfl))) (mvT hZ (hw _ (List.mem_of_getElem? (i := 23) rfl))) (by decide) (backOf (W := 2) (rm4 l Z t0 hw [] p1 xl xh (p3 ^^^ (-1 : Int32)) h35 n0 Z35) hZ (hw _ (List.mem_of_getElem? (i := 23) rfl)) (hw _ (List.mem_of_getElem? (i := 2) rfl)) (by decide) (by decide)) (g := (mkF m 250 #[.val (.int p0), .val (.int p1), .val (.int p2), .val (.int p3), .val (.long q4), .second, .val (.int p5), .val (.int bL), .val (.int bR), .val (.int bLL), .val (.int bRR), .val (.int xl), .val (.int xh), .val (.int xm), .val (.ref root), .val (.long ((((own4_f0 p0 p1 p2 p3) + (own4_f0 xl xh p0 p1)) + (own4_f0 p2 p3 xm (xl ^^^ (-1 : Int32)))) + (own4_f0 xm p3 (p2 ^^^ (-1 : Int32)) (xh ^^^ p0)))), .second, .val (.ref r), .val (.ref rr)] [(.int (p3 ^^^ (-1 : Int32))), (.int xh), (.int xl), (.int p1), (.long ((((own4_f0 p0 p1 p2 p3) + (own4_f0 xl xh p0 p1)) + (own4_f0 p2 p3 xm (xl ^^^ (-1 : Int32)))) + (own4_f0 xm p3 (p2 ^^^ (-1 : Int32)) (xh ^^^ p0))))])) rfl (by rw [hml]; rfl) (argsL := [(.int p1), (.int xl), (.int xh), (.int (p3 ^^^ (-1 : Int32)))]) (rest := [(.long ((((own4_f0 p0 p1 p2 p3) + (own4_f0 xl xh p0 p1)) + (own4_f0 p2 p3 xm (xl ^^^ (-1 : Int32)))) + (own4_f0 xm p3 (p2 ^^^ (-1 : Int32)) (xh ^^^ p0))))]) (lenOf pd_0_1 rfl) rfl (by show 2 * 0 + _ ≤ _; exact Nat.le_of_eq rfl) (hb hby at_250) (fun _ _ => ⟨rfl, e35, (by decide : 5 + 0 ≤ _), (by decide : 30 + 0 ≤ _)⟩)
          dsimp only [Pt.U, Pt.locs, Pt.cells, Pt.slots] at X36 l36 y36 z36 st36 hQ36
          subst l36 y36 z36
          obtain ⟨rfl, Nq36, hh36⟩ := hQ36
          have N36 := Fr.app N35 Nq36
          have e36 : T36.heap = h35 := hh36
          refine own_go (B := T36.setTop (mkF m 253 #[.val (.int p0), .val (.int p1), .val (.int p2), .val (.int p3), .val (.long q4), .second, .val (.int p5), .val (.int bL), .val (.int bR), .val (.int bLL), .val (.int bRR), .val (.int xl), .val (.int xh), .val (.int xm), .val (.ref root), .val (.long ((((own4_f0 p0 p1 p2 p3) + (own4_f0 xl xh p0 p1)) + (own4_f0 p2 p3 xm (xl ^^^ (-1 : Int32)))) + (own4_f0 xm p3 (p2 ^^^ (-1 : Int32)) (xh ^^^ p0)))), .second, .val (.ref r), .val (.ref rr)] [(.long (own4_f0 p1 xl xh (p3 ^^^ (-1 : Int32)))), (.long ((((own4_f0 p0 p1 p2 p3) + (own4_f0 xl xh p0 p1)) + (own4_f0 p2 p3 xm (xl ^^^ (-1 : Int32)))) + (own4_f0 xm p3 (p2 ^^^ (-1 : Int32)) (xh ^^^ p0))))])) (fun t kt => st36 t kt) ?_
          refine own_go (B := T36.setTop (mkF m 260 #[.val (.int p0), .val (.int p1), .val (.int p2), .val (.int p3), .val (.long q4), .second, .val (.int p5), .val (.int bL), .val (.int bR), .val (.int bLL), .val (.int bRR), .val (.int xl), .val (.int xh), .val (.int xm), .val (.ref root), .val (.long (((((own4_f0 p0 p1 p2 p3) + (own4_f0 xl xh p0 p1)) + (own4_f0 p2 p3 xm (xl ^^^ (-1 : Int32)))) + (own4_f0 xm p3 (p2 ^^^ (-1 : Int32)) (xh ^^^ p0))) + (own4_f0 p1 xl xh (p3 ^^^ (-1 : Int32))))), .second, .val (.ref r), .val (.ref rr)] [(.ref rr), (.ref r)])) (fun t kt => ?_) ?_
          · show Steps p.tables e below (T36.setTop (mkF m 253 #[.val (.int p0), .val (.int p1), .val (.int p2), .val (.int p3), .val (.long q4), .second, .val (.int p5), .val (.int bL), .val (.int bR), .val (.int bLL), .val (.int bRR), .val (.int xl), .val (.int xh), .val (.int xm), .val (.ref root), .val (.long ((((own4_f0 p0 p1 p2 p3) + (own4_f0 xl xh p0 p1)) + (own4_f0 p2 p3 xm (xl ^^^ (-1 : Int32)))) + (own4_f0 xm p3 (p2 ^^^ (-1 : Int32)) (xh ^^^ p0)))), .second, .val (.ref r), .val (.ref rr)] [(.long (own4_f0 p1 xl xh (p3 ^^^ (-1 : Int32)))), (.long ((((own4_f0 p0 p1 p2 p3) + (own4_f0 xl xh p0 p1)) + (own4_f0 p2 p3 xm (xl ^^^ (-1 : Int32)))) + (own4_f0 xm p3 (p2 ^^^ (-1 : Int32)) (xh ^^^ p0))))])) _
            refine XS.ladd X36.here hx rfl (hb hby at_253) rfl ?_
            show Steps p.tables e below (T36.setTop (mkF m 254 #[.val (.int p0), .val (.int p1), .val (.int p2), .val (.int p3), .val (.long q4), .second, .val (.int p5), .val (.int bL), .val (.int bR), .val (.int bLL), .val (.int bRR), .val (.int xl), .val (.int xh), .val (.int xm), .val (.ref root), .val (.long ((((own4_f0 p0 p1 p2 p3) + (own4_f0 xl xh p0 p1)) + (own4_f0 p2 p3 xm (xl ^^^ (-1 : Int32)))) + (own4_f0 xm p3 (p2 ^^^ (-1 : Int32)) (xh ^^^ p0)))), .second, .val (.ref r), .val (.ref rr)] [(.long (((((own4_f0 p0 p1 p2 p3) + (own4_f0 xl xh p0 p1)) + (own4_f0 p2 p3 xm (xl ^^^ (-1 : Int32)))) + (own4_f0 xm p3 (p2 ^^^ (-1 : Int32)) (xh ^^^ p0))) + (own4_f0 p1 xl xh (p3 ^^^ (-1 : Int32)))))])) _
            refine XS.lstore X36.here hx rfl (hb hby at_254) rfl (l' := #[.val (.int p0), .val (.int p1), .val (.int p2), .val (.int p3), .val (.long q4), .second, .val (.int p5), .val (.int bL), .val (.int bR), .val (.int bLL), .val (.int bRR), .val (.int xl), .val (.int xh), .val (.int xm), .val (.ref root), .val (.long (((((own4_f0 p0 p1 p2 p3) + (own4_f0 xl xh p0 p1)) + (own4_f0 p2 p3 xm (xl ^^^ (-1 : Int32)))) + (own4_f0 xm p3 (p2 ^^^ (-1 : Int32)) (xh ^^^ p0))) + (own4_f0 p1 xl xh (p3 ^^^ (-1 : Int32))))), .second, .val (.ref r), .val (.ref rr)]) rfl ?_
            show Steps p.tables e below (T36.setTop (mkF m 256 #[.val (.int p0), .val (.int p1), .val (.int p2), .val (.int p3), .val (.long q4), .second, .val (.int p5), .val (.int bL), .val (.int bR), .val (.int bLL), .val (.int bRR), .val (.int xl), .val (.int xh), .val (.int xm), .val (.ref root), .val (.long (((((own4_f0 p0 p1 p2 p3) + (own4_f0 xl xh p0 p1)) + (own4_f0 p2 p3 xm (xl ^^^ (-1 : Int32)))) + (own4_f0 xm p3 (p2 ^^^ (-1 : Int32)) (xh ^^^ p0))) + (own4_f0 p1 xl xh (p3 ^^^ (-1 : Int32))))), .second, .val (.ref r), .val (.ref rr)] [])) _
            refine XS.aload X36.here hx rfl (hb hby at_256) rfl rfl ?_
            show Steps p.tables e below (T36.setTop (mkF m 258 #[.val (.int p0), .val (.int p1), .val (.int p2), .val (.int p3), .val (.long q4), .second, .val (.int p5), .val (.int bL), .val (.int bR), .val (.int bLL), .val (.int bRR), .val (.int xl), .val (.int xh), .val (.int xm), .val (.ref root), .val (.long (((((own4_f0 p0 p1 p2 p3) + (own4_f0 xl xh p0 p1)) + (own4_f0 p2 p3 xm (xl ^^^ (-1 : Int32)))) + (own4_f0 xm p3 (p2 ^^^ (-1 : Int32)) (xh ^^^ p0))) + (own4_f0 p1 xl xh (p3 ^^^ (-1 : Int32))))), .second, .val (.ref r), .val (.ref rr)] [(.ref r)])) _
            refine XS.aload X36.here hx rfl (hb hby at_258) rfl rfl ?_
            exact kt
          obtain ⟨T37, h37, X37, e37, W37, st37⟩ := putF X36 hx hZ hown (host := "") (Or.inl (hw _ (List.mem_of_getElem? (i := 24) rfl))) Via.refl e36 F_right_r_35 E_r_35 (Or.inl (hw _ (List.mem_of_getElem? (i := 25) rfl))) (hw _ (List.mem_of_getElem? (i := 5) rfl)) (ty := (.object "com/example/fleetwire/fleetwire/bench/Bench$Tree")) (by decide) rfl rfl (g := (mkF m 260 #[.val (.int p0), .val (.int p1), .val (.int p2), .val (.int p3), .val (.long q4), .second, .val (.int p5), .val (.int bL), .val (.int bR), .val (.int bLL), .val (.int bRR), .val (.int xl), .val (.int xh), .val (.int xm), .val (.ref root), .val (.long (((((own4_f0 p0 p1 p2 p3) + (own4_f0 xl xh p0 p1)) + (own4_f0 p2 p3 xm (xl ^^^ (-1 : Int32)))) + (own4_f0 xm p3 (p2 ^^^ (-1 : Int32)) (xh ^^^ p0))) + (own4_f0 p1 xl xh (p3 ^^^ (-1 : Int32))))), .second, .val (.ref r), .val (.ref rr)] [(.ref rr), (.ref r)])) rfl rfl (hb hby at_260)
          have F_right_r_37 : Fld Z h37 r "com/example/fleetwire/fleetwire/bench/Bench$Tree" "right" "Lcom/example/fleetwire/fleetwire/bench/Bench$Tree;" (.ref rr) := F_right_r_35.same W37
          have E_root_37 := E_root_35.wr W37
          have F_a_root_37 := F_a_root_35.other W37 (Or.inl ne_root_r)
          have F_b_root_37 := F_b_root_35.other W37 (Or.inl ne_root_r)
          have F_c_root_37 := F_c_root_35.other W37 (Or.inl ne_root_r)
          have F_d_root_37 := F_d_root_35.other W37 (Or.inl ne_root_r)
          have F_left_root_37 := F_left_root_35.other W37 (Or.inl ne_root_r)
          have F_right_root_37 := F_right_root_35.other W37 (Or.inl ne_root_r)
          have E_lf_37 := E_lf_35.wr W37
          have F_a_lf_37 := F_a_lf_35.other W37 (Or.inl ne_lf_r)
          have F_b_lf_37 := F_b_lf_35.other W37 (Or.inl ne_lf_r)
          have F_c_lf_37 := F_c_lf_35.other W37 (Or.inl ne_lf_r)
          have F_d_lf_37 := F_d_lf_35.other W37 (Or.inl ne_lf_r)
          have F_left_lf_37 := F_left_lf_35.other W37 (Or.inl ne_lf_r)
          have F_right_lf_37 := F_right_lf_35.other W37 (Or.inl ne_lf_r)
          have E_ll_37 := E_ll_35.wr W37
          have F_a_ll_37 := F_a_ll_35.other W37 (Or.inl ne_ll_r)
          have F_b_ll_37 := F_b_ll_35.other W37 (Or.inl ne_ll_r)
          have F_c_ll_37 := F_c_ll_35.other W37 (Or.inl ne_ll_r)
          have F_d_ll_37 := F_d_ll_35.other W37 (Or.inl ne_ll_r)
          have F_left_ll_37 := F_left_ll_35.other W37 (Or.inl ne_ll_r)
          have F_right_ll_37 := F_right_ll_35.other W37 (Or.inl ne_ll_r)
          have E_r_37 := E_r_35.wr W37
          have F_a_r_37 := F_a_r_35.other W37 (Or.inr (slot_ne (Or.inl (hw _ (List.mem_of_getElem? (i := 14) rfl))) (Or.inl (hw _ (List.mem_of_getElem? (i := 25) rfl))) (by decide) (t := .int) (t' := (.object "com/example/fleetwire/fleetwire/bench/Bench$Tree")) (by decide) (by decide)))
          have F_b_r_37 := F_b_r_35.other W37 (Or.inr (slot_ne (Or.inl (hw _ (List.mem_of_getElem? (i := 16) rfl))) (Or.inl (hw _ (List.mem_of_getElem? (i := 25) rfl))) (by decide) (t := .int) (t' := (.object "com/example/fleetwire/fleetwire/bench/Bench$Tree")) (by decide) (by decide)))
          have F_c_r_37 := F_c_r_35.other W37 (Or.inr (slot_ne (Or.inl (hw _ (List.mem_of_getElem? (i := 18) rfl))) (Or.inl (hw _ (List.mem_of_getElem? (i := 25) rfl))) (by decide) (t := .int) (t' := (.object "com/example/fleetwire/fleetwire/bench/Bench$Tree")) (by decide) (by decide)))
          have F_d_r_37 := F_d_r_35.other W37 (Or.inr (slot_ne (Or.inl (hw _ (List.mem_of_getElem? (i := 20) rfl))) (Or.inl (hw _ (List.mem_of_getElem? (i := 25) rfl))) (by decide) (t := .int) (t' := (.object "com/example/fleetwire/fleetwire/bench/Bench$Tree")) (by decide) (by decide)))
          have F_left_r_37 := F_left_r_35.other W37 (Or.inr (slot_ne (Or.inl (hw _ (List.mem_of_getElem? (i := 36) rfl))) (Or.inl (hw _ (List.mem_of_getElem? (i := 25) rfl))) (by decide) (t := (.object "com/example/fleetwire/fleetwire/bench/Bench$Tree")) (t' := (.object "com/example/fleetwire/fleetwire/bench/Bench$Tree")) (by decide) (by decide)))
          have E_rr_37 := ex35.wr W37
          have F_a_rr_37 := fa35.other W37 (Or.inl (Ne.symm ne_r_rr))
          have F_b_rr_37 := fb35.other W37 (Or.inl (Ne.symm ne_r_rr))
          have F_c_rr_37 := fc35.other W37 (Or.inl (Ne.symm ne_r_rr))
          have F_d_rr_37 := fd35.other W37 (Or.inl (Ne.symm ne_r_rr))
          have F_left_rr_37 := fleft35.other W37 (Or.inl (Ne.symm ne_r_rr))
          have F_right_rr_37 := fright35.other W37 (Or.inl (Ne.symm ne_r_rr))
          have Z37 : n0 ≤ h37.size := Nat.le_trans Z35 (Keep.of_wr W37).1
          have N37 := Fr.snoc X37 N36 gb31
          refine own_go (B := T37.setTop (mkF m 263 #[.val (.int p0), .val (.int p1), .val (.int p2), .val (.int p3), .val (.long q4), .second, .val (.int p5), .val (.int bL), .val (.int bR), .val (.int bLL), .val (.int bRR), .val (.int xl), .val (.int xh), .val (.int xm), .val (.ref root), .val (.long (((((own4_f0 p0 p1 p2 p3) + (own4_f0 xl xh p0 p1)) + (own4_f0 p2 p3 xm (xl ^^^ (-1 : Int32)))) + (own4_f0 xm p3 (p2 ^^^ (-1 : Int32)) (xh ^^^ p0))) + (own4_f0 p1 xl xh (p3 ^^^ (-1 : Int32))))), .second, .val (.ref r), .val (.ref rr)] [])) (fun t kt => st37 t kt) ?_
          refine own_go (B := T37.setTop (mkF m 267 #[.val (.int p0), .val (.int p1), .val (.int p2), .val (.int p3), .val (.long q4), .second, .val (.int p5), .val (.int bL), .val (.int bR), .val (.int bLL), .val (.int bRR), .val (.int xl), .val (.int xh), .val (.int xm), .val (.ref root), .val (.long (((((own4_f0 p0 p1 p2 p3) + (own4_f0 xl xh p0 p1)) + (own4_f0 p2 p3 xm (xl ^^^ (-1 : Int32)))) + (own4_f0 xm p3 (p2 ^^^ (-1 : Int32)) (xh ^^^ p0))) + (own4_f0 p1 xl xh (p3 ^^^ (-1 : Int32))))), .second, .val (.ref r), .val (.ref rr)] [(.ref r), (.ref root)])) (fun t kt => ?_) ?_
          · show Steps p.tables e below (T37.setTop (mkF m 263 #[.val (.int p0), .val (.int p1), .val (.int p2), .val (.int p3), .val (.long q4), .second, .val (.int p5), .val (.int bL), .val (.int bR), .val (.int bLL), .val (.int bRR), .val (.int xl), .val (.int xh), .val (.int xm), .val (.ref root), .val (.long (((((own4_f0 p0 p1 p2 p3) + (own4_f0 xl xh p0 p1)) + (own4_f0 p2 p3 xm (xl ^^^ (-1 : Int32)))) + (own4_f0 xm p3 (p2 ^^^ (-1 : Int32)) (xh ^^^ p0))) + (own4_f0 p1 xl xh (p3 ^^^ (-1 : Int32))))), .second, .val (.ref r), .val (.ref rr)] [])) _
            refine XS.aload X37.here hx rfl (hb hby at_263) rfl rfl ?_
            show Steps p.tables e below (T37.setTop (mkF m 265 #[.val (.int p0), .val (.int p1), .val (.int p2), .val (.int p3), .val (.long q4), .second, .val (.int p5), .val (.int bL), .val (.int bR), .val (.int bLL), .val (.int bRR), .val (.int xl), .val (.int xh), .val (.int xm), .val (.ref root), .val (.long (((((own4_f0 p0 p1 p2 p3) + (own4_f0 xl xh p0 p1)) + (own4_f0 p2 p3 xm (xl ^^^ (-1 : Int32)))) + (own4_f0 xm p3 (p2 ^^^ (-1 : Int32)) (xh ^^^ p0))) + (own4_f0 p1 xl xh (p3 ^^^ (-1 : Int32))))), .second, .val (.ref r), .val (.ref rr)] [(.ref root)])) _
            refine XS.aload X37.here hx rfl (hb hby at_265) rfl rfl ?_
            exact kt
          obtain ⟨T38, h38, X38, e38, W38, st38⟩ := putF X37 hx hZ hown (host := "") (Or.inl (hw _ (List.mem_of_getElem? (i := 24) rfl))) Via.refl e37 F_right_root_37 E_root_37 (Or.inl (hw _ (List.mem_of_getElem? (i := 25) rfl))) (hw _ (List.mem_of_getElem? (i := 5) rfl)) (ty := (.object "com/example/fleetwire/fleetwire/bench/Bench$Tree")) (by decide) rfl rfl (g := (mkF m 267 #[.val (.int p0), .val (.int p1), .val (.int p2), .val (.int p3), .val (.long q4), .second, .val (.int p5), .val (.int bL), .val (.int bR), .val (.int bLL), .val (.int bRR), .val (.int xl), .val (.int xh), .val (.int xm), .val (.ref root), .val (.long (((((own4_f0 p0 p1 p2 p3) + (own4_f0 xl xh p0 p1)) + (own4_f0 p2 p3 xm (xl ^^^ (-1 : Int32)))) + (own4_f0 xm p3 (p2 ^^^ (-1 : Int32)) (xh ^^^ p0))) + (own4_f0 p1 xl xh (p3 ^^^ (-1 : Int32))))), .second, .val (.ref r), .val (.ref rr)] [(.ref r), (.ref root)])) rfl rfl (hb hby at_267)
          have F_right_root_38 : Fld Z h38 root "com/example/fleetwire/fleetwire/bench/Bench$Tree" "right" "Lcom/example/fleetwire/fleetwire/bench/Bench$Tree;" (.ref r) := F_right_root_37.same W38
          have E_root_38 := E_root_37.wr W38
          have F_a_root_38 := F_a_root_37.other W38 (Or.inr (slot_ne (Or.inl (hw _ (List.mem_of_getElem? (i := 14) rfl))) (Or.inl (hw _ (List.mem_of_getElem? (i := 25) rfl))) (by decide) (t := .int) (t' := (.object "com/example/fleetwire/fleetwire/bench/Bench$Tree")) (by decide) (by decide)))
          have F_b_root_38 := F_b_root_37.other W38 (Or.inr (slot_ne (Or.inl (hw _ (List.mem_of_getElem? (i := 16) rfl))) (Or.inl (hw _ (List.mem_of_getElem? (i := 25) rfl))) (by decide) (t := .int) (t' := (.object "com/example/fleetwire/fleetwire/bench/Bench$Tree")) (by decide) (by decide)))
          have F_c_root_38 := F_c_root_37.other W38 (Or.inr (slot_ne (Or.inl (hw _ (List.mem_of_getElem? (i := 18) rfl))) (Or.inl (hw _ (List.mem_of_getElem? (i := 25) rfl))) (by decide) (t := .int) (t' := (.object "com/example/fleetwire/fleetwire/bench/Bench$Tree")) (by decide) (by decide)))
          have F_d_root_38 := F_d_root_37.other W38 (Or.inr (slot_ne (Or.inl (hw _ (List.mem_of_getElem? (i := 20) rfl))) (Or.inl (hw _ (List.mem_of_getElem? (i := 25) rfl))) (by decide) (t := .int) (t' := (.object "com/example/fleetwire/fleetwire/bench/Bench$Tree")) (by decide) (by decide)))
          have F_left_root_38 := F_left_root_37.other W38 (Or.inr (slot_ne (Or.inl (hw _ (List.mem_of_getElem? (i := 36) rfl))) (Or.inl (hw _ (List.mem_of_getElem? (i := 25) rfl))) (by decide) (t := (.object "com/example/fleetwire/fleetwire/bench/Bench$Tree")) (t' := (.object "com/example/fleetwire/fleetwire/bench/Bench$Tree")) (by decide) (by decide)))
          have E_lf_38 := E_lf_37.wr W38
          have F_a_lf_38 := F_a_lf_37.other W38 (Or.inl (Ne.symm ne_root_lf))
          have F_b_lf_38 := F_b_lf_37.other W38 (Or.inl (Ne.symm ne_root_lf))
          have F_c_lf_38 := F_c_lf_37.other W38 (Or.inl (Ne.symm ne_root_lf))
          have F_d_lf_38 := F_d_lf_37.other W38 (Or.inl (Ne.symm ne_root_lf))
          have F_left_lf_38 := F_left_lf_37.other W38 (Or.inl (Ne.symm ne_root_lf))
          have F_right_lf_38 := F_right_lf_37.other W38 (Or.inl (Ne.symm ne_root_lf))
          have E_ll_38 := E_ll_37.wr W38
          have F_a_ll_38 := F_a_ll_37.other W38 (Or.inl (Ne.symm ne_root_ll))
          have F_b_ll_38 := F_b_ll_37.other W38 (Or.inl (Ne.symm ne_root_ll))
          have F_c_ll_38 := F_c_ll_37.other W38 (Or.inl (Ne.symm ne_root_ll))
          have F_d_ll_38 := F_d_ll_37.other W38 (Or.inl (Ne.symm ne_root_ll))
          have F_left_ll_38 := F_left_ll_37.other W38 (Or.inl (Ne.symm ne_root_ll))
          have F_right_ll_38 := F_right_ll_37.other W38 (Or.inl (Ne.symm ne_root_ll))
          have E_r_38 := E_r_37.wr W38
          have F_a_r_38 := F_a_r_37.other W38 (Or.inl (Ne.symm ne_root_r))
          have F_b_r_38 := F_b_r_37.other W38 (Or.inl (Ne.symm ne_root_r))
          have F_c_r_38 := F_c_r_37.other W38 (Or.inl (Ne.symm ne_root_r))
          have F_d_r_38 := F_d_r_37.other W38 (Or.inl (Ne.symm ne_root_r))
          have F_left_r_38 := F_left_r_37.other W38 (Or.inl (Ne.symm ne_root_r))
          have F_right_r_38 := F_right_r_37.other W38 (Or.inl (Ne.symm ne_root_r))
          have E_rr_38 := E_rr_37.wr W38
          have F_a_rr_38 := F_a_rr_37.other W38 (Or.inl (Ne.symm ne_root_rr))
          have F_b_rr_38 := F_b_rr_37.other W38 (Or.inl (Ne.symm ne_root_rr))
          have F_c_rr_38 := F_c_rr_37.other W38 (Or.inl (Ne.symm ne_root_rr))
          have F_d_rr_38 := F_d_rr_37.other W38 (Or.inl (Ne.symm ne_root_rr))
          have F_left_rr_38 := F_left_rr_37.other W38 (Or.inl (Ne.symm ne_root_rr))
          have F_right_rr_38 := F_right_rr_37.other W38 (Or.inl (Ne.symm ne_root_rr))
          have Z38 : n0 ≤ h38.size := Nat.le_trans Z37 (Keep.of_wr W38).1
          have N38 := Fr.snoc X38 N37 gb1
          refine own_go (B := T38.setTop (mkF m 270 #[.val (.int p0), .val (.int p1), .val (.int p2), .val (.int p3), .val (.long q4), .second, .val (.int p5), .val (.int bL), .val (.int bR), .val (.int bLL), .val (.int bRR), .val (.int xl), .val (.int xh), .val (.int xm), .val (.ref root), .val (.long (((((own4_f0 p0 p1 p2 p3) + (own4_f0 xl xh p0 p1)) + (own4_f0 p2 p3 xm (xl ^^^ (-1 : Int32)))) + (own4_f0 xm p3 (p2 ^^^ (-1 : Int32)) (xh ^^^ p0))) + (own4_f0 p1 xl xh (p3 ^^^ (-1 : Int32))))), .second, .val (.ref r), .val (.ref rr)] [])) (fun t kt => st38 t kt) ?_
          refine own_go (B := T38.setTop (mkF m 272 #[.val (.int p0), .val (.int p1), .val (.int p2), .val (.int p3), .val (.long q4), .second, .val (.int p5), .val (.int bL), .val (.int bR), .val (.int bLL), .val (.int bRR), .val (.int xl), .val (.int xh), .val (.int xm), .val (.ref root), .val (.long (((((own4_f0 p0 p1 p2 p3) + (own4_f0 xl xh p0 p1)) + (own4_f0 p2 p3 xm (xl ^^^ (-1 : Int32)))) + (own4_f0 xm p3 (p2 ^^^ (-1 : Int32)) (xh ^^^ p0))) + (own4_f0 p1 xl xh (p3 ^^^ (-1 : Int32))))), .second, .val (.ref r), .val (.ref rr)] [(.ref root)])) (fun t kt => ?_) ?_
          · show Steps p.tables e below (T38.setTop (mkF m 270 #[.val (.int p0), .val (.int p1), .val (.int p2), .val (.int p3), .val (.long q4), .second, .val (.int p5), .val (.int bL), .val (.int bR), .val (.int bLL), .val (.int bRR), .val (.int xl), .val (.int xh), .val (.int xm), .val (.ref root), .val (.long (((((own4_f0 p0 p1 p2 p3) + (own4_f0 xl xh p0 p1)) + (own4_f0 p2 p3 xm (xl ^^^ (-1 : Int32)))) + (own4_f0 xm p3 (p2 ^^^ (-1 : Int32)) (xh ^^^ p0))) + (own4_f0 p1 xl xh (p3 ^^^ (-1 : Int32))))), .second, .val (.ref r), .val (.ref rr)] [])) _
            refine XS.aload X38.here hx rfl (hb hby at_270) rfl rfl ?_
            exact kt
          have ht := (show own_t3 Z h38 root (((own4_f0 p0 p1 p2 p3) + (((own4_f0 xl xh p0 p1) + (((own4_f0 p2 p3 xm (xl ^^^ (-1 : Int32))) + (0 : Int64)) + (0 : Int64))) + (0 : Int64))) + (((own4_f0 xm p3 (p2 ^^^ (-1 : Int32)) (xh ^^^ p0)) + (0 : Int64)) + (((own4_f0 p1 xl xh (p3 ^^^ (-1 : Int32))) + (0 : Int64)) + (0 : Int64)))) from ⟨_, _, _, _, _, _, _, _, E_root_38, F_a_root_38, F_b_root_38, F_c_root_38, F_d_root_38, F_left_root_38, F_right_root_38, (Or.inr ⟨lf, rfl, (show own_t2 Z h38 lf (((own4_f0 xl xh p0 p1) + (((own4_f0 p2 p3 xm (xl ^^^ (-1 : Int32))) + (0 : Int64)) + (0 : Int64))) + (0 : Int64)) from ⟨_, _, _, _, _, _, _, _, E_lf_38, F_a_lf_38, F_b_lf_38, F_c_lf_38, F_d_lf_38, F_left_lf_38, F_right_lf_38, (Or.inr ⟨ll, rfl, (show own_t1 Z h38 ll (((own4_f0 p2 p3 xm (xl ^^^ (-1 : Int32))) + (0 : Int64)) + (0 : Int64)) from ⟨_, _, _, _, _, _, _, _, E_ll_38, F_a_ll_38, F_b_ll_38, F_c_ll_38, F_d_ll_38, F_left_ll_38, F_right_ll_38, (Or.inl ⟨rfl, rfl⟩), (Or.inl ⟨rfl, rfl⟩), rfl⟩)⟩), (Or.inl ⟨rfl, rfl⟩), rfl⟩)⟩), (Or.inr ⟨r, rfl, (show own_t2 Z h38 r (((own4_f0 xm p3 (p2 ^^^ (-1 : Int32)) (xh ^^^ p0)) + (0 : Int64)) + (((own4_f0 p1 xl xh (p3 ^^^ (-1 : Int32))) + (0 : Int64)) + (0 : Int64))) from ⟨_, _, _, _, _, _, _, _, E_r_38, F_a_r_38, F_b_r_38, F_c_r_38, F_d_r_38, F_left_r_38, F_right_r_38, (Or.inl ⟨rfl, rfl⟩), (Or.inr ⟨rr, rfl, (show own_t1 Z h38 rr (((own4_f0 p1 xl xh (p3 ^^^ (-1 : Int32))) + (0 : Int64)) + (0 : Int64)) from ⟨_, _, _, _, _, _, _, _, E_rr_38, F_a_rr_38, F_b_rr_38, F_c_rr_38, F_d_rr_38, F_left_rr_38, F_right_rr_38, (Or.inl ⟨rfl, rfl⟩), (Or.inl ⟨rfl, rfl⟩), rfl⟩)⟩), rfl⟩)⟩), rfl⟩)
          obtain ⟨cq39, kq39, qa39, qb39, qc39⟩ := isOf hZ e38 E_root_38
          obtain ⟨_, _, ⟨T39, L39, k39, n39⟩, -, X39, ⟨Lc39, hQ39, l39, y39, z39⟩, st39⟩ := X38.virtualBack hx (y := (⟨"com/example/fleetwire/fleetwire/bench/Bench$Tree", "fieldSum", "()J"⟩ : MethodName)) (z := (⟨"com/example/fleetwire/fleetwire/bench/Bench$Tree", "fieldSum", "()J"⟩ : MethodName)) hown (mvT hZ (hw _ (List.mem_of_getElem? (i := 26) rfl))) (mvT hZ (hw _ (List.mem_of_getElem? (i := 27) rfl))) (notFace_of_selects (args := #[]) (mvT hZ (hw _ (List.mem_of_getElem? (i := 29) rfl)))) (mvT hZ (hw _ (List.mem_of_getElem? (i := 29) rfl))) (mvT hZ (hw _ (List.mem_of_getElem? (i := 28) rfl))) (by decide) (backOf (W := 0) (rm5_3 l Z t0 hw [] root (((own4_f0 p0 p1 p2 p3) + (((own4_f0 xl xh p0 p1) + (((own4_f0 p2 p3 xm (xl ^^^ (-1 : Int32))) + (0 : Int64)) + (0 : Int64))) + (0 : Int64))) + (((own4_f0 xm p3 (p2 ^^^ (-1 : Int32)) (xh ^^^ p0)) + (0 : Int64)) + (((own4_f0 p1 xl xh (p3 ^^^ (-1 : Int32))) + (0 : Int64)) + (0 : Int64)))) h38 n0 Z38 ht) hZ (hw _ (List.mem_of_getElem? (i := 30) rfl)) (hw _ (List.mem_of_getElem? (i := 6) rfl)) (by decide) (by decide)) qa39 qc39 (g := (mkF m 272 #[.val (.int p0), .val (.int p1), .val (.int p2), .val (.int p3), .val (.long q4), .second, .val (.int p5), .val (.int bL), .val (.int bR), .val (.int bLL), .val (.int bRR), .val (.int xl), .val (.int xh), .val (.int xm), .val (.ref root), .val (.long (((((own4_f0 p0 p1 p2 p3) + (own4_f0 xl xh p0 p1)) + (own4_f0 p2 p3 xm (xl ^^^ (-1 : Int32)))) + (own4_f0 xm p3 (p2 ^^^ (-1 : Int32)) (xh ^^^ p0))) + (own4_f0 p1 xl xh (p3 ^^^ (-1 : Int32))))), .second, .val (.ref r), .val (.ref rr)] [(.ref root)])) rfl (by rw [hml]; rfl) (Steps.refl _) (argsL := []) (rest := []) (lenOf pd_0_2 rfl) rfl (by show 2 * 0 + _ ≤ _; exact Nat.le_of_eq rfl) (hb hby at_272) (fun _ _ => ⟨rfl, e38, (by decide : 5 + 0 ≤ _), (by decide : 30 + 0 ≤ _)⟩)
          dsimp only [Pt.U, Pt.locs, Pt.cells, Pt.slots] at X39 l39 y39 z39 st39 hQ39
          subst l39 y39 z39
          obtain ⟨rfl, Nq39, hh39⟩ := hQ39
          have N39 := Fr.app N38 Nq39
          have e39 : T39.heap = h38 := hh39
          refine own_go (B := T39.setTop (mkF m 275 #[.val (.int p0), .val (.int p1), .val (.int p2), .val (.int p3), .val (.long q4), .second, .val (.int p5), .val (.int bL), .val (.int bR), .val (.int bLL), .val (.int bRR), .val (.int xl), .val (.int xh), .val (.int xm), .val (.ref root), .val (.long (((((own4_f0 p0 p1 p2 p3) + (own4_f0 xl xh p0 p1)) + (own4_f0 p2 p3 xm (xl ^^^ (-1 : Int32)))) + (own4_f0 xm p3 (p2 ^^^ (-1 : Int32)) (xh ^^^ p0))) + (own4_f0 p1 xl xh (p3 ^^^ (-1 : Int32))))), .second, .val (.ref r), .val (.ref rr)] [(.long (((own4_f0 p0 p1 p2 p3) + (((own4_f0 xl xh p0 p1) + (((own4_f0 p2 p3 xm (xl ^^^ (-1 : Int32))) + (0 : Int64)) + (0 : Int64))) + (0 : Int64))) + (((own4_f0 xm p3 (p2 ^^^ (-1 : Int32)) (xh ^^^ p0)) + (0 : Int64)) + (((own4_f0 p1 xl xh (p3 ^^^ (-1 : Int32))) + (0 : Int64)) + (0 : Int64)))))])) (fun t kt => st39.trans kt) ?_
          refine own_go (B := T39.setTop (mkF m 286 #[.val (.int p0), .val (.int p1), .val (.int p2), .val (.int p3), .val (.long q4), .second, .val (.int p5), .val (.int bL), .val (.int bR), .val (.int bLL), .val (.int bRR), .val (.int xl), .val (.int xh), .val (.int xm), .val (.ref root), .val (.long (((((own4_f0 p0 p1 p2 p3) + (own4_f0 xl xh p0 p1)) + (own4_f0 p2 p3 xm (xl ^^^ (-1 : Int32)))) + (own4_f0 xm p3 (p2 ^^^ (-1 : Int32)) (xh ^^^ p0))) + (own4_f0 p1 xl xh (p3 ^^^ (-1 : Int32))))), .second, .val (.ref r), .val (.ref rr)] [(.int (1 : Int32))])) (fun t kt => ?_) ?_
          · show Steps p.tables e below (T39.setTop (mkF m 275 #[.val (.int p0), .val (.int p1), .val (.int p2), .val (.int p3), .val (.long q4), .second, .val (.int p5), .val (.int bL), .val (.int bR), .val (.int bLL), .val (.int bRR), .val (.int xl), .val (.int xh), .val (.int xm), .val (.ref root), .val (.long (((((own4_f0 p0 p1 p2 p3) + (own4_f0 xl xh p0 p1)) + (own4_f0 p2 p3 xm (xl ^^^ (-1 : Int32)))) + (own4_f0 xm p3 (p2 ^^^ (-1 : Int32)) (xh ^^^ p0))) + (own4_f0 p1 xl xh (p3 ^^^ (-1 : Int32))))), .second, .val (.ref r), .val (.ref rr)] [(.long (((own4_f0 p0 p1 p2 p3) + (((own4_f0 xl xh p0 p1) + (((own4_f0 p2 p3 xm (xl ^^^ (-1 : Int32))) + (0 : Int64)) + (0 : Int64))) + (0 : Int64))) + (((own4_f0 xm p3 (p2 ^^^ (-1 : Int32)) (xh ^^^ p0)) + (0 : Int64)) + (((own4_f0 p1 xl xh (p3 ^^^ (-1 : Int32))) + (0 : Int64)) + (0 : Int64)))))])) _
            refine XS.lload X39.here hx rfl (hb hby at_275) rfl ?_
            show Steps p.tables e below (T39.setTop (mkF m 277 #[.val (.int p0), .val (.int p1), .val (.int p2), .val (.int p3), .val (.long q4), .second, .val (.int p5), .val (.int bL), .val (.int bR), .val (.int bLL), .val (.int bRR), .val (.int xl), .val (.int xh), .val (.int xm), .val (.ref root), .val (.long (((((own4_f0 p0 p1 p2 p3) + (own4_f0 xl xh p0 p1)) + (own4_f0 p2 p3 xm (xl ^^^ (-1 : Int32)))) + (own4_f0 xm p3 (p2 ^^^ (-1 : Int32)) (xh ^^^ p0))) + (own4_f0 p1 xl xh (p3 ^^^ (-1 : Int32))))), .second, .val (.ref r), .val (.ref rr)] [(.long (((((own4_f0 p0 p1 p2 p3) + (own4_f0 xl xh p0 p1)) + (own4_f0 p2 p3 xm (xl ^^^ (-1 : Int32)))) + (own4_f0 xm p3 (p2 ^^^ (-1 : Int32)) (xh ^^^ p0))) + (own4_f0 p1 xl xh (p3 ^^^ (-1 : Int32))))), (.long (((own4_f0 p0 p1 p2 p3) + (((own4_f0 xl xh p0 p1) + (((own4_f0 p2 p3 xm (xl ^^^ (-1 : Int32))) + (0 : Int64)) + (0 : Int64))) + (0 : Int64))) + (((own4_f0 xm p3 (p2 ^^^ (-1 : Int32)) (xh ^^^ p0)) + (0 : Int64)) + (((own4_f0 p1 xl xh (p3 ^^^ (-1 : Int32))) + (0 : Int64)) + (0 : Int64)))))])) _
            refine XS.lcmp X39.here hx rfl (hb hby at_277) rfl ?_
            show Steps p.tables e below (T39.setTop (mkF m 278 #[.val (.int p0), .val (.int p1), .val (.int p2), .val (.int p3), .val (.long q4), .second, .val (.int p5), .val (.int bL), .val (.int bR), .val (.int bLL), .val (.int bRR), .val (.int xl), .val (.int xh), .val (.int xm), .val (.ref root), .val (.long (((((own4_f0 p0 p1 p2 p3) + (own4_f0 xl xh p0 p1)) + (own4_f0 p2 p3 xm (xl ^^^ (-1 : Int32)))) + (own4_f0 xm p3 (p2 ^^^ (-1 : Int32)) (xh ^^^ p0))) + (own4_f0 p1 xl xh (p3 ^^^ (-1 : Int32))))), .second, .val (.ref r), .val (.ref rr)] [(.int (lcmpW (((own4_f0 p0 p1 p2 p3) + (((own4_f0 xl xh p0 p1) + (((own4_f0 p2 p3 xm (xl ^^^ (-1 : Int32))) + (0 : Int64)) + (0 : Int64))) + (0 : Int64))) + (((own4_f0 xm p3 (p2 ^^^ (-1 : Int32)) (xh ^^^ p0)) + (0 : Int64)) + (((own4_f0 p1 xl xh (p3 ^^^ (-1 : Int32))) + (0 : Int64)) + (0 : Int64)))) (((((own4_f0 p0 p1 p2 p3) + (own4_f0 xl xh p0 p1)) + (own4_f0 p2 p3 xm (xl ^^^ (-1 : Int32)))) + (own4_f0 xm p3 (p2 ^^^ (-1 : Int32)) (xh ^^^ p0))) + (own4_f0 p1 xl xh (p3 ^^^ (-1 : Int32))))))])) _
            refine XS.ifNo X39.here hx rfl (hb hby at_278) rfl ((if0 _ _).trans (teq (show lcmpW (((own4_f0 p0 p1 p2 p3) + (((own4_f0 xl xh p0 p1) + (((own4_f0 p2 p3 xm (xl ^^^ (-1 : Int32))) + (0 : Int64)) + (0 : Int64))) + (0 : Int64))) + (((own4_f0 xm p3 (p2 ^^^ (-1 : Int32)) (xh ^^^ p0)) + (0 : Int64)) + (((own4_f0 p1 xl xh (p3 ^^^ (-1 : Int32))) + (0 : Int64)) + (0 : Int64)))) (((((own4_f0 p0 p1 p2 p3) + (own4_f0 xl xh p0 p1)) + (own4_f0 p2 p3 xm (xl ^^^ (-1 : Int32)))) + (own4_f0 xm p3 (p2 ^^^ (-1 : Int32)) (xh ^^^ p0))) + (own4_f0 p1 xl xh (p3 ^^^ (-1 : Int32)))) = (0 : Int32) from (lw_eq _ _).2 (by simp only [Int64.add_zero, Int64.add_assoc]))).2) ?_
            show Steps p.tables e below (T39.setTop (mkF m 281 #[.val (.int p0), .val (.int p1), .val (.int p2), .val (.int p3), .val (.long q4), .second, .val (.int p5), .val (.int bL), .val (.int bR), .val (.int bLL), .val (.int bRR), .val (.int xl), .val (.int xh), .val (.int xm), .val (.ref root), .val (.long (((((own4_f0 p0 p1 p2 p3) + (own4_f0 xl xh p0 p1)) + (own4_f0 p2 p3 xm (xl ^^^ (-1 : Int32)))) + (own4_f0 xm p3 (p2 ^^^ (-1 : Int32)) (xh ^^^ p0))) + (own4_f0 p1 xl xh (p3 ^^^ (-1 : Int32))))), .second, .val (.ref r), .val (.ref rr)] [])) _
            refine XS.iconst X39.here hx rfl (hb hby at_281) ?_
            show Steps p.tables e below (T39.setTop (mkF m 282 #[.val (.int p0), .val (.int p1), .val (.int p2), .val (.int p3), .val (.long q4), .second, .val (.int p5), .val (.int bL), .val (.int bR), .val (.int bLL), .val (.int bRR), .val (.int xl), .val (.int xh), .val (.int xm), .val (.ref root), .val (.long (((((own4_f0 p0 p1 p2 p3) + (own4_f0 xl xh p0 p1)) + (own4_f0 p2 p3 xm (xl ^^^ (-1 : Int32)))) + (own4_f0 xm p3 (p2 ^^^ (-1 : Int32)) (xh ^^^ p0))) + (own4_f0 p1 xl xh (p3 ^^^ (-1 : Int32))))), .second, .val (.ref r), .val (.ref rr)] [(.int (1 : Int32))])) _
            refine XS.goto X39.here hx rfl (pc0 := 282) (pc' := 286) rfl (hb hby at_282) (by decide) (by decide) ?_
            exact kt
          obtain ⟨fs, hr, hrun, hended, hW, hsame⟩ := X39.leave (v := some (.int (1 : Int32))) (fun h => by rw [Bd.returns] at h; cases h)
          refine ⟨_, _, ?_, hrun, hended, _, _, rfl, ?_, ⟨_, rfl⟩, hW, hsame.mono (by decide) (by decide)⟩
          · show Steps p.tables e below (T39.setTop (mkF m 286 #[.val (.int p0), .val (.int p1), .val (.int p2), .val (.int p3), .val (.long q4), .second, .val (.int p5), .val (.int bL), .val (.int bR), .val (.int bLL), .val (.int bRR), .val (.int xl), .val (.int xh), .val (.int xm), .val (.ref root), .val (.long (((((own4_f0 p0 p1 p2 p3) + (own4_f0 xl xh p0 p1)) + (own4_f0 p2 p3 xm (xl ^^^ (-1 : Int32)))) + (own4_f0 xm p3 (p2 ^^^ (-1 : Int32)) (xh ^^^ p0))) + (own4_f0 p1 xl xh (p3 ^^^ (-1 : Int32))))), .second, .val (.ref r), .val (.ref rr)] [(.int (1 : Int32))])) _
            exact retN X39 hx (t := .boolean) Bd.returns (by simp) (hb hby at_286) hr
          · show Q0 n0 _ _
            exact ⟨rfl, N39⟩
set_option maxRecDepth 65536 in
set_option maxHeartbeats 40000000 in
theorem comes_1 {Post : Tables → Env → Array Value → State → Outcome → State → Prop} (hpost : ∀ tb e args s v u, (limb_1_1.after args s (.returned v) u = true ∧ limb_1_2.after args s (.returned v) u = true ∧ True) → FrameEnd s (.returned v) u (Jvm.fieldLocs frame_1_writes args s ++ Jvm.arrayLocs frame_1_arrays args s ++ Jvm.staticLocs frame_1_statics s) 24 128 → Post tb e args s (.returned v) u) :
    ArmFor flags0 classFile x code maxLocals ret World_1 tables_1 room_1 Calls_1 rest_1 Pre_1 Post := by
  intro l hfl _ _ p e ha hc hk s m args below hf hA hF happ hP
  obtain ⟨hcalls, hrest, hpre⟩ := hP
  obtain ⟨-, -, -, hnamed, -, -, -, hat⟩ := (Spec.applies_iff hf).mp happ
  obtain ⟨hg, hn⟩ := and_e (Cond.before_iff.mp (show (Jvm.Cond.and given_1 narrow_1).before args s = true from hpre))
  obtain ⟨ga0, gb0⟩ := and_e hg
  obtain ⟨ga1, gb1⟩ := and_e gb0
  obtain ⟨ga2, gb2⟩ := and_e gb1
  obtain ⟨ga3, gb3⟩ := and_e gb2
  obtain ⟨ga4, gb4⟩ := and_e gb3
  obtain ⟨ga5, gb5⟩ := and_e gb4
  obtain ⟨w0, w1, w2, w3, w4, w5, rfl⟩ : ∃ w0 w1 w2 w3 w4 w5 : Value, args = #[w0, w1, w2, w3, w4, w5] := by
    have hs : args.size = 6 := by simpa [Cond.value, given_1] using ga0
    obtain ⟨L⟩ := args
    match L, hs with
    | [w0, w1, w2, w3, w4, w5], _ => exact ⟨w0, w1, w2, w3, w4, w5, rfl⟩
  have hw := fun d (hd : d ∈ tables_1) => atoms_spec (ws := Jvm.Cond.code x code maxLocals ret :: tables_1) hat d (List.mem_cons_of_mem _ hd)
  obtain ⟨i0, ei0⟩ := is_v ga1
  obtain rfl : w0 = (.int i0) := Option.some.inj ei0
  obtain ⟨i1, ei1⟩ := is_v ga2
  obtain rfl : w1 = (.int i1) := Option.some.inj ei1
  obtain ⟨i2, ei2⟩ := is_v ga3
  obtain rfl : w2 = (.int i2) := Option.some.inj ei2
  obtain ⟨i3, ei3⟩ := is_v ga4
  obtain rfl : w3 = (.int i3) := Option.some.inj ei3
  obtain ⟨i4, ei4⟩ := isL_v ga5
  obtain rfl : w4 = (.long i4) := Option.some.inj ei4
  obtain ⟨i5, ei5⟩ := is_v gb5
  obtain rfl : w5 = (.int i5) := Option.some.inj ei5
  obtain ⟨n, o, h1, h2, h3, _, L, rfl, ⟨rfl, N⟩, hq⟩ := rm0 l s _ hw tables_1 i0 i1 i2 i3 i4 i5 s.heap s.heap.size (Nat.le_refl _)  p e ha hc hk s m _ below hf ((Spec.applies_iff_loose hf).mp happ).1 ⟨rfl, State.Warmed39.refl s, rfl⟩ trivial
  refine ⟨n, _, h1, h2, h3, hpost _ _ _ _ _ _ ⟨Cond.after_iff.mpr rfl, Cond.after_iff.mpr (eq_i res_at (Term.int_eval (1)) rfl), trivial⟩ ⟨hq.1, hq.2.1, (hq.2.2.sift fun y hy => Or.inr (N y hy)).mono (by decide) (by decide)⟩⟩
theorem main_1_1 : Claimed_1_1 := comes_1 fun _ _ _ _ _ _ h hF => ⟨h.1, hF⟩
theorem main_1_2 : Claimed_1_2 := comes_1 fun _ _ _ _ _ _ h hF => ⟨h.2.1, hF⟩
end Jvm.Pilot.@@N@@
namespace Jvm.Pilot.@@N@@
open Jvm Jvm.ClassFile Sem Op Lib Jvm.Free Jvm.Stand Jvm.Pilot.@@N@@.Jvm.D
/-! MADE BY PROGRAM (witnessworld.py) out of the Statement's table words and the real class files: 7 classes; the members and pool entries that the words name. The judged class is class 1, her method 3. -/
namespace start1
open Jvm.ClassFile
def u (s : String) : CpInfo := .utf8 (stringToUtf16 s)
/-- a pool by its gaps: so many unusable entries, then the entry; so many at the end -/
def gap : Nat → List CpInfo → List CpInfo
  | 0, r => r
  | n + 1, r => .unusable :: gap n r
def poolList (es : List (Nat × CpInfo)) (last : Nat) : List CpInfo := es.foldr (fun e r => gap e.1 (e.2 :: r)) (gap last [])
def pool (es : List (Nat × CpInfo)) (last : Nat) : Array CpInfo := ⟨poolList es last⟩
def fileOf (pool : Array CpInfo) (this : Nat) (attrs : Array Attribute := #[]) (ms : Array MethodInfo := #[]) (fl : Nat := 33) (sup : Nat := 0) (ifs : Array Nat := #[]) (fds : Array FieldInfo := #[]) : ClassFile where
  minorVersion := 0
  majorVersion := 65
  constantPool := pool
  accessFlags := fl
  thisClass := this
  superClass := sup
  interfaces := ifs
  fields := fds
  methods := ms
  attributes := attrs
def plain (name : String) (sup : Option ClassId) : Class where
  name := name
  kind := .ordinary
  loader := none
  accessFlags := 33
  super := sup
  interfaces := #[]
  cf := none
  fields := #[]
  methods := #[]
  instanceTypes := #[]
  staticTypes := #[]
  resolved := #[]
  callSites := []
  init := .initialized
  statics := none
  mirror := none

def pool0 : Array CpInfo := pool [(5, u "<init>"), (0, u "()V"), (1, .class_ 10), (1, u "java/lang/Object")] 113

def k0c0 : Code := { maxStack := 0, maxLocals := 1, code := object_method_1_code, exceptionTable := #[], attributes := #[] }
def k0m0 : Method := { name := "<init>", desc := "()V", sig := { parameters := [], returnType := none }, accessFlags := 1, code := some k0c0 }
/-- java/lang/Object -/
def k0 : Class := { plain "java/lang/Object" none with
  accessFlags := 33
  interfaces := #[]
  cf := some (fileOf pool0 8 #[] #[{ accessFlags := 1, nameIndex := 5, descriptorIndex := 6, attributes := #[] }] 33 0 #[] #[])
  fields := #[]
  methods := #[k0m0]
  instanceTypes := #[]
  staticTypes := #[]
  resolved := Array.replicate 124 none
  statics := none }

def pool1 : Array CpInfo := pool [(2, .class_ 4), (0, .nameAndType 5 6), (0, u "java/lang/Object"), (0, u "<init>"), (0, u "()V"), (0, .class_ 8), (0, u "com/example/fleetwire/fleetwire/bench/Bench$Tree"), (0, .methodref 7 3), (0, .fieldref 7 11), (0, .nameAndType 12 13), (0, u "a"), (0, u "I"), (0, .fieldref 7 15), (0, .nameAndType 16 13), (0, u "b"), (0, .fieldref 7 18), (0, .nameAndType 19 13), (0, u "c"), (0, .fieldref 7 21), (0, .nameAndType 22 13), (0, u "d"), (0, .methodref 24 25), (0, .class_ 26), (0, .nameAndType 27 28), (0, u "com/example/fleetwire/fleetwire/bench/TreeFieldSumPinLaw"), (0, u "node"), (0, u "(IIII)Lcom/example/fleetwire/fleetwire/bench/Bench$Tree;"), (0, .methodref 24 30), (0, .nameAndType 31 32), (0, u "s"), (0, u "(IIII)J"), (0, .fieldref 7 34), (0, .nameAndType 35 36), (0, u "left"), (0, u "Lcom/example/fleetwire/fleetwire/bench/Bench$Tree;"), (0, .fieldref 7 38), (0, .nameAndType 39 36), (0, u "right"), (0, .methodref 7 41), (0, .nameAndType 42 43), (0, u "fieldSum"), (0, u "()J"), (2, u "law"), (0, u "(IIIIJI)Z")] 7

def k1m0 : Method := { name := "<init>", desc := "()V", sig := { parameters := [], returnType := none }, accessFlags := 1, code := none }
def k1c1 : Code := { maxStack := 2, maxLocals := 5, code := method_2_code, exceptionTable := #[], attributes := #[] }
def k1m1 : Method := { name := "node", desc := "(IIII)Lcom/example/fleetwire/fleetwire/bench/Bench$Tree;", sig := { parameters := [.int, .int, .int, .int], returnType := some (.object "com/example/fleetwire/fleetwire/bench/Bench$Tree") }, accessFlags := 10, code := some k1c1 }
def k1c2 : Code := { maxStack := 4, maxLocals := 6, code := method_3_code, exceptionTable := #[], attributes := #[] }
def k1m2 : Method := { name := "s", desc := "(IIII)J", sig := { parameters := [.int, .int, .int, .int], returnType := some .long }, accessFlags := 10, code := some k1c2 }
def k1c3 : Code := { maxStack := 7, maxLocals := 19, code := code, exceptionTable := #[], attributes := #[] }
def k1m3 : Method := { name := "law", desc := "(IIIIJI)Z", sig := { parameters := [.int, .int, .int, .int, .long, .int], returnType := some .boolean }, accessFlags := 9, code := some k1c3 }
/-- com/example/fleetwire/fleetwire/bench/TreeFieldSumPinLaw -/
def k1 : Class := { plain "com/example/fleetwire/fleetwire/bench/TreeFieldSumPinLaw" (some 0) with
  accessFlags := 49
  interfaces := #[]
  cf := some (fileOf pool1 24 #[] #[{ accessFlags := 1, nameIndex := 5, descriptorIndex := 6, attributes := #[] }, { accessFlags := 10, nameIndex := 27, descriptorIndex := 28, attributes := #[] }, { accessFlags := 10, nameIndex := 31, descriptorIndex := 32, attributes := #[] }, { accessFlags := 9, nameIndex := 46, descriptorIndex := 47, attributes := #[] }] 49 2 #[] #[])
  fields := #[]
  methods := #[k1m0, k1m1, k1m2, k1m3]
  instanceTypes := #[]
  staticTypes := #[]
  resolved := Array.replicate 55 none
  statics := none }

def pool2 : Array CpInfo := pool [(1, .class_ 2), (0, u "java/io/Serializable"), (0, .class_ 4), (0, u "java/lang/Object")] 2

/-- java/io/Serializable -/
def k2 : Class := { plain "java/io/Serializable" (some 0) with
  accessFlags := 1537
  interfaces := #[]
  cf := some (fileOf pool2 1 #[] #[] 1537 3 #[] #[])
  fields := #[]
  methods := #[]
  instanceTypes := #[]
  staticTypes := #[]
  resolved := Array.replicate 7 none
  statics := none }

def pool3 : Array CpInfo := pool [(1, .methodref 2 3), (0, .class_ 4), (0, .nameAndType 5 6), (0, u "java/lang/Object"), (0, u "<init>"), (0, u "()V"), (0, .class_ 8), (0, u "com/example/fleetwire/fleetwire/bench/Bench$Tree"), (1, .fieldref 7 11), (0, .nameAndType 12 13), (0, u "a"), (0, u "I"), (0, .fieldref 7 15), (0, .nameAndType 16 13), (0, u "b"), (0, .fieldref 7 18), (0, .nameAndType 19 13), (0, u "c"), (0, .fieldref 7 21), (0, .nameAndType 22 13), (0, u "d"), (0, .fieldref 7 24), (0, .nameAndType 25 26), (0, u "left"), (0, u "Lcom/example/fleetwire/fleetwire/bench/Bench$Tree;"), (0, .fieldref 7 28), (0, .nameAndType 29 26), (0, u "right"), (0, .methodref 7 31), (0, .nameAndType 32 33), (0, u "fieldSum"), (0, u "()J"), (0, .class_ 35), (0, u "java/io/Serializable"), (0, u "serialVersionUID"), (0, u "J"), (13, .class_ 52), (0, u "com/example/fleetwire/fleetwire/bench/Bench")] 2

def k3c0 : Code := { maxStack := 1, maxLocals := 1, code := prog_9_method_1_code, exceptionTable := #[], attributes := #[] }
def k3m0 : Method := { name := "<init>", desc := "()V", sig := { parameters := [], returnType := none }, accessFlags := 1, code := some k3c0 }
def k3c1 : Code := { maxStack := 4, maxLocals := 3, code := prog_9_method_3_code, exceptionTable := #[], attributes := #[] }
def k3m1 : Method := { name := "fieldSum", desc := "()J", sig := { parameters := [], returnType := some .long }, accessFlags := 0, code := some k3c1 }
/-- com/example/fleetwire/fleetwire/bench/Bench$Tree -/
def k3 : Class := { plain "com/example/fleetwire/fleetwire/bench/Bench$Tree" (some 0) with
  accessFlags := 49
  interfaces := #[2]
  cf := some (fileOf pool3 7 #[.nestHost 51] #[{ accessFlags := 1, nameIndex := 5, descriptorIndex := 6, attributes := #[] }, { accessFlags := 0, nameIndex := 32, descriptorIndex := 33, attributes := #[] }] 49 2 #[34] #[{ accessFlags := 26, nameIndex := 36, descriptorIndex := 37, attributes := #[] }, { accessFlags := 0, nameIndex := 12, descriptorIndex := 13, attributes := #[] }, { accessFlags := 0, nameIndex := 16, descriptorIndex := 13, attributes := #[] }, { accessFlags := 0, nameIndex := 19, descriptorIndex := 13, attributes := #[] }, { accessFlags := 0, nameIndex := 22, descriptorIndex := 13, attributes := #[] }, { accessFlags := 0, nameIndex := 25, descriptorIndex := 26, attributes := #[] }, { accessFlags := 0, nameIndex := 29, descriptorIndex := 26, attributes := #[] }])
  fields := #[{ name := "serialVersionUID", type := .long, accessFlags := 26, slot := 0, constantValue := 0 }, { name := "a", type := .int, accessFlags := 0, slot := 0, constantValue := 0 }, { name := "b", type := .int, accessFlags := 0, slot := 1, constantValue := 0 }, { name := "c", type := .int, accessFlags := 0, slot := 2, constantValue := 0 }, { name := "d", type := .int, accessFlags := 0, slot := 3, constantValue := 0 }, { name := "left", type := (.object "com/example/fleetwire/fleetwire/bench/Bench$Tree"), accessFlags := 0, slot := 4, constantValue := 0 }, { name := "right", type := (.object "com/example/fleetwire/fleetwire/bench/Bench$Tree"), accessFlags := 0, slot := 5, constantValue := 0 }]
  methods := #[k3m0, k3m1]
  instanceTypes := #[.int, .int, .int, .int, (.object "com/example/fleetwire/fleetwire/bench/Bench$Tree"), (.object "com/example/fleetwire/fleetwire/bench/Bench$Tree")]
  staticTypes := #[.long]
  resolved := Array.replicate 55 none
  statics := none }

def pool4 : Array CpInfo := pool [(1, u "java/lang/Cloneable"), (0, .class_ 1), (0, u "java/lang/Object"), (0, .class_ 3)] 3

/-- java/lang/Cloneable -/
def k4 : Class := { plain "java/lang/Cloneable" (some 0) with
  accessFlags := 1537
  interfaces := #[]
  cf := some (fileOf pool4 2 #[] #[] 1537 4 #[] #[])
  fields := #[]
  methods := #[]
  instanceTypes := #[]
  staticTypes := #[]
  resolved := Array.replicate 8 none
  statics := none }

/-- the primitive byte -/
def k5 : Class := { plain "byte" none with kind := .primitive 'B', accessFlags := 0x411 }
/-- [B -/
def k6 : Class := { plain "[B" (some 0) with kind := .array 5 .byte, interfaces := #[4, 2], accessFlags := 1041 }

def heap : Heap := #[]
def classes : Array Class := #[k0, k1, k2, k3, k4, k5, k6]
def interned : List (Array UInt16 × Addr) := []
def slotsUsed : Nat := 0
def theMethod : MethodId := ⟨1, 3⟩
def args0 : Array Value := #[.int 1, .int 2, .int 3, .int 4, .long 5, .int 15]
def aboutOver (below : List Frame) : State where
  vm := { classes := classes, interned := interned.toArray }
  heap := heap
  slotsUsed := slotsUsed
  threads := #[{ frames := .invoking theMethod args0 :: below }]
def below0 : List Frame := [.native { method := ⟨0, 0⟩, args := #[] }]
def about1 : State := aboutOver below0
def p0 : Program := .bare "" "" ""
def e0 : Env := launch0.env 0 0 0
theorem w_frames : about1.frames = Frame.invoking theMethod args0 :: below0 := rfl
set_option maxRecDepth 65536 in
theorem w_args : argsFit about1.vm theMethod args0 = true := by decide +kernel
set_option maxRecDepth 65536 in
theorem w_heap : heapFits about1 = true := by decide +kernel
set_option maxRecDepth 65536 in
theorem w_runnable : about1.curStatus? = some .runnable := by decide +kernel
set_option maxRecDepth 65536 in
theorem w_alone : about1.alone = true := by decide +kernel
set_option maxRecDepth 65536 in
theorem w_named : about1.methodNamed? x = some theMethod := by decide +kernel
set_option maxRecDepth 65536 in
theorem w_hears : about1.hears theMethod below0 = true := by decide +kernel
set_option maxRecDepth 65536 in
theorem w_ripe : about1.ripe theMethod args0 below0 = true := by decide +kernel
theorem w_running : about1.status = .running := rfl
set_option maxRecDepth 65536 in
theorem w_room : about1.hasRoom e0.platform room_1 = true :=
  launch0.hasRoom_least _ room_1 (by decide +kernel) (by decide +kernel) (by decide +kernel) (by decide +kernel) (by decide +kernel) (by decide +kernel)
theorem allAtoms_all (ts : List Jvm.Cond) (a : Array Jvm.Value) (st : Jvm.State) : (allAtoms ts).before a st = ts.all (fun c => c.before a st) := by
  induction ts with
  | nil => rfl
  | cons c t ih =>
    show (Jvm.Cond.and c (allAtoms t)).before a st = _
    rw [Jvm.Cond.before_and, ih, List.all_cons]
def words1 : List Jvm.Cond := Jvm.Cond.code x code maxLocals ret :: tables_1
/-- a 'code' word, met by the world's own term for the bytes: nothing is compared byte by byte -/
theorem code_word {y : MethodName} {bytes : ByteArray} {mx : Nat} {rt : Option FieldType} {a : Array Value} {s : State} {m : MethodId} {meth : Method} {c : Code} (h1 : s.methodNamed? y = some m) (h2 : s.vm.method? m = some meth) (h3 : meth.code = some c) (h4 : c.code = bytes)
    (h5 : (c.maxLocals == mx && c.exceptionTable.isEmpty && decide (c.maxStack ≤ mostOperands) && decide (meth.sig.returnType = rt) && !meth.locks && decide (parseMethodDescriptor y.desc = some meth.sig)) = true) : (Jvm.Cond.code y bytes mx rt).before a s = true := by
  simp only [Bool.and_eq_true, beq_iff_eq, Bool.not_eq_true', decide_eq_true_eq] at h5
  obtain ⟨⟨⟨⟨⟨g1, g2⟩, g3⟩, g4⟩, g5⟩, g6⟩ := h5
  simp [Cond.before, Cond.holds, Cond.value, h1, h2, h3, h4, g1, g2, g3, g4, g5, g6]
def isCode : Jvm.Cond → Bool
  | .code _ _ _ _ => true
  | _ => false
theorem all_split {L : List Jvm.Cond} {P : Jvm.Cond → Bool} (h1 : L.all (fun c => isCode c || P c) = true) (h2 : ∀ c ∈ L.filter isCode, P c = true) : L.all P = true := by
  refine List.all_eq_true.mpr fun c hc => ?_
  have h := List.all_eq_true.mp h1 c hc
  rcases Bool.eq_false_or_eq_true (isCode c) with hi | hi
  · exact h2 c (List.mem_filter.mpr ⟨hc, hi⟩)
  · simpa [hi] using h
set_option maxRecDepth 65536 in
theorem w_c0 : (Jvm.Cond.code x code maxLocals ret).before args0 about1 = true := code_word (m := ⟨1, 3⟩) (meth := k1m3) (c := k1c3) (by decide +kernel) rfl rfl rfl (by decide +kernel)
set_option maxRecDepth 65536 in
theorem w_c1 : (Jvm.Cond.code ({ cls := "com/example/fleetwire/fleetwire/bench/TreeFieldSumPinLaw", name := "node", desc := "(IIII)Lcom/example/fleetwire/fleetwire/bench/Bench$Tree;" } : Jvm.MethodName) method_2_code (5 : Nat) (Option.some (Jvm.ClassFile.FieldType.object "com/example/fleetwire/fleetwire/bench/Bench$Tree"))).before args0 about1 = true := code_word (m := ⟨1, 1⟩) (meth := k1m1) (c := k1c1) (by decide +kernel) rfl rfl rfl (by decide +kernel)
set_option maxRecDepth 65536 in
theorem w_c2 : (Jvm.Cond.code ({ cls := "com/example/fleetwire/fleetwire/bench/Bench$Tree", name := "<init>", desc := "()V" } : Jvm.MethodName) prog_9_method_1_code (1 : Nat) (Option.none : Option Jvm.ClassFile.FieldType)).before args0 about1 = true := code_word (m := ⟨3, 0⟩) (meth := k3m0) (c := k3c0) (by decide +kernel) rfl rfl rfl (by decide +kernel)
set_option maxRecDepth 65536 in
theorem w_c3 : (Jvm.Cond.code ({ cls := "java/lang/Object", name := "<init>", desc := "()V" } : Jvm.MethodName) object_method_1_code (1 : Nat) (Option.none : Option Jvm.ClassFile.FieldType)).before args0 about1 = true := code_word (m := ⟨0, 0⟩) (meth := k0m0) (c := k0c0) (by decide +kernel) rfl rfl rfl (by decide +kernel)
set_option maxRecDepth 65536 in
theorem w_c4 : (Jvm.Cond.code ({ cls := "com/example/fleetwire/fleetwire/bench/TreeFieldSumPinLaw", name := "s", desc := "(IIII)J" } : Jvm.MethodName) method_3_code (6 : Nat) (Option.some Jvm.ClassFile.FieldType.long)).before args0 about1 = true := code_word (m := ⟨1, 2⟩) (meth := k1m2) (c := k1c2) (by decide +kernel) rfl rfl rfl (by decide +kernel)
set_option maxRecDepth 65536 in
theorem w_c5 : (Jvm.Cond.code ({ cls := "com/example/fleetwire/fleetwire/bench/Bench$Tree", name := "fieldSum", desc := "()J" } : Jvm.MethodName) prog_9_method_3_code (3 : Nat) (Option.some Jvm.ClassFile.FieldType.long)).before args0 about1 = true := code_word (m := ⟨3, 1⟩) (meth := k3m1) (c := k3c1) (by decide +kernel) rfl rfl rfl (by decide +kernel)
def codes1 : List Jvm.Cond := [Jvm.Cond.code x code maxLocals ret, Jvm.Cond.code ({ cls := "com/example/fleetwire/fleetwire/bench/TreeFieldSumPinLaw", name := "node", desc := "(IIII)Lcom/example/fleetwire/fleetwire/bench/Bench$Tree;" } : Jvm.MethodName) method_2_code (5 : Nat) (Option.some (Jvm.ClassFile.FieldType.object "com/example/fleetwire/fleetwire/bench/Bench$Tree")), Jvm.Cond.code ({ cls := "com/example/fleetwire/fleetwire/bench/Bench$Tree", name := "<init>", desc := "()V" } : Jvm.MethodName) prog_9_method_1_code (1 : Nat) (Option.none : Option Jvm.ClassFile.FieldType), Jvm.Cond.code ({ cls := "java/lang/Object", name := "<init>", desc := "()V" } : Jvm.MethodName) object_method_1_code (1 : Nat) (Option.none : Option Jvm.ClassFile.FieldType), Jvm.Cond.code ({ cls := "com/example/fleetwire/fleetwire/bench/TreeFieldSumPinLaw", name := "s", desc := "(IIII)J" } : Jvm.MethodName) method_3_code (6 : Nat) (Option.some Jvm.ClassFile.FieldType.long), Jvm.Cond.code ({ cls := "com/example/fleetwire/fleetwire/bench/Bench$Tree", name := "fieldSum", desc := "()J" } : Jvm.MethodName) prog_9_method_3_code (3 : Nat) (Option.some Jvm.ClassFile.FieldType.long)]
set_option maxRecDepth 65536 in
theorem codes_eq : words1.filter isCode = codes1 := rfl
theorem w_codes : ∀ c ∈ words1.filter isCode, c.before args0 about1 = true := by
  rw [codes_eq]
  intro c hc
  simp only [codes1, List.mem_cons, List.not_mem_nil, or_false] at hc
  rcases hc with rfl | rfl | rfl | rfl | rfl | rfl
  · exact w_c0
  · exact w_c1
  · exact w_c2
  · exact w_c3
  · exact w_c4
  · exact w_c5
set_option maxRecDepth 65536 in
theorem w_t1 : (words1.take 24).all (fun c => isCode c || c.before args0 about1) = true := by decide +kernel
set_option maxRecDepth 65536 in
theorem w_t2 : (words1.drop 24).all (fun c => isCode c || c.before args0 about1) = true := by decide +kernel
theorem w_tables : (allAtoms (Jvm.Cond.code x code maxLocals ret :: tables_1)).before args0 about1 = true := by
  rw [allAtoms_all]
  show words1.all (fun c => c.before args0 about1) = true
  refine all_split ?_ w_codes
  rw [← List.take_append_drop 24 words1, List.all_append, w_t1, w_t2]
  rfl
set_option maxRecDepth 65536 in
theorem w_case : (Jvm.Cond.and given_1 narrow_1).before args0 about1 = true := by decide +kernel
theorem w_applies : (headSpec (Jvm.Cond.code x code maxLocals ret :: tables_1) room_1).applies x e0.platform about1 = true :=
  (Spec.applies_iff w_frames).mpr ⟨w_running, w_runnable, w_alone, w_named, w_hears, w_ripe, w_room, w_tables⟩
theorem atStart : AtStart classFile x code maxLocals ret World_1 tables_1 room_1 Calls_1 rest_1 Pre_1 launch0 p0 e0 about1 theMethod args0 below0 :=
  ⟨lists_1, trivial, launch0.admits_env _ _ _, launch0.least_env, fairChoices_fair.cas, fairChoices_fair.clock, w_frames, w_args, w_heap, w_applies, trivial, trivial, w_case⟩
end start1
theorem witness_1 : WitnessClaimed_1 := ⟨start1.p0, start1.e0, start1.about1, start1.theMethod, start1.args0, start1.below0, start1.atStart⟩
end Jvm.Pilot.@@N@@
