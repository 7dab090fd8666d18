import JvmDerived
import JvmDerived.Pilot.@@N@@Statement
import JvmDerived.Pilot.@@N@@Code
set_option linter.unusedVariables false
set_option linter.unusedSimpArgs false
namespace Jvm.RoadKit
open Sem ClassFile Op Lib Jvm.Stand Jvm.Free Jvm.LawKit
section New
variable {p : Program} {l : Launch} {e : Env} {R : Room} {s : State} {m : MethodId} {args : Array Value} {below : List Frame} {meth : Method} {c : Code} {T : State} {locs : List Loc} {cells slots : Nat}
theorem retI (X : Stand p l e R s m args below meth c T locs cells slots) (hx : p.tables.exec = Jvm.exec) {pc : Nat} {Ls : Array Slot} {z : Int32} {rest : List Value} (hret : meth.sig.returnType = some .int) (hd : decode c.code pc = .ok (.ireturn, 1)) {fs : List Frame}
    (hl : ∀ (f : JFrame) (acts : List Action), f.method = m → f.locked = none → f.entered = [] → (doReturn e (T.setTop f) acts (some (.int z))).1 = T.setFrames fs) : Steps p.tables e below (T.setTop (mkF m pc Ls (.int z :: rest))) (T.setFrames fs) := by
  have hm' : T.vm.method? m = some meth := X.method'
  have hn : narrow .int (.int z) = .int z := rfl
  show Steps p.tables e below (T.setTop { method := m, pc := pc, locals := Ls, stack := _ :: rest, locked := none }) _
  jvm_step X.here [X.here.top, hx, hd, hm', hret, hn]
  first | (intro acts; rw [hl _ acts rfl rfl rfl]) | rw [hl _ _ rfl rfl rfl]
  exact Steps.refl _
end New
end Jvm.RoadKit
namespace Jvm.Pilot.@@N@@
open Jvm Jvm.ClassFile Sem Op Lib Jvm.Free Jvm.Stand Jvm.LawKit Jvm.RoadKit Bundle Jvm.Pilot.@@N@@.Jvm.D

theorem own_go {tb : Tables} {e : Env} {below : List Frame} {A B : State} {Φ : State → Outcome → Prop} (st : ∀ t, Steps tb e below B t → Steps tb e below A t) (h : ∃ s₂ o, Steps tb e below B s₂ ∧ Φ s₂ o) : ∃ s₂ o, Steps tb e below A s₂ ∧ Φ s₂ o := by
  obtain ⟨t, o, h1, h2⟩ := h
  exact ⟨t, o, st t h1, h2⟩
theorem own_ifc {P Q : Prop} [Decidable P] [Decidable Q] {a b c d : Int32} (h : P ↔ Q) (h1 : a = c) (h2 : b = d) : (if P then a else b) = (if Q then c else d) := by
  subst h1 h2
  by_cases p : P
  · rw [if_pos p, if_pos (h.1 p)]
  · rw [if_neg p, if_neg (fun q => p (h.2 q))]
theorem d2_0 : decode prog_2_method_4_code 0 = .ok (.lload_n 0, 1) := by decide +kernel
theorem d2_1 : decode prog_2_method_4_code 1 = .ok (.lconst 1, 1) := by decide +kernel
theorem d2_2 : decode prog_2_method_4_code 2 = .ok (.lcmp, 1) := by decide +kernel
theorem d2_3 : decode prog_2_method_4_code 3 = .ok (.ifCond .ge 17, 3) := by decide +kernel
theorem d2_20 : decode prog_2_method_4_code 20 = .ok (.return_, 1) := by decide +kernel
theorem ef_2 (m : MethodId) (q0 : Int64) : entryFrame m #[(.long q0)] 2 = mkF m 0 #[.val (.long q0), .second] [] := by first | (simp [entryFrame, mkF, argsToLocals, Value.category]; done) | rfl
theorem pn_2 : plainName "com/example/octavo/octavo/Limit" = true := by first | (simp [plainName, overriddenIn]; done) | decide +kernel
def Q2 (h0 : Heap) (n0 : Nat) (v : Option Value) (h : Heap) (L : List Loc) : Prop := v = none ∧ Fr n0 L ∧ h = h0
set_option maxRecDepth 65536 in
set_option maxHeartbeats 40000000 in
theorem rm2 (l : Launch) (Z : State) (t0 : Array Value) (hw : ∀ d ∈ tables_1, d.before t0 Z = true) (ws : List Jvm.Cond) (q0 : Int64) (h0 : Heap) (n0 : Nat) (Z0 : n0 ≤ h0.size) (hc3 : ¬ ((lcmpW q0 (1 : Int64)) < (0 : Int32))) :
    MetFree l (⟨"com/example/octavo/octavo/Limit", "requirePosition", "(J)V"⟩ : MethodName) (head1 (Jvm.Cond.code (⟨"com/example/octavo/octavo/Limit", "requirePosition", "(J)V"⟩ : MethodName) prog_2_method_4_code 2 none :: ws) ({ frames := 0, cells := 0, slots := 0, locals := 0 } : Room)) (fun a U => a = #[(.long q0)] ∧ Z.Warmed39 U.vm ∧ U.heap = h0) (fun _ _ _ _ _ => True) (fun _ U o U' => ∃ v L, o = .returned v ∧ Q2 h0 n0 v U'.heap L ∧ FrameEnd U o U' L ({ frames := 0, cells := 0, slots := 0, locals := 0 } : Room).cells ({ frames := 0, cells := 0, slots := 0, locals := 0 } : Room).slots) := by
  refine MetFree.of_bodySF (plainFor_of_name pn_2) hisR ?_
  intro p e s m args below meth c s₁ Bd hml0 hP hK
  obtain ⟨rfl, hZ, hh⟩ := hP
  have hx := Bd.exec
  have hby := Bd.bytes
  have hml : c.maxLocals = 2 := hml0
  have hown : s.vm.findClass "com/example/octavo/octavo/Limit" = some m.cls := findClass_of_methodNamed Bd.named
  have hnm := (name_of_methodNamed Bd.named Bd.method).1
  have X0 : Stand p l e ({ frames := 0, cells := 0, slots := 0, locals := 0 } : Room) s m #[(.long q0)] below meth c s₁ [] 0 0 := Stand.of_body Bd
  have e0 : s₁.heap = h0 := by rw [← hh, Bd.state]; rfl
  have N0 := Fr.nil n0
  have pre0 : ∀ t, Steps p.tables e below (s₁.setTop (mkF m 0 #[.val (.long q0), .second] [])) t → Steps p.tables e below (s₁.setTop (entryFrame m #[(.long q0)] 2)) t := fun t k => castTop (ef_2 m q0) k
  refine own_go pre0 ?_
  refine own_go (B := s₁.setTop (mkF m 20 #[.val (.long q0), .second] [])) (fun t kt => ?_) ?_
  · show Steps p.tables e below (s₁.setTop (mkF m 0 #[.val (.long q0), .second] [])) _
    refine XS.lloadN X0.here hx rfl (hb hby d2_0) rfl ?_
    show Steps p.tables e below (s₁.setTop (mkF m 1 #[.val (.long q0), .second] [(.long q0)])) _
    refine XS.lconst X0.here hx rfl (hb hby d2_1) ?_
    show Steps p.tables e below (s₁.setTop (mkF m 2 #[.val (.long q0), .second] [(.long (1 : Int64)), (.long q0)])) _
    refine XS.lcmp X0.here hx rfl (hb hby d2_2) rfl ?_
    show Steps p.tables e below (s₁.setTop (mkF m 3 #[.val (.long q0), .second] [(.int (lcmpW q0 (1 : Int64)))])) _
    refine XS.ifYes X0.here hx rfl (pc0 := 3) (pc' := 20) rfl (hb hby d2_3) rfl ((if0 _ _).trans (flt hc3).2.1) (by decide) (by decide) ?_
    exact kt
  obtain ⟨fs, hr, hrun, hended, hW, hsame⟩ := X0.leave (v := none) (fun _ => rfl)
  refine ⟨_, _, ?_, hrun, hended, _, _, rfl, ?_, ⟨_, rfl⟩, hW, hsame.mono (by decide) (by decide)⟩
  · show Steps p.tables e below (s₁.setTop (mkF m 20 #[.val (.long q0), .second] [])) _
    exact X0.returnOut hx Bd.returns (hb hby d2_20) hr
  · show Q2 h0 n0 _ s₁.heap _
    rw [e0]
    exact ⟨rfl, N0, rfl⟩
theorem pd_3_0 : parseMethodDescriptor "(J)V" = some ⟨[.long], none⟩ := by decide +kernel
theorem d3_0 : decode prog_2_method_1_code 0 = .ok (.aload_n 0, 1) := by decide +kernel
theorem d3_1 : decode prog_2_method_1_code 1 = .ok (.invokespecial 1, 3) := by decide +kernel
theorem d3_4 : decode prog_2_method_1_code 4 = .ok (.iload_n 1, 1) := by decide +kernel
theorem d3_5 : decode prog_2_method_1_code 5 = .ok (.iconst 1, 1) := by decide +kernel
theorem d3_6 : decode prog_2_method_1_code 6 = .ok (.if_icmp .ge 17, 3) := by decide +kernel
theorem d3_23 : decode prog_2_method_1_code 23 = .ok (.lload_n 2, 1) := by decide +kernel
theorem d3_24 : decode prog_2_method_1_code 24 = .ok (.invokestatic 16, 3) := by decide +kernel
theorem d3_27 : decode prog_2_method_1_code 27 = .ok (.aload_n 0, 1) := by decide +kernel
theorem d3_28 : decode prog_2_method_1_code 28 = .ok (.iload_n 1, 1) := by decide +kernel
theorem d3_29 : decode prog_2_method_1_code 29 = .ok (.putfield 22, 3) := by decide +kernel
theorem d3_32 : decode prog_2_method_1_code 32 = .ok (.aload_n 0, 1) := by decide +kernel
theorem d3_33 : decode prog_2_method_1_code 33 = .ok (.lload_n 2, 1) := by decide +kernel
theorem d3_34 : decode prog_2_method_1_code 34 = .ok (.putfield 26, 3) := by decide +kernel
theorem d3_37 : decode prog_2_method_1_code 37 = .ok (.return_, 1) := by decide +kernel
theorem ef_3 (m : MethodId) (a0 : Addr) (p1 : Int32) (q2 : Int64) : entryFrame m #[(.ref a0), (.int p1), (.long q2)] 4 = mkF m 0 #[.val (.ref a0), .val (.int p1), .val (.long q2), .second] [] := by first | (simp [entryFrame, mkF, argsToLocals, Value.category]; done) | rfl
theorem pn_3 : plainName "com/example/octavo/octavo/Limit" = true := by first | (simp [plainName, overriddenIn]; done) | decide +kernel
def Q3 (Z : State) (a0 : Addr) (p1 : Int32) (q2 : Int64) (h0 : Heap) (n0 : Nat) (v : Option Value) (h : Heap) (L : List Loc) : Prop := v = none ∧ Fr n0 L ∧ Keep h0 h [a0] ∧ Exa Z h a0 "com/example/octavo/octavo/Limit" ∧ Fld Z h a0 "com/example/octavo/octavo/Limit" "maxResults" "I" (.int p1) ∧ Fld Z h a0 "com/example/octavo/octavo/Limit" "startAt" "J" (.long q2)
set_option maxRecDepth 65536 in
set_option maxHeartbeats 40000000 in
theorem rm3 (l : Launch) (Z : State) (t0 : Array Value) (hw : ∀ d ∈ tables_1, d.before t0 Z = true) (ws : List Jvm.Cond) (a0 : Addr) (p1 : Int32) (q2 : Int64) (h0 : Heap) (n0 : Nat) (Z0 : n0 ≤ h0.size) (ga : n0 ≤ a0) (E_a0 : Exa Z h0 a0 "com/example/octavo/octavo/Limit") (F_maxResults_a0 : Fld Z h0 a0 "com/example/octavo/octavo/Limit" "maxResults" "I" (.int (0 : Int32))) (F_startAt_a0 : Fld Z h0 a0 "com/example/octavo/octavo/Limit" "startAt" "J" (.long (0 : Int64))) (hc6 : ¬ (p1 < (1 : Int32))) (hc2 : ¬ ((lcmpW q2 (1 : Int64)) < (0 : Int32))) :
    MetFree l (⟨"com/example/octavo/octavo/Limit", "<init>", "(IJ)V"⟩ : MethodName) (head1 (Jvm.Cond.code (⟨"com/example/octavo/octavo/Limit", "<init>", "(IJ)V"⟩ : MethodName) prog_2_method_1_code 4 none :: ws) ({ frames := 1, cells := 0, slots := 0, locals := 13 } : Room)) (fun a U => a = #[(.ref a0), (.int p1), (.long q2)] ∧ Z.Warmed39 U.vm ∧ U.heap = h0) (fun _ _ _ _ _ => True) (fun _ U o U' => ∃ v L, o = .returned v ∧ Q3 Z a0 p1 q2 h0 n0 v U'.heap L ∧ FrameEnd U o U' L ({ frames := 1, cells := 0, slots := 0, locals := 13 } : Room).cells ({ frames := 1, cells := 0, slots := 0, locals := 13 } : Room).slots) := by
  refine MetFree.of_bodySF (plainFor_of_name pn_3) hisR ?_
  intro p e s m args below meth c s₁ Bd hml0 hP hK
  obtain ⟨rfl, hZ, hh⟩ := hP
  have hx := Bd.exec
  have hby := Bd.bytes
  have hml : c.maxLocals = 4 := hml0
  have hown : s.vm.findClass "com/example/octavo/octavo/Limit" = some m.cls := findClass_of_methodNamed Bd.named
  have hnm := (name_of_methodNamed Bd.named Bd.method).1
  have X0 : Stand p l e ({ frames := 1, cells := 0, slots := 0, locals := 13 } : Room) s m #[(.ref a0), (.int p1), (.long q2)] below meth c s₁ [] 0 0 := Stand.of_body Bd
  have e0 : s₁.heap = h0 := by rw [← hh, Bd.state]; rfl
  have N0 := Fr.nil n0
  have pre0 : ∀ t, Steps p.tables e below (s₁.setTop (mkF m 0 #[.val (.ref a0), .val (.int p1), .val (.long q2), .second] [])) t → Steps p.tables e below (s₁.setTop (entryFrame m #[(.ref a0), (.int p1), (.long q2)] 4)) t := fun t k => castTop (ef_3 m a0 p1 q2) k
  have K0 : Keep h0 h0 [a0] := Keep.refl _ _
  refine own_go pre0 ?_
  refine own_go (B := s₁.setTop (mkF m 1 #[.val (.ref a0), .val (.int p1), .val (.long q2), .second] [(.ref a0)])) (fun t kt => ?_) ?_
  · show Steps p.tables e below (s₁.setTop (mkF m 0 #[.val (.ref a0), .val (.int p1), .val (.long q2), .second] [])) _
    refine XS.aloadN X0.here hx rfl (hb hby d3_0) rfl rfl ?_
    exact kt
  obtain ⟨T1, X1, e1, st1⟩ := initO X0 hx hZ hown (hw _ (List.mem_of_getElem? (i := 15) rfl)) (hw _ (List.mem_of_getElem? (i := 16) rfl)) (hw _ (List.mem_of_getElem? (i := 17) rfl)) e0 (g := (mkF m 1 #[.val (.ref a0), .val (.int p1), .val (.long q2), .second] [(.ref a0)])) rfl (by rw [hml]; rfl) rfl (hb hby d3_1) (by decide) (W := 0) (by show 2 * 0 + _ ≤ _; exact Nat.le_of_eq rfl) (by decide)
  refine own_go (B := T1.setTop (mkF m 4 #[.val (.ref a0), .val (.int p1), .val (.long q2), .second] [])) (fun t kt => st1 t kt) ?_
  refine own_go (B := T1.setTop (mkF m 24 #[.val (.ref a0), .val (.int p1), .val (.long q2), .second] [(.long q2)])) (fun t kt => ?_) ?_
  · show Steps p.tables e below (T1.setTop (mkF m 4 #[.val (.ref a0), .val (.int p1), .val (.long q2), .second] [])) _
    refine XS.iloadN X1.here hx rfl (hb hby d3_4) rfl ?_
    show Steps p.tables e below (T1.setTop (mkF m 5 #[.val (.ref a0), .val (.int p1), .val (.long q2), .second] [(.int p1)])) _
    refine XS.iconst X1.here hx rfl (hb hby d3_5) ?_
    show Steps p.tables e below (T1.setTop (mkF m 6 #[.val (.ref a0), .val (.int p1), .val (.long q2), .second] [(.int (1 : Int32)), (.int p1)])) _
    refine XS.icmpYes X1.here hx rfl (pc0 := 6) (pc' := 23) rfl (hb hby d3_6) rfl (flt hc6).2.1 (by decide) (by decide) ?_
    show Steps p.tables e below (T1.setTop (mkF m 23 #[.val (.ref a0), .val (.int p1), .val (.long q2), .second] [])) _
    refine XS.lloadN X1.here hx rfl (hb hby d3_23) rfl ?_
    exact kt
  obtain ⟨_, _, ⟨T2, L2, k2, n2⟩, -, X2, ⟨Lc2, hQ2, l2, y2, z2⟩, st2⟩ := Jvm.LawKit.callS X1 hx (y := (⟨"com/example/octavo/octavo/Limit", "requirePosition", "(J)V"⟩ : MethodName)) hown (mvT hZ (hw _ (List.mem_of_getElem? (i := 6) rfl))) (mvT hZ (hw _ (List.mem_of_getElem? (i := 7) rfl))) (mvT hZ (hw _ (List.mem_of_getElem? (i := 4) rfl))) (mvT hZ (hw _ (List.mem_of_getElem? (i := 8) rfl))) (by decide) (backOf (W := 0) (rm2 l Z t0 hw [] q2 h0 n0 Z0 hc2) hZ (hw _ (List.mem_of_getElem? (i := 8) rfl)) (hw _ (List.mem_of_getElem? (i := 4) rfl)) (by decide) (by decide)) (g := (mkF m 24 #[.val (.ref a0), .val (.int p1), .val (.long q2), .second] [(.long q2)])) rfl (by rw [hml]; rfl) (argsL := [(.long q2)]) (rest := []) (lenOf pd_3_0 rfl) rfl (by show 2 * 0 + _ ≤ _; exact Nat.le_of_eq rfl) (hb hby d3_24) (fun _ _ => ⟨rfl, e1, (by decide : 0 + 0 ≤ _), (by decide : 0 + 0 ≤ _)⟩)
  dsimp only [Pt.U, Pt.locs, Pt.cells, Pt.slots] at X2 l2 y2 z2 st2 hQ2
  subst l2 y2 z2
  obtain ⟨rfl, Nq2, hh2⟩ := hQ2
  have N2 := Fr.app N0 Nq2
  have e2 : T2.heap = h0 := hh2
  refine own_go (B := T2.setTop (mkF m 27 #[.val (.ref a0), .val (.int p1), .val (.long q2), .second] [])) (fun t kt => st2 t kt) ?_
  refine own_go (B := T2.setTop (mkF m 29 #[.val (.ref a0), .val (.int p1), .val (.long q2), .second] [(.int p1), (.ref a0)])) (fun t kt => ?_) ?_
  · show Steps p.tables e below (T2.setTop (mkF m 27 #[.val (.ref a0), .val (.int p1), .val (.long q2), .second] [])) _
    refine XS.aloadN X2.here hx rfl (hb hby d3_27) rfl rfl ?_
    show Steps p.tables e below (T2.setTop (mkF m 28 #[.val (.ref a0), .val (.int p1), .val (.long q2), .second] [(.ref a0)])) _
    refine XS.iloadN X2.here hx rfl (hb hby d3_28) rfl ?_
    exact kt
  obtain ⟨T3, h3, X3, e3, W3, st3⟩ := putF X2 hx hZ hown (host := "") (Or.inl (hw _ (List.mem_of_getElem? (i := 18) rfl))) Via.refl e2 F_maxResults_a0 E_a0 (Or.inr ⟨(hw _ (List.mem_of_getElem? (i := 19) rfl)), rfl, hnm⟩) (hw _ (List.mem_of_getElem? (i := 11) rfl)) (ty := .int) (by decide) rfl rfl (g := (mkF m 29 #[.val (.ref a0), .val (.int p1), .val (.long q2), .second] [(.int p1), (.ref a0)])) rfl rfl (hb hby d3_29)
  have F_maxResults_a0_3 : Fld Z h3 a0 "com/example/octavo/octavo/Limit" "maxResults" "I" (.int p1) := F_maxResults_a0.same W3
  have E_a0_3 := E_a0.wr W3
  have F_startAt_a0_3 := F_startAt_a0.other W3 (Or.inr (slot_ne (Or.inr (hw _ (List.mem_of_getElem? (i := 21) rfl))) (Or.inr (hw _ (List.mem_of_getElem? (i := 19) rfl))) (by decide) (t := .long) (t' := .int) (by decide) (by decide)))
  have Z3 : n0 ≤ h3.size := Nat.le_trans Z0 (Keep.of_wr W3).1
  have K3 := K0.wr W3 (Or.inl (by simp))
  have N3 := Fr.snoc X3 N2 ga
  refine own_go (B := T3.setTop (mkF m 32 #[.val (.ref a0), .val (.int p1), .val (.long q2), .second] [])) (fun t kt => st3 t kt) ?_
  refine own_go (B := T3.setTop (mkF m 34 #[.val (.ref a0), .val (.int p1), .val (.long q2), .second] [(.long q2), (.ref a0)])) (fun t kt => ?_) ?_
  · show Steps p.tables e below (T3.setTop (mkF m 32 #[.val (.ref a0), .val (.int p1), .val (.long q2), .second] [])) _
    refine XS.aloadN X3.here hx rfl (hb hby d3_32) rfl rfl ?_
    show Steps p.tables e below (T3.setTop (mkF m 33 #[.val (.ref a0), .val (.int p1), .val (.long q2), .second] [(.ref a0)])) _
    refine XS.lloadN X3.here hx rfl (hb hby d3_33) rfl ?_
    exact kt
  obtain ⟨T4, h4, X4, e4, W4, st4⟩ := putF X3 hx hZ hown (host := "") (Or.inl (hw _ (List.mem_of_getElem? (i := 20) rfl))) Via.refl e3 F_startAt_a0_3 E_a0_3 (Or.inr ⟨(hw _ (List.mem_of_getElem? (i := 21) rfl)), rfl, hnm⟩) (hw _ (List.mem_of_getElem? (i := 11) rfl)) (ty := .long) (by decide) rfl rfl (g := (mkF m 34 #[.val (.ref a0), .val (.int p1), .val (.long q2), .second] [(.long q2), (.ref a0)])) rfl rfl (hb hby d3_34)
  have F_startAt_a0_4 : Fld Z h4 a0 "com/example/octavo/octavo/Limit" "startAt" "J" (.long q2) := F_startAt_a0_3.same W4
  have E_a0_4 := E_a0_3.wr W4
  have F_maxResults_a0_4 := F_maxResults_a0_3.other W4 (Or.inr (slot_ne (Or.inr (hw _ (List.mem_of_getElem? (i := 19) rfl))) (Or.inr (hw _ (List.mem_of_getElem? (i := 21) rfl))) (by decide) (t := .int) (t' := .long) (by decide) (by decide)))
  have Z4 : n0 ≤ h4.size := Nat.le_trans Z3 (Keep.of_wr W4).1
  have K4 := K3.wr W4 (Or.inl (by simp))
  have N4 := Fr.snoc X4 N3 ga
  refine own_go (B := T4.setTop (mkF m 37 #[.val (.ref a0), .val (.int p1), .val (.long q2), .second] [])) (fun t kt => st4 t kt) ?_
  obtain ⟨fs, hr, hrun, hended, hW, hsame⟩ := X4.leave (v := none) (fun _ => rfl)
  refine ⟨_, _, ?_, hrun, hended, _, _, rfl, ?_, ⟨_, rfl⟩, hW, hsame.mono (by decide) (by decide)⟩
  · show Steps p.tables e below (T4.setTop (mkF m 37 #[.val (.ref a0), .val (.int p1), .val (.long q2), .second] [])) _
    exact X4.returnOut hx Bd.returns (hb hby d3_37) hr
  · show Q3 Z a0 p1 q2 h0 n0 _ T4.heap _
    rw [e4]
    exact ⟨rfl, N4, K4, E_a0_4, F_maxResults_a0_4, F_startAt_a0_4⟩
theorem pd_1_0 : parseMethodDescriptor "(J)V" = some ⟨[.long], none⟩ := by decide +kernel
theorem pd_1_1 : parseMethodDescriptor "(IJ)V" = some ⟨[.int, .long], none⟩ := by decide +kernel
theorem d1_0 : decode prog_2_method_3_code 0 = .ok (.lload_n 0, 1) := by decide +kernel
theorem d1_1 : decode prog_2_method_3_code 1 = .ok (.invokestatic 16, 3) := by decide +kernel
theorem d1_4 : decode prog_2_method_3_code 4 = .ok (.lload_n 2, 1) := by decide +kernel
theorem d1_5 : decode prog_2_method_3_code 5 = .ok (.lload_n 0, 1) := by decide +kernel
theorem d1_6 : decode prog_2_method_3_code 6 = .ok (.lcmp, 1) := by decide +kernel
theorem d1_7 : decode prog_2_method_3_code 7 = .ok (.ifCond .ge 18, 3) := by decide +kernel
theorem d1_25 : decode prog_2_method_3_code 25 = .ok (.lload_n 2, 1) := by decide +kernel
theorem d1_26 : decode prog_2_method_3_code 26 = .ok (.lload_n 0, 1) := by decide +kernel
theorem d1_27 : decode prog_2_method_3_code 27 = .ok (.lsub, 1) := by decide +kernel
theorem d1_28 : decode prog_2_method_3_code 28 = .ok (.lconst 1, 1) := by decide +kernel
theorem d1_29 : decode prog_2_method_3_code 29 = .ok (.ladd, 1) := by decide +kernel
theorem d1_30 : decode prog_2_method_3_code 30 = .ok (.lstore 4, 2) := by decide +kernel
theorem d1_32 : decode prog_2_method_3_code 32 = .ok (.lload 4, 2) := by decide +kernel
theorem d1_34 : decode prog_2_method_3_code 34 = .ok (.ldc2_w 38, 3) := by decide +kernel
theorem d1_37 : decode prog_2_method_3_code 37 = .ok (.lcmp, 1) := by decide +kernel
theorem d1_38 : decode prog_2_method_3_code 38 = .ok (.ifCond .le 20, 3) := by decide +kernel
theorem d1_58 : decode prog_2_method_3_code 58 = .ok (.new 17, 3) := by decide +kernel
theorem d1_61 : decode prog_2_method_3_code 61 = .ok (.dup, 1) := by decide +kernel
theorem d1_62 : decode prog_2_method_3_code 62 = .ok (.lload 4, 2) := by decide +kernel
theorem d1_64 : decode prog_2_method_3_code 64 = .ok (.l2i, 1) := by decide +kernel
theorem d1_65 : decode prog_2_method_3_code 65 = .ok (.lload_n 0, 1) := by decide +kernel
theorem d1_66 : decode prog_2_method_3_code 66 = .ok (.invokespecial 30, 3) := by decide +kernel
theorem d1_69 : decode prog_2_method_3_code 69 = .ok (.areturn, 1) := by decide +kernel
theorem ef_1 (m : MethodId) (q0 : Int64) (q1 : Int64) : entryFrame m #[(.long q0), (.long q1)] 6 = mkF m 0 #[.val (.long q0), .second, .val (.long q1), .second, .unset, .unset] [] := by first | (simp [entryFrame, mkF, argsToLocals, Value.category]; done) | rfl
theorem pn_1 : plainName "com/example/octavo/octavo/Limit" = true := by first | (simp [plainName, overriddenIn]; done) | decide +kernel
def Q1 (Z : State) (q0 q1 : Int64) (h0 : Heap) (n0 : Nat) (v : Option Value) (h : Heap) (L : List Loc) : Prop := ∃ b : Addr, v = some (.ref b) ∧ Fr n0 L ∧ Keep h0 h [] ∧ h0.size ≤ b ∧ n0 ≤ b ∧ Exa Z h b "com/example/octavo/octavo/Limit" ∧ Fld Z h b "com/example/octavo/octavo/Limit" "maxResults" "I" (.int (((q1 - q0) + (1 : Int64)).toInt32)) ∧ Fld Z h b "com/example/octavo/octavo/Limit" "startAt" "J" (.long q0)
set_option maxRecDepth 65536 in
set_option maxHeartbeats 40000000 in
theorem rm1 (l : Launch) (Z : State) (t0 : Array Value) (hw : ∀ d ∈ tables_1, d.before t0 Z = true) (ws : List Jvm.Cond) (q0 : Int64) (q1 : Int64) (h0 : Heap) (n0 : Nat) (Z0 : n0 ≤ h0.size) (hc0 : ¬ ((lcmpW q0 (1 : Int64)) < (0 : Int32))) (hc7 : ¬ ((lcmpW q1 q0) < (0 : Int32))) (hc38 : ¬ ((0 : Int32) < (lcmpW ((q1 - q0) + (1 : Int64)) (2147483647 : Int64)))) (hcp : ¬ ((((q1 - q0) + (1 : Int64)).toInt32) < (1 : Int32))) :
    MetFree l (⟨"com/example/octavo/octavo/Limit", "range", "(JJ)Lcom/example/octavo/octavo/Limit;"⟩ : MethodName) (head1 (Jvm.Cond.code (⟨"com/example/octavo/octavo/Limit", "range", "(JJ)Lcom/example/octavo/octavo/Limit;"⟩ : MethodName) prog_2_method_3_code 6 (some (.object "com/example/octavo/octavo/Limit")) :: ws) ({ frames := 2, cells := 1, slots := 2, locals := 30 } : Room)) (fun a U => a = #[(.long q0), (.long q1)] ∧ Z.Warmed39 U.vm ∧ U.heap = h0) (fun _ _ _ _ _ => True) (fun _ U o U' => ∃ v L, o = .returned v ∧ Q1 Z q0 q1 h0 n0 v U'.heap L ∧ FrameEnd U o U' L ({ frames := 2, cells := 1, slots := 2, locals := 30 } : Room).cells ({ frames := 2, cells := 1, slots := 2, locals := 30 } : Room).slots) := by
  refine MetFree.of_bodySF (plainFor_of_name pn_1) hisR ?_
  intro p e s m args below meth c s₁ Bd hml0 hP hK
  obtain ⟨rfl, hZ, hh⟩ := hP
  have hx := Bd.exec
  have hby := Bd.bytes
  have hml : c.maxLocals = 6 := hml0
  have hown : s.vm.findClass "com/example/octavo/octavo/Limit" = some m.cls := findClass_of_methodNamed Bd.named
  have hnm := (name_of_methodNamed Bd.named Bd.method).1
  have X0 : Stand p l e ({ frames := 2, cells := 1, slots := 2, locals := 30 } : Room) s m #[(.long q0), (.long q1)] below meth c s₁ [] 0 0 := Stand.of_body Bd
  have e0 : s₁.heap = h0 := by rw [← hh, Bd.state]; rfl
  have N0 := Fr.nil n0
  have pre0 : ∀ t, Steps p.tables e below (s₁.setTop (mkF m 0 #[.val (.long q0), .second, .val (.long q1), .second, .unset, .unset] [])) t → Steps p.tables e below (s₁.setTop (entryFrame m #[(.long q0), (.long q1)] 6)) t := fun t k => castTop (ef_1 m q0 q1) k
  have K0 : Keep h0 h0 [] := Keep.refl _ _
  refine own_go pre0 ?_
  refine own_go (B := s₁.setTop (mkF m 1 #[.val (.long q0), .second, .val (.long q1), .second, .unset, .unset] [(.long q0)])) (fun t kt => ?_) ?_
  · show Steps p.tables e below (s₁.setTop (mkF m 0 #[.val (.long q0), .second, .val (.long q1), .second, .unset, .unset] [])) _
    refine XS.lloadN X0.here hx rfl (hb hby d1_0) rfl ?_
    exact kt
  obtain ⟨_, _, ⟨T1, L1, k1, n1⟩, -, X1, ⟨Lc1, hQ1, l1, y1, z1⟩, st1⟩ := Jvm.LawKit.callS X0 hx (y := (⟨"com/example/octavo/octavo/Limit", "requirePosition", "(J)V"⟩ : MethodName)) hown (mvT hZ (hw _ (List.mem_of_getElem? (i := 6) rfl))) (mvT hZ (hw _ (List.mem_of_getElem? (i := 7) rfl))) (mvT hZ (hw _ (List.mem_of_getElem? (i := 4) rfl))) (mvT hZ (hw _ (List.mem_of_getElem? (i := 8) rfl))) (by decide) (backOf (W := 0) (rm2 l Z t0 hw [] q0 h0 n0 Z0 hc0) hZ (hw _ (List.mem_of_getElem? (i := 8) rfl)) (hw _ (List.mem_of_getElem? (i := 4) rfl)) (by decide) (by decide)) (g := (mkF m 1 #[.val (.long q0), .second, .val (.long q1), .second, .unset, .unset] [(.long q0)])) rfl (by rw [hml]; rfl) (argsL := [(.long q0)]) (rest := []) (lenOf pd_1_0 rfl) rfl (by show 2 * 0 + _ ≤ _; exact Nat.le_of_eq rfl) (hb hby d1_1) (fun _ _ => ⟨rfl, e0, (by decide : 0 + 0 ≤ _), (by decide : 0 + 0 ≤ _)⟩)
  dsimp only [Pt.U, Pt.locs, Pt.cells, Pt.slots] at X1 l1 y1 z1 st1 hQ1
  subst l1 y1 z1
  obtain ⟨rfl, Nq1, hh1⟩ := hQ1
  have N1 := Fr.app N0 Nq1
  have e1 : T1.heap = h0 := hh1
  refine own_go (B := T1.setTop (mkF m 4 #[.val (.long q0), .second, .val (.long q1), .second, .unset, .unset] [])) (fun t kt => st1 t kt) ?_
  refine own_go (B := T1.setTop (mkF m 58 #[.val (.long q0), .second, .val (.long q1), .second, .val (.long ((q1 - q0) + (1 : Int64))), .second] [])) (fun t kt => ?_) ?_
  · show Steps p.tables e below (T1.setTop (mkF m 4 #[.val (.long q0), .second, .val (.long q1), .second, .unset, .unset] [])) _
    refine XS.lloadN X1.here hx rfl (hb hby d1_4) rfl ?_
    show Steps p.tables e below (T1.setTop (mkF m 5 #[.val (.long q0), .second, .val (.long q1), .second, .unset, .unset] [(.long q1)])) _
    refine XS.lloadN X1.here hx rfl (hb hby d1_5) rfl ?_
    show Steps p.tables e below (T1.setTop (mkF m 6 #[.val (.long q0), .second, .val (.long q1), .second, .unset, .unset] [(.long q0), (.long q1)])) _
    refine XS.lcmp X1.here hx rfl (hb hby d1_6) rfl ?_
    show Steps p.tables e below (T1.setTop (mkF m 7 #[.val (.long q0), .second, .val (.long q1), .second, .unset, .unset] [(.int (lcmpW q1 q0))])) _
    refine XS.ifYes X1.here hx rfl (pc0 := 7) (pc' := 25) rfl (hb hby d1_7) rfl ((if0 _ _).trans (flt hc7).2.1) (by decide) (by decide) ?_
    show Steps p.tables e below (T1.setTop (mkF m 25 #[.val (.long q0), .second, .val (.long q1), .second, .unset, .unset] [])) _
    refine XS.lloadN X1.here hx rfl (hb hby d1_25) rfl ?_
    show Steps p.tables e below (T1.setTop (mkF m 26 #[.val (.long q0), .second, .val (.long q1), .second, .unset, .unset] [(.long q1)])) _
    refine XS.lloadN X1.here hx rfl (hb hby d1_26) rfl ?_
    show Steps p.tables e below (T1.setTop (mkF m 27 #[.val (.long q0), .second, .val (.long q1), .second, .unset, .unset] [(.long q0), (.long q1)])) _
    refine XS.lsub X1.here hx rfl (hb hby d1_27) rfl ?_
    show Steps p.tables e below (T1.setTop (mkF m 28 #[.val (.long q0), .second, .val (.long q1), .second, .unset, .unset] [(.long (q1 - q0))])) _
    refine XS.lconst X1.here hx rfl (hb hby d1_28) ?_
    show Steps p.tables e below (T1.setTop (mkF m 29 #[.val (.long q0), .second, .val (.long q1), .second, .unset, .unset] [(.long (1 : Int64)), (.long (q1 - q0))])) _
    refine XS.ladd X1.here hx rfl (hb hby d1_29) rfl ?_
    show Steps p.tables e below (T1.setTop (mkF m 30 #[.val (.long q0), .second, .val (.long q1), .second, .unset, .unset] [(.long ((q1 - q0) + (1 : Int64)))])) _
    refine XS.lstore X1.here hx rfl (hb hby d1_30) rfl (l' := #[.val (.long q0), .second, .val (.long q1), .second, .val (.long ((q1 - q0) + (1 : Int64))), .second]) rfl ?_
    show Steps p.tables e below (T1.setTop (mkF m 32 #[.val (.long q0), .second, .val (.long q1), .second, .val (.long ((q1 - q0) + (1 : Int64))), .second] [])) _
    refine XS.lload X1.here hx rfl (hb hby d1_32) rfl ?_
    show Steps p.tables e below (T1.setTop (mkF m 34 #[.val (.long q0), .second, .val (.long q1), .second, .val (.long ((q1 - q0) + (1 : Int64))), .second] [(.long ((q1 - q0) + (1 : Int64)))])) _
    refine X1.ldc2Long hx hown (mvT hZ (hw _ (List.mem_of_getElem? (i := 9) rfl))) (g := (mkF m 34 #[.val (.long q0), .second, .val (.long q1), .second, .val (.long ((q1 - q0) + (1 : Int64))), .second] [(.long ((q1 - q0) + (1 : Int64)))])) rfl (hb hby d1_34) _ ?_
    show Steps p.tables e below (T1.setTop (mkF m 37 #[.val (.long q0), .second, .val (.long q1), .second, .val (.long ((q1 - q0) + (1 : Int64))), .second] [(.long (2147483647 : Int64)), (.long ((q1 - q0) + (1 : Int64)))])) _
    refine XS.lcmp X1.here hx rfl (hb hby d1_37) rfl ?_
    show Steps p.tables e below (T1.setTop (mkF m 38 #[.val (.long q0), .second, .val (.long q1), .second, .val (.long ((q1 - q0) + (1 : Int64))), .second] [(.int (lcmpW ((q1 - q0) + (1 : Int64)) (2147483647 : Int64)))])) _
    refine XS.ifYes X1.here hx rfl (pc0 := 38) (pc' := 58) rfl (hb hby d1_38) rfl ((if0 _ _).trans (flt hc38).2.2.2) (by decide) (by decide) ?_
    exact kt
  obtain ⟨T2, h2, X2, e2, E2, A2, D2, -, st2⟩ := newO X1 hx hZ hown (hw _ (List.mem_of_getElem? (i := 10) rfl)) (hw _ (List.mem_of_getElem? (i := 11) rfl)) (hw _ (List.mem_of_getElem? (i := 4) rfl)) e1 (g := (mkF m 58 #[.val (.long q0), .second, .val (.long q1), .second, .val (.long ((q1 - q0) + (1 : Int64))), .second] [])) rfl (hb hby d1_58) (by decide) (by decide)
  obtain ⟨b2, g2⟩ : ∃ z, z = h0.size := ⟨_, rfl⟩
  rw [← g2] at A2 D2 st2
  have g_b2 : n0 ≤ b2 := Nat.le_trans Z0 (Nat.le_of_eq g2.symm)
  have sz_b2 : h0.size ≤ b2 := Nat.le_trans K0.1 (Nat.le_of_eq g2.symm)
  have Z2 : n0 ≤ h2.size := Nat.le_trans Z0 E2.1
  have K2 := K0.ext E2
  have E_b2 := A2
  have F_maxResults_b2 : Fld Z h2 b2 "com/example/octavo/octavo/Limit" "maxResults" "I" (.int (0 : Int32)) := D2 (Or.inr (hw _ (List.mem_of_getElem? (i := 19) rfl))) (ty := .int) (by decide)
  have F_startAt_b2 : Fld Z h2 b2 "com/example/octavo/octavo/Limit" "startAt" "J" (.long (0 : Int64)) := D2 (Or.inr (hw _ (List.mem_of_getElem? (i := 21) rfl))) (ty := .long) (by decide)
  refine own_go (B := T2.setTop (mkF m 61 #[.val (.long q0), .second, .val (.long q1), .second, .val (.long ((q1 - q0) + (1 : Int64))), .second] [(.ref b2)])) (fun t kt => st2 t kt) ?_
  refine own_go (B := T2.setTop (mkF m 66 #[.val (.long q0), .second, .val (.long q1), .second, .val (.long ((q1 - q0) + (1 : Int64))), .second] [(.long q0), (.int (((q1 - q0) + (1 : Int64)).toInt32)), (.ref b2), (.ref b2)])) (fun t kt => ?_) ?_
  · show Steps p.tables e below (T2.setTop (mkF m 61 #[.val (.long q0), .second, .val (.long q1), .second, .val (.long ((q1 - q0) + (1 : Int64))), .second] [(.ref b2)])) _
    refine XS.dup X2.here hx rfl (hb hby d1_61) rfl rfl ?_
    show Steps p.tables e below (T2.setTop (mkF m 62 #[.val (.long q0), .second, .val (.long q1), .second, .val (.long ((q1 - q0) + (1 : Int64))), .second] [(.ref b2), (.ref b2)])) _
    refine XS.lload X2.here hx rfl (hb hby d1_62) rfl ?_
    show Steps p.tables e below (T2.setTop (mkF m 64 #[.val (.long q0), .second, .val (.long q1), .second, .val (.long ((q1 - q0) + (1 : Int64))), .second] [(.long ((q1 - q0) + (1 : Int64))), (.ref b2), (.ref b2)])) _
    refine XS.l2i X2.here hx rfl (hb hby d1_64) rfl ?_
    show Steps p.tables e below (T2.setTop (mkF m 65 #[.val (.long q0), .second, .val (.long q1), .second, .val (.long ((q1 - q0) + (1 : Int64))), .second] [(.int (((q1 - q0) + (1 : Int64)).toInt32)), (.ref b2), (.ref b2)])) _
    refine XS.lloadN X2.here hx rfl (hb hby d1_65) rfl ?_
    exact kt
  obtain ⟨_, _, ⟨T3, L3, k3, n3⟩, -, X3, ⟨Lc3, hQ3, l3, y3, z3⟩, st3⟩ := X2.specialBack hx (y := (⟨"com/example/octavo/octavo/Limit", "<init>", "(IJ)V"⟩ : MethodName)) rfl hown (mvT hZ (hw _ (List.mem_of_getElem? (i := 12) rfl))) (mvT hZ (hw _ (List.mem_of_getElem? (i := 13) rfl))) (mvT hZ (hw _ (List.mem_of_getElem? (i := 14) rfl))) (by decide) (backOf (W := 1) (rm3 l Z t0 hw [] b2 (((q1 - q0) + (1 : Int64)).toInt32) q0 h2 n0 Z2 g_b2 E_b2 F_maxResults_b2 F_startAt_b2 hcp hc0) hZ (hw _ (List.mem_of_getElem? (i := 14) rfl)) (hw _ (List.mem_of_getElem? (i := 4) rfl)) (by decide) (by decide)) (g := (mkF m 66 #[.val (.long q0), .second, .val (.long q1), .second, .val (.long ((q1 - q0) + (1 : Int64))), .second] [(.long q0), (.int (((q1 - q0) + (1 : Int64)).toInt32)), (.ref b2), (.ref b2)])) rfl (by rw [hml]; rfl) (Steps.refl _) (a := b2) (argsL := [(.int (((q1 - q0) + (1 : Int64)).toInt32)), (.long q0)]) (rest := [(.ref b2)]) (lenOf pd_1_1 rfl) rfl (by show 2 * 0 + _ ≤ _; exact Nat.le_of_eq rfl) (hb hby d1_66) (fun _ _ => ⟨rfl, e2, (by decide : 1 + 0 ≤ _), (by decide : 2 + 0 ≤ _)⟩)
  dsimp only [Pt.U, Pt.locs, Pt.cells, Pt.slots] at X3 l3 y3 z3 st3 hQ3
  subst l3 y3 z3
  obtain ⟨rfl, Nq3, Kc3, Ec3, Fm3, Fs3⟩ := hQ3
  have N3 := Fr.app N1 Nq3
  obtain ⟨h3, e3⟩ : ∃ z, T3.heap = z := ⟨_, rfl⟩
  rw [e3] at Kc3 Ec3 Fm3 Fs3
  have Z3 : n0 ≤ h3.size := Nat.le_trans Z2 Kc3.1
  have K3 := K2.trans Kc3 (allS (Or.inr sz_b2) all0)
  refine own_go (B := T3.setTop (mkF m 69 #[.val (.long q0), .second, .val (.long q1), .second, .val (.long ((q1 - q0) + (1 : Int64))), .second] [(.ref b2)])) (fun t kt => st3.trans kt) ?_
  obtain ⟨fs, hr, hrun, hended, hW, hsame⟩ := X3.leave (v := some (.ref b2)) (fun h => by rw [Bd.returns] at h; cases h)
  refine ⟨_, _, ?_, hrun, hended, _, _, rfl, ?_, ⟨_, rfl⟩, hW, hsame.mono (by decide) (by decide)⟩
  · show Steps p.tables e below (T3.setTop (mkF m 69 #[.val (.long q0), .second, .val (.long q1), .second, .val (.long ((q1 - q0) + (1 : Int64))), .second] [(.ref b2)])) _
    exact Jvm.RoadKit.retOut X3 hx Bd.returns rfl (Or.inr (Or.inr (Or.inr (Or.inr ⟨rfl, rfl, rfl⟩)))) (hb hby d1_69) hr
  · show Q1 Z q0 q1 h0 n0 _ T3.heap _
    rw [e3]
    exact ⟨b2, rfl, N3, K3, sz_b2, g_b2, Ec3, Fm3, Fs3⟩
theorem d5_0 : decode prog_2_method_5_code 0 = .ok (.aload_n 0, 1) := by decide +kernel
theorem d5_1 : decode prog_2_method_5_code 1 = .ok (.getfield 22, 3) := by decide +kernel
theorem d5_4 : decode prog_2_method_5_code 4 = .ok (.ireturn, 1) := by decide +kernel
theorem ef_5 (m : MethodId) (a0 : Addr) : entryFrame m #[(.ref a0)] 1 = mkF m 0 #[.val (.ref a0)] [] := by first | (simp [entryFrame, mkF, argsToLocals, Value.category]; done) | rfl
theorem pn_5 : plainName "com/example/octavo/octavo/Limit" = true := by first | (simp [plainName, overriddenIn]; done) | decide +kernel
def Q5 (z : Int32) (h0 : Heap) (n0 : Nat) (v : Option Value) (h : Heap) (L : List Loc) : Prop := v = some (.int z) ∧ Fr n0 L ∧ h = h0
set_option maxRecDepth 65536 in
set_option maxHeartbeats 40000000 in
theorem rm5 (l : Launch) (Z : State) (t0 : Array Value) (hw : ∀ d ∈ tables_1, d.before t0 Z = true) (ws : List Jvm.Cond) (a0 : Addr) (z : Int32) (h0 : Heap) (n0 : Nat) (Z0 : n0 ≤ h0.size) (F : Fld Z h0 a0 "com/example/octavo/octavo/Limit" "maxResults" "I" (.int z)) :
    MetFree l (⟨"com/example/octavo/octavo/Limit", "maxResults", "()I"⟩ : MethodName) (head1 (Jvm.Cond.code (⟨"com/example/octavo/octavo/Limit", "maxResults", "()I"⟩ : MethodName) prog_2_method_5_code 1 (some .int) :: ws) ({ frames := 0, cells := 0, slots := 0, locals := 0 } : Room)) (fun a U => a = #[(.ref a0)] ∧ Z.Warmed39 U.vm ∧ U.heap = h0) (fun _ _ _ _ _ => True) (fun _ U o U' => ∃ v L, o = .returned v ∧ Q5 z h0 n0 v U'.heap L ∧ FrameEnd U o U' L ({ frames := 0, cells := 0, slots := 0, locals := 0 } : Room).cells ({ frames := 0, cells := 0, slots := 0, locals := 0 } : Room).slots) := by
  refine MetFree.of_bodySF (plainFor_of_name pn_5) hisR ?_
  intro p e s m args below meth c s₁ Bd hml0 hP hK
  obtain ⟨rfl, hZ, hh⟩ := hP
  have hx := Bd.exec
  have hby := Bd.bytes
  have hml : c.maxLocals = 1 := hml0
  have hown : s.vm.findClass "com/example/octavo/octavo/Limit" = some m.cls := findClass_of_methodNamed Bd.named
  have hnm := (name_of_methodNamed Bd.named Bd.method).1
  have X0 : Stand p l e ({ frames := 0, cells := 0, slots := 0, locals := 0 } : Room) s m #[(.ref a0)] below meth c s₁ [] 0 0 := Stand.of_body Bd
  have e0 : s₁.heap = h0 := by rw [← hh, Bd.state]; rfl
  have N0 := Fr.nil n0
  have pre0 : ∀ t, Steps p.tables e below (s₁.setTop (mkF m 0 #[.val (.ref a0)] [])) t → Steps p.tables e below (s₁.setTop (entryFrame m #[(.ref a0)] 1)) t := fun t k => castTop (ef_5 m a0) k
  refine own_go pre0 ?_
  refine own_go (B := s₁.setTop (mkF m 1 #[.val (.ref a0)] [(.ref a0)])) (fun t kt => ?_) ?_
  · show Steps p.tables e below (s₁.setTop (mkF m 0 #[.val (.ref a0)] [])) _
    refine XS.aloadN X0.here hx rfl (hb hby d5_0) rfl rfl ?_
    exact kt
  obtain ⟨T1, X1, e1, st1⟩ := getF X0 hx hZ hown (host := "") (Or.inl (hw _ (List.mem_of_getElem? (i := 18) rfl))) Via.refl e0 F (g := (mkF m 1 #[.val (.ref a0)] [(.ref a0)])) rfl rfl (hb hby d5_1)
  refine own_go (B := T1.setTop (mkF m 4 #[.val (.ref a0)] [(.int z)])) (fun t kt => st1 t kt) ?_
  obtain ⟨fs, hr, hrun, hended, hW, hsame⟩ := X1.leave (v := some (.int z)) (fun h => by rw [Bd.returns] at h; cases h)
  refine ⟨_, _, ?_, hrun, hended, _, _, rfl, ?_, ⟨_, rfl⟩, hW, hsame.mono (by decide) (by decide)⟩
  · show Steps p.tables e below (T1.setTop (mkF m 4 #[.val (.ref a0)] [(.int z)])) _
    exact retI X1 hx Bd.returns (hb hby d5_4) hr
  · show Q5 z h0 n0 _ T1.heap _
    rw [e1]
    exact ⟨rfl, N0, rfl⟩
theorem d6_0 : decode prog_2_method_6_code 0 = .ok (.aload_n 0, 1) := by decide +kernel
theorem d6_1 : decode prog_2_method_6_code 1 = .ok (.getfield 26, 3) := by decide +kernel
theorem d6_4 : decode prog_2_method_6_code 4 = .ok (.lreturn, 1) := by decide +kernel
theorem ef_6 (m : MethodId) (a0 : Addr) : entryFrame m #[(.ref a0)] 1 = mkF m 0 #[.val (.ref a0)] [] := by first | (simp [entryFrame, mkF, argsToLocals, Value.category]; done) | rfl
theorem pn_6 : plainName "com/example/octavo/octavo/Limit" = true := by first | (simp [plainName, overriddenIn]; done) | decide +kernel
def Q6 (z : Int64) (h0 : Heap) (n0 : Nat) (v : Option Value) (h : Heap) (L : List Loc) : Prop := v = some (.long z) ∧ Fr n0 L ∧ h = h0
set_option maxRecDepth 65536 in
set_option maxHeartbeats 40000000 in
theorem rm6 (l : Launch) (Z : State) (t0 : Array Value) (hw : ∀ d ∈ tables_1, d.before t0 Z = true) (ws : List Jvm.Cond) (a0 : Addr) (z : Int64) (h0 : Heap) (n0 : Nat) (Z0 : n0 ≤ h0.size) (F : Fld Z h0 a0 "com/example/octavo/octavo/Limit" "startAt" "J" (.long z)) :
    MetFree l (⟨"com/example/octavo/octavo/Limit", "startAt", "()J"⟩ : MethodName) (head1 (Jvm.Cond.code (⟨"com/example/octavo/octavo/Limit", "startAt", "()J"⟩ : MethodName) prog_2_method_6_code 1 (some .long) :: ws) ({ frames := 0, cells := 0, slots := 0, locals := 0 } : Room)) (fun a U => a = #[(.ref a0)] ∧ Z.Warmed39 U.vm ∧ U.heap = h0) (fun _ _ _ _ _ => True) (fun _ U o U' => ∃ v L, o = .returned v ∧ Q6 z h0 n0 v U'.heap L ∧ FrameEnd U o U' L ({ frames := 0, cells := 0, slots := 0, locals := 0 } : Room).cells ({ frames := 0, cells := 0, slots := 0, locals := 0 } : Room).slots) := by
  refine MetFree.of_bodySF (plainFor_of_name pn_6) hisR ?_
  intro p e s m args below meth c s₁ Bd hml0 hP hK
  obtain ⟨rfl, hZ, hh⟩ := hP
  have hx := Bd.exec
  have hby := Bd.bytes
  have hml : c.maxLocals = 1 := hml0
  have hown : s.vm.findClass "com/example/octavo/octavo/Limit" = some m.cls := findClass_of_methodNamed Bd.named
  have hnm := (name_of_methodNamed Bd.named Bd.method).1
  have X0 : Stand p l e ({ frames := 0, cells := 0, slots := 0, locals := 0 } : Room) s m #[(.ref a0)] below meth c s₁ [] 0 0 := Stand.of_body Bd
  have e0 : s₁.heap = h0 := by rw [← hh, Bd.state]; rfl
  have N0 := Fr.nil n0
  have pre0 : ∀ t, Steps p.tables e below (s₁.setTop (mkF m 0 #[.val (.ref a0)] [])) t → Steps p.tables e below (s₁.setTop (entryFrame m #[(.ref a0)] 1)) t := fun t k => castTop (ef_6 m a0) k
  refine own_go pre0 ?_
  refine own_go (B := s₁.setTop (mkF m 1 #[.val (.ref a0)] [(.ref a0)])) (fun t kt => ?_) ?_
  · show Steps p.tables e below (s₁.setTop (mkF m 0 #[.val (.ref a0)] [])) _
    refine XS.aloadN X0.here hx rfl (hb hby d6_0) rfl rfl ?_
    exact kt
  obtain ⟨T1, X1, e1, st1⟩ := getF X0 hx hZ hown (host := "") (Or.inl (hw _ (List.mem_of_getElem? (i := 20) rfl))) Via.refl e0 F (g := (mkF m 1 #[.val (.ref a0)] [(.ref a0)])) rfl rfl (hb hby d6_1)
  refine own_go (B := T1.setTop (mkF m 4 #[.val (.ref a0)] [(.long z)])) (fun t kt => st1 t kt) ?_
  obtain ⟨fs, hr, hrun, hended, hW, hsame⟩ := X1.leave (v := some (.long z)) (fun h => by rw [Bd.returns] at h; cases h)
  refine ⟨_, _, ?_, hrun, hended, _, _, rfl, ?_, ⟨_, rfl⟩, hW, hsame.mono (by decide) (by decide)⟩
  · show Steps p.tables e below (T1.setTop (mkF m 4 #[.val (.ref a0)] [(.long z)])) _
    exact Jvm.Stand.lreturnOut X1 hx Bd.returns (hb hby d6_4) hr
  · show Q6 z h0 n0 _ T1.heap _
    rw [e1]
    exact ⟨rfl, N0, rfl⟩
theorem own_i1 (P a b : Int) (hP : 1 ≤ P ∧ P ≤ 2147483647) (h1 : (a - (9223372036854775807 - P)) % 18446744073709551616 = 0) (r1 : -9223372036854775808 ≤ a ∧ a < 9223372036854775808) (h2 : (b - (a + 1)) % 18446744073709551616 = 0) (r2 : -9223372036854775808 ≤ b ∧ b < 9223372036854775808) : b = 9223372036854775808 - P := by omega
theorem own_i2 (P q : Int) (hP : 1 ≤ P ∧ P ≤ 2147483647) (h1 : (q - (P - 1)) % 4294967296 = 0) (r1 : -2147483648 ≤ q ∧ q < 2147483648) : q = P - 1 := by omega
theorem own_i3 (P S E : Int) (hP : 1 ≤ P ∧ P ≤ 2147483647) (hS : 1 ≤ S ∧ S ≤ 9223372036854775808 - P) (h1 : (E - (S + (P - 1))) % 18446744073709551616 = 0) (r1 : -9223372036854775808 ≤ E ∧ E < 9223372036854775808) : E = S + P - 1 := by omega
theorem own_i4 (P S E a b : Int) (hP : 1 ≤ P ∧ P ≤ 2147483647) (hE : E = S + P - 1) (h1 : (a - (E - S)) % 18446744073709551616 = 0) (r1 : -9223372036854775808 ≤ a ∧ a < 9223372036854775808) (h2 : (b - (a + 1)) % 18446744073709551616 = 0) (r2 : -9223372036854775808 ≤ b ∧ b < 9223372036854775808) : b = P := by omega
theorem own_i5 (P b c : Int) (hP : 1 ≤ P ∧ P ≤ 2147483647) (hb : b = P) (h1 : (c - b) % 4294967296 = 0) (r1 : -2147483648 ≤ c ∧ c < 2147483648) : c = P := by omega
theorem own_i6 (x a : Int) (h : a = x % 9223372036854775808) (hn : a ≠ 0) : 1 ≤ a := by omega
theorem own_i7 (x a : Int) (h : a = x % 2147483648) (hn : a ≠ 0) : 1 ≤ a ∧ a ≤ 2147483647 := by omega
theorem own_i8 (P : Int) (hP : 1 ≤ P ∧ P ≤ 2147483647) : 1 ≤ 9223372036854775808 - P := by omega
theorem own_i9 (a b : Int) (h : ¬ a < b) : b ≤ a := by omega
theorem own_j1 (S : Int) (h : 1 ≤ S) : ¬ S < 1 := by omega
theorem own_j2 (P S : Int) (h : 1 ≤ P) : ¬ S + P - 1 < S := by omega
theorem own_j3 (P : Int) (h : P ≤ 2147483647) : ¬ 2147483647 < P := by omega
theorem own_plain (q0 : Int64) (p1 : Int32) {P : Int32} {S1 S2 : Int64} (hP : P = (if (p1 &&& (2147483647 : Int32)) = (0 : Int32) then (1 : Int32) else (p1 &&& (2147483647 : Int32))))
    (hS1 : S1 = (if (lcmpW (q0 &&& (9223372036854775807 : Int64)) (0 : Int64)) = (0 : Int32) then (1 : Int64) else (q0 &&& (9223372036854775807 : Int64))))
    (hS2 : S2 = (if (0 : Int32) < (lcmpW S1 (((9223372036854775807 : Int64) - P.toInt64) + (1 : Int64))) then (((9223372036854775807 : Int64) - P.toInt64) + (1 : Int64)) else S1)) :
    ¬ ((lcmpW S2 (1 : Int64)) < (0 : Int32)) ∧ ¬ ((lcmpW (S2 + (P - (1 : Int32)).toInt64) S2) < (0 : Int32)) ∧ ¬ ((0 : Int32) < (lcmpW (((S2 + (P - (1 : Int32)).toInt64) - S2) + (1 : Int64)) (2147483647 : Int64))) ∧ ¬ ((((S2 + (P - (1 : Int32)).toInt64) - S2) + (1 : Int64)).toInt32 < (1 : Int32)) ∧ (((S2 + (P - (1 : Int32)).toInt64) - S2) + (1 : Int64)).toInt32 = P ∧ True := by
  have m1 := c_mask p1 (2147483647 : Int32) 31 (by decide) (by decide)
  have m2 := c_maskL q0 (9223372036854775807 : Int64) 63 (by decide) (by decide)
  have t31 : ((2 ^ 31 : Nat) : Int) = 2147483648 := by decide
  have t63 : ((2 ^ 63 : Nat) : Int) = 9223372036854775808 := by decide
  rw [t31] at m1
  rw [t63] at m2
  have z0 : (0 : Int32).toInt = 0 := by decide
  have z1 : (1 : Int32).toInt = 1 := by decide
  have l0 : (0 : Int64).toInt = 0 := by decide
  have l1 : (1 : Int64).toInt = 1 := by decide
  have lm : (9223372036854775807 : Int64).toInt = 9223372036854775807 := by decide
  have li : (2147483647 : Int64).toInt = 2147483647 := by decide
  have bP : 1 ≤ P.toInt ∧ P.toInt ≤ 2147483647 := by
    rw [hP]
    split
    · rw [z1]; exact ⟨by decide, by decide⟩
    · rename_i hne
      exact own_i7 _ _ m1 (fun e => hne (Int32.toInt_inj.mp (by rw [e, z0])))
  have bS1 : 1 ≤ S1.toInt := by
    rw [hS1]
    split
    · rw [l1]; decide
    · rename_i hne
      exact own_i6 _ _ m2 (fun e => hne ((lw_eq _ _).2 (Int64.toInt_inj.mp (by rw [e, l0]))))
  have a1 := c_lsub (9223372036854775807 : Int64) P.toInt64
  have a2 := c_ladd ((9223372036854775807 : Int64) - P.toInt64) (1 : Int64)
  rw [c_i2l, lm] at a1
  rw [l1] at a2
  have eM := own_i1 P.toInt _ _ bP a1 (rng64 _) a2 (rng64 _)
  generalize ((9223372036854775807 : Int64) - P.toInt64) + (1 : Int64) = MS at *
  have bS2 : 1 ≤ S2.toInt ∧ S2.toInt ≤ 9223372036854775808 - P.toInt := by
    rw [hS2]
    split
    · rw [eM]; exact ⟨own_i8 _ bP, Int.le_refl _⟩
    · rename_i hne
      rw [lw_gt, Int64.lt_iff_toInt_lt, eM] at hne
      exact ⟨bS1, own_i9 _ _ hne⟩
  have b1 := c_isub P (1 : Int32)
  rw [z1] at b1
  have eP := own_i2 _ _ bP b1 (rng32 _)
  have b4 := c_ladd S2 (P - (1 : Int32)).toInt64
  rw [c_i2l, eP] at b4
  have eE := own_i3 _ _ _ bP bS2 b4 (rng64 _)
  generalize S2 + (P - (1 : Int32)).toInt64 = En at *
  have b6 := c_lsub En S2
  have b8 := c_ladd (En - S2) (1 : Int64)
  rw [l1] at b8
  have eD := own_i4 _ _ _ _ _ bP eE b6 (rng64 _) b8 (rng64 _)
  generalize (En - S2) + (1 : Int64) = D at *
  have d1 := c_l2i D
  have eF : D.toInt32 = P := Int32.toInt_inj.mp (own_i5 _ _ _ bP eD d1 (rng32 _))
  clear a1 a2 b1 b4 b6 b8 d1 m1 m2 hP hS1 hS2 bS1
  refine ⟨?_, ?_, ?_, ?_, eF, trivial⟩
  · rw [lw_lt, Int64.lt_iff_toInt_lt, l1]; exact own_j1 _ bS2.1
  · rw [lw_lt, Int64.lt_iff_toInt_lt, eE]; exact own_j2 _ _ bP.1
  · rw [lw_gt, Int64.lt_iff_toInt_lt, li, eD]; exact own_j3 _ bP.2
  · rw [eF, Int32.lt_iff_toInt_lt, z1]; exact own_j1 _ bP.1

theorem pd_0_0 : parseMethodDescriptor "(JJ)Lcom/example/octavo/octavo/Limit;" = some ⟨[.long, .long], some (.object "com/example/octavo/octavo/Limit")⟩ := by decide +kernel
theorem pd_0_1 : parseMethodDescriptor "()I" = some ⟨[], some .int⟩ := by decide +kernel
theorem pd_0_2 : parseMethodDescriptor "()J" = some ⟨[], some .long⟩ := by decide +kernel
theorem ef_0 (m : MethodId) (q0 : Int64) (p1 : Int32) : entryFrame m #[(.long q0), (.int p1)] maxLocals = mkF m 0 #[.val (.long q0), .second, .val (.int p1), .unset, .unset, .unset, .unset, .unset, .unset, .unset, .unset] [] := by first | (simp [entryFrame, mkF, argsToLocals, Value.category, maxLocals]; done) | rfl
theorem pn_0 : plainName "com/example/octavo/octavo/LimitRangePinLaw" = true := by first | (simp [plainName, overriddenIn]; done) | decide +kernel
def Q0 (n0 : Nat) (v : Option Value) (L : List Loc) : Prop := v = some (.int (1 : Int32)) ∧ Fr n0 L
set_option maxRecDepth 65536 in
set_option maxHeartbeats 40000000 in
theorem rm0 (l : Launch) (Z : State) (t0 : Array Value) (hw : ∀ d ∈ tables_1, d.before t0 Z = true) (ws : List Jvm.Cond) (q0 : Int64) (p1 : Int32) (h0 : Heap) (n0 : Nat) (Z0 : n0 ≤ h0.size)  :
    MetFree l x (head1 (Jvm.Cond.code x code maxLocals ret :: ws) room_1) (fun a U => a = #[(.long q0), (.int p1)] ∧ Z.Warmed39 U.vm ∧ U.heap = h0) (fun _ _ _ _ _ => True) (fun _ U o U' => ∃ v L, o = .returned v ∧ Q0 n0 v L ∧ FrameEnd U o U' L room_1.cells room_1.slots) := by
  refine MetFree.of_bodySF (plainFor_of_name pn_0) hisR ?_
  intro p e s m args below meth c s₁ Bd hml0 hP hK
  obtain ⟨rfl, hZ, hh⟩ := hP
  have hx := Bd.exec
  have hby := Bd.bytes
  have hml : c.maxLocals = 11 := hml0
  have hown : s.vm.findClass "com/example/octavo/octavo/LimitRangePinLaw" = some m.cls := findClass_of_methodNamed Bd.named
  have hnm := (name_of_methodNamed Bd.named Bd.method).1
  have X0 : Stand p l e room_1 s m #[(.long q0), (.int p1)] below meth c s₁ [] 0 0 := Stand.of_body Bd
  have e0 : s₁.heap = h0 := by rw [← hh, Bd.state]; rfl
  have N0 := Fr.nil n0
  have pre0 : ∀ t, Steps p.tables e below (s₁.setTop (mkF m 0 #[.val (.long q0), .second, .val (.int p1), .unset, .unset, .unset, .unset, .unset, .unset, .unset, .unset] [])) t → Steps p.tables e below (s₁.setTop (entryFrame m #[(.long q0), (.int p1)] maxLocals)) t := fun t k => castTop (ef_0 m q0 p1) k
  refine own_go pre0 ?_
  obtain ⟨P, hP⟩ : ∃ z : Int32, z = (if (p1 &&& (2147483647 : Int32)) = (0 : Int32) then (1 : Int32) else (p1 &&& (2147483647 : Int32))) := ⟨_, rfl⟩
  refine own_go (B := s₁.setTop (mkF m 11 #[.val (.long q0), .second, .val (.int p1), .val (.int P), .unset, .unset, .unset, .unset, .unset, .unset, .unset] [])) (fun t kt => ?_) ?_
  · show Steps p.tables e below (s₁.setTop (mkF m 0 #[.val (.long q0), .second, .val (.int p1), .unset, .unset, .unset, .unset, .unset, .unset, .unset, .unset] [])) _
    refine XS.iloadN X0.here hx rfl (hb hby at_0) rfl ?_
    show Steps p.tables e below (s₁.setTop (mkF m 1 #[.val (.long q0), .second, .val (.int p1), .unset, .unset, .unset, .unset, .unset, .unset, .unset, .unset] [(.int p1)])) _
    refine X0.ldcInt hx hown (mvT hZ (hw _ (List.mem_of_getElem? (i := 0) rfl))) (g := (mkF m 1 #[.val (.long q0), .second, .val (.int p1), .unset, .unset, .unset, .unset, .unset, .unset, .unset, .unset] [(.int p1)])) rfl (hb hby at_1) _ ?_
    show Steps p.tables e below (s₁.setTop (mkF m 3 #[.val (.long q0), .second, .val (.int p1), .unset, .unset, .unset, .unset, .unset, .unset, .unset, .unset] [(.int (2147483647 : Int32)), (.int p1)])) _
    refine XS.iand X0.here hx rfl (hb hby at_3) rfl ?_
    show Steps p.tables e below (s₁.setTop (mkF m 4 #[.val (.long q0), .second, .val (.int p1), .unset, .unset, .unset, .unset, .unset, .unset, .unset, .unset] [(.int (p1 &&& (2147483647 : Int32)))])) _
    refine XS.istoreN X0.here hx rfl (hb hby at_4) rfl (l' := #[.val (.long q0), .second, .val (.int p1), .val (.int (p1 &&& (2147483647 : Int32))), .unset, .unset, .unset, .unset, .unset, .unset, .unset]) rfl ?_
    show Steps p.tables e below (s₁.setTop (mkF m 5 #[.val (.long q0), .second, .val (.int p1), .val (.int (p1 &&& (2147483647 : Int32))), .unset, .unset, .unset, .unset, .unset, .unset, .unset] [])) _
    refine XS.iloadN X0.here hx rfl (hb hby at_5) rfl ?_
    by_cases hc6 : (p1 &&& (2147483647 : Int32)) = (0 : Int32)
    · show Steps p.tables e below (s₁.setTop (mkF m 6 #[.val (.long q0), .second, .val (.int p1), .val (.int (p1 &&& (2147483647 : Int32))), .unset, .unset, .unset, .unset, .unset, .unset, .unset] [(.int (p1 &&& (2147483647 : Int32)))])) _
      refine XS.ifNo X0.here hx rfl (hb hby at_6) rfl ((if0 _ _).trans (teq hc6).2) ?_
      show Steps p.tables e below (s₁.setTop (mkF m 9 #[.val (.long q0), .second, .val (.int p1), .val (.int (p1 &&& (2147483647 : Int32))), .unset, .unset, .unset, .unset, .unset, .unset, .unset] [])) _
      refine XS.iconst X0.here hx rfl (hb hby at_9) ?_
      show Steps p.tables e below (s₁.setTop (mkF m 10 #[.val (.long q0), .second, .val (.int p1), .val (.int (p1 &&& (2147483647 : Int32))), .unset, .unset, .unset, .unset, .unset, .unset, .unset] [(.int (1 : Int32))])) _
      refine XS.istoreN X0.here hx rfl (hb hby at_10) rfl (l' := #[.val (.long q0), .second, .val (.int p1), .val (.int (1 : Int32)), .unset, .unset, .unset, .unset, .unset, .unset, .unset]) rfl ?_
      rw [show P = (1 : Int32) from by rw [hP, if_pos hc6]] at kt
      exact kt
    · show Steps p.tables e below (s₁.setTop (mkF m 6 #[.val (.long q0), .second, .val (.int p1), .val (.int (p1 &&& (2147483647 : Int32))), .unset, .unset, .unset, .unset, .unset, .unset, .unset] [(.int (p1 &&& (2147483647 : Int32)))])) _
      refine XS.ifYes X0.here hx rfl (pc0 := 6) (pc' := 11) rfl (hb hby at_6) rfl ((if0 _ _).trans (feq hc6).2) (by decide) (by decide) ?_
      rw [show P = (p1 &&& (2147483647 : Int32)) from by rw [hP, if_neg hc6]] at kt
      exact kt
  obtain ⟨S1, hS1⟩ : ∃ z : Int64, z = (if (lcmpW (q0 &&& (9223372036854775807 : Int64)) (0 : Int64)) = (0 : Int32) then (1 : Int64) else (q0 &&& (9223372036854775807 : Int64))) := ⟨_, rfl⟩
  refine own_go (B := s₁.setTop (mkF m 28 #[.val (.long q0), .second, .val (.int p1), .val (.int P), .val (.long S1), .second, .unset, .unset, .unset, .unset, .unset] [])) (fun t kt => ?_) ?_
  · show Steps p.tables e below (s₁.setTop (mkF m 11 #[.val (.long q0), .second, .val (.int p1), .val (.int P), .unset, .unset, .unset, .unset, .unset, .unset, .unset] [])) _
    refine XS.lloadN X0.here hx rfl (hb hby at_11) rfl ?_
    show Steps p.tables e below (s₁.setTop (mkF m 12 #[.val (.long q0), .second, .val (.int p1), .val (.int P), .unset, .unset, .unset, .unset, .unset, .unset, .unset] [(.long q0)])) _
    refine X0.ldc2Long hx hown (mvT hZ (hw _ (List.mem_of_getElem? (i := 1) rfl))) (g := (mkF m 12 #[.val (.long q0), .second, .val (.int p1), .val (.int P), .unset, .unset, .unset, .unset, .unset, .unset, .unset] [(.long q0)])) rfl (hb hby at_12) _ ?_
    show Steps p.tables e below (s₁.setTop (mkF m 15 #[.val (.long q0), .second, .val (.int p1), .val (.int P), .unset, .unset, .unset, .unset, .unset, .unset, .unset] [(.long (9223372036854775807 : Int64)), (.long q0)])) _
    refine XS.land X0.here hx rfl (hb hby at_15) rfl ?_
    show Steps p.tables e below (s₁.setTop (mkF m 16 #[.val (.long q0), .second, .val (.int p1), .val (.int P), .unset, .unset, .unset, .unset, .unset, .unset, .unset] [(.long (q0 &&& (9223372036854775807 : Int64)))])) _
    refine XS.lstore X0.here hx rfl (hb hby at_16) rfl (l' := #[.val (.long q0), .second, .val (.int p1), .val (.int P), .val (.long (q0 &&& (9223372036854775807 : Int64))), .second, .unset, .unset, .unset, .unset, .unset]) rfl ?_
    show Steps p.tables e below (s₁.setTop (mkF m 18 #[.val (.long q0), .second, .val (.int p1), .val (.int P), .val (.long (q0 &&& (9223372036854775807 : Int64))), .second, .unset, .unset, .unset, .unset, .unset] [])) _
    refine XS.lload X0.here hx rfl (hb hby at_18) rfl ?_
    show Steps p.tables e below (s₁.setTop (mkF m 20 #[.val (.long q0), .second, .val (.int p1), .val (.int P), .val (.long (q0 &&& (9223372036854775807 : Int64))), .second, .unset, .unset, .unset, .unset, .unset] [(.long (q0 &&& (9223372036854775807 : Int64)))])) _
    refine XS.lconst X0.here hx rfl (hb hby at_20) ?_
    show Steps p.tables e below (s₁.setTop (mkF m 21 #[.val (.long q0), .second, .val (.int p1), .val (.int P), .val (.long (q0 &&& (9223372036854775807 : Int64))), .second, .unset, .unset, .unset, .unset, .unset] [(.long (0 : Int64)), (.long (q0 &&& (9223372036854775807 : Int64)))])) _
    refine XS.lcmp X0.here hx rfl (hb hby at_21) rfl ?_
    by_cases hc22 : (lcmpW (q0 &&& (9223372036854775807 : Int64)) (0 : Int64)) = (0 : Int32)
    · show Steps p.tables e below (s₁.setTop (mkF m 22 #[.val (.long q0), .second, .val (.int p1), .val (.int P), .val (.long (q0 &&& (9223372036854775807 : Int64))), .second, .unset, .unset, .unset, .unset, .unset] [(.int (lcmpW (q0 &&& (9223372036854775807 : Int64)) (0 : Int64)))])) _
      refine XS.ifNo X0.here hx rfl (hb hby at_22) rfl ((if0 _ _).trans (teq hc22).2) ?_
      show Steps p.tables e below (s₁.setTop (mkF m 25 #[.val (.long q0), .second, .val (.int p1), .val (.int P), .val (.long (q0 &&& (9223372036854775807 : Int64))), .second, .unset, .unset, .unset, .unset, .unset] [])) _
      refine XS.lconst X0.here hx rfl (hb hby at_25) ?_
      show Steps p.tables e below (s₁.setTop (mkF m 26 #[.val (.long q0), .second, .val (.int p1), .val (.int P), .val (.long (q0 &&& (9223372036854775807 : Int64))), .second, .unset, .unset, .unset, .unset, .unset] [(.long (1 : Int64))])) _
      refine XS.lstore X0.here hx rfl (hb hby at_26) rfl (l' := #[.val (.long q0), .second, .val (.int p1), .val (.int P), .val (.long (1 : Int64)), .second, .unset, .unset, .unset, .unset, .unset]) rfl ?_
      rw [show S1 = (1 : Int64) from by rw [hS1, if_pos hc22]] at kt
      exact kt
    · show Steps p.tables e below (s₁.setTop (mkF m 22 #[.val (.long q0), .second, .val (.int p1), .val (.int P), .val (.long (q0 &&& (9223372036854775807 : Int64))), .second, .unset, .unset, .unset, .unset, .unset] [(.int (lcmpW (q0 &&& (9223372036854775807 : Int64)) (0 : Int64)))])) _
      refine XS.ifYes X0.here hx rfl (pc0 := 22) (pc' := 28) rfl (hb hby at_22) rfl ((if0 _ _).trans (feq hc22).2) (by decide) (by decide) ?_
      rw [show S1 = (q0 &&& (9223372036854775807 : Int64)) from by rw [hS1, if_neg hc22]] at kt
      exact kt
  obtain ⟨S2, hS2⟩ : ∃ z : Int64, z = (if (0 : Int32) < (lcmpW S1 (((9223372036854775807 : Int64) - (P.toInt64)) + (1 : Int64))) then (((9223372036854775807 : Int64) - (P.toInt64)) + (1 : Int64)) else S1) := ⟨_, rfl⟩
  refine own_go (B := s₁.setTop (mkF m 50 #[.val (.long q0), .second, .val (.int p1), .val (.int P), .val (.long S2), .second, .val (.long (((9223372036854775807 : Int64) - (P.toInt64)) + (1 : Int64))), .second, .unset, .unset, .unset] [])) (fun t kt => ?_) ?_
  · show Steps p.tables e below (s₁.setTop (mkF m 28 #[.val (.long q0), .second, .val (.int p1), .val (.int P), .val (.long S1), .second, .unset, .unset, .unset, .unset, .unset] [])) _
    refine X0.ldc2Long hx hown (mvT hZ (hw _ (List.mem_of_getElem? (i := 1) rfl))) (g := (mkF m 28 #[.val (.long q0), .second, .val (.int p1), .val (.int P), .val (.long S1), .second, .unset, .unset, .unset, .unset, .unset] [])) rfl (hb hby at_28) _ ?_
    show Steps p.tables e below (s₁.setTop (mkF m 31 #[.val (.long q0), .second, .val (.int p1), .val (.int P), .val (.long S1), .second, .unset, .unset, .unset, .unset, .unset] [(.long (9223372036854775807 : Int64))])) _
    refine XS.iloadN X0.here hx rfl (hb hby at_31) rfl ?_
    show Steps p.tables e below (s₁.setTop (mkF m 32 #[.val (.long q0), .second, .val (.int p1), .val (.int P), .val (.long S1), .second, .unset, .unset, .unset, .unset, .unset] [(.int P), (.long (9223372036854775807 : Int64))])) _
    refine XS.i2l X0.here hx rfl (hb hby at_32) rfl ?_
    show Steps p.tables e below (s₁.setTop (mkF m 33 #[.val (.long q0), .second, .val (.int p1), .val (.int P), .val (.long S1), .second, .unset, .unset, .unset, .unset, .unset] [(.long (P.toInt64)), (.long (9223372036854775807 : Int64))])) _
    refine XS.lsub X0.here hx rfl (hb hby at_33) rfl ?_
    show Steps p.tables e below (s₁.setTop (mkF m 34 #[.val (.long q0), .second, .val (.int p1), .val (.int P), .val (.long S1), .second, .unset, .unset, .unset, .unset, .unset] [(.long ((9223372036854775807 : Int64) - (P.toInt64)))])) _
    refine XS.lconst X0.here hx rfl (hb hby at_34) ?_
    show Steps p.tables e below (s₁.setTop (mkF m 35 #[.val (.long q0), .second, .val (.int p1), .val (.int P), .val (.long S1), .second, .unset, .unset, .unset, .unset, .unset] [(.long (1 : Int64)), (.long ((9223372036854775807 : Int64) - (P.toInt64)))])) _
    refine XS.ladd X0.here hx rfl (hb hby at_35) rfl ?_
    show Steps p.tables e below (s₁.setTop (mkF m 36 #[.val (.long q0), .second, .val (.int p1), .val (.int P), .val (.long S1), .second, .unset, .unset, .unset, .unset, .unset] [(.long (((9223372036854775807 : Int64) - (P.toInt64)) + (1 : Int64)))])) _
    refine XS.lstore X0.here hx rfl (hb hby at_36) rfl (l' := #[.val (.long q0), .second, .val (.int p1), .val (.int P), .val (.long S1), .second, .val (.long (((9223372036854775807 : Int64) - (P.toInt64)) + (1 : Int64))), .second, .unset, .unset, .unset]) rfl ?_
    show Steps p.tables e below (s₁.setTop (mkF m 38 #[.val (.long q0), .second, .val (.int p1), .val (.int P), .val (.long S1), .second, .val (.long (((9223372036854775807 : Int64) - (P.toInt64)) + (1 : Int64))), .second, .unset, .unset, .unset] [])) _
    refine XS.lload X0.here hx rfl (hb hby at_38) rfl ?_
    show Steps p.tables e below (s₁.setTop (mkF m 40 #[.val (.long q0), .second, .val (.int p1), .val (.int P), .val (.long S1), .second, .val (.long (((9223372036854775807 : Int64) - (P.toInt64)) + (1 : Int64))), .second, .unset, .unset, .unset] [(.long S1)])) _
    refine XS.lload X0.here hx rfl (hb hby at_40) rfl ?_
    show Steps p.tables e below (s₁.setTop (mkF m 42 #[.val (.long q0), .second, .val (.int p1), .val (.int P), .val (.long S1), .second, .val (.long (((9223372036854775807 : Int64) - (P.toInt64)) + (1 : Int64))), .second, .unset, .unset, .unset] [(.long (((9223372036854775807 : Int64) - (P.toInt64)) + (1 : Int64))), (.long S1)])) _
    refine XS.lcmp X0.here hx rfl (hb hby at_42) rfl ?_
    by_cases hc43 : (0 : Int32) < (lcmpW S1 (((9223372036854775807 : Int64) - (P.toInt64)) + (1 : Int64)))
    · show Steps p.tables e below (s₁.setTop (mkF m 43 #[.val (.long q0), .second, .val (.int p1), .val (.int P), .val (.long S1), .second, .val (.long (((9223372036854775807 : Int64) - (P.toInt64)) + (1 : Int64))), .second, .unset, .unset, .unset] [(.int (lcmpW S1 (((9223372036854775807 : Int64) - (P.toInt64)) + (1 : Int64))))])) _
      refine XS.ifNo X0.here hx rfl (hb hby at_43) rfl ((if0 _ _).trans (tlt hc43).2.2.2) ?_
      show Steps p.tables e below (s₁.setTop (mkF m 46 #[.val (.long q0), .second, .val (.int p1), .val (.int P), .val (.long S1), .second, .val (.long (((9223372036854775807 : Int64) - (P.toInt64)) + (1 : Int64))), .second, .unset, .unset, .unset] [])) _
      refine XS.lload X0.here hx rfl (hb hby at_46) rfl ?_
      show Steps p.tables e below (s₁.setTop (mkF m 48 #[.val (.long q0), .second, .val (.int p1), .val (.int P), .val (.long S1), .second, .val (.long (((9223372036854775807 : Int64) - (P.toInt64)) + (1 : Int64))), .second, .unset, .unset, .unset] [(.long (((9223372036854775807 : Int64) - (P.toInt64)) + (1 : Int64)))])) _
      refine XS.lstore X0.here hx rfl (hb hby at_48) rfl (l' := #[.val (.long q0), .second, .val (.int p1), .val (.int P), .val (.long (((9223372036854775807 : Int64) - (P.toInt64)) + (1 : Int64))), .second, .val (.long (((9223372036854775807 : Int64) - (P.toInt64)) + (1 : Int64))), .second, .unset, .unset, .unset]) rfl ?_
      rw [show S2 = (((9223372036854775807 : Int64) - (P.toInt64)) + (1 : Int64)) from by rw [hS2, if_pos hc43]] at kt
      exact kt
    · show Steps p.tables e below (s₁.setTop (mkF m 43 #[.val (.long q0), .second, .val (.int p1), .val (.int P), .val (.long S1), .second, .val (.long (((9223372036854775807 : Int64) - (P.toInt64)) + (1 : Int64))), .second, .unset, .unset, .unset] [(.int (lcmpW S1 (((9223372036854775807 : Int64) - (P.toInt64)) + (1 : Int64))))])) _
      refine XS.ifYes X0.here hx rfl (pc0 := 43) (pc' := 50) rfl (hb hby at_43) rfl ((if0 _ _).trans (flt hc43).2.2.2) (by decide) (by decide) ?_
      rw [show S2 = S1 from by rw [hS2, if_neg hc43]] at kt
      exact kt
  refine own_go (B := s₁.setTop (mkF m 63 #[.val (.long q0), .second, .val (.int p1), .val (.int P), .val (.long S2), .second, .val (.long (((9223372036854775807 : Int64) - (P.toInt64)) + (1 : Int64))), .second, .val (.long (S2 + ((P - (1 : Int32)).toInt64))), .second, .unset] [(.long (S2 + ((P - (1 : Int32)).toInt64))), (.long S2)])) (fun t kt => ?_) ?_
  · show Steps p.tables e below (s₁.setTop (mkF m 50 #[.val (.long q0), .second, .val (.int p1), .val (.int P), .val (.long S2), .second, .val (.long (((9223372036854775807 : Int64) - (P.toInt64)) + (1 : Int64))), .second, .unset, .unset, .unset] [])) _
    refine XS.lload X0.here hx rfl (hb hby at_50) rfl ?_
    show Steps p.tables e below (s₁.setTop (mkF m 52 #[.val (.long q0), .second, .val (.int p1), .val (.int P), .val (.long S2), .second, .val (.long (((9223372036854775807 : Int64) - (P.toInt64)) + (1 : Int64))), .second, .unset, .unset, .unset] [(.long S2)])) _
    refine XS.iloadN X0.here hx rfl (hb hby at_52) rfl ?_
    show Steps p.tables e below (s₁.setTop (mkF m 53 #[.val (.long q0), .second, .val (.int p1), .val (.int P), .val (.long S2), .second, .val (.long (((9223372036854775807 : Int64) - (P.toInt64)) + (1 : Int64))), .second, .unset, .unset, .unset] [(.int P), (.long S2)])) _
    refine XS.iconst X0.here hx rfl (hb hby at_53) ?_
    show Steps p.tables e below (s₁.setTop (mkF m 54 #[.val (.long q0), .second, .val (.int p1), .val (.int P), .val (.long S2), .second, .val (.long (((9223372036854775807 : Int64) - (P.toInt64)) + (1 : Int64))), .second, .unset, .unset, .unset] [(.int (1 : Int32)), (.int P), (.long S2)])) _
    refine XS.isub X0.here hx rfl (hb hby at_54) rfl ?_
    show Steps p.tables e below (s₁.setTop (mkF m 55 #[.val (.long q0), .second, .val (.int p1), .val (.int P), .val (.long S2), .second, .val (.long (((9223372036854775807 : Int64) - (P.toInt64)) + (1 : Int64))), .second, .unset, .unset, .unset] [(.int (P - (1 : Int32))), (.long S2)])) _
    refine XS.i2l X0.here hx rfl (hb hby at_55) rfl ?_
    show Steps p.tables e below (s₁.setTop (mkF m 56 #[.val (.long q0), .second, .val (.int p1), .val (.int P), .val (.long S2), .second, .val (.long (((9223372036854775807 : Int64) - (P.toInt64)) + (1 : Int64))), .second, .unset, .unset, .unset] [(.long ((P - (1 : Int32)).toInt64)), (.long S2)])) _
    refine XS.ladd X0.here hx rfl (hb hby at_56) rfl ?_
    show Steps p.tables e below (s₁.setTop (mkF m 57 #[.val (.long q0), .second, .val (.int p1), .val (.int P), .val (.long S2), .second, .val (.long (((9223372036854775807 : Int64) - (P.toInt64)) + (1 : Int64))), .second, .unset, .unset, .unset] [(.long (S2 + ((P - (1 : Int32)).toInt64)))])) _
    refine XS.lstore X0.here hx rfl (hb hby at_57) rfl (l' := #[.val (.long q0), .second, .val (.int p1), .val (.int P), .val (.long S2), .second, .val (.long (((9223372036854775807 : Int64) - (P.toInt64)) + (1 : Int64))), .second, .val (.long (S2 + ((P - (1 : Int32)).toInt64))), .second, .unset]) rfl ?_
    show Steps p.tables e below (s₁.setTop (mkF m 59 #[.val (.long q0), .second, .val (.int p1), .val (.int P), .val (.long S2), .second, .val (.long (((9223372036854775807 : Int64) - (P.toInt64)) + (1 : Int64))), .second, .val (.long (S2 + ((P - (1 : Int32)).toInt64))), .second, .unset] [])) _
    refine XS.lload X0.here hx rfl (hb hby at_59) rfl ?_
    show Steps p.tables e below (s₁.setTop (mkF m 61 #[.val (.long q0), .second, .val (.int p1), .val (.int P), .val (.long S2), .second, .val (.long (((9223372036854775807 : Int64) - (P.toInt64)) + (1 : Int64))), .second, .val (.long (S2 + ((P - (1 : Int32)).toInt64))), .second, .unset] [(.long S2)])) _
    refine XS.lload X0.here hx rfl (hb hby at_61) rfl ?_
    exact kt
  obtain ⟨y1, y2, y3, y4, y5, y6⟩ := own_plain q0 p1 hP hS1 hS2
  obtain ⟨_, _, ⟨T1, L1, k1, n1⟩, -, X1, ⟨Lc1, hQ1, l1, y1, z1⟩, st1⟩ := Jvm.LawKit.callS X0 hx (y := (⟨"com/example/octavo/octavo/Limit", "range", "(JJ)Lcom/example/octavo/octavo/Limit;"⟩ : MethodName)) hown (mvT hZ (hw _ (List.mem_of_getElem? (i := 2) rfl))) (mvT hZ (hw _ (List.mem_of_getElem? (i := 3) rfl))) (mvT hZ (hw _ (List.mem_of_getElem? (i := 4) rfl))) (mvT hZ (hw _ (List.mem_of_getElem? (i := 5) rfl))) (by decide) (backOf (W := 0) (rm1 l Z t0 hw [] S2 (S2 + (P - (1 : Int32)).toInt64) h0 n0 Z0 y1 y2 y3 y4) hZ (hw _ (List.mem_of_getElem? (i := 5) rfl)) (hw _ (List.mem_of_getElem? (i := 4) rfl)) (by decide) (by decide)) (g := (mkF m 63 #[.val (.long q0), .second, .val (.int p1), .val (.int P), .val (.long S2), .second, .val (.long (((9223372036854775807 : Int64) - (P.toInt64)) + (1 : Int64))), .second, .val (.long (S2 + ((P - (1 : Int32)).toInt64))), .second, .unset] [(.long (S2 + ((P - (1 : Int32)).toInt64))), (.long S2)])) rfl (by rw [hml]; rfl) (argsL := [(.long S2), (.long (S2 + ((P - (1 : Int32)).toInt64)))]) (rest := []) (lenOf pd_0_0 rfl) rfl (by show 2 * 0 + _ ≤ _; exact Nat.le_of_eq rfl) (hb hby at_63) (fun _ _ => ⟨rfl, e0, (by decide : 0 + 1 ≤ _), (by decide : 0 + 2 ≤ _)⟩)
  dsimp only [Pt.U, Pt.locs, Pt.cells, Pt.slots] at X1 l1 y1 z1 st1 hQ1
  subst l1 y1 z1
  obtain ⟨bb, rfl, Nq1, Kc1, zb1, gb1, Ec1, Fm1, Fs1⟩ := hQ1
  have N1 := Fr.app N0 Nq1
  obtain ⟨h1, e1⟩ : ∃ z, T1.heap = z := ⟨_, rfl⟩
  rw [e1] at Kc1 Ec1 Fm1 Fs1
  have Z1 : n0 ≤ h1.size := Nat.le_trans Z0 Kc1.1
  refine own_go (B := T1.setTop (mkF m 66 #[.val (.long q0), .second, .val (.int p1), .val (.int P), .val (.long S2), .second, .val (.long (((9223372036854775807 : Int64) - (P.toInt64)) + (1 : Int64))), .second, .val (.long (S2 + ((P - (1 : Int32)).toInt64))), .second, .unset] [(.ref bb)])) (fun t kt => st1 t kt) ?_
  refine own_go (B := T1.setTop (mkF m 70 #[.val (.long q0), .second, .val (.int p1), .val (.int P), .val (.long S2), .second, .val (.long (((9223372036854775807 : Int64) - (P.toInt64)) + (1 : Int64))), .second, .val (.long (S2 + ((P - (1 : Int32)).toInt64))), .second, .val (.ref bb)] [(.ref bb)])) (fun t kt => ?_) ?_
  · show Steps p.tables e below (T1.setTop (mkF m 66 #[.val (.long q0), .second, .val (.int p1), .val (.int P), .val (.long S2), .second, .val (.long (((9223372036854775807 : Int64) - (P.toInt64)) + (1 : Int64))), .second, .val (.long (S2 + ((P - (1 : Int32)).toInt64))), .second, .unset] [(.ref bb)])) _
    refine XS.astore X1.here hx rfl (hb hby at_66) rfl rfl (l' := #[.val (.long q0), .second, .val (.int p1), .val (.int P), .val (.long S2), .second, .val (.long (((9223372036854775807 : Int64) - (P.toInt64)) + (1 : Int64))), .second, .val (.long (S2 + ((P - (1 : Int32)).toInt64))), .second, .val (.ref bb)]) rfl ?_
    show Steps p.tables e below (T1.setTop (mkF m 68 #[.val (.long q0), .second, .val (.int p1), .val (.int P), .val (.long S2), .second, .val (.long (((9223372036854775807 : Int64) - (P.toInt64)) + (1 : Int64))), .second, .val (.long (S2 + ((P - (1 : Int32)).toInt64))), .second, .val (.ref bb)] [])) _
    refine XS.aload X1.here hx rfl (hb hby at_68) rfl rfl ?_
    exact kt
  rw [y5] at Fm1
  obtain ⟨cq2, kq2, qa2, qb2, qc2⟩ := isOf hZ e1 Ec1
  obtain ⟨_, _, ⟨T2, L2, k2, n2⟩, -, X2, ⟨Lc2, hQ2, l2, y2, z2⟩, st2⟩ := X1.virtualBack hx (y := (⟨"com/example/octavo/octavo/Limit", "maxResults", "()I"⟩ : MethodName)) (z := (⟨"com/example/octavo/octavo/Limit", "maxResults", "()I"⟩ : MethodName)) hown (mvT hZ (hw _ (List.mem_of_getElem? (i := 22) rfl))) (mvT hZ (hw _ (List.mem_of_getElem? (i := 23) rfl))) (notFace_of_selects (args := #[]) (mvT hZ (hw _ (List.mem_of_getElem? (i := 25) rfl)))) (mvT hZ (hw _ (List.mem_of_getElem? (i := 25) rfl))) (mvT hZ (hw _ (List.mem_of_getElem? (i := 24) rfl))) (by decide) (backOf (W := 0) (rm5 l Z t0 hw [] bb P h1 n0 Z1 Fm1) hZ (hw _ (List.mem_of_getElem? (i := 26) rfl)) (hw _ (List.mem_of_getElem? (i := 4) rfl)) (by decide) (by decide)) qa2 qc2 (g := (mkF m 70 #[.val (.long q0), .second, .val (.int p1), .val (.int P), .val (.long S2), .second, .val (.long (((9223372036854775807 : Int64) - (P.toInt64)) + (1 : Int64))), .second, .val (.long (S2 + ((P - (1 : Int32)).toInt64))), .second, .val (.ref bb)] [(.ref bb)])) rfl (by rw [hml]; rfl) (Steps.refl _) (argsL := []) (rest := []) (lenOf pd_0_1 rfl) rfl (by show 2 * 0 + _ ≤ _; exact Nat.le_of_eq rfl) (hb hby at_70) (fun _ _ => ⟨rfl, e1, (by decide : 1 + 0 ≤ _), (by decide : 2 + 0 ≤ _)⟩)
  dsimp only [Pt.U, Pt.locs, Pt.cells, Pt.slots] at X2 l2 y2 z2 st2 hQ2
  subst l2 y2 z2
  obtain ⟨rfl, Nq2, hh2⟩ := hQ2
  have N2 := Fr.app N1 Nq2
  have e2 : T2.heap = h1 := hh2
  refine own_go (B := T2.setTop (mkF m 73 #[.val (.long q0), .second, .val (.int p1), .val (.int P), .val (.long S2), .second, .val (.long (((9223372036854775807 : Int64) - (P.toInt64)) + (1 : Int64))), .second, .val (.long (S2 + ((P - (1 : Int32)).toInt64))), .second, .val (.ref bb)] [(.int P)])) (fun t kt => st2.trans kt) ?_
  refine own_go (B := T2.setTop (mkF m 79 #[.val (.long q0), .second, .val (.int p1), .val (.int P), .val (.long S2), .second, .val (.long (((9223372036854775807 : Int64) - (P.toInt64)) + (1 : Int64))), .second, .val (.long (S2 + ((P - (1 : Int32)).toInt64))), .second, .val (.ref bb)] [(.ref bb)])) (fun t kt => ?_) ?_
  · show Steps p.tables e below (T2.setTop (mkF m 73 #[.val (.long q0), .second, .val (.int p1), .val (.int P), .val (.long S2), .second, .val (.long (((9223372036854775807 : Int64) - (P.toInt64)) + (1 : Int64))), .second, .val (.long (S2 + ((P - (1 : Int32)).toInt64))), .second, .val (.ref bb)] [(.int P)])) _
    refine XS.iloadN X2.here hx rfl (hb hby at_73) rfl ?_
    show Steps p.tables e below (T2.setTop (mkF m 74 #[.val (.long q0), .second, .val (.int p1), .val (.int P), .val (.long S2), .second, .val (.long (((9223372036854775807 : Int64) - (P.toInt64)) + (1 : Int64))), .second, .val (.long (S2 + ((P - (1 : Int32)).toInt64))), .second, .val (.ref bb)] [(.int P), (.int P)])) _
    refine XS.icmpNo X2.here hx rfl (hb hby at_74) rfl (teq (rfl : P = P)).2 ?_
    show Steps p.tables e below (T2.setTop (mkF m 77 #[.val (.long q0), .second, .val (.int p1), .val (.int P), .val (.long S2), .second, .val (.long (((9223372036854775807 : Int64) - (P.toInt64)) + (1 : Int64))), .second, .val (.long (S2 + ((P - (1 : Int32)).toInt64))), .second, .val (.ref bb)] [])) _
    refine XS.aload X2.here hx rfl (hb hby at_77) rfl rfl ?_
    exact kt
  obtain ⟨cq3, kq3, qa3, qb3, qc3⟩ := isOf hZ e2 Ec1
  obtain ⟨_, _, ⟨T3, L3, k3, n3⟩, -, X3, ⟨Lc3, hQ3, l3, y3, z3⟩, st3⟩ := X2.virtualBack hx (y := (⟨"com/example/octavo/octavo/Limit", "startAt", "()J"⟩ : MethodName)) (z := (⟨"com/example/octavo/octavo/Limit", "startAt", "()J"⟩ : MethodName)) hown (mvT hZ (hw _ (List.mem_of_getElem? (i := 27) rfl))) (mvT hZ (hw _ (List.mem_of_getElem? (i := 28) rfl))) (notFace_of_selects (args := #[]) (mvT hZ (hw _ (List.mem_of_getElem? (i := 30) rfl)))) (mvT hZ (hw _ (List.mem_of_getElem? (i := 30) rfl))) (mvT hZ (hw _ (List.mem_of_getElem? (i := 29) rfl))) (by decide) (backOf (W := 0) (rm6 l Z t0 hw [] bb S2 h1 n0 Z1 Fs1) hZ (hw _ (List.mem_of_getElem? (i := 31) rfl)) (hw _ (List.mem_of_getElem? (i := 4) rfl)) (by decide) (by decide)) qa3 qc3 (g := (mkF m 79 #[.val (.long q0), .second, .val (.int p1), .val (.int P), .val (.long S2), .second, .val (.long (((9223372036854775807 : Int64) - (P.toInt64)) + (1 : Int64))), .second, .val (.long (S2 + ((P - (1 : Int32)).toInt64))), .second, .val (.ref bb)] [(.ref bb)])) rfl (by rw [hml]; rfl) (Steps.refl _) (argsL := []) (rest := []) (lenOf pd_0_2 rfl) rfl (by show 2 * 0 + _ ≤ _; exact Nat.le_of_eq rfl) (hb hby at_79) (fun _ _ => ⟨rfl, e2, (by decide : 1 + 0 ≤ _), (by decide : 2 + 0 ≤ _)⟩)
  dsimp only [Pt.U, Pt.locs, Pt.cells, Pt.slots] at X3 l3 y3 z3 st3 hQ3
  subst l3 y3 z3
  obtain ⟨rfl, Nq3, hh3⟩ := hQ3
  have N3 := Fr.app N2 Nq3
  have e3 : T3.heap = h1 := hh3
  refine own_go (B := T3.setTop (mkF m 82 #[.val (.long q0), .second, .val (.int p1), .val (.int P), .val (.long S2), .second, .val (.long (((9223372036854775807 : Int64) - (P.toInt64)) + (1 : Int64))), .second, .val (.long (S2 + ((P - (1 : Int32)).toInt64))), .second, .val (.ref bb)] [(.long S2)])) (fun t kt => st3.trans kt) ?_
  refine own_go (B := T3.setTop (mkF m 93 #[.val (.long q0), .second, .val (.int p1), .val (.int P), .val (.long S2), .second, .val (.long (((9223372036854775807 : Int64) - (P.toInt64)) + (1 : Int64))), .second, .val (.long (S2 + ((P - (1 : Int32)).toInt64))), .second, .val (.ref bb)] [(.int (1 : Int32))])) (fun t kt => ?_) ?_
  · show Steps p.tables e below (T3.setTop (mkF m 82 #[.val (.long q0), .second, .val (.int p1), .val (.int P), .val (.long S2), .second, .val (.long (((9223372036854775807 : Int64) - (P.toInt64)) + (1 : Int64))), .second, .val (.long (S2 + ((P - (1 : Int32)).toInt64))), .second, .val (.ref bb)] [(.long S2)])) _
    refine XS.lload X3.here hx rfl (hb hby at_82) rfl ?_
    show Steps p.tables e below (T3.setTop (mkF m 84 #[.val (.long q0), .second, .val (.int p1), .val (.int P), .val (.long S2), .second, .val (.long (((9223372036854775807 : Int64) - (P.toInt64)) + (1 : Int64))), .second, .val (.long (S2 + ((P - (1 : Int32)).toInt64))), .second, .val (.ref bb)] [(.long S2), (.long S2)])) _
    refine XS.lcmp X3.here hx rfl (hb hby at_84) rfl ?_
    show Steps p.tables e below (T3.setTop (mkF m 85 #[.val (.long q0), .second, .val (.int p1), .val (.int P), .val (.long S2), .second, .val (.long (((9223372036854775807 : Int64) - (P.toInt64)) + (1 : Int64))), .second, .val (.long (S2 + ((P - (1 : Int32)).toInt64))), .second, .val (.ref bb)] [(.int (lcmpW S2 S2))])) _
    refine XS.ifNo X3.here hx rfl (hb hby at_85) rfl ((if0 _ _).trans (teq (show lcmpW S2 S2 = (0 : Int32) from (lw_eq _ _).2 rfl)).2) ?_
    show Steps p.tables e below (T3.setTop (mkF m 88 #[.val (.long q0), .second, .val (.int p1), .val (.int P), .val (.long S2), .second, .val (.long (((9223372036854775807 : Int64) - (P.toInt64)) + (1 : Int64))), .second, .val (.long (S2 + ((P - (1 : Int32)).toInt64))), .second, .val (.ref bb)] [])) _
    refine XS.iconst X3.here hx rfl (hb hby at_88) ?_
    show Steps p.tables e below (T3.setTop (mkF m 89 #[.val (.long q0), .second, .val (.int p1), .val (.int P), .val (.long S2), .second, .val (.long (((9223372036854775807 : Int64) - (P.toInt64)) + (1 : Int64))), .second, .val (.long (S2 + ((P - (1 : Int32)).toInt64))), .second, .val (.ref bb)] [(.int (1 : Int32))])) _
    refine XS.goto X3.here hx rfl (pc0 := 89) (pc' := 93) rfl (hb hby at_89) (by decide) (by decide) ?_
    exact kt
  obtain ⟨fs, hr, hrun, hended, hW, hsame⟩ := X3.leave (v := some (.int (1 : Int32))) (fun h => by rw [Bd.returns] at h; cases h)
  refine ⟨_, _, ?_, hrun, hended, _, _, rfl, ?_, ⟨_, rfl⟩, hW, hsame.mono (by decide) (by decide)⟩
  · show Steps p.tables e below (T3.setTop (mkF m 93 #[.val (.long q0), .second, .val (.int p1), .val (.int P), .val (.long S2), .second, .val (.long (((9223372036854775807 : Int64) - (P.toInt64)) + (1 : Int64))), .second, .val (.long (S2 + ((P - (1 : Int32)).toInt64))), .second, .val (.ref bb)] [(.int (1 : Int32))])) _
    exact retN X3 hx (t := .boolean) Bd.returns (by simp) (hb hby at_93) hr
  · show Q0 n0 _ _
    exact ⟨rfl, N3⟩
set_option maxRecDepth 65536 in
set_option maxHeartbeats 40000000 in
theorem comes_1 {Post : Tables → Env → Array Value → State → Outcome → State → Prop} (hpost : ∀ tb e args s v u, (limb_1_1.after args s (.returned v) u = true ∧ limb_1_2.after args s (.returned v) u = true ∧ True) → FrameEnd s (.returned v) u (Jvm.fieldLocs frame_1_writes args s ++ Jvm.arrayLocs frame_1_arrays args s ++ Jvm.staticLocs frame_1_statics s) 16 128 → Post tb e args s (.returned v) u) :
    ArmFor flags0 classFile x code maxLocals ret World_1 tables_1 room_1 Calls_1 rest_1 Pre_1 Post := by
  intro l hfl _ _ p e ha hc hk s m args below hf hA hF happ hP
  obtain ⟨hcalls, hrest, hpre⟩ := hP
  obtain ⟨-, -, -, hnamed, -, -, -, hat⟩ := (Spec.applies_iff hf).mp happ
  obtain ⟨hg, hn⟩ := and_e (Cond.before_iff.mp (show (Jvm.Cond.and given_1 narrow_1).before args s = true from hpre))
  obtain ⟨ga0, gb0⟩ := and_e hg
  obtain ⟨ga1, gb1⟩ := and_e gb0
  obtain ⟨w0, w1, rfl⟩ : ∃ w0 w1 : Value, args = #[w0, w1] := by
    have hs : args.size = 2 := by simpa [Cond.value, given_1] using ga0
    obtain ⟨L⟩ := args
    match L, hs with
    | [w0, w1], _ => exact ⟨w0, w1, rfl⟩
  have hw := fun d (hd : d ∈ tables_1) => atoms_spec (ws := Jvm.Cond.code x code maxLocals ret :: tables_1) hat d (List.mem_cons_of_mem _ hd)
  obtain ⟨i0, ei0⟩ := isL_v ga1
  obtain rfl : w0 = (.long i0) := Option.some.inj ei0
  obtain ⟨i1, ei1⟩ := is_v gb1
  obtain rfl : w1 = (.int i1) := Option.some.inj ei1
  obtain ⟨n, o, h1, h2, h3, _, L, rfl, ⟨rfl, N⟩, hq⟩ := rm0 l s _ hw tables_1 i0 i1 s.heap s.heap.size (Nat.le_refl _)  p e ha hc hk s m _ below hf ((Spec.applies_iff_loose hf).mp happ).1 ⟨rfl, State.Warmed39.refl s, rfl⟩ trivial
  refine ⟨n, _, h1, h2, h3, hpost _ _ _ _ _ _ ⟨Cond.after_iff.mpr rfl, Cond.after_iff.mpr (eq_i res_at (Term.int_eval (1)) rfl), trivial⟩ ⟨hq.1, hq.2.1, (hq.2.2.sift fun y hy => Or.inr (N y hy)).mono (by decide) (by decide)⟩⟩
theorem main_1_1 : Claimed_1_1 := comes_1 fun _ _ _ _ _ _ h hF => ⟨h.1, hF⟩
theorem main_1_2 : Claimed_1_2 := comes_1 fun _ _ _ _ _ _ h hF => ⟨h.2.1, hF⟩
end Jvm.Pilot.@@N@@
namespace Jvm.Pilot.@@N@@
open Jvm Jvm.ClassFile Sem Op Lib Jvm.Free Jvm.Stand Jvm.Pilot.@@N@@.Jvm.D
/-! MADE BY PROGRAM (witnessworld.py) out of the Statement's table words and the real class files: 9 classes; the members and pool entries that the words name. The judged class is class 1, her method 1. -/
namespace start1
open Jvm.ClassFile
def u (s : String) : CpInfo := .utf8 (stringToUtf16 s)
/-- a pool by its gaps: so many unusable entries, then the entry; so many at the end -/
def gap : Nat → List CpInfo → List CpInfo
  | 0, r => r
  | n + 1, r => .unusable :: gap n r
def poolList (es : List (Nat × CpInfo)) (last : Nat) : List CpInfo := es.foldr (fun e r => gap e.1 (e.2 :: r)) (gap last [])
def pool (es : List (Nat × CpInfo)) (last : Nat) : Array CpInfo := ⟨poolList es last⟩
def fileOf (pool : Array CpInfo) (this : Nat) (attrs : Array Attribute := #[]) (ms : Array MethodInfo := #[]) (fl : Nat := 33) (sup : Nat := 0) (ifs : Array Nat := #[]) (fds : Array FieldInfo := #[]) : ClassFile where
  minorVersion := 0
  majorVersion := 65
  constantPool := pool
  accessFlags := fl
  thisClass := this
  superClass := sup
  interfaces := ifs
  fields := fds
  methods := ms
  attributes := attrs
def plain (name : String) (sup : Option ClassId) : Class where
  name := name
  kind := .ordinary
  loader := none
  accessFlags := 33
  super := sup
  interfaces := #[]
  cf := none
  fields := #[]
  methods := #[]
  instanceTypes := #[]
  staticTypes := #[]
  resolved := #[]
  callSites := []
  init := .initialized
  statics := none
  mirror := none

def pool0 : Array CpInfo := pool [(5, u "<init>"), (0, u "()V"), (1, .class_ 10), (1, u "java/lang/Object")] 113

def k0c0 : Code := { maxStack := 0, maxLocals := 1, code := object_method_1_code, exceptionTable := #[], attributes := #[] }
def k0m0 : Method := { name := "<init>", desc := "()V", sig := { parameters := [], returnType := none }, accessFlags := 1, code := some k0c0 }
/-- java/lang/Object -/
def k0 : Class := { plain "java/lang/Object" none with
  accessFlags := 33
  interfaces := #[]
  cf := some (fileOf pool0 8 #[] #[{ accessFlags := 1, nameIndex := 5, descriptorIndex := 6, attributes := #[] }] 33 0 #[] #[])
  fields := #[]
  methods := #[k0m0]
  instanceTypes := #[]
  staticTypes := #[]
  resolved := Array.replicate 124 none
  statics := none }

def pool1 : Array CpInfo := pool [(2, .class_ 4), (1, u "java/lang/Object"), (0, u "<init>"), (0, u "()V"), (0, .integer 2147483647), (2, .long 9223372036854775807), (1, .methodref 13 14), (0, .class_ 15), (0, .nameAndType 16 17), (0, u "com/example/octavo/octavo/Limit"), (0, u "range"), (0, u "(JJ)Lcom/example/octavo/octavo/Limit;"), (0, .methodref 13 19), (0, .nameAndType 20 21), (0, u "maxResults"), (0, u "()I"), (0, .methodref 13 23), (0, .nameAndType 24 25), (0, u "startAt"), (0, u "()J"), (0, .class_ 27), (0, u "com/example/octavo/octavo/LimitRangePinLaw"), (2, u "law"), (0, u "(JI)Z")] 3

def k1m0 : Method := { name := "<init>", desc := "()V", sig := { parameters := [], returnType := none }, accessFlags := 2, code := none }
def k1c1 : Code := { maxStack := 4, maxLocals := 11, code := code, exceptionTable := #[], attributes := #[] }
def k1m1 : Method := { name := "law", desc := "(JI)Z", sig := { parameters := [.long, .int], returnType := some .boolean }, accessFlags := 9, code := some k1c1 }
/-- com/example/octavo/octavo/LimitRangePinLaw -/
def k1 : Class := { plain "com/example/octavo/octavo/LimitRangePinLaw" (some 0) with
  accessFlags := 49
  interfaces := #[]
  cf := some (fileOf pool1 26 #[] #[{ accessFlags := 2, nameIndex := 5, descriptorIndex := 6, attributes := #[] }, { accessFlags := 9, nameIndex := 30, descriptorIndex := 31, attributes := #[] }] 49 2 #[] #[])
  fields := #[]
  methods := #[k1m0, k1m1]
  instanceTypes := #[]
  staticTypes := #[]
  resolved := Array.replicate 35 none
  statics := none }

def pool2 : Array CpInfo := pool [(1, .methodref 2 3), (0, .class_ 4), (0, .nameAndType 5 6), (0, u "java/lang/Object"), (0, u "<init>"), (0, u "()V"), (9, .methodref 17 18), (0, .class_ 19), (0, .nameAndType 20 21), (0, u "com/example/octavo/octavo/Limit"), (0, u "requirePosition"), (0, u "(J)V"), (0, .fieldref 17 23), (0, .nameAndType 24 25), (0, u "maxResults"), (0, u "I"), (0, .fieldref 17 27), (0, .nameAndType 28 29), (0, u "startAt"), (0, u "J"), (0, .methodref 17 31), (0, .nameAndType 5 32), (0, u "(IJ)V"), (5, .long 2147483647), (30, u "range"), (0, u "(JJ)Lcom/example/octavo/octavo/Limit;"), (0, u "()I"), (0, u "()J")] 30

def k2c0 : Code := { maxStack := 3, maxLocals := 4, code := prog_2_method_1_code, exceptionTable := #[], attributes := #[] }
def k2m0 : Method := { name := "<init>", desc := "(IJ)V", sig := { parameters := [.int, .long], returnType := none }, accessFlags := 1, code := some k2c0 }
def k2c1 : Code := { maxStack := 8, maxLocals := 6, code := prog_2_method_3_code, exceptionTable := #[], attributes := #[] }
def k2m1 : Method := { name := "range", desc := "(JJ)Lcom/example/octavo/octavo/Limit;", sig := { parameters := [.long, .long], returnType := some (.object "com/example/octavo/octavo/Limit") }, accessFlags := 9, code := some k2c1 }
def k2c2 : Code := { maxStack := 4, maxLocals := 2, code := prog_2_method_4_code, exceptionTable := #[], attributes := #[] }
def k2m2 : Method := { name := "requirePosition", desc := "(J)V", sig := { parameters := [.long], returnType := none }, accessFlags := 10, code := some k2c2 }
def k2c3 : Code := { maxStack := 1, maxLocals := 1, code := prog_2_method_5_code, exceptionTable := #[], attributes := #[] }
def k2m3 : Method := { name := "maxResults", desc := "()I", sig := { parameters := [], returnType := some .int }, accessFlags := 1, code := some k2c3 }
def k2c4 : Code := { maxStack := 2, maxLocals := 1, code := prog_2_method_6_code, exceptionTable := #[], attributes := #[] }
def k2m4 : Method := { name := "startAt", desc := "()J", sig := { parameters := [], returnType := some .long }, accessFlags := 1, code := some k2c4 }
/-- com/example/octavo/octavo/Limit -/
def k2 : Class := { plain "com/example/octavo/octavo/Limit" (some 0) with
  accessFlags := 49
  interfaces := #[]
  cf := some (fileOf pool2 17 #[] #[{ accessFlags := 1, nameIndex := 5, descriptorIndex := 32, attributes := #[] }, { accessFlags := 9, nameIndex := 69, descriptorIndex := 70, attributes := #[] }, { accessFlags := 10, nameIndex := 20, descriptorIndex := 21, attributes := #[] }, { accessFlags := 1, nameIndex := 24, descriptorIndex := 71, attributes := #[] }, { accessFlags := 1, nameIndex := 28, descriptorIndex := 72, attributes := #[] }] 49 2 #[] #[{ accessFlags := 18, nameIndex := 24, descriptorIndex := 25, attributes := #[] }, { accessFlags := 18, nameIndex := 28, descriptorIndex := 29, attributes := #[] }])
  fields := #[{ name := "maxResults", type := .int, accessFlags := 18, slot := 0, constantValue := 0 }, { name := "startAt", type := .long, accessFlags := 18, slot := 1, constantValue := 0 }]
  methods := #[k2m0, k2m1, k2m2, k2m3, k2m4]
  instanceTypes := #[.int, .long]
  staticTypes := #[]
  resolved := Array.replicate 103 none
  statics := none }

def pool3 : Array CpInfo := pool [(1, u "java/lang/Cloneable"), (0, .class_ 1), (0, u "java/lang/Object"), (0, .class_ 3)] 3

/-- java/lang/Cloneable -/
def k3 : Class := { plain "java/lang/Cloneable" (some 0) with
  accessFlags := 1537
  interfaces := #[]
  cf := some (fileOf pool3 2 #[] #[] 1537 4 #[] #[])
  fields := #[]
  methods := #[]
  instanceTypes := #[]
  staticTypes := #[]
  resolved := Array.replicate 8 none
  statics := none }

def pool4 : Array CpInfo := pool [(1, u "java/io/Serializable"), (0, .class_ 1), (0, u "java/lang/Object"), (0, .class_ 3)] 3

/-- java/io/Serializable -/
def k4 : Class := { plain "java/io/Serializable" (some 0) with
  accessFlags := 1537
  interfaces := #[]
  cf := some (fileOf pool4 2 #[] #[] 1537 4 #[] #[])
  fields := #[]
  methods := #[]
  instanceTypes := #[]
  staticTypes := #[]
  resolved := Array.replicate 8 none
  statics := none }

/-- the primitive byte -/
def k5 : Class := { plain "byte" none with kind := .primitive 'B', accessFlags := 0x411 }
/-- [B -/
def k6 : Class := { plain "[B" (some 0) with kind := .array 5 .byte, interfaces := #[3, 4], accessFlags := 1041 }

/-- the primitive int -/
def k7 : Class := { plain "int" none with kind := .primitive 'I', accessFlags := 0x411 }
/-- [I -/
def k8 : Class := { plain "[I" (some 0) with kind := .array 7 .int, interfaces := #[3, 4], accessFlags := 1041 }

def heap : Heap := #[]
def classes : Array Class := #[k0, k1, k2, k3, k4, k5, k6, k7, k8]
def interned : List (Array UInt16 × Addr) := []
def slotsUsed : Nat := 0
def theMethod : MethodId := ⟨1, 1⟩
def args0 : Array Value := #[.long 5, .int 32]
def aboutOver (below : List Frame) : State where
  vm := { classes := classes, interned := interned.toArray }
  heap := heap
  slotsUsed := slotsUsed
  threads := #[{ frames := .invoking theMethod args0 :: below }]
def below0 : List Frame := [.native { method := ⟨0, 0⟩, args := #[] }]
def about1 : State := aboutOver below0
def p0 : Program := .bare "" "" ""
def e0 : Env := launch0.env 0 0 0
theorem w_frames : about1.frames = Frame.invoking theMethod args0 :: below0 := rfl
set_option maxRecDepth 65536 in
theorem w_args : argsFit about1.vm theMethod args0 = true := by decide +kernel
set_option maxRecDepth 65536 in
theorem w_heap : heapFits about1 = true := by decide +kernel
set_option maxRecDepth 65536 in
theorem w_runnable : about1.curStatus? = some .runnable := by decide +kernel
set_option maxRecDepth 65536 in
theorem w_alone : about1.alone = true := by decide +kernel
set_option maxRecDepth 65536 in
theorem w_named : about1.methodNamed? x = some theMethod := by decide +kernel
set_option maxRecDepth 65536 in
theorem w_hears : about1.hears theMethod below0 = true := by decide +kernel
set_option maxRecDepth 65536 in
theorem w_ripe : about1.ripe theMethod args0 below0 = true := by decide +kernel
theorem w_running : about1.status = .running := rfl
set_option maxRecDepth 65536 in
theorem w_room : about1.hasRoom e0.platform room_1 = true :=
  launch0.hasRoom_least _ room_1 (by decide +kernel) (by decide +kernel) (by decide +kernel) (by decide +kernel) (by decide +kernel) (by decide +kernel)
theorem allAtoms_all (ts : List Jvm.Cond) (a : Array Jvm.Value) (st : Jvm.State) : (allAtoms ts).before a st = ts.all (fun c => c.before a st) := by
  induction ts with
  | nil => rfl
  | cons c t ih =>
    show (Jvm.Cond.and c (allAtoms t)).before a st = _
    rw [Jvm.Cond.before_and, ih, List.all_cons]
def words1 : List Jvm.Cond := Jvm.Cond.code x code maxLocals ret :: tables_1
/-- a 'code' word, met by the world's own term for the bytes: nothing is compared byte by byte -/
theorem code_word {y : MethodName} {bytes : ByteArray} {mx : Nat} {rt : Option FieldType} {a : Array Value} {s : State} {m : MethodId} {meth : Method} {c : Code} (h1 : s.methodNamed? y = some m) (h2 : s.vm.method? m = some meth) (h3 : meth.code = some c) (h4 : c.code = bytes)
    (h5 : (c.maxLocals == mx && c.exceptionTable.isEmpty && decide (c.maxStack ≤ mostOperands) && decide (meth.sig.returnType = rt) && !meth.locks && decide (parseMethodDescriptor y.desc = some meth.sig)) = true) : (Jvm.Cond.code y bytes mx rt).before a s = true := by
  simp only [Bool.and_eq_true, beq_iff_eq, Bool.not_eq_true', decide_eq_true_eq] at h5
  obtain ⟨⟨⟨⟨⟨g1, g2⟩, g3⟩, g4⟩, g5⟩, g6⟩ := h5
  simp [Cond.before, Cond.holds, Cond.value, h1, h2, h3, h4, g1, g2, g3, g4, g5, g6]
def isCode : Jvm.Cond → Bool
  | .code _ _ _ _ => true
  | _ => false
theorem all_split {L : List Jvm.Cond} {P : Jvm.Cond → Bool} (h1 : L.all (fun c => isCode c || P c) = true) (h2 : ∀ c ∈ L.filter isCode, P c = true) : L.all P = true := by
  refine List.all_eq_true.mpr fun c hc => ?_
  have h := List.all_eq_true.mp h1 c hc
  rcases Bool.eq_false_or_eq_true (isCode c) with hi | hi
  · exact h2 c (List.mem_filter.mpr ⟨hc, hi⟩)
  · simpa [hi] using h
set_option maxRecDepth 65536 in
theorem w_c0 : (Jvm.Cond.code x code maxLocals ret).before args0 about1 = true := code_word (m := ⟨1, 1⟩) (meth := k1m1) (c := k1c1) (by decide +kernel) rfl rfl rfl (by decide +kernel)
set_option maxRecDepth 65536 in
theorem w_c1 : (Jvm.Cond.code ({ cls := "com/example/octavo/octavo/Limit", name := "range", desc := "(JJ)Lcom/example/octavo/octavo/Limit;" } : Jvm.MethodName) prog_2_method_3_code (6 : Nat) (Option.some (Jvm.ClassFile.FieldType.object "com/example/octavo/octavo/Limit"))).before args0 about1 = true := code_word (m := ⟨2, 1⟩) (meth := k2m1) (c := k2c1) (by decide +kernel) rfl rfl rfl (by decide +kernel)
set_option maxRecDepth 65536 in
theorem w_c2 : (Jvm.Cond.code ({ cls := "com/example/octavo/octavo/Limit", name := "requirePosition", desc := "(J)V" } : Jvm.MethodName) prog_2_method_4_code (2 : Nat) (Option.none : Option Jvm.ClassFile.FieldType)).before args0 about1 = true := code_word (m := ⟨2, 2⟩) (meth := k2m2) (c := k2c2) (by decide +kernel) rfl rfl rfl (by decide +kernel)
set_option maxRecDepth 65536 in
theorem w_c3 : (Jvm.Cond.code ({ cls := "com/example/octavo/octavo/Limit", name := "<init>", desc := "(IJ)V" } : Jvm.MethodName) prog_2_method_1_code (4 : Nat) (Option.none : Option Jvm.ClassFile.FieldType)).before args0 about1 = true := code_word (m := ⟨2, 0⟩) (meth := k2m0) (c := k2c0) (by decide +kernel) rfl rfl rfl (by decide +kernel)
set_option maxRecDepth 65536 in
theorem w_c4 : (Jvm.Cond.code ({ cls := "java/lang/Object", name := "<init>", desc := "()V" } : Jvm.MethodName) object_method_1_code (1 : Nat) (Option.none : Option Jvm.ClassFile.FieldType)).before args0 about1 = true := code_word (m := ⟨0, 0⟩) (meth := k0m0) (c := k0c0) (by decide +kernel) rfl rfl rfl (by decide +kernel)
set_option maxRecDepth 65536 in
theorem w_c5 : (Jvm.Cond.code ({ cls := "com/example/octavo/octavo/Limit", name := "maxResults", desc := "()I" } : Jvm.MethodName) prog_2_method_5_code (1 : Nat) (Option.some Jvm.ClassFile.FieldType.int)).before args0 about1 = true := code_word (m := ⟨2, 3⟩) (meth := k2m3) (c := k2c3) (by decide +kernel) rfl rfl rfl (by decide +kernel)
set_option maxRecDepth 65536 in
theorem w_c6 : (Jvm.Cond.code ({ cls := "com/example/octavo/octavo/Limit", name := "startAt", desc := "()J" } : Jvm.MethodName) prog_2_method_6_code (1 : Nat) (Option.some Jvm.ClassFile.FieldType.long)).before args0 about1 = true := code_word (m := ⟨2, 4⟩) (meth := k2m4) (c := k2c4) (by decide +kernel) rfl rfl rfl (by decide +kernel)
def codes1 : List Jvm.Cond := [Jvm.Cond.code x code maxLocals ret, Jvm.Cond.code ({ cls := "com/example/octavo/octavo/Limit", name := "range", desc := "(JJ)Lcom/example/octavo/octavo/Limit;" } : Jvm.MethodName) prog_2_method_3_code (6 : Nat) (Option.some (Jvm.ClassFile.FieldType.object "com/example/octavo/octavo/Limit")), Jvm.Cond.code ({ cls := "com/example/octavo/octavo/Limit", name := "requirePosition", desc := "(J)V" } : Jvm.MethodName) prog_2_method_4_code (2 : Nat) (Option.none : Option Jvm.ClassFile.FieldType), Jvm.Cond.code ({ cls := "com/example/octavo/octavo/Limit", name := "<init>", desc := "(IJ)V" } : Jvm.MethodName) prog_2_method_1_code (4 : Nat) (Option.none : Option Jvm.ClassFile.FieldType), Jvm.Cond.code ({ cls := "java/lang/Object", name := "<init>", desc := "()V" } : Jvm.MethodName) object_method_1_code (1 : Nat) (Option.none : Option Jvm.ClassFile.FieldType), Jvm.Cond.code ({ cls := "com/example/octavo/octavo/Limit", name := "maxResults", desc := "()I" } : Jvm.MethodName) prog_2_method_5_code (1 : Nat) (Option.some Jvm.ClassFile.FieldType.int), Jvm.Cond.code ({ cls := "com/example/octavo/octavo/Limit", name := "startAt", desc := "()J" } : Jvm.MethodName) prog_2_method_6_code (1 : Nat) (Option.some Jvm.ClassFile.FieldType.long)]
set_option maxRecDepth 65536 in
theorem codes_eq : words1.filter isCode = codes1 := rfl
theorem w_codes : ∀ c ∈ words1.filter isCode, c.before args0 about1 = true := by
  rw [codes_eq]
  intro c hc
  simp only [codes1, List.mem_cons, List.not_mem_nil, or_false] at hc
  rcases hc with rfl | rfl | rfl | rfl | rfl | rfl | rfl
  · exact w_c0
  · exact w_c1
  · exact w_c2
  · exact w_c3
  · exact w_c4
  · exact w_c5
  · exact w_c6
set_option maxRecDepth 65536 in
theorem w_t1 : (words1.take 24).all (fun c => isCode c || c.before args0 about1) = true := by decide +kernel
set_option maxRecDepth 65536 in
theorem w_t2 : (words1.drop 24).all (fun c => isCode c || c.before args0 about1) = true := by decide +kernel
theorem w_tables : (allAtoms (Jvm.Cond.code x code maxLocals ret :: tables_1)).before args0 about1 = true := by
  rw [allAtoms_all]
  show words1.all (fun c => c.before args0 about1) = true
  refine all_split ?_ w_codes
  rw [← List.take_append_drop 24 words1, List.all_append, w_t1, w_t2]
  rfl
set_option maxRecDepth 65536 in
theorem w_case : (Jvm.Cond.and given_1 narrow_1).before args0 about1 = true := by decide +kernel
theorem w_applies : (headSpec (Jvm.Cond.code x code maxLocals ret :: tables_1) room_1).applies x e0.platform about1 = true :=
  (Spec.applies_iff w_frames).mpr ⟨w_running, w_runnable, w_alone, w_named, w_hears, w_ripe, w_room, w_tables⟩
theorem atStart : AtStart classFile x code maxLocals ret World_1 tables_1 room_1 Calls_1 rest_1 Pre_1 launch0 p0 e0 about1 theMethod args0 below0 :=
  ⟨lists_1, trivial, launch0.admits_env _ _ _, launch0.least_env, fairChoices_fair.cas, fairChoices_fair.clock, w_frames, w_args, w_heap, w_applies, trivial, trivial, w_case⟩
end start1
theorem witness_1 : WitnessClaimed_1 := ⟨start1.p0, start1.e0, start1.about1, start1.theMethod, start1.args0, start1.below0, start1.atStart⟩
end Jvm.Pilot.@@N@@
