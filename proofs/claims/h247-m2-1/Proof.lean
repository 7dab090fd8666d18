import JvmDerived
import JvmDerived.Pilot.@@N@@Statement
import JvmDerived.Pilot.@@N@@Code
set_option linter.unusedVariables false
set_option linter.unusedSimpArgs false
namespace Jvm.RoadKit
open Sem ClassFile Op Lib Jvm.Stand Jvm.Free Jvm.LawKit
section New
variable {p : Program} {l : Launch} {e : Env} {R : Room} {s : State} {m : MethodId} {args : Array Value} {below : List Frame} {meth : Method} {c : Code} {T : State} {locs : List Loc} {cells slots : Nat}
theorem retI (X : Stand p l e R s m args below meth c T locs cells slots) (hx : p.tables.exec = Jvm.exec) {pc : Nat} {Ls : Array Slot} {z : Int32} {rest : List Value} (hret : meth.sig.returnType = some .int) (hd : decode c.code pc = .ok (.ireturn, 1)) {fs : List Frame}
    (hl : ∀ (f : JFrame) (acts : List Action), f.method = m → f.locked = none → f.entered = [] → (doReturn e (T.setTop f) acts (some (.int z))).1 = T.setFrames fs) : Steps p.tables e below (T.setTop (mkF m pc Ls (.int z :: rest))) (T.setFrames fs) := by
  have hm' : T.vm.method? m = some meth := X.method'
  have hn : narrow .int (.int z) = .int z := rfl
  show Steps p.tables e below (T.setTop { method := m, pc := pc, locals := Ls, stack := _ :: rest, locked := none }) _
  jvm_step X.here [X.here.top, hx, hd, hm', hret, hn]
  first | (intro acts; rw [hl _ acts rfl rfl rfl]) | rw [hl _ _ rfl rfl rfl]
  exact Steps.refl _
end New
end Jvm.RoadKit
namespace Jvm.Pilot.@@N@@
open Jvm Jvm.ClassFile Sem Op Lib Jvm.Free Jvm.Stand Jvm.LawKit Jvm.RoadKit Bundle Jvm.Pilot.@@N@@.Jvm.D

theorem own_go {tb : Tables} {e : Env} {below : List Frame} {A B : State} {Φ : State → Outcome → Prop} (st : ∀ t, Steps tb e below B t → Steps tb e below A t) (h : ∃ s₂ o, Steps tb e below B s₂ ∧ Φ s₂ o) : ∃ s₂ o, Steps tb e below A s₂ ∧ Φ s₂ o := by
  obtain ⟨t, o, h1, h2⟩ := h
  exact ⟨t, o, st t h1, h2⟩
theorem d1_0 : decode prog_92_method_1_code 0 = .ok (.aload_n 0, 1) := by decide +kernel
theorem d1_1 : decode prog_92_method_1_code 1 = .ok (.invokespecial 1, 3) := by decide +kernel
theorem d1_4 : decode prog_92_method_1_code 4 = .ok (.aload_n 0, 1) := by decide +kernel
theorem d1_5 : decode prog_92_method_1_code 5 = .ok (.lload_n 1, 1) := by decide +kernel
theorem d1_6 : decode prog_92_method_1_code 6 = .ok (.putfield 7, 3) := by decide +kernel
theorem d1_9 : decode prog_92_method_1_code 9 = .ok (.aload_n 0, 1) := by decide +kernel
theorem d1_10 : decode prog_92_method_1_code 10 = .ok (.aload_n 3, 1) := by decide +kernel
theorem d1_11 : decode prog_92_method_1_code 11 = .ok (.putfield 13, 3) := by decide +kernel
theorem d1_14 : decode prog_92_method_1_code 14 = .ok (.aload_n 0, 1) := by decide +kernel
theorem d1_15 : decode prog_92_method_1_code 15 = .ok (.aload 4, 2) := by decide +kernel
theorem d1_17 : decode prog_92_method_1_code 17 = .ok (.putfield 17, 3) := by decide +kernel
theorem d1_20 : decode prog_92_method_1_code 20 = .ok (.return_, 1) := by decide +kernel
theorem ef_1 (m : MethodId) (a0 : Addr) (q1 : Int64) (a2 : Addr) (a3 : Addr) : entryFrame m #[(.ref a0), (.long q1), (.ref a2), (.ref a3)] 5 = mkF m 0 #[.val (.ref a0), .val (.long q1), .second, .val (.ref a2), .val (.ref a3)] [] := by first | (simp [entryFrame, mkF, argsToLocals, Value.category]; done) | rfl
theorem pn_1 : plainName "com/example/columella/columella/ipc/Renumbering" = true := by first | (simp [plainName, overriddenIn]; done) | decide +kernel
def Q1 (Z : State) (a0 a2 a3 : Addr) (h0 : Heap) (n0 : Nat) (v : Option Value) (h : Heap) (L : List Loc) : Prop := v = none ∧ Fr n0 L ∧ Keep h0 h [a0] ∧ Exa Z h a0 "com/example/columella/columella/ipc/Renumbering" ∧ Fld Z h a0 "com/example/columella/columella/ipc/Renumbering" "entries" "[I" (.ref a2) ∧ Fld Z h a0 "com/example/columella/columella/ipc/Renumbering" "numbers" "[I" (.ref a3)
set_option maxRecDepth 65536 in
set_option maxHeartbeats 40000000 in
theorem rm1 (l : Launch) (Z : State) (t0 : Array Value) (hw : ∀ d ∈ tables_1, d.before t0 Z = true) (ws : List Jvm.Cond) (a0 : Addr) (q1 : Int64) (a2 : Addr) (a3 : Addr) (h0 : Heap) (n0 : Nat) (Z0 : n0 ≤ h0.size) (ga : n0 ≤ a0) (E_a0 : Exa Z h0 a0 "com/example/columella/columella/ipc/Renumbering") (F_id : Fld Z h0 a0 "com/example/columella/columella/ipc/Renumbering" "id" "J" (.long (0 : Int64))) (F_entries : Fld Z h0 a0 "com/example/columella/columella/ipc/Renumbering" "entries" "[I" .null) (F_numbers : Fld Z h0 a0 "com/example/columella/columella/ipc/Renumbering" "numbers" "[I" .null) :
    MetFree l (⟨"com/example/columella/columella/ipc/Renumbering", "<init>", "(J[I[I)V"⟩ : MethodName) (head1 (Jvm.Cond.code (⟨"com/example/columella/columella/ipc/Renumbering", "<init>", "(J[I[I)V"⟩ : MethodName) prog_92_method_1_code 5 none :: ws) ({ frames := 1, cells := 0, slots := 0, locals := 12 } : Room)) (fun a U => a = #[(.ref a0), (.long q1), (.ref a2), (.ref a3)] ∧ Z.Warmed39 U.vm ∧ U.heap = h0) (fun _ _ _ _ _ => True) (fun _ U o U' => ∃ v L, o = .returned v ∧ Q1 Z a0 a2 a3 h0 n0 v U'.heap L ∧ FrameEnd U o U' L ({ frames := 1, cells := 0, slots := 0, locals := 12 } : Room).cells ({ frames := 1, cells := 0, slots := 0, locals := 12 } : Room).slots) := by
  refine MetFree.of_bodySF (plainFor_of_name pn_1) hisR ?_
  intro p e s m args below meth c s₁ Bd hml0 hP hK
  obtain ⟨rfl, hZ, hh⟩ := hP
  have hx := Bd.exec
  have hby := Bd.bytes
  have hml : c.maxLocals = 5 := hml0
  have hown : s.vm.findClass "com/example/columella/columella/ipc/Renumbering" = some m.cls := findClass_of_methodNamed Bd.named
  have hnm := (name_of_methodNamed Bd.named Bd.method).1
  have X0 : Stand p l e ({ frames := 1, cells := 0, slots := 0, locals := 12 } : Room) s m #[(.ref a0), (.long q1), (.ref a2), (.ref a3)] below meth c s₁ [] 0 0 := Stand.of_body Bd
  have e0 : s₁.heap = h0 := by rw [← hh, Bd.state]; rfl
  have N0 := Fr.nil n0
  have pre0 : ∀ t, Steps p.tables e below (s₁.setTop (mkF m 0 #[.val (.ref a0), .val (.long q1), .second, .val (.ref a2), .val (.ref a3)] [])) t → Steps p.tables e below (s₁.setTop (entryFrame m #[(.ref a0), (.long q1), (.ref a2), (.ref a3)] 5)) t := fun t k => castTop (ef_1 m a0 q1 a2 a3) k
  have K0 : Keep h0 h0 [a0] := Keep.refl _ _
  refine own_go pre0 ?_
  refine own_go (B := s₁.setTop (mkF m 1 #[.val (.ref a0), .val (.long q1), .second, .val (.ref a2), .val (.ref a3)] [(.ref a0)])) (fun t kt => ?_) ?_
  · show Steps p.tables e below (s₁.setTop (mkF m 0 #[.val (.ref a0), .val (.long q1), .second, .val (.ref a2), .val (.ref a3)] [])) _
    refine XS.aloadN X0.here hx rfl (hb hby d1_0) rfl rfl ?_
    exact kt
  obtain ⟨T1, X1, e1, st1⟩ := initO X0 hx hZ hown (hw _ (List.mem_of_getElem? (i := 7) rfl)) (hw _ (List.mem_of_getElem? (i := 8) rfl)) (hw _ (List.mem_of_getElem? (i := 9) rfl)) e0 (g := (mkF m 1 #[.val (.ref a0), .val (.long q1), .second, .val (.ref a2), .val (.ref a3)] [(.ref a0)])) rfl (by rw [hml]; rfl) rfl (hb hby d1_1) (by decide) (W := 0) (by show 2 * 0 + _ ≤ _; exact Nat.le_of_eq rfl) (by decide)
  refine own_go (B := T1.setTop (mkF m 4 #[.val (.ref a0), .val (.long q1), .second, .val (.ref a2), .val (.ref a3)] [])) (fun t kt => st1 t kt) ?_
  refine own_go (B := T1.setTop (mkF m 6 #[.val (.ref a0), .val (.long q1), .second, .val (.ref a2), .val (.ref a3)] [(.long q1), (.ref a0)])) (fun t kt => ?_) ?_
  · show Steps p.tables e below (T1.setTop (mkF m 4 #[.val (.ref a0), .val (.long q1), .second, .val (.ref a2), .val (.ref a3)] [])) _
    refine XS.aloadN X1.here hx rfl (hb hby d1_4) rfl rfl ?_
    show Steps p.tables e below (T1.setTop (mkF m 5 #[.val (.ref a0), .val (.long q1), .second, .val (.ref a2), .val (.ref a3)] [(.ref a0)])) _
    refine XS.lloadN X1.here hx rfl (hb hby d1_5) rfl ?_
    exact kt
  obtain ⟨T2, h2, X2, e2, W2, st2⟩ := putF X1 hx hZ hown (host := "") (Or.inl (hw _ (List.mem_of_getElem? (i := 10) rfl))) Via.refl e1 F_id E_a0 (Or.inr ⟨(hw _ (List.mem_of_getElem? (i := 11) rfl)), rfl, hnm⟩) (hw _ (List.mem_of_getElem? (i := 2) rfl)) (ty := .long) (by decide) rfl rfl (g := (mkF m 6 #[.val (.ref a0), .val (.long q1), .second, .val (.ref a2), .val (.ref a3)] [(.long q1), (.ref a0)])) rfl rfl (hb hby d1_6)
  have F_id_a0_2 : Fld Z h2 a0 "com/example/columella/columella/ipc/Renumbering" "id" "J" (.long q1) := F_id.same W2
  have E_a0_2 := E_a0.wr W2
  have F_entries_a0_2 := F_entries.other W2 (Or.inr (slot_ne (Or.inr (hw _ (List.mem_of_getElem? (i := 13) rfl))) (Or.inr (hw _ (List.mem_of_getElem? (i := 11) rfl))) (by decide) (t := (.array .int)) (t' := .long) (by decide) (by decide)))
  have F_numbers_a0_2 := F_numbers.other W2 (Or.inr (slot_ne (Or.inr (hw _ (List.mem_of_getElem? (i := 15) rfl))) (Or.inr (hw _ (List.mem_of_getElem? (i := 11) rfl))) (by decide) (t := (.array .int)) (t' := .long) (by decide) (by decide)))
  have Z2 : n0 ≤ h2.size := Nat.le_trans Z0 (Keep.of_wr W2).1
  have K2 := K0.wr W2 (Or.inl (by simp))
  have N2 := Fr.snoc X2 N0 ga
  refine own_go (B := T2.setTop (mkF m 9 #[.val (.ref a0), .val (.long q1), .second, .val (.ref a2), .val (.ref a3)] [])) (fun t kt => st2 t kt) ?_
  refine own_go (B := T2.setTop (mkF m 11 #[.val (.ref a0), .val (.long q1), .second, .val (.ref a2), .val (.ref a3)] [(.ref a2), (.ref a0)])) (fun t kt => ?_) ?_
  · show Steps p.tables e below (T2.setTop (mkF m 9 #[.val (.ref a0), .val (.long q1), .second, .val (.ref a2), .val (.ref a3)] [])) _
    refine XS.aloadN X2.here hx rfl (hb hby d1_9) rfl rfl ?_
    show Steps p.tables e below (T2.setTop (mkF m 10 #[.val (.ref a0), .val (.long q1), .second, .val (.ref a2), .val (.ref a3)] [(.ref a0)])) _
    refine XS.aloadN X2.here hx rfl (hb hby d1_10) rfl rfl ?_
    exact kt
  obtain ⟨T3, h3, X3, e3, W3, st3⟩ := putF X2 hx hZ hown (host := "") (Or.inl (hw _ (List.mem_of_getElem? (i := 12) rfl))) Via.refl e2 F_entries_a0_2 E_a0_2 (Or.inr ⟨(hw _ (List.mem_of_getElem? (i := 13) rfl)), rfl, hnm⟩) (hw _ (List.mem_of_getElem? (i := 2) rfl)) (ty := (.array .int)) (by decide) rfl rfl (g := (mkF m 11 #[.val (.ref a0), .val (.long q1), .second, .val (.ref a2), .val (.ref a3)] [(.ref a2), (.ref a0)])) rfl rfl (hb hby d1_11)
  have F_entries_a0_3 : Fld Z h3 a0 "com/example/columella/columella/ipc/Renumbering" "entries" "[I" (.ref a2) := F_entries_a0_2.same W3
  have E_a0_3 := E_a0_2.wr W3
  have F_id_a0_3 := F_id_a0_2.other W3 (Or.inr (slot_ne (Or.inr (hw _ (List.mem_of_getElem? (i := 11) rfl))) (Or.inr (hw _ (List.mem_of_getElem? (i := 13) rfl))) (by decide) (t := .long) (t' := (.array .int)) (by decide) (by decide)))
  have F_numbers_a0_3 := F_numbers_a0_2.other W3 (Or.inr (slot_ne (Or.inr (hw _ (List.mem_of_getElem? (i := 15) rfl))) (Or.inr (hw _ (List.mem_of_getElem? (i := 13) rfl))) (by decide) (t := (.array .int)) (t' := (.array .int)) (by decide) (by decide)))
  have Z3 : n0 ≤ h3.size := Nat.le_trans Z2 (Keep.of_wr W3).1
  have K3 := K2.wr W3 (Or.inl (by simp))
  have N3 := Fr.snoc X3 N2 ga
  refine own_go (B := T3.setTop (mkF m 14 #[.val (.ref a0), .val (.long q1), .second, .val (.ref a2), .val (.ref a3)] [])) (fun t kt => st3 t kt) ?_
  refine own_go (B := T3.setTop (mkF m 17 #[.val (.ref a0), .val (.long q1), .second, .val (.ref a2), .val (.ref a3)] [(.ref a3), (.ref a0)])) (fun t kt => ?_) ?_
  · show Steps p.tables e below (T3.setTop (mkF m 14 #[.val (.ref a0), .val (.long q1), .second, .val (.ref a2), .val (.ref a3)] [])) _
    refine XS.aloadN X3.here hx rfl (hb hby d1_14) rfl rfl ?_
    show Steps p.tables e below (T3.setTop (mkF m 15 #[.val (.ref a0), .val (.long q1), .second, .val (.ref a2), .val (.ref a3)] [(.ref a0)])) _
    refine XS.aload X3.here hx rfl (hb hby d1_15) rfl rfl ?_
    exact kt
  obtain ⟨T4, h4, X4, e4, W4, st4⟩ := putF X3 hx hZ hown (host := "") (Or.inl (hw _ (List.mem_of_getElem? (i := 14) rfl))) Via.refl e3 F_numbers_a0_3 E_a0_3 (Or.inr ⟨(hw _ (List.mem_of_getElem? (i := 15) rfl)), rfl, hnm⟩) (hw _ (List.mem_of_getElem? (i := 2) rfl)) (ty := (.array .int)) (by decide) rfl rfl (g := (mkF m 17 #[.val (.ref a0), .val (.long q1), .second, .val (.ref a2), .val (.ref a3)] [(.ref a3), (.ref a0)])) rfl rfl (hb hby d1_17)
  have F_numbers_a0_4 : Fld Z h4 a0 "com/example/columella/columella/ipc/Renumbering" "numbers" "[I" (.ref a3) := F_numbers_a0_3.same W4
  have E_a0_4 := E_a0_3.wr W4
  have F_id_a0_4 := F_id_a0_3.other W4 (Or.inr (slot_ne (Or.inr (hw _ (List.mem_of_getElem? (i := 11) rfl))) (Or.inr (hw _ (List.mem_of_getElem? (i := 15) rfl))) (by decide) (t := .long) (t' := (.array .int)) (by decide) (by decide)))
  have F_entries_a0_4 := F_entries_a0_3.other W4 (Or.inr (slot_ne (Or.inr (hw _ (List.mem_of_getElem? (i := 13) rfl))) (Or.inr (hw _ (List.mem_of_getElem? (i := 15) rfl))) (by decide) (t := (.array .int)) (t' := (.array .int)) (by decide) (by decide)))
  have Z4 : n0 ≤ h4.size := Nat.le_trans Z3 (Keep.of_wr W4).1
  have K4 := K3.wr W4 (Or.inl (by simp))
  have N4 := Fr.snoc X4 N3 ga
  refine own_go (B := T4.setTop (mkF m 20 #[.val (.ref a0), .val (.long q1), .second, .val (.ref a2), .val (.ref a3)] [])) (fun t kt => st4 t kt) ?_
  obtain ⟨fs, hr, hrun, hended, hW, hsame⟩ := X4.leave (v := none) (fun _ => rfl)
  refine ⟨_, _, ?_, hrun, hended, _, _, rfl, ?_, ⟨_, rfl⟩, hW, hsame.mono (by decide) (by decide)⟩
  · show Steps p.tables e below (T4.setTop (mkF m 20 #[.val (.ref a0), .val (.long q1), .second, .val (.ref a2), .val (.ref a3)] [])) _
    exact X4.returnOut hx Bd.returns (hb hby d1_20) hr
  · show Q1 Z a0 a2 a3 h0 n0 _ T4.heap _
    rw [e4]
    exact ⟨rfl, N4, K4, E_a0_4, F_entries_a0_4, F_numbers_a0_4⟩
theorem d3_0 : decode prog_92_method_4_code 0 = .ok (.iconst 0, 1) := by decide +kernel
theorem d3_1 : decode prog_92_method_4_code 1 = .ok (.istore_n 1, 1) := by decide +kernel
theorem d3_2 : decode prog_92_method_4_code 2 = .ok (.iload_n 1, 1) := by decide +kernel
theorem d3_3 : decode prog_92_method_4_code 3 = .ok (.aload_n 0, 1) := by decide +kernel
theorem d3_4 : decode prog_92_method_4_code 4 = .ok (.getfield 13, 3) := by decide +kernel
theorem d3_7 : decode prog_92_method_4_code 7 = .ok (.arraylength, 1) := by decide +kernel
theorem d3_8 : decode prog_92_method_4_code 8 = .ok (.if_icmp .ge 26, 3) := by decide +kernel
theorem d3_11 : decode prog_92_method_4_code 11 = .ok (.aload_n 0, 1) := by decide +kernel
theorem d3_12 : decode prog_92_method_4_code 12 = .ok (.getfield 13, 3) := by decide +kernel
theorem d3_15 : decode prog_92_method_4_code 15 = .ok (.iload_n 1, 1) := by decide +kernel
theorem d3_16 : decode prog_92_method_4_code 16 = .ok (.iaload, 1) := by decide +kernel
theorem d3_17 : decode prog_92_method_4_code 17 = .ok (.aload_n 0, 1) := by decide +kernel
theorem d3_18 : decode prog_92_method_4_code 18 = .ok (.getfield 17, 3) := by decide +kernel
theorem d3_21 : decode prog_92_method_4_code 21 = .ok (.iload_n 1, 1) := by decide +kernel
theorem d3_22 : decode prog_92_method_4_code 22 = .ok (.iaload, 1) := by decide +kernel
theorem d3_23 : decode prog_92_method_4_code 23 = .ok (.if_icmp .eq 5, 3) := by decide +kernel
theorem d3_26 : decode prog_92_method_4_code 26 = .ok (.iconst 0, 1) := by decide +kernel
theorem d3_27 : decode prog_92_method_4_code 27 = .ok (.ireturn, 1) := by decide +kernel
theorem d3_28 : decode prog_92_method_4_code 28 = .ok (.iinc 1 1, 3) := by decide +kernel
theorem d3_31 : decode prog_92_method_4_code 31 = .ok (.goto (-29), 3) := by decide +kernel
theorem d3_34 : decode prog_92_method_4_code 34 = .ok (.iconst 1, 1) := by decide +kernel
theorem d3_35 : decode prog_92_method_4_code 35 = .ok (.ireturn, 1) := by decide +kernel
theorem ef_3 (m : MethodId) (a0 : Addr) : entryFrame m #[(.ref a0)] 2 = mkF m 0 #[.val (.ref a0), .unset] [] := by first | (simp [entryFrame, mkF, argsToLocals, Value.category]; done) | rfl
theorem pn_3 : plainName "com/example/columella/columella/ipc/Renumbering" = true := by first | (simp [plainName, overriddenIn]; done) | decide +kernel
def Q3 (z : Int32) (h0 : Heap) (n0 : Nat) (v : Option Value) (h : Heap) (L : List Loc) : Prop := v = some (.int z) ∧ Fr n0 L ∧ h = h0
set_option maxRecDepth 65536 in
set_option maxHeartbeats 40000000 in
theorem rm3_0 (l : Launch) (Z : State) (t0 : Array Value) (hw : ∀ d ∈ tables_1, d.before t0 Z = true) (ws : List Jvm.Cond) (a0 : Addr) (ae : Addr) (af : Addr) (ke : ClassId) (kf : ClassId)  (h0 : Heap) (n0 : Nat) (Z0 : n0 ≤ h0.size) (Fe : Fld Z h0 a0 "com/example/columella/columella/ipc/Renumbering" "entries" "[I" (.ref ae)) (Fn : Fld Z h0 a0 "com/example/columella/columella/ipc/Renumbering" "numbers" "[I" (.ref af)) (Ve : Arv Z h0 ae ke .int (0 : Int32) [] (.int (0 : Int32))) (Vf : Arv Z h0 af kf .int (0 : Int32) [] (.int (0 : Int32))) :
    MetFree l (⟨"com/example/columella/columella/ipc/Renumbering", "keepsEveryNumber", "()Z"⟩ : MethodName) (head1 (Jvm.Cond.code (⟨"com/example/columella/columella/ipc/Renumbering", "keepsEveryNumber", "()Z"⟩ : MethodName) prog_92_method_4_code 2 (some .boolean) :: ws) ({ frames := 0, cells := 0, slots := 0, locals := 0 } : Room)) (fun a U => a = #[(.ref a0)] ∧ Z.Warmed39 U.vm ∧ U.heap = h0) (fun _ _ _ _ _ => True) (fun _ U o U' => ∃ v L, o = .returned v ∧ Q3 (1 : Int32) h0 n0 v U'.heap L ∧ FrameEnd U o U' L ({ frames := 0, cells := 0, slots := 0, locals := 0 } : Room).cells ({ frames := 0, cells := 0, slots := 0, locals := 0 } : Room).slots) := by
  refine MetFree.of_bodySF (plainFor_of_name pn_3) hisR ?_
  intro p e s m args below meth c s₁ Bd hml0 hP hK
  obtain ⟨rfl, hZ, hh⟩ := hP
  have hx := Bd.exec
  have hby := Bd.bytes
  have hml : c.maxLocals = 2 := hml0
  have hown : s.vm.findClass "com/example/columella/columella/ipc/Renumbering" = some m.cls := findClass_of_methodNamed Bd.named
  have hnm := (name_of_methodNamed Bd.named Bd.method).1
  have X0 : Stand p l e ({ frames := 0, cells := 0, slots := 0, locals := 0 } : Room) s m #[(.ref a0)] below meth c s₁ [] 0 0 := Stand.of_body Bd
  have e0 : s₁.heap = h0 := by rw [← hh, Bd.state]; rfl
  have N0 := Fr.nil n0
  have pre0 : ∀ t, Steps p.tables e below (s₁.setTop (mkF m 0 #[.val (.ref a0), .unset] [])) t → Steps p.tables e below (s₁.setTop (entryFrame m #[(.ref a0)] 2)) t := fun t k => castTop (ef_3 m a0) k
  refine own_go pre0 ?_
  obtain ⟨cle, Are, qe, Se, Me, He, Ge⟩ := Ve
  obtain ⟨clf, Arf, qf, Sf, Mf, Hf, Gf⟩ := Vf
  refine own_go (B := s₁.setTop (mkF m 2 #[.val (.ref a0), .val (.int (0 : Int32))] [])) (fun t kt => ?_) ?_
  · show Steps p.tables e below (s₁.setTop (mkF m 0 #[.val (.ref a0), .unset] [])) _
    refine XS.iconst X0.here hx rfl (hb hby d3_0) ?_
    show Steps p.tables e below (s₁.setTop (mkF m 1 #[.val (.ref a0), .unset] [(.int (0 : Int32))])) _
    refine XS.istoreN X0.here hx rfl (hb hby d3_1) rfl (l' := #[.val (.ref a0), .val (.int (0 : Int32))]) rfl ?_
    exact kt
  refine own_go (B := s₁.setTop (mkF m 4 #[.val (.ref a0), .val (.int (0 : Int32))] [(.ref a0), (.int (0 : Int32))])) (fun t kt => ?_) ?_
  · show Steps p.tables e below (s₁.setTop (mkF m 2 #[.val (.ref a0), .val (.int (0 : Int32))] [])) _
    refine XS.iloadN X0.here hx rfl (hb hby d3_2) rfl ?_
    show Steps p.tables e below (s₁.setTop (mkF m 3 #[.val (.ref a0), .val (.int (0 : Int32))] [(.int (0 : Int32))])) _
    refine XS.aloadN X0.here hx rfl (hb hby d3_3) rfl rfl ?_
    exact kt
  obtain ⟨T1, X1, e1, st1⟩ := getF X0 hx hZ hown (host := "") (Or.inl (hw _ (List.mem_of_getElem? (i := 12) rfl))) Via.refl e0 Fe (g := (mkF m 4 #[.val (.ref a0), .val (.int (0 : Int32))] [(.ref a0), (.int (0 : Int32))])) rfl rfl (hb hby d3_4)
  refine own_go (B := T1.setTop (mkF m 7 #[.val (.ref a0), .val (.int (0 : Int32))] [(.ref ae), (.int (0 : Int32))])) (fun t kt => st1 t kt) ?_
  refine own_go (B := T1.setTop (mkF m 35 #[.val (.ref a0), .val (.int (0 : Int32))] [(.int (1 : Int32))])) (fun t kt => ?_) ?_
  · show Steps p.tables e below (T1.setTop (mkF m 7 #[.val (.ref a0), .val (.int (0 : Int32))] [(.ref ae), (.int (0 : Int32))])) _
    refine X1.arraylength hx (by rw [e1]; exact Are.1) (State.isArrayOf_alike hZ.alike Are.2.1) (g := (mkF m 7 #[.val (.ref a0), .val (.int (0 : Int32))] [(.ref ae), (.int (0 : Int32))])) rfl rfl (hb hby d3_7) _ ?_
    rw [len_of Se Me]
    show Steps p.tables e below (T1.setTop (mkF m 8 #[.val (.ref a0), .val (.int (0 : Int32))] [(.int (0 : Int32)), (.int (0 : Int32))])) _
    refine XS.icmpYes X1.here hx rfl (pc0 := 8) (pc' := 34) rfl (hb hby d3_8) rfl (flt (by decide)).2.1 (by decide) (by decide) ?_
    show Steps p.tables e below (T1.setTop (mkF m 34 #[.val (.ref a0), .val (.int (0 : Int32))] [])) _
    refine XS.iconst X1.here hx rfl (hb hby d3_34) ?_
    exact kt
  obtain ⟨fs, hr, hrun, hended, hW, hsame⟩ := X1.leave (v := some (.int (1 : Int32))) (fun h => by rw [Bd.returns] at h; cases h)
  refine ⟨_, _, ?_, hrun, hended, _, _, rfl, ?_, ⟨_, rfl⟩, hW, hsame.mono (by decide) (by decide)⟩
  · show Steps p.tables e below (T1.setTop (mkF m 35 #[.val (.ref a0), .val (.int (0 : Int32))] [(.int (1 : Int32))])) _
    exact retN X1 hx (t := .boolean) Bd.returns (by simp) (hb hby d3_35) hr
  · show Q3 (1 : Int32) h0 n0 _ T1.heap _
    rw [e1]
    exact ⟨rfl, N0, rfl⟩
set_option maxRecDepth 65536 in
set_option maxHeartbeats 40000000 in
theorem rm3_1 (l : Launch) (Z : State) (t0 : Array Value) (hw : ∀ d ∈ tables_1, d.before t0 Z = true) (ws : List Jvm.Cond) (a0 : Addr) (ae : Addr) (af : Addr) (ke : ClassId) (kf : ClassId) (e200 : Int32) (f200 : Int32) (h0 : Heap) (n0 : Nat) (Z0 : n0 ≤ h0.size) (Fe : Fld Z h0 a0 "com/example/columella/columella/ipc/Renumbering" "entries" "[I" (.ref ae)) (Fn : Fld Z h0 a0 "com/example/columella/columella/ipc/Renumbering" "numbers" "[I" (.ref af)) (Ve : Arv Z h0 ae ke .int (1 : Int32) [(.int e200)] (.int (0 : Int32))) (Vf : Arv Z h0 af kf .int (1 : Int32) [(.int f200)] (.int (0 : Int32))) :
    MetFree l (⟨"com/example/columella/columella/ipc/Renumbering", "keepsEveryNumber", "()Z"⟩ : MethodName) (head1 (Jvm.Cond.code (⟨"com/example/columella/columella/ipc/Renumbering", "keepsEveryNumber", "()Z"⟩ : MethodName) prog_92_method_4_code 2 (some .boolean) :: ws) ({ frames := 0, cells := 0, slots := 0, locals := 0 } : Room)) (fun a U => a = #[(.ref a0)] ∧ Z.Warmed39 U.vm ∧ U.heap = h0) (fun _ _ _ _ _ => True) (fun _ U o U' => ∃ v L, o = .returned v ∧ Q3 (if e200 = f200 then (1 : Int32) else (0 : Int32)) h0 n0 v U'.heap L ∧ FrameEnd U o U' L ({ frames := 0, cells := 0, slots := 0, locals := 0 } : Room).cells ({ frames := 0, cells := 0, slots := 0, locals := 0 } : Room).slots) := by
  refine MetFree.of_bodySF (plainFor_of_name pn_3) hisR ?_
  intro p e s m args below meth c s₁ Bd hml0 hP hK
  obtain ⟨rfl, hZ, hh⟩ := hP
  have hx := Bd.exec
  have hby := Bd.bytes
  have hml : c.maxLocals = 2 := hml0
  have hown : s.vm.findClass "com/example/columella/columella/ipc/Renumbering" = some m.cls := findClass_of_methodNamed Bd.named
  have hnm := (name_of_methodNamed Bd.named Bd.method).1
  have X0 : Stand p l e ({ frames := 0, cells := 0, slots := 0, locals := 0 } : Room) s m #[(.ref a0)] below meth c s₁ [] 0 0 := Stand.of_body Bd
  have e0 : s₁.heap = h0 := by rw [← hh, Bd.state]; rfl
  have N0 := Fr.nil n0
  have pre0 : ∀ t, Steps p.tables e below (s₁.setTop (mkF m 0 #[.val (.ref a0), .unset] [])) t → Steps p.tables e below (s₁.setTop (entryFrame m #[(.ref a0)] 2)) t := fun t k => castTop (ef_3 m a0) k
  refine own_go pre0 ?_
  obtain ⟨cle, Are, qe, Se, Me, He, Ge⟩ := Ve
  obtain ⟨clf, Arf, qf, Sf, Mf, Hf, Gf⟩ := Vf
  refine own_go (B := s₁.setTop (mkF m 2 #[.val (.ref a0), .val (.int (0 : Int32))] [])) (fun t kt => ?_) ?_
  · show Steps p.tables e below (s₁.setTop (mkF m 0 #[.val (.ref a0), .unset] [])) _
    refine XS.iconst X0.here hx rfl (hb hby d3_0) ?_
    show Steps p.tables e below (s₁.setTop (mkF m 1 #[.val (.ref a0), .unset] [(.int (0 : Int32))])) _
    refine XS.istoreN X0.here hx rfl (hb hby d3_1) rfl (l' := #[.val (.ref a0), .val (.int (0 : Int32))]) rfl ?_
    exact kt
  refine own_go (B := s₁.setTop (mkF m 4 #[.val (.ref a0), .val (.int (0 : Int32))] [(.ref a0), (.int (0 : Int32))])) (fun t kt => ?_) ?_
  · show Steps p.tables e below (s₁.setTop (mkF m 2 #[.val (.ref a0), .val (.int (0 : Int32))] [])) _
    refine XS.iloadN X0.here hx rfl (hb hby d3_2) rfl ?_
    show Steps p.tables e below (s₁.setTop (mkF m 3 #[.val (.ref a0), .val (.int (0 : Int32))] [(.int (0 : Int32))])) _
    refine XS.aloadN X0.here hx rfl (hb hby d3_3) rfl rfl ?_
    exact kt
  obtain ⟨T1, X1, e1, st1⟩ := getF X0 hx hZ hown (host := "") (Or.inl (hw _ (List.mem_of_getElem? (i := 12) rfl))) Via.refl e0 Fe (g := (mkF m 4 #[.val (.ref a0), .val (.int (0 : Int32))] [(.ref a0), (.int (0 : Int32))])) rfl rfl (hb hby d3_4)
  refine own_go (B := T1.setTop (mkF m 7 #[.val (.ref a0), .val (.int (0 : Int32))] [(.ref ae), (.int (0 : Int32))])) (fun t kt => st1 t kt) ?_
  refine own_go (B := T1.setTop (mkF m 12 #[.val (.ref a0), .val (.int (0 : Int32))] [(.ref a0)])) (fun t kt => ?_) ?_
  · show Steps p.tables e below (T1.setTop (mkF m 7 #[.val (.ref a0), .val (.int (0 : Int32))] [(.ref ae), (.int (0 : Int32))])) _
    refine X1.arraylength hx (by rw [e1]; exact Are.1) (State.isArrayOf_alike hZ.alike Are.2.1) (g := (mkF m 7 #[.val (.ref a0), .val (.int (0 : Int32))] [(.ref ae), (.int (0 : Int32))])) rfl rfl (hb hby d3_7) _ ?_
    rw [len_of Se Me]
    show Steps p.tables e below (T1.setTop (mkF m 8 #[.val (.ref a0), .val (.int (0 : Int32))] [(.int (1 : Int32)), (.int (0 : Int32))])) _
    refine XS.icmpNo X1.here hx rfl (hb hby d3_8) rfl (tlt (by decide)).2.1 ?_
    show Steps p.tables e below (T1.setTop (mkF m 11 #[.val (.ref a0), .val (.int (0 : Int32))] [])) _
    refine XS.aloadN X1.here hx rfl (hb hby d3_11) rfl rfl ?_
    exact kt
  obtain ⟨T2, X2, e2, st2⟩ := getF X1 hx hZ hown (host := "") (Or.inl (hw _ (List.mem_of_getElem? (i := 12) rfl))) Via.refl e1 Fe (g := (mkF m 12 #[.val (.ref a0), .val (.int (0 : Int32))] [(.ref a0)])) rfl rfl (hb hby d3_12)
  refine own_go (B := T2.setTop (mkF m 15 #[.val (.ref a0), .val (.int (0 : Int32))] [(.ref ae)])) (fun t kt => st2 t kt) ?_
  refine own_go (B := T2.setTop (mkF m 18 #[.val (.ref a0), .val (.int (0 : Int32))] [(.ref a0), (.int e200)])) (fun t kt => ?_) ?_
  · show Steps p.tables e below (T2.setTop (mkF m 15 #[.val (.ref a0), .val (.int (0 : Int32))] [(.ref ae)])) _
    refine XS.iloadN X2.here hx rfl (hb hby d3_15) rfl ?_
    show Steps p.tables e below (T2.setTop (mkF m 16 #[.val (.ref a0), .val (.int (0 : Int32))] [(.int (0 : Int32)), (.ref ae)])) _
    refine X2.iaload hx (j := (0 : Int32)) (v := (.int e200)) (by rw [e2]; exact Are.1) (State.isArrayOf_alike hZ.alike Are.2.1) Are.2.2 (inb_of Se ⟨by decide, by decide⟩) (Has.at He (inb_of Se ⟨by decide, by decide⟩) rfl) (g := (mkF m 16 #[.val (.ref a0), .val (.int (0 : Int32))] [(.int (0 : Int32)), (.ref ae)])) rfl rfl (hb hby d3_16) _ ?_
    show Steps p.tables e below (T2.setTop (mkF m 17 #[.val (.ref a0), .val (.int (0 : Int32))] [(.int e200)])) _
    refine XS.aloadN X2.here hx rfl (hb hby d3_17) rfl rfl ?_
    exact kt
  obtain ⟨T3, X3, e3, st3⟩ := getF X2 hx hZ hown (host := "") (Or.inl (hw _ (List.mem_of_getElem? (i := 14) rfl))) Via.refl e2 Fn (g := (mkF m 18 #[.val (.ref a0), .val (.int (0 : Int32))] [(.ref a0), (.int e200)])) rfl rfl (hb hby d3_18)
  refine own_go (B := T3.setTop (mkF m 21 #[.val (.ref a0), .val (.int (0 : Int32))] [(.ref af), (.int e200)])) (fun t kt => st3 t kt) ?_
  refine own_go (B := T3.setTop (mkF m 23 #[.val (.ref a0), .val (.int (0 : Int32))] [(.int f200), (.int e200)])) (fun t kt => ?_) ?_
  · show Steps p.tables e below (T3.setTop (mkF m 21 #[.val (.ref a0), .val (.int (0 : Int32))] [(.ref af), (.int e200)])) _
    refine XS.iloadN X3.here hx rfl (hb hby d3_21) rfl ?_
    show Steps p.tables e below (T3.setTop (mkF m 22 #[.val (.ref a0), .val (.int (0 : Int32))] [(.int (0 : Int32)), (.ref af), (.int e200)])) _
    refine X3.iaload hx (j := (0 : Int32)) (v := (.int f200)) (by rw [e3]; exact Arf.1) (State.isArrayOf_alike hZ.alike Arf.2.1) Arf.2.2 (inb_of Sf ⟨by decide, by decide⟩) (Has.at Hf (inb_of Sf ⟨by decide, by decide⟩) rfl) (g := (mkF m 22 #[.val (.ref a0), .val (.int (0 : Int32))] [(.int (0 : Int32)), (.ref af), (.int e200)])) rfl rfl (hb hby d3_22) _ ?_
    exact kt
  by_cases hq0 : e200 = f200
  · refine own_go (B := T3.setTop (mkF m 2 #[.val (.ref a0), .val (.int (1 : Int32))] [])) (fun t kt => ?_) ?_
    · show Steps p.tables e below (T3.setTop (mkF m 23 #[.val (.ref a0), .val (.int (0 : Int32))] [(.int f200), (.int e200)])) _
      refine XS.icmpYes X3.here hx rfl (pc0 := 23) (pc' := 28) rfl (hb hby d3_23) rfl (teq hq0).1 (by decide) (by decide) ?_
      show Steps p.tables e below (T3.setTop (mkF m 28 #[.val (.ref a0), .val (.int (0 : Int32))] [])) _
      refine XS.iinc X3.here hx rfl (hb hby d3_28) rfl (l' := #[.val (.ref a0), .val (.int (1 : Int32))]) rfl ?_
      show Steps p.tables e below (T3.setTop (mkF m 31 #[.val (.ref a0), .val (.int (1 : Int32))] [])) _
      refine XS.goto X3.here hx rfl (pc0 := 31) (pc' := 2) rfl (hb hby d3_31) (by decide) (by decide) ?_
      exact kt
    refine own_go (B := T3.setTop (mkF m 4 #[.val (.ref a0), .val (.int (1 : Int32))] [(.ref a0), (.int (1 : Int32))])) (fun t kt => ?_) ?_
    · show Steps p.tables e below (T3.setTop (mkF m 2 #[.val (.ref a0), .val (.int (1 : Int32))] [])) _
      refine XS.iloadN X3.here hx rfl (hb hby d3_2) rfl ?_
      show Steps p.tables e below (T3.setTop (mkF m 3 #[.val (.ref a0), .val (.int (1 : Int32))] [(.int (1 : Int32))])) _
      refine XS.aloadN X3.here hx rfl (hb hby d3_3) rfl rfl ?_
      exact kt
    obtain ⟨T4, X4, e4, st4⟩ := getF X3 hx hZ hown (host := "") (Or.inl (hw _ (List.mem_of_getElem? (i := 12) rfl))) Via.refl e3 Fe (g := (mkF m 4 #[.val (.ref a0), .val (.int (1 : Int32))] [(.ref a0), (.int (1 : Int32))])) rfl rfl (hb hby d3_4)
    refine own_go (B := T4.setTop (mkF m 7 #[.val (.ref a0), .val (.int (1 : Int32))] [(.ref ae), (.int (1 : Int32))])) (fun t kt => st4 t kt) ?_
    refine own_go (B := T4.setTop (mkF m 35 #[.val (.ref a0), .val (.int (1 : Int32))] [(.int (1 : Int32))])) (fun t kt => ?_) ?_
    · show Steps p.tables e below (T4.setTop (mkF m 7 #[.val (.ref a0), .val (.int (1 : Int32))] [(.ref ae), (.int (1 : Int32))])) _
      refine X4.arraylength hx (by rw [e4]; exact Are.1) (State.isArrayOf_alike hZ.alike Are.2.1) (g := (mkF m 7 #[.val (.ref a0), .val (.int (1 : Int32))] [(.ref ae), (.int (1 : Int32))])) rfl rfl (hb hby d3_7) _ ?_
      rw [len_of Se Me]
      show Steps p.tables e below (T4.setTop (mkF m 8 #[.val (.ref a0), .val (.int (1 : Int32))] [(.int (1 : Int32)), (.int (1 : Int32))])) _
      refine XS.icmpYes X4.here hx rfl (pc0 := 8) (pc' := 34) rfl (hb hby d3_8) rfl (flt (by decide)).2.1 (by decide) (by decide) ?_
      show Steps p.tables e below (T4.setTop (mkF m 34 #[.val (.ref a0), .val (.int (1 : Int32))] [])) _
      refine XS.iconst X4.here hx rfl (hb hby d3_34) ?_
      exact kt
    obtain ⟨fs, hr, hrun, hended, hW, hsame⟩ := X4.leave (v := some (.int (1 : Int32))) (fun h => by rw [Bd.returns] at h; cases h)
    refine ⟨_, _, ?_, hrun, hended, _, _, rfl, ?_, ⟨_, rfl⟩, hW, hsame.mono (by decide) (by decide)⟩
    · show Steps p.tables e below (T4.setTop (mkF m 35 #[.val (.ref a0), .val (.int (1 : Int32))] [(.int (1 : Int32))])) _
      exact retN X4 hx (t := .boolean) Bd.returns (by simp) (hb hby d3_35) hr
    · show Q3 (if e200 = f200 then (1 : Int32) else (0 : Int32)) h0 n0 _ T4.heap _
      rw [e4]
      exact ⟨by rw [if_pos hq0], N0, rfl⟩
  · refine own_go (B := T3.setTop (mkF m 27 #[.val (.ref a0), .val (.int (0 : Int32))] [(.int (0 : Int32))])) (fun t kt => ?_) ?_
    · show Steps p.tables e below (T3.setTop (mkF m 23 #[.val (.ref a0), .val (.int (0 : Int32))] [(.int f200), (.int e200)])) _
      refine XS.icmpNo X3.here hx rfl (hb hby d3_23) rfl (feq hq0).1 ?_
      show Steps p.tables e below (T3.setTop (mkF m 26 #[.val (.ref a0), .val (.int (0 : Int32))] [])) _
      refine XS.iconst X3.here hx rfl (hb hby d3_26) ?_
      exact kt
    obtain ⟨fs, hr, hrun, hended, hW, hsame⟩ := X3.leave (v := some (.int (0 : Int32))) (fun h => by rw [Bd.returns] at h; cases h)
    refine ⟨_, _, ?_, hrun, hended, _, _, rfl, ?_, ⟨_, rfl⟩, hW, hsame.mono (by decide) (by decide)⟩
    · show Steps p.tables e below (T3.setTop (mkF m 27 #[.val (.ref a0), .val (.int (0 : Int32))] [(.int (0 : Int32))])) _
      exact retN X3 hx (t := .boolean) Bd.returns (by simp) (hb hby d3_27) hr
    · show Q3 (if e200 = f200 then (1 : Int32) else (0 : Int32)) h0 n0 _ T3.heap _
      rw [e3]
      exact ⟨by rw [if_neg hq0], N0, rfl⟩
set_option maxRecDepth 65536 in
set_option maxHeartbeats 40000000 in
theorem rm3_2 (l : Launch) (Z : State) (t0 : Array Value) (hw : ∀ d ∈ tables_1, d.before t0 Z = true) (ws : List Jvm.Cond) (a0 : Addr) (ae : Addr) (af : Addr) (ke : ClassId) (kf : ClassId) (e200 : Int32) (e201 : Int32) (f200 : Int32) (f201 : Int32) (h0 : Heap) (n0 : Nat) (Z0 : n0 ≤ h0.size) (Fe : Fld Z h0 a0 "com/example/columella/columella/ipc/Renumbering" "entries" "[I" (.ref ae)) (Fn : Fld Z h0 a0 "com/example/columella/columella/ipc/Renumbering" "numbers" "[I" (.ref af)) (Ve : Arv Z h0 ae ke .int (2 : Int32) [(.int e200), (.int e201)] (.int (0 : Int32))) (Vf : Arv Z h0 af kf .int (2 : Int32) [(.int f200), (.int f201)] (.int (0 : Int32))) :
    MetFree l (⟨"com/example/columella/columella/ipc/Renumbering", "keepsEveryNumber", "()Z"⟩ : MethodName) (head1 (Jvm.Cond.code (⟨"com/example/columella/columella/ipc/Renumbering", "keepsEveryNumber", "()Z"⟩ : MethodName) prog_92_method_4_code 2 (some .boolean) :: ws) ({ frames := 0, cells := 0, slots := 0, locals := 0 } : Room)) (fun a U => a = #[(.ref a0)] ∧ Z.Warmed39 U.vm ∧ U.heap = h0) (fun _ _ _ _ _ => True) (fun _ U o U' => ∃ v L, o = .returned v ∧ Q3 (if e200 = f200 then (if e201 = f201 then (1 : Int32) else (0 : Int32)) else (0 : Int32)) h0 n0 v U'.heap L ∧ FrameEnd U o U' L ({ frames := 0, cells := 0, slots := 0, locals := 0 } : Room).cells ({ frames := 0, cells := 0, slots := 0, locals := 0 } : Room).slots) := by
  refine MetFree.of_bodySF (plainFor_of_name pn_3) hisR ?_
  intro p e s m args below meth c s₁ Bd hml0 hP hK
  obtain ⟨rfl, hZ, hh⟩ := hP
  have hx := Bd.exec
  have hby := Bd.bytes
  have hml : c.maxLocals = 2 := hml0
  have hown : s.vm.findClass "com/example/columella/columella/ipc/Renumbering" = some m.cls := findClass_of_methodNamed Bd.named
  have hnm := (name_of_methodNamed Bd.named Bd.method).1
  have X0 : Stand p l e ({ frames := 0, cells := 0, slots := 0, locals := 0 } : Room) s m #[(.ref a0)] below meth c s₁ [] 0 0 := Stand.of_body Bd
  have e0 : s₁.heap = h0 := by rw [← hh, Bd.state]; rfl
  have N0 := Fr.nil n0
  have pre0 : ∀ t, Steps p.tables e below (s₁.setTop (mkF m 0 #[.val (.ref a0), .unset] [])) t → Steps p.tables e below (s₁.setTop (entryFrame m #[(.ref a0)] 2)) t := fun t k => castTop (ef_3 m a0) k
  refine own_go pre0 ?_
  obtain ⟨cle, Are, qe, Se, Me, He, Ge⟩ := Ve
  obtain ⟨clf, Arf, qf, Sf, Mf, Hf, Gf⟩ := Vf
  refine own_go (B := s₁.setTop (mkF m 2 #[.val (.ref a0), .val (.int (0 : Int32))] [])) (fun t kt => ?_) ?_
  · show Steps p.tables e below (s₁.setTop (mkF m 0 #[.val (.ref a0), .unset] [])) _
    refine XS.iconst X0.here hx rfl (hb hby d3_0) ?_
    show Steps p.tables e below (s₁.setTop (mkF m 1 #[.val (.ref a0), .unset] [(.int (0 : Int32))])) _
    refine XS.istoreN X0.here hx rfl (hb hby d3_1) rfl (l' := #[.val (.ref a0), .val (.int (0 : Int32))]) rfl ?_
    exact kt
  refine own_go (B := s₁.setTop (mkF m 4 #[.val (.ref a0), .val (.int (0 : Int32))] [(.ref a0), (.int (0 : Int32))])) (fun t kt => ?_) ?_
  · show Steps p.tables e below (s₁.setTop (mkF m 2 #[.val (.ref a0), .val (.int (0 : Int32))] [])) _
    refine XS.iloadN X0.here hx rfl (hb hby d3_2) rfl ?_
    show Steps p.tables e below (s₁.setTop (mkF m 3 #[.val (.ref a0), .val (.int (0 : Int32))] [(.int (0 : Int32))])) _
    refine XS.aloadN X0.here hx rfl (hb hby d3_3) rfl rfl ?_
    exact kt
  obtain ⟨T1, X1, e1, st1⟩ := getF X0 hx hZ hown (host := "") (Or.inl (hw _ (List.mem_of_getElem? (i := 12) rfl))) Via.refl e0 Fe (g := (mkF m 4 #[.val (.ref a0), .val (.int (0 : Int32))] [(.ref a0), (.int (0 : Int32))])) rfl rfl (hb hby d3_4)
  refine own_go (B := T1.setTop (mkF m 7 #[.val (.ref a0), .val (.int (0 : Int32))] [(.ref ae), (.int (0 : Int32))])) (fun t kt => st1 t kt) ?_
  refine own_go (B := T1.setTop (mkF m 12 #[.val (.ref a0), .val (.int (0 : Int32))] [(.ref a0)])) (fun t kt => ?_) ?_
  · show Steps p.tables e below (T1.setTop (mkF m 7 #[.val (.ref a0), .val (.int (0 : Int32))] [(.ref ae), (.int (0 : Int32))])) _
    refine X1.arraylength hx (by rw [e1]; exact Are.1) (State.isArrayOf_alike hZ.alike Are.2.1) (g := (mkF m 7 #[.val (.ref a0), .val (.int (0 : Int32))] [(.ref ae), (.int (0 : Int32))])) rfl rfl (hb hby d3_7) _ ?_
    rw [len_of Se Me]
    show Steps p.tables e below (T1.setTop (mkF m 8 #[.val (.ref a0), .val (.int (0 : Int32))] [(.int (2 : Int32)), (.int (0 : Int32))])) _
    refine XS.icmpNo X1.here hx rfl (hb hby d3_8) rfl (tlt (by decide)).2.1 ?_
    show Steps p.tables e below (T1.setTop (mkF m 11 #[.val (.ref a0), .val (.int (0 : Int32))] [])) _
    refine XS.aloadN X1.here hx rfl (hb hby d3_11) rfl rfl ?_
    exact kt
  obtain ⟨T2, X2, e2, st2⟩ := getF X1 hx hZ hown (host := "") (Or.inl (hw _ (List.mem_of_getElem? (i := 12) rfl))) Via.refl e1 Fe (g := (mkF m 12 #[.val (.ref a0), .val (.int (0 : Int32))] [(.ref a0)])) rfl rfl (hb hby d3_12)
  refine own_go (B := T2.setTop (mkF m 15 #[.val (.ref a0), .val (.int (0 : Int32))] [(.ref ae)])) (fun t kt => st2 t kt) ?_
  refine own_go (B := T2.setTop (mkF m 18 #[.val (.ref a0), .val (.int (0 : Int32))] [(.ref a0), (.int e200)])) (fun t kt => ?_) ?_
  · show Steps p.tables e below (T2.setTop (mkF m 15 #[.val (.ref a0), .val (.int (0 : Int32))] [(.ref ae)])) _
    refine XS.iloadN X2.here hx rfl (hb hby d3_15) rfl ?_
    show Steps p.tables e below (T2.setTop (mkF m 16 #[.val (.ref a0), .val (.int (0 : Int32))] [(.int (0 : Int32)), (.ref ae)])) _
    refine X2.iaload hx (j := (0 : Int32)) (v := (.int e200)) (by rw [e2]; exact Are.1) (State.isArrayOf_alike hZ.alike Are.2.1) Are.2.2 (inb_of Se ⟨by decide, by decide⟩) (Has.at He (inb_of Se ⟨by decide, by decide⟩) rfl) (g := (mkF m 16 #[.val (.ref a0), .val (.int (0 : Int32))] [(.int (0 : Int32)), (.ref ae)])) rfl rfl (hb hby d3_16) _ ?_
    show Steps p.tables e below (T2.setTop (mkF m 17 #[.val (.ref a0), .val (.int (0 : Int32))] [(.int e200)])) _
    refine XS.aloadN X2.here hx rfl (hb hby d3_17) rfl rfl ?_
    exact kt
  obtain ⟨T3, X3, e3, st3⟩ := getF X2 hx hZ hown (host := "") (Or.inl (hw _ (List.mem_of_getElem? (i := 14) rfl))) Via.refl e2 Fn (g := (mkF m 18 #[.val (.ref a0), .val (.int (0 : Int32))] [(.ref a0), (.int e200)])) rfl rfl (hb hby d3_18)
  refine own_go (B := T3.setTop (mkF m 21 #[.val (.ref a0), .val (.int (0 : Int32))] [(.ref af), (.int e200)])) (fun t kt => st3 t kt) ?_
  refine own_go (B := T3.setTop (mkF m 23 #[.val (.ref a0), .val (.int (0 : Int32))] [(.int f200), (.int e200)])) (fun t kt => ?_) ?_
  · show Steps p.tables e below (T3.setTop (mkF m 21 #[.val (.ref a0), .val (.int (0 : Int32))] [(.ref af), (.int e200)])) _
    refine XS.iloadN X3.here hx rfl (hb hby d3_21) rfl ?_
    show Steps p.tables e below (T3.setTop (mkF m 22 #[.val (.ref a0), .val (.int (0 : Int32))] [(.int (0 : Int32)), (.ref af), (.int e200)])) _
    refine X3.iaload hx (j := (0 : Int32)) (v := (.int f200)) (by rw [e3]; exact Arf.1) (State.isArrayOf_alike hZ.alike Arf.2.1) Arf.2.2 (inb_of Sf ⟨by decide, by decide⟩) (Has.at Hf (inb_of Sf ⟨by decide, by decide⟩) rfl) (g := (mkF m 22 #[.val (.ref a0), .val (.int (0 : Int32))] [(.int (0 : Int32)), (.ref af), (.int e200)])) rfl rfl (hb hby d3_22) _ ?_
    exact kt
  by_cases hq0 : e200 = f200
  · refine own_go (B := T3.setTop (mkF m 2 #[.val (.ref a0), .val (.int (1 : Int32))] [])) (fun t kt => ?_) ?_
    · show Steps p.tables e below (T3.setTop (mkF m 23 #[.val (.ref a0), .val (.int (0 : Int32))] [(.int f200), (.int e200)])) _
      refine XS.icmpYes X3.here hx rfl (pc0 := 23) (pc' := 28) rfl (hb hby d3_23) rfl (teq hq0).1 (by decide) (by decide) ?_
      show Steps p.tables e below (T3.setTop (mkF m 28 #[.val (.ref a0), .val (.int (0 : Int32))] [])) _
      refine XS.iinc X3.here hx rfl (hb hby d3_28) rfl (l' := #[.val (.ref a0), .val (.int (1 : Int32))]) rfl ?_
      show Steps p.tables e below (T3.setTop (mkF m 31 #[.val (.ref a0), .val (.int (1 : Int32))] [])) _
      refine XS.goto X3.here hx rfl (pc0 := 31) (pc' := 2) rfl (hb hby d3_31) (by decide) (by decide) ?_
      exact kt
    refine own_go (B := T3.setTop (mkF m 4 #[.val (.ref a0), .val (.int (1 : Int32))] [(.ref a0), (.int (1 : Int32))])) (fun t kt => ?_) ?_
    · show Steps p.tables e below (T3.setTop (mkF m 2 #[.val (.ref a0), .val (.int (1 : Int32))] [])) _
      refine XS.iloadN X3.here hx rfl (hb hby d3_2) rfl ?_
      show Steps p.tables e below (T3.setTop (mkF m 3 #[.val (.ref a0), .val (.int (1 : Int32))] [(.int (1 : Int32))])) _
      refine XS.aloadN X3.here hx rfl (hb hby d3_3) rfl rfl ?_
      exact kt
    obtain ⟨T4, X4, e4, st4⟩ := getF X3 hx hZ hown (host := "") (Or.inl (hw _ (List.mem_of_getElem? (i := 12) rfl))) Via.refl e3 Fe (g := (mkF m 4 #[.val (.ref a0), .val (.int (1 : Int32))] [(.ref a0), (.int (1 : Int32))])) rfl rfl (hb hby d3_4)
    refine own_go (B := T4.setTop (mkF m 7 #[.val (.ref a0), .val (.int (1 : Int32))] [(.ref ae), (.int (1 : Int32))])) (fun t kt => st4 t kt) ?_
    refine own_go (B := T4.setTop (mkF m 12 #[.val (.ref a0), .val (.int (1 : Int32))] [(.ref a0)])) (fun t kt => ?_) ?_
    · show Steps p.tables e below (T4.setTop (mkF m 7 #[.val (.ref a0), .val (.int (1 : Int32))] [(.ref ae), (.int (1 : Int32))])) _
      refine X4.arraylength hx (by rw [e4]; exact Are.1) (State.isArrayOf_alike hZ.alike Are.2.1) (g := (mkF m 7 #[.val (.ref a0), .val (.int (1 : Int32))] [(.ref ae), (.int (1 : Int32))])) rfl rfl (hb hby d3_7) _ ?_
      rw [len_of Se Me]
      show Steps p.tables e below (T4.setTop (mkF m 8 #[.val (.ref a0), .val (.int (1 : Int32))] [(.int (2 : Int32)), (.int (1 : Int32))])) _
      refine XS.icmpNo X4.here hx rfl (hb hby d3_8) rfl (tlt (by decide)).2.1 ?_
      show Steps p.tables e below (T4.setTop (mkF m 11 #[.val (.ref a0), .val (.int (1 : Int32))] [])) _
      refine XS.aloadN X4.here hx rfl (hb hby d3_11) rfl rfl ?_
      exact kt
    obtain ⟨T5, X5, e5, st5⟩ := getF X4 hx hZ hown (host := "") (Or.inl (hw _ (List.mem_of_getElem? (i := 12) rfl))) Via.refl e4 Fe (g := (mkF m 12 #[.val (.ref a0), .val (.int (1 : Int32))] [(.ref a0)])) rfl rfl (hb hby d3_12)
    refine own_go (B := T5.setTop (mkF m 15 #[.val (.ref a0), .val (.int (1 : Int32))] [(.ref ae)])) (fun t kt => st5 t kt) ?_
    refine own_go (B := T5.setTop (mkF m 18 #[.val (.ref a0), .val (.int (1 : Int32))] [(.ref a0), (.int e201)])) (fun t kt => ?_) ?_
    · show Steps p.tables e below (T5.setTop (mkF m 15 #[.val (.ref a0), .val (.int (1 : Int32))] [(.ref ae)])) _
      refine XS.iloadN X5.here hx rfl (hb hby d3_15) rfl ?_
      show Steps p.tables e below (T5.setTop (mkF m 16 #[.val (.ref a0), .val (.int (1 : Int32))] [(.int (1 : Int32)), (.ref ae)])) _
      refine X5.iaload hx (j := (1 : Int32)) (v := (.int e201)) (by rw [e5]; exact Are.1) (State.isArrayOf_alike hZ.alike Are.2.1) Are.2.2 (inb_of Se ⟨by decide, by decide⟩) (Has.at He (inb_of Se ⟨by decide, by decide⟩) rfl) (g := (mkF m 16 #[.val (.ref a0), .val (.int (1 : Int32))] [(.int (1 : Int32)), (.ref ae)])) rfl rfl (hb hby d3_16) _ ?_
      show Steps p.tables e below (T5.setTop (mkF m 17 #[.val (.ref a0), .val (.int (1 : Int32))] [(.int e201)])) _
      refine XS.aloadN X5.here hx rfl (hb hby d3_17) rfl rfl ?_
      exact kt
    obtain ⟨T6, X6, e6, st6⟩ := getF X5 hx hZ hown (host := "") (Or.inl (hw _ (List.mem_of_getElem? (i := 14) rfl))) Via.refl e5 Fn (g := (mkF m 18 #[.val (.ref a0), .val (.int (1 : Int32))] [(.ref a0), (.int e201)])) rfl rfl (hb hby d3_18)
    refine own_go (B := T6.setTop (mkF m 21 #[.val (.ref a0), .val (.int (1 : Int32))] [(.ref af), (.int e201)])) (fun t kt => st6 t kt) ?_
    refine own_go (B := T6.setTop (mkF m 23 #[.val (.ref a0), .val (.int (1 : Int32))] [(.int f201), (.int e201)])) (fun t kt => ?_) ?_
    · show Steps p.tables e below (T6.setTop (mkF m 21 #[.val (.ref a0), .val (.int (1 : Int32))] [(.ref af), (.int e201)])) _
      refine XS.iloadN X6.here hx rfl (hb hby d3_21) rfl ?_
      show Steps p.tables e below (T6.setTop (mkF m 22 #[.val (.ref a0), .val (.int (1 : Int32))] [(.int (1 : Int32)), (.ref af), (.int e201)])) _
      refine X6.iaload hx (j := (1 : Int32)) (v := (.int f201)) (by rw [e6]; exact Arf.1) (State.isArrayOf_alike hZ.alike Arf.2.1) Arf.2.2 (inb_of Sf ⟨by decide, by decide⟩) (Has.at Hf (inb_of Sf ⟨by decide, by decide⟩) rfl) (g := (mkF m 22 #[.val (.ref a0), .val (.int (1 : Int32))] [(.int (1 : Int32)), (.ref af), (.int e201)])) rfl rfl (hb hby d3_22) _ ?_
      exact kt
    by_cases hq1 : e201 = f201
    · refine own_go (B := T6.setTop (mkF m 2 #[.val (.ref a0), .val (.int (2 : Int32))] [])) (fun t kt => ?_) ?_
      · show Steps p.tables e below (T6.setTop (mkF m 23 #[.val (.ref a0), .val (.int (1 : Int32))] [(.int f201), (.int e201)])) _
        refine XS.icmpYes X6.here hx rfl (pc0 := 23) (pc' := 28) rfl (hb hby d3_23) rfl (teq hq1).1 (by decide) (by decide) ?_
        show Steps p.tables e below (T6.setTop (mkF m 28 #[.val (.ref a0), .val (.int (1 : Int32))] [])) _
        refine XS.iinc X6.here hx rfl (hb hby d3_28) rfl (l' := #[.val (.ref a0), .val (.int (2 : Int32))]) rfl ?_
        show Steps p.tables e below (T6.setTop (mkF m 31 #[.val (.ref a0), .val (.int (2 : Int32))] [])) _
        refine XS.goto X6.here hx rfl (pc0 := 31) (pc' := 2) rfl (hb hby d3_31) (by decide) (by decide) ?_
        exact kt
      refine own_go (B := T6.setTop (mkF m 4 #[.val (.ref a0), .val (.int (2 : Int32))] [(.ref a0), (.int (2 : Int32))])) (fun t kt => ?_) ?_
      · show Steps p.tables e below (T6.setTop (mkF m 2 #[.val (.ref a0), .val (.int (2 : Int32))] [])) _
        refine XS.iloadN X6.here hx rfl (hb hby d3_2) rfl ?_
        show Steps p.tables e below (T6.setTop (mkF m 3 #[.val (.ref a0), .val (.int (2 : Int32))] [(.int (2 : Int32))])) _
        refine XS.aloadN X6.here hx rfl (hb hby d3_3) rfl rfl ?_
        exact kt
      obtain ⟨T7, X7, e7, st7⟩ := getF X6 hx hZ hown (host := "") (Or.inl (hw _ (List.mem_of_getElem? (i := 12) rfl))) Via.refl e6 Fe (g := (mkF m 4 #[.val (.ref a0), .val (.int (2 : Int32))] [(.ref a0), (.int (2 : Int32))])) rfl rfl (hb hby d3_4)
      refine own_go (B := T7.setTop (mkF m 7 #[.val (.ref a0), .val (.int (2 : Int32))] [(.ref ae), (.int (2 : Int32))])) (fun t kt => st7 t kt) ?_
      refine own_go (B := T7.setTop (mkF m 35 #[.val (.ref a0), .val (.int (2 : Int32))] [(.int (1 : Int32))])) (fun t kt => ?_) ?_
      · show Steps p.tables e below (T7.setTop (mkF m 7 #[.val (.ref a0), .val (.int (2 : Int32))] [(.ref ae), (.int (2 : Int32))])) _
        refine X7.arraylength hx (by rw [e7]; exact Are.1) (State.isArrayOf_alike hZ.alike Are.2.1) (g := (mkF m 7 #[.val (.ref a0), .val (.int (2 : Int32))] [(.ref ae), (.int (2 : Int32))])) rfl rfl (hb hby d3_7) _ ?_
        rw [len_of Se Me]
        show Steps p.tables e below (T7.setTop (mkF m 8 #[.val (.ref a0), .val (.int (2 : Int32))] [(.int (2 : Int32)), (.int (2 : Int32))])) _
        refine XS.icmpYes X7.here hx rfl (pc0 := 8) (pc' := 34) rfl (hb hby d3_8) rfl (flt (by decide)).2.1 (by decide) (by decide) ?_
        show Steps p.tables e below (T7.setTop (mkF m 34 #[.val (.ref a0), .val (.int (2 : Int32))] [])) _
        refine XS.iconst X7.here hx rfl (hb hby d3_34) ?_
        exact kt
      obtain ⟨fs, hr, hrun, hended, hW, hsame⟩ := X7.leave (v := some (.int (1 : Int32))) (fun h => by rw [Bd.returns] at h; cases h)
      refine ⟨_, _, ?_, hrun, hended, _, _, rfl, ?_, ⟨_, rfl⟩, hW, hsame.mono (by decide) (by decide)⟩
      · show Steps p.tables e below (T7.setTop (mkF m 35 #[.val (.ref a0), .val (.int (2 : Int32))] [(.int (1 : Int32))])) _
        exact retN X7 hx (t := .boolean) Bd.returns (by simp) (hb hby d3_35) hr
      · show Q3 (if e200 = f200 then (if e201 = f201 then (1 : Int32) else (0 : Int32)) else (0 : Int32)) h0 n0 _ T7.heap _
        rw [e7]
        exact ⟨by rw [if_pos hq0, if_pos hq1], N0, rfl⟩
    · refine own_go (B := T6.setTop (mkF m 27 #[.val (.ref a0), .val (.int (1 : Int32))] [(.int (0 : Int32))])) (fun t kt => ?_) ?_
      · show Steps p.tables e below (T6.setTop (mkF m 23 #[.val (.ref a0), .val (.int (1 : Int32))] [(.int f201), (.int e201)])) _
        refine XS.icmpNo X6.here hx rfl (hb hby d3_23) rfl (feq hq1).1 ?_
        show Steps p.tables e below (T6.setTop (mkF m 26 #[.val (.ref a0), .val (.int (1 : Int32))] [])) _
        refine XS.iconst X6.here hx rfl (hb hby d3_26) ?_
        exact kt
      obtain ⟨fs, hr, hrun, hended, hW, hsame⟩ := X6.leave (v := some (.int (0 : Int32))) (fun h => by rw [Bd.returns] at h; cases h)
      refine ⟨_, _, ?_, hrun, hended, _, _, rfl, ?_, ⟨_, rfl⟩, hW, hsame.mono (by decide) (by decide)⟩
      · show Steps p.tables e below (T6.setTop (mkF m 27 #[.val (.ref a0), .val (.int (1 : Int32))] [(.int (0 : Int32))])) _
        exact retN X6 hx (t := .boolean) Bd.returns (by simp) (hb hby d3_27) hr
      · show Q3 (if e200 = f200 then (if e201 = f201 then (1 : Int32) else (0 : Int32)) else (0 : Int32)) h0 n0 _ T6.heap _
        rw [e6]
        exact ⟨by rw [if_pos hq0, if_neg hq1], N0, rfl⟩
  · refine own_go (B := T3.setTop (mkF m 27 #[.val (.ref a0), .val (.int (0 : Int32))] [(.int (0 : Int32))])) (fun t kt => ?_) ?_
    · show Steps p.tables e below (T3.setTop (mkF m 23 #[.val (.ref a0), .val (.int (0 : Int32))] [(.int f200), (.int e200)])) _
      refine XS.icmpNo X3.here hx rfl (hb hby d3_23) rfl (feq hq0).1 ?_
      show Steps p.tables e below (T3.setTop (mkF m 26 #[.val (.ref a0), .val (.int (0 : Int32))] [])) _
      refine XS.iconst X3.here hx rfl (hb hby d3_26) ?_
      exact kt
    obtain ⟨fs, hr, hrun, hended, hW, hsame⟩ := X3.leave (v := some (.int (0 : Int32))) (fun h => by rw [Bd.returns] at h; cases h)
    refine ⟨_, _, ?_, hrun, hended, _, _, rfl, ?_, ⟨_, rfl⟩, hW, hsame.mono (by decide) (by decide)⟩
    · show Steps p.tables e below (T3.setTop (mkF m 27 #[.val (.ref a0), .val (.int (0 : Int32))] [(.int (0 : Int32))])) _
      exact retN X3 hx (t := .boolean) Bd.returns (by simp) (hb hby d3_27) hr
    · show Q3 (if e200 = f200 then (if e201 = f201 then (1 : Int32) else (0 : Int32)) else (0 : Int32)) h0 n0 _ T3.heap _
      rw [e3]
      exact ⟨by rw [if_neg hq0], N0, rfl⟩
set_option maxRecDepth 65536 in
set_option maxHeartbeats 40000000 in
theorem rm3_3 (l : Launch) (Z : State) (t0 : Array Value) (hw : ∀ d ∈ tables_1, d.before t0 Z = true) (ws : List Jvm.Cond) (a0 : Addr) (ae : Addr) (af : Addr) (ke : ClassId) (kf : ClassId) (e200 : Int32) (e201 : Int32) (e202 : Int32) (f200 : Int32) (f201 : Int32) (f202 : Int32) (h0 : Heap) (n0 : Nat) (Z0 : n0 ≤ h0.size) (Fe : Fld Z h0 a0 "com/example/columella/columella/ipc/Renumbering" "entries" "[I" (.ref ae)) (Fn : Fld Z h0 a0 "com/example/columella/columella/ipc/Renumbering" "numbers" "[I" (.ref af)) (Ve : Arv Z h0 ae ke .int (3 : Int32) [(.int e200), (.int e201), (.int e202)] (.int (0 : Int32))) (Vf : Arv Z h0 af kf .int (3 : Int32) [(.int f200), (.int f201), (.int f202)] (.int (0 : Int32))) :
    MetFree l (⟨"com/example/columella/columella/ipc/Renumbering", "keepsEveryNumber", "()Z"⟩ : MethodName) (head1 (Jvm.Cond.code (⟨"com/example/columella/columella/ipc/Renumbering", "keepsEveryNumber", "()Z"⟩ : MethodName) prog_92_method_4_code 2 (some .boolean) :: ws) ({ frames := 0, cells := 0, slots := 0, locals := 0 } : Room)) (fun a U => a = #[(.ref a0)] ∧ Z.Warmed39 U.vm ∧ U.heap = h0) (fun _ _ _ _ _ => True) (fun _ U o U' => ∃ v L, o = .returned v ∧ Q3 (if e200 = f200 then (if e201 = f201 then (if e202 = f202 then (1 : Int32) else (0 : Int32)) else (0 : Int32)) else (0 : Int32)) h0 n0 v U'.heap L ∧ FrameEnd U o U' L ({ frames := 0, cells := 0, slots := 0, locals := 0 } : Room).cells ({ frames := 0, cells := 0, slots := 0, locals := 0 } : Room).slots) := by
  refine MetFree.of_bodySF (plainFor_of_name pn_3) hisR ?_
  intro p e s m args below meth c s₁ Bd hml0 hP hK
  obtain ⟨rfl, hZ, hh⟩ := hP
  have hx := Bd.exec
  have hby := Bd.bytes
  have hml : c.maxLocals = 2 := hml0
  have hown : s.vm.findClass "com/example/columella/columella/ipc/Renumbering" = some m.cls := findClass_of_methodNamed Bd.named
  have hnm := (name_of_methodNamed Bd.named Bd.method).1
  have X0 : Stand p l e ({ frames := 0, cells := 0, slots := 0, locals := 0 } : Room) s m #[(.ref a0)] below meth c s₁ [] 0 0 := Stand.of_body Bd
  have e0 : s₁.heap = h0 := by rw [← hh, Bd.state]; rfl
  have N0 := Fr.nil n0
  have pre0 : ∀ t, Steps p.tables e below (s₁.setTop (mkF m 0 #[.val (.ref a0), .unset] [])) t → Steps p.tables e below (s₁.setTop (entryFrame m #[(.ref a0)] 2)) t := fun t k => castTop (ef_3 m a0) k
  refine own_go pre0 ?_
  obtain ⟨cle, Are, qe, Se, Me, He, Ge⟩ := Ve
  obtain ⟨clf, Arf, qf, Sf, Mf, Hf, Gf⟩ := Vf
  refine own_go (B := s₁.setTop (mkF m 2 #[.val (.ref a0), .val (.int (0 : Int32))] [])) (fun t kt => ?_) ?_
  · show Steps p.tables e below (s₁.setTop (mkF m 0 #[.val (.ref a0), .unset] [])) _
    refine XS.iconst X0.here hx rfl (hb hby d3_0) ?_
    show Steps p.tables e below (s₁.setTop (mkF m 1 #[.val (.ref a0), .unset] [(.int (0 : Int32))])) _
    refine XS.istoreN X0.here hx rfl (hb hby d3_1) rfl (l' := #[.val (.ref a0), .val (.int (0 : Int32))]) rfl ?_
    exact kt
  refine own_go (B := s₁.setTop (mkF m 4 #[.val (.ref a0), .val (.int (0 : Int32))] [(.ref a0), (.int (0 : Int32))])) (fun t kt => ?_) ?_
  · show Steps p.tables e below (s₁.setTop (mkF m 2 #[.val (.ref a0), .val (.int (0 : Int32))] [])) _
    refine XS.iloadN X0.here hx rfl (hb hby d3_2) rfl ?_
    show Steps p.tables e below (s₁.setTop (mkF m 3 #[.val (.ref a0), .val (.int (0 : Int32))] [(.int (0 : Int32))])) _
    refine XS.aloadN X0.here hx rfl (hb hby d3_3) rfl rfl ?_
    exact kt
  obtain ⟨T1, X1, e1, st1⟩ := getF X0 hx hZ hown (host := "") (Or.inl (hw _ (List.mem_of_getElem? (i := 12) rfl))) Via.refl e0 Fe (g := (mkF m 4 #[.val (.ref a0), .val (.int (0 : Int32))] [(.ref a0), (.int (0 : Int32))])) rfl rfl (hb hby d3_4)
  refine own_go (B := T1.setTop (mkF m 7 #[.val (.ref a0), .val (.int (0 : Int32))] [(.ref ae), (.int (0 : Int32))])) (fun t kt => st1 t kt) ?_
  refine own_go (B := T1.setTop (mkF m 12 #[.val (.ref a0), .val (.int (0 : Int32))] [(.ref a0)])) (fun t kt => ?_) ?_
  · show Steps p.tables e below (T1.setTop (mkF m 7 #[.val (.ref a0), .val (.int (0 : Int32))] [(.ref ae), (.int (0 : Int32))])) _
    refine X1.arraylength hx (by rw [e1]; exact Are.1) (State.isArrayOf_alike hZ.alike Are.2.1) (g := (mkF m 7 #[.val (.ref a0), .val (.int (0 : Int32))] [(.ref ae), (.int (0 : Int32))])) rfl rfl (hb hby d3_7) _ ?_
    rw [len_of Se Me]
    show Steps p.tables e below (T1.setTop (mkF m 8 #[.val (.ref a0), .val (.int (0 : Int32))] [(.int (3 : Int32)), (.int (0 : Int32))])) _
    refine XS.icmpNo X1.here hx rfl (hb hby d3_8) rfl (tlt (by decide)).2.1 ?_
    show Steps p.tables e below (T1.setTop (mkF m 11 #[.val (.ref a0), .val (.int (0 : Int32))] [])) _
    refine XS.aloadN X1.here hx rfl (hb hby d3_11) rfl rfl ?_
    exact kt
  obtain ⟨T2, X2, e2, st2⟩ := getF X1 hx hZ hown (host := "") (Or.inl (hw _ (List.mem_of_getElem? (i := 12) rfl))) Via.refl e1 Fe (g := (mkF m 12 #[.val (.ref a0), .val (.int (0 : Int32))] [(.ref a0)])) rfl rfl (hb hby d3_12)
  refine own_go (B := T2.setTop (mkF m 15 #[.val (.ref a0), .val (.int (0 : Int32))] [(.ref ae)])) (fun t kt => st2 t kt) ?_
  refine own_go (B := T2.setTop (mkF m 18 #[.val (.ref a0), .val (.int (0 : Int32))] [(.ref a0), (.int e200)])) (fun t kt => ?_) ?_
  · show Steps p.tables e below (T2.setTop (mkF m 15 #[.val (.ref a0), .val (.int (0 : Int32))] [(.ref ae)])) _
    refine XS.iloadN X2.here hx rfl (hb hby d3_15) rfl ?_
    show Steps p.tables e below (T2.setTop (mkF m 16 #[.val (.ref a0), .val (.int (0 : Int32))] [(.int (0 : Int32)), (.ref ae)])) _
    refine X2.iaload hx (j := (0 : Int32)) (v := (.int e200)) (by rw [e2]; exact Are.1) (State.isArrayOf_alike hZ.alike Are.2.1) Are.2.2 (inb_of Se ⟨by decide, by decide⟩) (Has.at He (inb_of Se ⟨by decide, by decide⟩) rfl) (g := (mkF m 16 #[.val (.ref a0), .val (.int (0 : Int32))] [(.int (0 : Int32)), (.ref ae)])) rfl rfl (hb hby d3_16) _ ?_
    show Steps p.tables e below (T2.setTop (mkF m 17 #[.val (.ref a0), .val (.int (0 : Int32))] [(.int e200)])) _
    refine XS.aloadN X2.here hx rfl (hb hby d3_17) rfl rfl ?_
    exact kt
  obtain ⟨T3, X3, e3, st3⟩ := getF X2 hx hZ hown (host := "") (Or.inl (hw _ (List.mem_of_getElem? (i := 14) rfl))) Via.refl e2 Fn (g := (mkF m 18 #[.val (.ref a0), .val (.int (0 : Int32))] [(.ref a0), (.int e200)])) rfl rfl (hb hby d3_18)
  refine own_go (B := T3.setTop (mkF m 21 #[.val (.ref a0), .val (.int (0 : Int32))] [(.ref af), (.int e200)])) (fun t kt => st3 t kt) ?_
  refine own_go (B := T3.setTop (mkF m 23 #[.val (.ref a0), .val (.int (0 : Int32))] [(.int f200), (.int e200)])) (fun t kt => ?_) ?_
  · show Steps p.tables e below (T3.setTop (mkF m 21 #[.val (.ref a0), .val (.int (0 : Int32))] [(.ref af), (.int e200)])) _
    refine XS.iloadN X3.here hx rfl (hb hby d3_21) rfl ?_
    show Steps p.tables e below (T3.setTop (mkF m 22 #[.val (.ref a0), .val (.int (0 : Int32))] [(.int (0 : Int32)), (.ref af), (.int e200)])) _
    refine X3.iaload hx (j := (0 : Int32)) (v := (.int f200)) (by rw [e3]; exact Arf.1) (State.isArrayOf_alike hZ.alike Arf.2.1) Arf.2.2 (inb_of Sf ⟨by decide, by decide⟩) (Has.at Hf (inb_of Sf ⟨by decide, by decide⟩) rfl) (g := (mkF m 22 #[.val (.ref a0), .val (.int (0 : Int32))] [(.int (0 : Int32)), (.ref af), (.int e200)])) rfl rfl (hb hby d3_22) _ ?_
    exact kt
  by_cases hq0 : e200 = f200
  · refine own_go (B := T3.setTop (mkF m 2 #[.val (.ref a0), .val (.int (1 : Int32))] [])) (fun t kt => ?_) ?_
    · show Steps p.tables e below (T3.setTop (mkF m 23 #[.val (.ref a0), .val (.int (0 : Int32))] [(.int f200), (.int e200)])) _
      refine XS.icmpYes X3.here hx rfl (pc0 := 23) (pc' := 28) rfl (hb hby d3_23) rfl (teq hq0).1 (by decide) (by decide) ?_
      show Steps p.tables e below (T3.setTop (mkF m 28 #[.val (.ref a0), .val (.int (0 : Int32))] [])) _
      refine XS.iinc X3.here hx rfl (hb hby d3_28) rfl (l' := #[.val (.ref a0), .val (.int (1 : Int32))]) rfl ?_
      show Steps p.tables e below (T3.setTop (mkF m 31 #[.val (.ref a0), .val (.int (1 : Int32))] [])) _
      refine XS.goto X3.here hx rfl (pc0 := 31) (pc' := 2) rfl (hb hby d3_31) (by decide) (by decide) ?_
      exact kt
    refine own_go (B := T3.setTop (mkF m 4 #[.val (.ref a0), .val (.int (1 : Int32))] [(.ref a0), (.int (1 : Int32))])) (fun t kt => ?_) ?_
    · show Steps p.tables e below (T3.setTop (mkF m 2 #[.val (.ref a0), .val (.int (1 : Int32))] [])) _
      refine XS.iloadN X3.here hx rfl (hb hby d3_2) rfl ?_
      show Steps p.tables e below (T3.setTop (mkF m 3 #[.val (.ref a0), .val (.int (1 : Int32))] [(.int (1 : Int32))])) _
      refine XS.aloadN X3.here hx rfl (hb hby d3_3) rfl rfl ?_
      exact kt
    obtain ⟨T4, X4, e4, st4⟩ := getF X3 hx hZ hown (host := "") (Or.inl (hw _ (List.mem_of_getElem? (i := 12) rfl))) Via.refl e3 Fe (g := (mkF m 4 #[.val (.ref a0), .val (.int (1 : Int32))] [(.ref a0), (.int (1 : Int32))])) rfl rfl (hb hby d3_4)
    refine own_go (B := T4.setTop (mkF m 7 #[.val (.ref a0), .val (.int (1 : Int32))] [(.ref ae), (.int (1 : Int32))])) (fun t kt => st4 t kt) ?_
    refine own_go (B := T4.setTop (mkF m 12 #[.val (.ref a0), .val (.int (1 : Int32))] [(.ref a0)])) (fun t kt => ?_) ?_
    · show Steps p.tables e below (T4.setTop (mkF m 7 #[.val (.ref a0), .val (.int (1 : Int32))] [(.ref ae), (.int (1 : Int32))])) _
      refine X4.arraylength hx (by rw [e4]; exact Are.1) (State.isArrayOf_alike hZ.alike Are.2.1) (g := (mkF m 7 #[.val (.ref a0), .val (.int (1 : Int32))] [(.ref ae), (.int (1 : Int32))])) rfl rfl (hb hby d3_7) _ ?_
      rw [len_of Se Me]
      show Steps p.tables e below (T4.setTop (mkF m 8 #[.val (.ref a0), .val (.int (1 : Int32))] [(.int (3 : Int32)), (.int (1 : Int32))])) _
      refine XS.icmpNo X4.here hx rfl (hb hby d3_8) rfl (tlt (by decide)).2.1 ?_
      show Steps p.tables e below (T4.setTop (mkF m 11 #[.val (.ref a0), .val (.int (1 : Int32))] [])) _
      refine XS.aloadN X4.here hx rfl (hb hby d3_11) rfl rfl ?_
      exact kt
    obtain ⟨T5, X5, e5, st5⟩ := getF X4 hx hZ hown (host := "") (Or.inl (hw _ (List.mem_of_getElem? (i := 12) rfl))) Via.refl e4 Fe (g := (mkF m 12 #[.val (.ref a0), .val (.int (1 : Int32))] [(.ref a0)])) rfl rfl (hb hby d3_12)
    refine own_go (B := T5.setTop (mkF m 15 #[.val (.ref a0), .val (.int (1 : Int32))] [(.ref ae)])) (fun t kt => st5 t kt) ?_
    refine own_go (B := T5.setTop (mkF m 18 #[.val (.ref a0), .val (.int (1 : Int32))] [(.ref a0), (.int e201)])) (fun t kt => ?_) ?_
    · show Steps p.tables e below (T5.setTop (mkF m 15 #[.val (.ref a0), .val (.int (1 : Int32))] [(.ref ae)])) _
      refine XS.iloadN X5.here hx rfl (hb hby d3_15) rfl ?_
      show Steps p.tables e below (T5.setTop (mkF m 16 #[.val (.ref a0), .val (.int (1 : Int32))] [(.int (1 : Int32)), (.ref ae)])) _
      refine X5.iaload hx (j := (1 : Int32)) (v := (.int e201)) (by rw [e5]; exact Are.1) (State.isArrayOf_alike hZ.alike Are.2.1) Are.2.2 (inb_of Se ⟨by decide, by decide⟩) (Has.at He (inb_of Se ⟨by decide, by decide⟩) rfl) (g := (mkF m 16 #[.val (.ref a0), .val (.int (1 : Int32))] [(.int (1 : Int32)), (.ref ae)])) rfl rfl (hb hby d3_16) _ ?_
      show Steps p.tables e below (T5.setTop (mkF m 17 #[.val (.ref a0), .val (.int (1 : Int32))] [(.int e201)])) _
      refine XS.aloadN X5.here hx rfl (hb hby d3_17) rfl rfl ?_
      exact kt
    obtain ⟨T6, X6, e6, st6⟩ := getF X5 hx hZ hown (host := "") (Or.inl (hw _ (List.mem_of_getElem? (i := 14) rfl))) Via.refl e5 Fn (g := (mkF m 18 #[.val (.ref a0), .val (.int (1 : Int32))] [(.ref a0), (.int e201)])) rfl rfl (hb hby d3_18)
    refine own_go (B := T6.setTop (mkF m 21 #[.val (.ref a0), .val (.int (1 : Int32))] [(.ref af), (.int e201)])) (fun t kt => st6 t kt) ?_
    refine own_go (B := T6.setTop (mkF m 23 #[.val (.ref a0), .val (.int (1 : Int32))] [(.int f201), (.int e201)])) (fun t kt => ?_) ?_
    · show Steps p.tables e below (T6.setTop (mkF m 21 #[.val (.ref a0), .val (.int (1 : Int32))] [(.ref af), (.int e201)])) _
      refine XS.iloadN X6.here hx rfl (hb hby d3_21) rfl ?_
      show Steps p.tables e below (T6.setTop (mkF m 22 #[.val (.ref a0), .val (.int (1 : Int32))] [(.int (1 : Int32)), (.ref af), (.int e201)])) _
      refine X6.iaload hx (j := (1 : Int32)) (v := (.int f201)) (by rw [e6]; exact Arf.1) (State.isArrayOf_alike hZ.alike Arf.2.1) Arf.2.2 (inb_of Sf ⟨by decide, by decide⟩) (Has.at Hf (inb_of Sf ⟨by decide, by decide⟩) rfl) (g := (mkF m 22 #[.val (.ref a0), .val (.int (1 : Int32))] [(.int (1 : Int32)), (.ref af), (.int e201)])) rfl rfl (hb hby d3_22) _ ?_
      exact kt
    by_cases hq1 : e201 = f201
    · refine own_go (B := T6.setTop (mkF m 2 #[.val (.ref a0), .val (.int (2 : Int32))] [])) (fun t kt => ?_) ?_
      · show Steps p.tables e below (T6.setTop (mkF m 23 #[.val (.ref a0), .val (.int (1 : Int32))] [(.int f201), (.int e201)])) _
        refine XS.icmpYes X6.here hx rfl (pc0 := 23) (pc' := 28) rfl (hb hby d3_23) rfl (teq hq1).1 (by decide) (by decide) ?_
        show Steps p.tables e below (T6.setTop (mkF m 28 #[.val (.ref a0), .val (.int (1 : Int32))] [])) _
        refine XS.iinc X6.here hx rfl (hb hby d3_28) rfl (l' := #[.val (.ref a0), .val (.int (2 : Int32))]) rfl ?_
        show Steps p.tables e below (T6.setTop (mkF m 31 #[.val (.ref a0), .val (.int (2 : Int32))] [])) _
        refine XS.goto X6.here hx rfl (pc0 := 31) (pc' := 2) rfl (hb hby d3_31) (by decide) (by decide) ?_
        exact kt
      refine own_go (B := T6.setTop (mkF m 4 #[.val (.ref a0), .val (.int (2 : Int32))] [(.ref a0), (.int (2 : Int32))])) (fun t kt => ?_) ?_
      · show Steps p.tables e below (T6.setTop (mkF m 2 #[.val (.ref a0), .val (.int (2 : Int32))] [])) _
        refine XS.iloadN X6.here hx rfl (hb hby d3_2) rfl ?_
        show Steps p.tables e below (T6.setTop (mkF m 3 #[.val (.ref a0), .val (.int (2 : Int32))] [(.int (2 : Int32))])) _
        refine XS.aloadN X6.here hx rfl (hb hby d3_3) rfl rfl ?_
        exact kt
      obtain ⟨T7, X7, e7, st7⟩ := getF X6 hx hZ hown (host := "") (Or.inl (hw _ (List.mem_of_getElem? (i := 12) rfl))) Via.refl e6 Fe (g := (mkF m 4 #[.val (.ref a0), .val (.int (2 : Int32))] [(.ref a0), (.int (2 : Int32))])) rfl rfl (hb hby d3_4)
      refine own_go (B := T7.setTop (mkF m 7 #[.val (.ref a0), .val (.int (2 : Int32))] [(.ref ae), (.int (2 : Int32))])) (fun t kt => st7 t kt) ?_
      refine own_go (B := T7.setTop (mkF m 12 #[.val (.ref a0), .val (.int (2 : Int32))] [(.ref a0)])) (fun t kt => ?_) ?_
      · show Steps p.tables e below (T7.setTop (mkF m 7 #[.val (.ref a0), .val (.int (2 : Int32))] [(.ref ae), (.int (2 : Int32))])) _
        refine X7.arraylength hx (by rw [e7]; exact Are.1) (State.isArrayOf_alike hZ.alike Are.2.1) (g := (mkF m 7 #[.val (.ref a0), .val (.int (2 : Int32))] [(.ref ae), (.int (2 : Int32))])) rfl rfl (hb hby d3_7) _ ?_
        rw [len_of Se Me]
        show Steps p.tables e below (T7.setTop (mkF m 8 #[.val (.ref a0), .val (.int (2 : Int32))] [(.int (3 : Int32)), (.int (2 : Int32))])) _
        refine XS.icmpNo X7.here hx rfl (hb hby d3_8) rfl (tlt (by decide)).2.1 ?_
        show Steps p.tables e below (T7.setTop (mkF m 11 #[.val (.ref a0), .val (.int (2 : Int32))] [])) _
        refine XS.aloadN X7.here hx rfl (hb hby d3_11) rfl rfl ?_
        exact kt
      obtain ⟨T8, X8, e8, st8⟩ := getF X7 hx hZ hown (host := "") (Or.inl (hw _ (List.mem_of_getElem? (i := 12) rfl))) Via.refl e7 Fe (g := (mkF m 12 #[.val (.ref a0), .val (.int (2 : Int32))] [(.ref a0)])) rfl rfl (hb hby d3_12)
      refine own_go (B := T8.setTop (mkF m 15 #[.val (.ref a0), .val (.int (2 : Int32))] [(.ref ae)])) (fun t kt => st8 t kt) ?_
      refine own_go (B := T8.setTop (mkF m 18 #[.val (.ref a0), .val (.int (2 : Int32))] [(.ref a0), (.int e202)])) (fun t kt => ?_) ?_
      · show Steps p.tables e below (T8.setTop (mkF m 15 #[.val (.ref a0), .val (.int (2 : Int32))] [(.ref ae)])) _
        refine XS.iloadN X8.here hx rfl (hb hby d3_15) rfl ?_
        show Steps p.tables e below (T8.setTop (mkF m 16 #[.val (.ref a0), .val (.int (2 : Int32))] [(.int (2 : Int32)), (.ref ae)])) _
        refine X8.iaload hx (j := (2 : Int32)) (v := (.int e202)) (by rw [e8]; exact Are.1) (State.isArrayOf_alike hZ.alike Are.2.1) Are.2.2 (inb_of Se ⟨by decide, by decide⟩) (Has.at He (inb_of Se ⟨by decide, by decide⟩) rfl) (g := (mkF m 16 #[.val (.ref a0), .val (.int (2 : Int32))] [(.int (2 : Int32)), (.ref ae)])) rfl rfl (hb hby d3_16) _ ?_
        show Steps p.tables e below (T8.setTop (mkF m 17 #[.val (.ref a0), .val (.int (2 : Int32))] [(.int e202)])) _
        refine XS.aloadN X8.here hx rfl (hb hby d3_17) rfl rfl ?_
        exact kt
      obtain ⟨T9, X9, e9, st9⟩ := getF X8 hx hZ hown (host := "") (Or.inl (hw _ (List.mem_of_getElem? (i := 14) rfl))) Via.refl e8 Fn (g := (mkF m 18 #[.val (.ref a0), .val (.int (2 : Int32))] [(.ref a0), (.int e202)])) rfl rfl (hb hby d3_18)
      refine own_go (B := T9.setTop (mkF m 21 #[.val (.ref a0), .val (.int (2 : Int32))] [(.ref af), (.int e202)])) (fun t kt => st9 t kt) ?_
      refine own_go (B := T9.setTop (mkF m 23 #[.val (.ref a0), .val (.int (2 : Int32))] [(.int f202), (.int e202)])) (fun t kt => ?_) ?_
      · show Steps p.tables e below (T9.setTop (mkF m 21 #[.val (.ref a0), .val (.int (2 : Int32))] [(.ref af), (.int e202)])) _
        refine XS.iloadN X9.here hx rfl (hb hby d3_21) rfl ?_
        show Steps p.tables e below (T9.setTop (mkF m 22 #[.val (.ref a0), .val (.int (2 : Int32))] [(.int (2 : Int32)), (.ref af), (.int e202)])) _
        refine X9.iaload hx (j := (2 : Int32)) (v := (.int f202)) (by rw [e9]; exact Arf.1) (State.isArrayOf_alike hZ.alike Arf.2.1) Arf.2.2 (inb_of Sf ⟨by decide, by decide⟩) (Has.at Hf (inb_of Sf ⟨by decide, by decide⟩) rfl) (g := (mkF m 22 #[.val (.ref a0), .val (.int (2 : Int32))] [(.int (2 : Int32)), (.ref af), (.int e202)])) rfl rfl (hb hby d3_22) _ ?_
        exact kt
      by_cases hq2 : e202 = f202
      · refine own_go (B := T9.setTop (mkF m 2 #[.val (.ref a0), .val (.int (3 : Int32))] [])) (fun t kt => ?_) ?_
        · show Steps p.tables e below (T9.setTop (mkF m 23 #[.val (.ref a0), .val (.int (2 : Int32))] [(.int f202), (.int e202)])) _
          refine XS.icmpYes X9.here hx rfl (pc0 := 23) (pc' := 28) rfl (hb hby d3_23) rfl (teq hq2).1 (by decide) (by decide) ?_
          show Steps p.tables e below (T9.setTop (mkF m 28 #[.val (.ref a0), .val (.int (2 : Int32))] [])) _
          refine XS.iinc X9.here hx rfl (hb hby d3_28) rfl (l' := #[.val (.ref a0), .val (.int (3 : Int32))]) rfl ?_
          show Steps p.tables e below (T9.setTop (mkF m 31 #[.val (.ref a0), .val (.int (3 : Int32))] [])) _
          refine XS.goto X9.here hx rfl (pc0 := 31) (pc' := 2) rfl (hb hby d3_31) (by decide) (by decide) ?_
          exact kt
        refine own_go (B := T9.setTop (mkF m 4 #[.val (.ref a0), .val (.int (3 : Int32))] [(.ref a0), (.int (3 : Int32))])) (fun t kt => ?_) ?_
        · show Steps p.tables e below (T9.setTop (mkF m 2 #[.val (.ref a0), .val (.int (3 : Int32))] [])) _
          refine XS.iloadN X9.here hx rfl (hb hby d3_2) rfl ?_
          show Steps p.tables e below (T9.setTop (mkF m 3 #[.val (.ref a0), .val (.int (3 : Int32))] [(.int (3 : Int32))])) _
          refine XS.aloadN X9.here hx rfl (hb hby d3_3) rfl rfl ?_
          exact kt
        obtain ⟨T10, X10, e10, st10⟩ := getF X9 hx hZ hown (host := "") (Or.inl (hw _ (List.mem_of_getElem? (i := 12) rfl))) Via.refl e9 Fe (g := (mkF m 4 #[.val (.ref a0), .val (.int (3 : Int32))] [(.ref a0), (.int (3 : Int32))])) rfl rfl (hb hby d3_4)
        refine own_go (B := T10.setTop (mkF m 7 #[.val (.ref a0), .val (.int (3 : Int32))] [(.ref ae), (.int (3 : Int32))])) (fun t kt => st10 t kt) ?_
        refine own_go (B := T10.setTop (mkF m 35 #[.val (.ref a0), .val (.int (3 : Int32))] [(.int (1 : Int32))])) (fun t kt => ?_) ?_
        · show Steps p.tables e below (T10.setTop (mkF m 7 #[.val (.ref a0), .val (.int (3 : Int32))] [(.ref ae), (.int (3 : Int32))])) _
          refine X10.arraylength hx (by rw [e10]; exact Are.1) (State.isArrayOf_alike hZ.alike Are.2.1) (g := (mkF m 7 #[.val (.ref a0), .val (.int (3 : Int32))] [(.ref ae), (.int (3 : Int32))])) rfl rfl (hb hby d3_7) _ ?_
          rw [len_of Se Me]
          show Steps p.tables e below (T10.setTop (mkF m 8 #[.val (.ref a0), .val (.int (3 : Int32))] [(.int (3 : Int32)), (.int (3 : Int32))])) _
          refine XS.icmpYes X10.here hx rfl (pc0 := 8) (pc' := 34) rfl (hb hby d3_8) rfl (flt (by decide)).2.1 (by decide) (by decide) ?_
          show Steps p.tables e below (T10.setTop (mkF m 34 #[.val (.ref a0), .val (.int (3 : Int32))] [])) _
          refine XS.iconst X10.here hx rfl (hb hby d3_34) ?_
          exact kt
        obtain ⟨fs, hr, hrun, hended, hW, hsame⟩ := X10.leave (v := some (.int (1 : Int32))) (fun h => by rw [Bd.returns] at h; cases h)
        refine ⟨_, _, ?_, hrun, hended, _, _, rfl, ?_, ⟨_, rfl⟩, hW, hsame.mono (by decide) (by decide)⟩
        · show Steps p.tables e below (T10.setTop (mkF m 35 #[.val (.ref a0), .val (.int (3 : Int32))] [(.int (1 : Int32))])) _
          exact retN X10 hx (t := .boolean) Bd.returns (by simp) (hb hby d3_35) hr
        · show Q3 (if e200 = f200 then (if e201 = f201 then (if e202 = f202 then (1 : Int32) else (0 : Int32)) else (0 : Int32)) else (0 : Int32)) h0 n0 _ T10.heap _
          rw [e10]
          exact ⟨by rw [if_pos hq0, if_pos hq1, if_pos hq2], N0, rfl⟩
      · refine own_go (B := T9.setTop (mkF m 27 #[.val (.ref a0), .val (.int (2 : Int32))] [(.int (0 : Int32))])) (fun t kt => ?_) ?_
        · show Steps p.tables e below (T9.setTop (mkF m 23 #[.val (.ref a0), .val (.int (2 : Int32))] [(.int f202), (.int e202)])) _
          refine XS.icmpNo X9.here hx rfl (hb hby d3_23) rfl (feq hq2).1 ?_
          show Steps p.tables e below (T9.setTop (mkF m 26 #[.val (.ref a0), .val (.int (2 : Int32))] [])) _
          refine XS.iconst X9.here hx rfl (hb hby d3_26) ?_
          exact kt
        obtain ⟨fs, hr, hrun, hended, hW, hsame⟩ := X9.leave (v := some (.int (0 : Int32))) (fun h => by rw [Bd.returns] at h; cases h)
        refine ⟨_, _, ?_, hrun, hended, _, _, rfl, ?_, ⟨_, rfl⟩, hW, hsame.mono (by decide) (by decide)⟩
        · show Steps p.tables e below (T9.setTop (mkF m 27 #[.val (.ref a0), .val (.int (2 : Int32))] [(.int (0 : Int32))])) _
          exact retN X9 hx (t := .boolean) Bd.returns (by simp) (hb hby d3_27) hr
        · show Q3 (if e200 = f200 then (if e201 = f201 then (if e202 = f202 then (1 : Int32) else (0 : Int32)) else (0 : Int32)) else (0 : Int32)) h0 n0 _ T9.heap _
          rw [e9]
          exact ⟨by rw [if_pos hq0, if_pos hq1, if_neg hq2], N0, rfl⟩
    · refine own_go (B := T6.setTop (mkF m 27 #[.val (.ref a0), .val (.int (1 : Int32))] [(.int (0 : Int32))])) (fun t kt => ?_) ?_
      · show Steps p.tables e below (T6.setTop (mkF m 23 #[.val (.ref a0), .val (.int (1 : Int32))] [(.int f201), (.int e201)])) _
        refine XS.icmpNo X6.here hx rfl (hb hby d3_23) rfl (feq hq1).1 ?_
        show Steps p.tables e below (T6.setTop (mkF m 26 #[.val (.ref a0), .val (.int (1 : Int32))] [])) _
        refine XS.iconst X6.here hx rfl (hb hby d3_26) ?_
        exact kt
      obtain ⟨fs, hr, hrun, hended, hW, hsame⟩ := X6.leave (v := some (.int (0 : Int32))) (fun h => by rw [Bd.returns] at h; cases h)
      refine ⟨_, _, ?_, hrun, hended, _, _, rfl, ?_, ⟨_, rfl⟩, hW, hsame.mono (by decide) (by decide)⟩
      · show Steps p.tables e below (T6.setTop (mkF m 27 #[.val (.ref a0), .val (.int (1 : Int32))] [(.int (0 : Int32))])) _
        exact retN X6 hx (t := .boolean) Bd.returns (by simp) (hb hby d3_27) hr
      · show Q3 (if e200 = f200 then (if e201 = f201 then (if e202 = f202 then (1 : Int32) else (0 : Int32)) else (0 : Int32)) else (0 : Int32)) h0 n0 _ T6.heap _
        rw [e6]
        exact ⟨by rw [if_pos hq0, if_neg hq1], N0, rfl⟩
  · refine own_go (B := T3.setTop (mkF m 27 #[.val (.ref a0), .val (.int (0 : Int32))] [(.int (0 : Int32))])) (fun t kt => ?_) ?_
    · show Steps p.tables e below (T3.setTop (mkF m 23 #[.val (.ref a0), .val (.int (0 : Int32))] [(.int f200), (.int e200)])) _
      refine XS.icmpNo X3.here hx rfl (hb hby d3_23) rfl (feq hq0).1 ?_
      show Steps p.tables e below (T3.setTop (mkF m 26 #[.val (.ref a0), .val (.int (0 : Int32))] [])) _
      refine XS.iconst X3.here hx rfl (hb hby d3_26) ?_
      exact kt
    obtain ⟨fs, hr, hrun, hended, hW, hsame⟩ := X3.leave (v := some (.int (0 : Int32))) (fun h => by rw [Bd.returns] at h; cases h)
    refine ⟨_, _, ?_, hrun, hended, _, _, rfl, ?_, ⟨_, rfl⟩, hW, hsame.mono (by decide) (by decide)⟩
    · show Steps p.tables e below (T3.setTop (mkF m 27 #[.val (.ref a0), .val (.int (0 : Int32))] [(.int (0 : Int32))])) _
      exact retN X3 hx (t := .boolean) Bd.returns (by simp) (hb hby d3_27) hr
    · show Q3 (if e200 = f200 then (if e201 = f201 then (if e202 = f202 then (1 : Int32) else (0 : Int32)) else (0 : Int32)) else (0 : Int32)) h0 n0 _ T3.heap _
      rw [e3]
      exact ⟨by rw [if_neg hq0], N0, rfl⟩
theorem own_n4 {p1 nn : Int32} (h : nn = (p1 &&& (3 : Int32))) : nn = (0 : Int32) ∨ nn = (1 : Int32) ∨ nn = (2 : Int32) ∨ nn = (3 : Int32) := by
  have m1 := c_mask p1 (3 : Int32) 2 (by decide) (by decide)
  have t2 : ((2 ^ 2 : Nat) : Int) = 4 := by decide
  rw [t2, ← h] at m1
  have k0 : nn.toInt = 0 → nn = (0 : Int32) := fun e => Int32.toInt_inj.mp (e.trans (by decide))
  have k1 : nn.toInt = 1 → nn = (1 : Int32) := fun e => Int32.toInt_inj.mp (e.trans (by decide))
  have k2 : nn.toInt = 2 → nn = (2 : Int32) := fun e => Int32.toInt_inj.mp (e.trans (by decide))
  have k3 : nn.toInt = 3 → nn = (3 : Int32) := fun e => Int32.toInt_inj.mp (e.trans (by decide))
  have hd : nn.toInt = 0 ∨ nn.toInt = 1 ∨ nn.toInt = 2 ∨ nn.toInt = 3 := by omega
  rcases hd with h | h | h | h
  · exact Or.inl (k0 h)
  · exact Or.inr (Or.inl (k1 h))
  · exact Or.inr (Or.inr (Or.inl (k2 h)))
  · exact Or.inr (Or.inr (Or.inr (k3 h)))
theorem pd_0_0 : parseMethodDescriptor "(J[I[I)V" = some ⟨[.long, (.array .int), (.array .int)], none⟩ := by decide +kernel
theorem pd_0_1 : parseMethodDescriptor "()Z" = some ⟨[], some .boolean⟩ := by decide +kernel
theorem ef_0 (m : MethodId) (q0 : Int64) (p1 : Int32) (p2 : Int32) (p3 : Int32) (p4 : Int32) (p5 : Int32) : entryFrame m #[(.long q0), (.int p1), (.int p2), (.int p3), (.int p4), (.int p5)] maxLocals = mkF m 0 #[.val (.long q0), .second, .val (.int p1), .val (.int p2), .val (.int p3), .val (.int p4), .val (.int p5), .unset, .unset, .unset, .unset, .unset, .unset, .unset, .unset] [] := by first | (simp [entryFrame, mkF, argsToLocals, Value.category, maxLocals]; done) | rfl
theorem pn_0 : plainName "com/example/columella/columella/ipc/RenumberingKeepsEveryNumberPinLaw" = true := by first | (simp [plainName, overriddenIn]; done) | decide +kernel
def Q0 (n0 : Nat) (v : Option Value) (L : List Loc) : Prop := v = some (.int (1 : Int32)) ∧ Fr n0 L
set_option maxRecDepth 65536 in
set_option maxHeartbeats 40000000 in
theorem rm0 (l : Launch) (Z : State) (t0 : Array Value) (hw : ∀ d ∈ tables_1, d.before t0 Z = true) (ws : List Jvm.Cond) (q0 : Int64) (p1 : Int32) (p2 : Int32) (p3 : Int32) (p4 : Int32) (p5 : Int32) (h0 : Heap) (n0 : Nat) (Z0 : n0 ≤ h0.size)  :
    MetFree l x (head1 (Jvm.Cond.code x code maxLocals ret :: ws) room_1) (fun a U => a = #[(.long q0), (.int p1), (.int p2), (.int p3), (.int p4), (.int p5)] ∧ Z.Warmed39 U.vm ∧ U.heap = h0) (fun _ _ _ _ _ => True) (fun _ U o U' => ∃ v L, o = .returned v ∧ Q0 n0 v L ∧ FrameEnd U o U' L room_1.cells room_1.slots) := by
  refine MetFree.of_bodySF (plainFor_of_name pn_0) hisR ?_
  intro p e s m args below meth c s₁ Bd hml0 hP hK
  obtain ⟨rfl, hZ, hh⟩ := hP
  have hx := Bd.exec
  have hby := Bd.bytes
  have hml : c.maxLocals = 15 := hml0
  have hown : s.vm.findClass "com/example/columella/columella/ipc/RenumberingKeepsEveryNumberPinLaw" = some m.cls := findClass_of_methodNamed Bd.named
  have hnm := (name_of_methodNamed Bd.named Bd.method).1
  have X0 : Stand p l e room_1 s m #[(.long q0), (.int p1), (.int p2), (.int p3), (.int p4), (.int p5)] below meth c s₁ [] 0 0 := Stand.of_body Bd
  have e0 : s₁.heap = h0 := by rw [← hh, Bd.state]; rfl
  have N0 := Fr.nil n0
  have pre0 : ∀ t, Steps p.tables e below (s₁.setTop (mkF m 0 #[.val (.long q0), .second, .val (.int p1), .val (.int p2), .val (.int p3), .val (.int p4), .val (.int p5), .unset, .unset, .unset, .unset, .unset, .unset, .unset, .unset] [])) t → Steps p.tables e below (s₁.setTop (entryFrame m #[(.long q0), (.int p1), (.int p2), (.int p3), (.int p4), (.int p5)] maxLocals)) t := fun t k => castTop (ef_0 m q0 p1 p2 p3 p4 p5) k
  refine own_go pre0 ?_
  refine own_go (B := s₁.setTop (mkF m 5 #[.val (.long q0), .second, .val (.int p1), .val (.int p2), .val (.int p3), .val (.int p4), .val (.int p5), .val (.int (p1 &&& (3 : Int32))), .unset, .unset, .unset, .unset, .unset, .unset, .unset] [])) (fun t kt => ?_) ?_
  · show Steps p.tables e below (s₁.setTop (mkF m 0 #[.val (.long q0), .second, .val (.int p1), .val (.int p2), .val (.int p3), .val (.int p4), .val (.int p5), .unset, .unset, .unset, .unset, .unset, .unset, .unset, .unset] [])) _
    refine XS.iloadN X0.here hx rfl (hb hby at_0) rfl ?_
    show Steps p.tables e below (s₁.setTop (mkF m 1 #[.val (.long q0), .second, .val (.int p1), .val (.int p2), .val (.int p3), .val (.int p4), .val (.int p5), .unset, .unset, .unset, .unset, .unset, .unset, .unset, .unset] [(.int p1)])) _
    refine XS.iconst X0.here hx rfl (hb hby at_1) ?_
    show Steps p.tables e below (s₁.setTop (mkF m 2 #[.val (.long q0), .second, .val (.int p1), .val (.int p2), .val (.int p3), .val (.int p4), .val (.int p5), .unset, .unset, .unset, .unset, .unset, .unset, .unset, .unset] [(.int (3 : Int32)), (.int p1)])) _
    refine XS.iand X0.here hx rfl (hb hby at_2) rfl ?_
    show Steps p.tables e below (s₁.setTop (mkF m 3 #[.val (.long q0), .second, .val (.int p1), .val (.int p2), .val (.int p3), .val (.int p4), .val (.int p5), .unset, .unset, .unset, .unset, .unset, .unset, .unset, .unset] [(.int (p1 &&& (3 : Int32)))])) _
    refine XS.istore X0.here hx rfl (hb hby at_3) rfl (l' := #[.val (.long q0), .second, .val (.int p1), .val (.int p2), .val (.int p3), .val (.int p4), .val (.int p5), .val (.int (p1 &&& (3 : Int32))), .unset, .unset, .unset, .unset, .unset, .unset, .unset]) rfl ?_
    exact kt
  obtain ⟨nn, hnn⟩ : ∃ z : Int32, z = (p1 &&& (3 : Int32)) := ⟨_, rfl⟩
  rw [← hnn]
  obtain ⟨y0, hy0⟩ : ∃ z : Int32, z = (if (((p1.toUInt32 >>> ((2 : Int32) &&& 31).toUInt32).toInt32) &&& (1 : Int32)) = (0 : Int32) then (p2 ^^^ p5) else p2) := ⟨_, rfl⟩
  refine own_go (B := s₁.setTop (mkF m 21 #[.val (.long q0), .second, .val (.int p1), .val (.int p2), .val (.int p3), .val (.int p4), .val (.int p5), .val (.int nn), .unset, .unset, .unset, .unset, .unset, .unset, .unset] [(.int y0)])) (fun t kt => ?_) ?_
  · show Steps p.tables e below (s₁.setTop (mkF m 5 #[.val (.long q0), .second, .val (.int p1), .val (.int p2), .val (.int p3), .val (.int p4), .val (.int p5), .val (.int nn), .unset, .unset, .unset, .unset, .unset, .unset, .unset] [])) _
    refine XS.iloadN X0.here hx rfl (hb hby at_5) rfl ?_
    show Steps p.tables e below (s₁.setTop (mkF m 6 #[.val (.long q0), .second, .val (.int p1), .val (.int p2), .val (.int p3), .val (.int p4), .val (.int p5), .val (.int nn), .unset, .unset, .unset, .unset, .unset, .unset, .unset] [(.int p1)])) _
    refine XS.iconst X0.here hx rfl (hb hby at_6) ?_
    show Steps p.tables e below (s₁.setTop (mkF m 7 #[.val (.long q0), .second, .val (.int p1), .val (.int p2), .val (.int p3), .val (.int p4), .val (.int p5), .val (.int nn), .unset, .unset, .unset, .unset, .unset, .unset, .unset] [(.int (2 : Int32)), (.int p1)])) _
    refine XS.iushr X0.here hx rfl (hb hby at_7) rfl ?_
    show Steps p.tables e below (s₁.setTop (mkF m 8 #[.val (.long q0), .second, .val (.int p1), .val (.int p2), .val (.int p3), .val (.int p4), .val (.int p5), .val (.int nn), .unset, .unset, .unset, .unset, .unset, .unset, .unset] [(.int ((p1.toUInt32 >>> ((2 : Int32) &&& 31).toUInt32).toInt32))])) _
    refine XS.iconst X0.here hx rfl (hb hby at_8) ?_
    show Steps p.tables e below (s₁.setTop (mkF m 9 #[.val (.long q0), .second, .val (.int p1), .val (.int p2), .val (.int p3), .val (.int p4), .val (.int p5), .val (.int nn), .unset, .unset, .unset, .unset, .unset, .unset, .unset] [(.int (1 : Int32)), (.int ((p1.toUInt32 >>> ((2 : Int32) &&& 31).toUInt32).toInt32))])) _
    refine XS.iand X0.here hx rfl (hb hby at_9) rfl ?_
    by_cases hc10 : (((p1.toUInt32 >>> ((2 : Int32) &&& 31).toUInt32).toInt32) &&& (1 : Int32)) = (0 : Int32)
    · show Steps p.tables e below (s₁.setTop (mkF m 10 #[.val (.long q0), .second, .val (.int p1), .val (.int p2), .val (.int p3), .val (.int p4), .val (.int p5), .val (.int nn), .unset, .unset, .unset, .unset, .unset, .unset, .unset] [(.int (((p1.toUInt32 >>> ((2 : Int32) &&& 31).toUInt32).toInt32) &&& (1 : Int32)))])) _
      refine XS.ifYes X0.here hx rfl (pc0 := 10) (pc' := 17) rfl (hb hby at_10) rfl ((if0 _ _).trans (teq hc10).1) (by decide) (by decide) ?_
      show Steps p.tables e below (s₁.setTop (mkF m 17 #[.val (.long q0), .second, .val (.int p1), .val (.int p2), .val (.int p3), .val (.int p4), .val (.int p5), .val (.int nn), .unset, .unset, .unset, .unset, .unset, .unset, .unset] [])) _
      refine XS.iloadN X0.here hx rfl (hb hby at_17) rfl ?_
      show Steps p.tables e below (s₁.setTop (mkF m 18 #[.val (.long q0), .second, .val (.int p1), .val (.int p2), .val (.int p3), .val (.int p4), .val (.int p5), .val (.int nn), .unset, .unset, .unset, .unset, .unset, .unset, .unset] [(.int p2)])) _
      refine XS.iload X0.here hx rfl (hb hby at_18) rfl ?_
      show Steps p.tables e below (s₁.setTop (mkF m 20 #[.val (.long q0), .second, .val (.int p1), .val (.int p2), .val (.int p3), .val (.int p4), .val (.int p5), .val (.int nn), .unset, .unset, .unset, .unset, .unset, .unset, .unset] [(.int p5), (.int p2)])) _
      refine XS.ixor X0.here hx rfl (hb hby at_20) rfl ?_
      rw [show y0 = (p2 ^^^ p5) from by rw [hy0, if_pos hc10]] at kt
      exact kt
    · show Steps p.tables e below (s₁.setTop (mkF m 10 #[.val (.long q0), .second, .val (.int p1), .val (.int p2), .val (.int p3), .val (.int p4), .val (.int p5), .val (.int nn), .unset, .unset, .unset, .unset, .unset, .unset, .unset] [(.int (((p1.toUInt32 >>> ((2 : Int32) &&& 31).toUInt32).toInt32) &&& (1 : Int32)))])) _
      refine XS.ifNo X0.here hx rfl (hb hby at_10) rfl ((if0 _ _).trans (feq hc10).1) ?_
      show Steps p.tables e below (s₁.setTop (mkF m 13 #[.val (.long q0), .second, .val (.int p1), .val (.int p2), .val (.int p3), .val (.int p4), .val (.int p5), .val (.int nn), .unset, .unset, .unset, .unset, .unset, .unset, .unset] [])) _
      refine XS.iloadN X0.here hx rfl (hb hby at_13) rfl ?_
      show Steps p.tables e below (s₁.setTop (mkF m 14 #[.val (.long q0), .second, .val (.int p1), .val (.int p2), .val (.int p3), .val (.int p4), .val (.int p5), .val (.int nn), .unset, .unset, .unset, .unset, .unset, .unset, .unset] [(.int p2)])) _
      refine XS.goto X0.here hx rfl (pc0 := 14) (pc' := 21) rfl (hb hby at_14) (by decide) (by decide) ?_
      rw [show y0 = p2 from by rw [hy0, if_neg hc10]] at kt
      exact kt
  refine own_go (B := s₁.setTop (mkF m 23 #[.val (.long q0), .second, .val (.int p1), .val (.int p2), .val (.int p3), .val (.int p4), .val (.int p5), .val (.int nn), .val (.int y0), .unset, .unset, .unset, .unset, .unset, .unset] [])) (fun t kt => ?_) ?_
  · show Steps p.tables e below (s₁.setTop (mkF m 21 #[.val (.long q0), .second, .val (.int p1), .val (.int p2), .val (.int p3), .val (.int p4), .val (.int p5), .val (.int nn), .unset, .unset, .unset, .unset, .unset, .unset, .unset] [(.int y0)])) _
    refine XS.istore X0.here hx rfl (hb hby at_21) rfl (l' := #[.val (.long q0), .second, .val (.int p1), .val (.int p2), .val (.int p3), .val (.int p4), .val (.int p5), .val (.int nn), .val (.int y0), .unset, .unset, .unset, .unset, .unset, .unset]) rfl ?_
    exact kt
  obtain ⟨y1, hy1⟩ : ∃ z : Int32, z = (if (((p1.toUInt32 >>> ((3 : Int32) &&& 31).toUInt32).toInt32) &&& (1 : Int32)) = (0 : Int32) then (p3 ^^^ p5) else p3) := ⟨_, rfl⟩
  refine own_go (B := s₁.setTop (mkF m 41 #[.val (.long q0), .second, .val (.int p1), .val (.int p2), .val (.int p3), .val (.int p4), .val (.int p5), .val (.int nn), .val (.int y0), .unset, .unset, .unset, .unset, .unset, .unset] [(.int y1)])) (fun t kt => ?_) ?_
  · show Steps p.tables e below (s₁.setTop (mkF m 23 #[.val (.long q0), .second, .val (.int p1), .val (.int p2), .val (.int p3), .val (.int p4), .val (.int p5), .val (.int nn), .val (.int y0), .unset, .unset, .unset, .unset, .unset, .unset] [])) _
    refine XS.iloadN X0.here hx rfl (hb hby at_23) rfl ?_
    show Steps p.tables e below (s₁.setTop (mkF m 24 #[.val (.long q0), .second, .val (.int p1), .val (.int p2), .val (.int p3), .val (.int p4), .val (.int p5), .val (.int nn), .val (.int y0), .unset, .unset, .unset, .unset, .unset, .unset] [(.int p1)])) _
    refine XS.iconst X0.here hx rfl (hb hby at_24) ?_
    show Steps p.tables e below (s₁.setTop (mkF m 25 #[.val (.long q0), .second, .val (.int p1), .val (.int p2), .val (.int p3), .val (.int p4), .val (.int p5), .val (.int nn), .val (.int y0), .unset, .unset, .unset, .unset, .unset, .unset] [(.int (3 : Int32)), (.int p1)])) _
    refine XS.iushr X0.here hx rfl (hb hby at_25) rfl ?_
    show Steps p.tables e below (s₁.setTop (mkF m 26 #[.val (.long q0), .second, .val (.int p1), .val (.int p2), .val (.int p3), .val (.int p4), .val (.int p5), .val (.int nn), .val (.int y0), .unset, .unset, .unset, .unset, .unset, .unset] [(.int ((p1.toUInt32 >>> ((3 : Int32) &&& 31).toUInt32).toInt32))])) _
    refine XS.iconst X0.here hx rfl (hb hby at_26) ?_
    show Steps p.tables e below (s₁.setTop (mkF m 27 #[.val (.long q0), .second, .val (.int p1), .val (.int p2), .val (.int p3), .val (.int p4), .val (.int p5), .val (.int nn), .val (.int y0), .unset, .unset, .unset, .unset, .unset, .unset] [(.int (1 : Int32)), (.int ((p1.toUInt32 >>> ((3 : Int32) &&& 31).toUInt32).toInt32))])) _
    refine XS.iand X0.here hx rfl (hb hby at_27) rfl ?_
    by_cases hc28 : (((p1.toUInt32 >>> ((3 : Int32) &&& 31).toUInt32).toInt32) &&& (1 : Int32)) = (0 : Int32)
    · show Steps p.tables e below (s₁.setTop (mkF m 28 #[.val (.long q0), .second, .val (.int p1), .val (.int p2), .val (.int p3), .val (.int p4), .val (.int p5), .val (.int nn), .val (.int y0), .unset, .unset, .unset, .unset, .unset, .unset] [(.int (((p1.toUInt32 >>> ((3 : Int32) &&& 31).toUInt32).toInt32) &&& (1 : Int32)))])) _
      refine XS.ifYes X0.here hx rfl (pc0 := 28) (pc' := 36) rfl (hb hby at_28) rfl ((if0 _ _).trans (teq hc28).1) (by decide) (by decide) ?_
      show Steps p.tables e below (s₁.setTop (mkF m 36 #[.val (.long q0), .second, .val (.int p1), .val (.int p2), .val (.int p3), .val (.int p4), .val (.int p5), .val (.int nn), .val (.int y0), .unset, .unset, .unset, .unset, .unset, .unset] [])) _
      refine XS.iload X0.here hx rfl (hb hby at_36) rfl ?_
      show Steps p.tables e below (s₁.setTop (mkF m 38 #[.val (.long q0), .second, .val (.int p1), .val (.int p2), .val (.int p3), .val (.int p4), .val (.int p5), .val (.int nn), .val (.int y0), .unset, .unset, .unset, .unset, .unset, .unset] [(.int p3)])) _
      refine XS.iload X0.here hx rfl (hb hby at_38) rfl ?_
      show Steps p.tables e below (s₁.setTop (mkF m 40 #[.val (.long q0), .second, .val (.int p1), .val (.int p2), .val (.int p3), .val (.int p4), .val (.int p5), .val (.int nn), .val (.int y0), .unset, .unset, .unset, .unset, .unset, .unset] [(.int p5), (.int p3)])) _
      refine XS.ixor X0.here hx rfl (hb hby at_40) rfl ?_
      rw [show y1 = (p3 ^^^ p5) from by rw [hy1, if_pos hc28]] at kt
      exact kt
    · show Steps p.tables e below (s₁.setTop (mkF m 28 #[.val (.long q0), .second, .val (.int p1), .val (.int p2), .val (.int p3), .val (.int p4), .val (.int p5), .val (.int nn), .val (.int y0), .unset, .unset, .unset, .unset, .unset, .unset] [(.int (((p1.toUInt32 >>> ((3 : Int32) &&& 31).toUInt32).toInt32) &&& (1 : Int32)))])) _
      refine XS.ifNo X0.here hx rfl (hb hby at_28) rfl ((if0 _ _).trans (feq hc28).1) ?_
      show Steps p.tables e below (s₁.setTop (mkF m 31 #[.val (.long q0), .second, .val (.int p1), .val (.int p2), .val (.int p3), .val (.int p4), .val (.int p5), .val (.int nn), .val (.int y0), .unset, .unset, .unset, .unset, .unset, .unset] [])) _
      refine XS.iload X0.here hx rfl (hb hby at_31) rfl ?_
      show Steps p.tables e below (s₁.setTop (mkF m 33 #[.val (.long q0), .second, .val (.int p1), .val (.int p2), .val (.int p3), .val (.int p4), .val (.int p5), .val (.int nn), .val (.int y0), .unset, .unset, .unset, .unset, .unset, .unset] [(.int p3)])) _
      refine XS.goto X0.here hx rfl (pc0 := 33) (pc' := 41) rfl (hb hby at_33) (by decide) (by decide) ?_
      rw [show y1 = p3 from by rw [hy1, if_neg hc28]] at kt
      exact kt
  refine own_go (B := s₁.setTop (mkF m 43 #[.val (.long q0), .second, .val (.int p1), .val (.int p2), .val (.int p3), .val (.int p4), .val (.int p5), .val (.int nn), .val (.int y0), .val (.int y1), .unset, .unset, .unset, .unset, .unset] [])) (fun t kt => ?_) ?_
  · show Steps p.tables e below (s₁.setTop (mkF m 41 #[.val (.long q0), .second, .val (.int p1), .val (.int p2), .val (.int p3), .val (.int p4), .val (.int p5), .val (.int nn), .val (.int y0), .unset, .unset, .unset, .unset, .unset, .unset] [(.int y1)])) _
    refine XS.istore X0.here hx rfl (hb hby at_41) rfl (l' := #[.val (.long q0), .second, .val (.int p1), .val (.int p2), .val (.int p3), .val (.int p4), .val (.int p5), .val (.int nn), .val (.int y0), .val (.int y1), .unset, .unset, .unset, .unset, .unset]) rfl ?_
    exact kt
  obtain ⟨y2, hy2⟩ : ∃ z : Int32, z = (if (((p1.toUInt32 >>> ((4 : Int32) &&& 31).toUInt32).toInt32) &&& (1 : Int32)) = (0 : Int32) then (p4 ^^^ p5) else p4) := ⟨_, rfl⟩
  refine own_go (B := s₁.setTop (mkF m 61 #[.val (.long q0), .second, .val (.int p1), .val (.int p2), .val (.int p3), .val (.int p4), .val (.int p5), .val (.int nn), .val (.int y0), .val (.int y1), .unset, .unset, .unset, .unset, .unset] [(.int y2)])) (fun t kt => ?_) ?_
  · show Steps p.tables e below (s₁.setTop (mkF m 43 #[.val (.long q0), .second, .val (.int p1), .val (.int p2), .val (.int p3), .val (.int p4), .val (.int p5), .val (.int nn), .val (.int y0), .val (.int y1), .unset, .unset, .unset, .unset, .unset] [])) _
    refine XS.iloadN X0.here hx rfl (hb hby at_43) rfl ?_
    show Steps p.tables e below (s₁.setTop (mkF m 44 #[.val (.long q0), .second, .val (.int p1), .val (.int p2), .val (.int p3), .val (.int p4), .val (.int p5), .val (.int nn), .val (.int y0), .val (.int y1), .unset, .unset, .unset, .unset, .unset] [(.int p1)])) _
    refine XS.iconst X0.here hx rfl (hb hby at_44) ?_
    show Steps p.tables e below (s₁.setTop (mkF m 45 #[.val (.long q0), .second, .val (.int p1), .val (.int p2), .val (.int p3), .val (.int p4), .val (.int p5), .val (.int nn), .val (.int y0), .val (.int y1), .unset, .unset, .unset, .unset, .unset] [(.int (4 : Int32)), (.int p1)])) _
    refine XS.iushr X0.here hx rfl (hb hby at_45) rfl ?_
    show Steps p.tables e below (s₁.setTop (mkF m 46 #[.val (.long q0), .second, .val (.int p1), .val (.int p2), .val (.int p3), .val (.int p4), .val (.int p5), .val (.int nn), .val (.int y0), .val (.int y1), .unset, .unset, .unset, .unset, .unset] [(.int ((p1.toUInt32 >>> ((4 : Int32) &&& 31).toUInt32).toInt32))])) _
    refine XS.iconst X0.here hx rfl (hb hby at_46) ?_
    show Steps p.tables e below (s₁.setTop (mkF m 47 #[.val (.long q0), .second, .val (.int p1), .val (.int p2), .val (.int p3), .val (.int p4), .val (.int p5), .val (.int nn), .val (.int y0), .val (.int y1), .unset, .unset, .unset, .unset, .unset] [(.int (1 : Int32)), (.int ((p1.toUInt32 >>> ((4 : Int32) &&& 31).toUInt32).toInt32))])) _
    refine XS.iand X0.here hx rfl (hb hby at_47) rfl ?_
    by_cases hc48 : (((p1.toUInt32 >>> ((4 : Int32) &&& 31).toUInt32).toInt32) &&& (1 : Int32)) = (0 : Int32)
    · show Steps p.tables e below (s₁.setTop (mkF m 48 #[.val (.long q0), .second, .val (.int p1), .val (.int p2), .val (.int p3), .val (.int p4), .val (.int p5), .val (.int nn), .val (.int y0), .val (.int y1), .unset, .unset, .unset, .unset, .unset] [(.int (((p1.toUInt32 >>> ((4 : Int32) &&& 31).toUInt32).toInt32) &&& (1 : Int32)))])) _
      refine XS.ifYes X0.here hx rfl (pc0 := 48) (pc' := 56) rfl (hb hby at_48) rfl ((if0 _ _).trans (teq hc48).1) (by decide) (by decide) ?_
      show Steps p.tables e below (s₁.setTop (mkF m 56 #[.val (.long q0), .second, .val (.int p1), .val (.int p2), .val (.int p3), .val (.int p4), .val (.int p5), .val (.int nn), .val (.int y0), .val (.int y1), .unset, .unset, .unset, .unset, .unset] [])) _
      refine XS.iload X0.here hx rfl (hb hby at_56) rfl ?_
      show Steps p.tables e below (s₁.setTop (mkF m 58 #[.val (.long q0), .second, .val (.int p1), .val (.int p2), .val (.int p3), .val (.int p4), .val (.int p5), .val (.int nn), .val (.int y0), .val (.int y1), .unset, .unset, .unset, .unset, .unset] [(.int p4)])) _
      refine XS.iload X0.here hx rfl (hb hby at_58) rfl ?_
      show Steps p.tables e below (s₁.setTop (mkF m 60 #[.val (.long q0), .second, .val (.int p1), .val (.int p2), .val (.int p3), .val (.int p4), .val (.int p5), .val (.int nn), .val (.int y0), .val (.int y1), .unset, .unset, .unset, .unset, .unset] [(.int p5), (.int p4)])) _
      refine XS.ixor X0.here hx rfl (hb hby at_60) rfl ?_
      rw [show y2 = (p4 ^^^ p5) from by rw [hy2, if_pos hc48]] at kt
      exact kt
    · show Steps p.tables e below (s₁.setTop (mkF m 48 #[.val (.long q0), .second, .val (.int p1), .val (.int p2), .val (.int p3), .val (.int p4), .val (.int p5), .val (.int nn), .val (.int y0), .val (.int y1), .unset, .unset, .unset, .unset, .unset] [(.int (((p1.toUInt32 >>> ((4 : Int32) &&& 31).toUInt32).toInt32) &&& (1 : Int32)))])) _
      refine XS.ifNo X0.here hx rfl (hb hby at_48) rfl ((if0 _ _).trans (feq hc48).1) ?_
      show Steps p.tables e below (s₁.setTop (mkF m 51 #[.val (.long q0), .second, .val (.int p1), .val (.int p2), .val (.int p3), .val (.int p4), .val (.int p5), .val (.int nn), .val (.int y0), .val (.int y1), .unset, .unset, .unset, .unset, .unset] [])) _
      refine XS.iload X0.here hx rfl (hb hby at_51) rfl ?_
      show Steps p.tables e below (s₁.setTop (mkF m 53 #[.val (.long q0), .second, .val (.int p1), .val (.int p2), .val (.int p3), .val (.int p4), .val (.int p5), .val (.int nn), .val (.int y0), .val (.int y1), .unset, .unset, .unset, .unset, .unset] [(.int p4)])) _
      refine XS.goto X0.here hx rfl (pc0 := 53) (pc' := 61) rfl (hb hby at_53) (by decide) (by decide) ?_
      rw [show y2 = p4 from by rw [hy2, if_neg hc48]] at kt
      exact kt
  refine own_go (B := s₁.setTop (mkF m 63 #[.val (.long q0), .second, .val (.int p1), .val (.int p2), .val (.int p3), .val (.int p4), .val (.int p5), .val (.int nn), .val (.int y0), .val (.int y1), .val (.int y2), .unset, .unset, .unset, .unset] [])) (fun t kt => ?_) ?_
  · show Steps p.tables e below (s₁.setTop (mkF m 61 #[.val (.long q0), .second, .val (.int p1), .val (.int p2), .val (.int p3), .val (.int p4), .val (.int p5), .val (.int nn), .val (.int y0), .val (.int y1), .unset, .unset, .unset, .unset, .unset] [(.int y2)])) _
    refine XS.istore X0.here hx rfl (hb hby at_61) rfl (l' := #[.val (.long q0), .second, .val (.int p1), .val (.int p2), .val (.int p3), .val (.int p4), .val (.int p5), .val (.int nn), .val (.int y0), .val (.int y1), .val (.int y2), .unset, .unset, .unset, .unset]) rfl ?_
    exact kt
  rcases own_n4 hnn with rfl | rfl | rfl | rfl
  · refine own_go (B := s₁.setTop (mkF m 65 #[.val (.long q0), .second, .val (.int p1), .val (.int p2), .val (.int p3), .val (.int p4), .val (.int p5), .val (.int (0 : Int32)), .val (.int y0), .val (.int y1), .val (.int y2), .unset, .unset, .unset, .unset] [(.int (0 : Int32))])) (fun t kt => ?_) ?_
    · show Steps p.tables e below (s₁.setTop (mkF m 63 #[.val (.long q0), .second, .val (.int p1), .val (.int p2), .val (.int p3), .val (.int p4), .val (.int p5), .val (.int (0 : Int32)), .val (.int y0), .val (.int y1), .val (.int y2), .unset, .unset, .unset, .unset] [])) _
      refine XS.iload X0.here hx rfl (hb hby at_63) rfl ?_
      exact kt
    obtain ⟨T1, h1, k1, X1, e1, E1, A1, st1⟩ := newP X0 hx hZ (hw _ (List.mem_of_getElem? (i := 0) rfl)) e0 (g := (mkF m 65 #[.val (.long q0), .second, .val (.int p1), .val (.int p2), .val (.int p3), .val (.int p4), .val (.int p5), .val (.int (0 : Int32)), .val (.int y0), .val (.int y1), .val (.int y2), .unset, .unset, .unset, .unset] [(.int (0 : Int32))])) rfl (hb hby at_65) rfl (by decide) (cap := 0) (by decide) (by decide) (by decide) (by decide)
    obtain ⟨b1, g1⟩ : ∃ z, z = h0.size := ⟨_, rfl⟩
    rw [← g1] at A1 st1
    have g_b1 : n0 ≤ b1 := Nat.le_trans Z0 (Nat.le_of_eq g1.symm)
    have Z1 : n0 ≤ h1.size := Nat.le_trans Z0 E1.1
    have V_b1 : Arv Z h1 b1 k1 .int (0 : Int32) [] (.int (0 : Int32)) := (Arv.new A1 (by decide)).pad (pad_rep [] (.int (0 : Int32)) 0)
    refine own_go (B := T1.setTop (mkF m 67 #[.val (.long q0), .second, .val (.int p1), .val (.int p2), .val (.int p3), .val (.int p4), .val (.int p5), .val (.int (0 : Int32)), .val (.int y0), .val (.int y1), .val (.int y2), .unset, .unset, .unset, .unset] [(.ref b1)])) (fun t kt => st1 t kt) ?_
    refine own_go (B := T1.setTop (mkF m 71 #[.val (.long q0), .second, .val (.int p1), .val (.int p2), .val (.int p3), .val (.int p4), .val (.int p5), .val (.int (0 : Int32)), .val (.int y0), .val (.int y1), .val (.int y2), .val (.ref b1), .unset, .unset, .unset] [(.int (0 : Int32))])) (fun t kt => ?_) ?_
    · show Steps p.tables e below (T1.setTop (mkF m 67 #[.val (.long q0), .second, .val (.int p1), .val (.int p2), .val (.int p3), .val (.int p4), .val (.int p5), .val (.int (0 : Int32)), .val (.int y0), .val (.int y1), .val (.int y2), .unset, .unset, .unset, .unset] [(.ref b1)])) _
      refine XS.astore X1.here hx rfl (hb hby at_67) rfl rfl (l' := #[.val (.long q0), .second, .val (.int p1), .val (.int p2), .val (.int p3), .val (.int p4), .val (.int p5), .val (.int (0 : Int32)), .val (.int y0), .val (.int y1), .val (.int y2), .val (.ref b1), .unset, .unset, .unset]) rfl ?_
      show Steps p.tables e below (T1.setTop (mkF m 69 #[.val (.long q0), .second, .val (.int p1), .val (.int p2), .val (.int p3), .val (.int p4), .val (.int p5), .val (.int (0 : Int32)), .val (.int y0), .val (.int y1), .val (.int y2), .val (.ref b1), .unset, .unset, .unset] [])) _
      refine XS.iload X1.here hx rfl (hb hby at_69) rfl ?_
      exact kt
    obtain ⟨T2, h2, k2, X2, e2, E2, A2, st2⟩ := newP X1 hx hZ (hw _ (List.mem_of_getElem? (i := 0) rfl)) e1 (g := (mkF m 71 #[.val (.long q0), .second, .val (.int p1), .val (.int p2), .val (.int p3), .val (.int p4), .val (.int p5), .val (.int (0 : Int32)), .val (.int y0), .val (.int y1), .val (.int y2), .val (.ref b1), .unset, .unset, .unset] [(.int (0 : Int32))])) rfl (hb hby at_71) rfl (by decide) (cap := 0) (by decide) (by decide) (by decide) (by decide)
    obtain ⟨b2, g2⟩ : ∃ z, z = h1.size := ⟨_, rfl⟩
    rw [← g2] at A2 st2
    have g_b2 : n0 ≤ b2 := Nat.le_trans Z1 (Nat.le_of_eq g2.symm)
    have ne_b1_b2 : b1 ≠ b2 := Nat.ne_of_lt (Nat.lt_of_lt_of_le V_b1.lt (Nat.le_of_eq g2.symm))
    have V_b1_2 := V_b1.ext E2
    have Z2 : n0 ≤ h2.size := Nat.le_trans Z1 E2.1
    have V_b2 : Arv Z h2 b2 k2 .int (0 : Int32) [] (.int (0 : Int32)) := (Arv.new A2 (by decide)).pad (pad_rep [] (.int (0 : Int32)) 0)
    refine own_go (B := T2.setTop (mkF m 73 #[.val (.long q0), .second, .val (.int p1), .val (.int p2), .val (.int p3), .val (.int p4), .val (.int p5), .val (.int (0 : Int32)), .val (.int y0), .val (.int y1), .val (.int y2), .val (.ref b1), .unset, .unset, .unset] [(.ref b2)])) (fun t kt => st2 t kt) ?_
    refine own_go (B := T2.setTop (mkF m 75 #[.val (.long q0), .second, .val (.int p1), .val (.int p2), .val (.int p3), .val (.int p4), .val (.int p5), .val (.int (0 : Int32)), .val (.int y0), .val (.int y1), .val (.int y2), .val (.ref b1), .val (.ref b2), .unset, .unset] [])) (fun t kt => ?_) ?_
    · show Steps p.tables e below (T2.setTop (mkF m 73 #[.val (.long q0), .second, .val (.int p1), .val (.int p2), .val (.int p3), .val (.int p4), .val (.int p5), .val (.int (0 : Int32)), .val (.int y0), .val (.int y1), .val (.int y2), .val (.ref b1), .unset, .unset, .unset] [(.ref b2)])) _
      refine XS.astore X2.here hx rfl (hb hby at_73) rfl rfl (l' := #[.val (.long q0), .second, .val (.int p1), .val (.int p2), .val (.int p3), .val (.int p4), .val (.int p5), .val (.int (0 : Int32)), .val (.int y0), .val (.int y1), .val (.int y2), .val (.ref b1), .val (.ref b2), .unset, .unset]) rfl ?_
      exact kt
    refine own_go (B := T2.setTop (mkF m 127 #[.val (.long q0), .second, .val (.int p1), .val (.int p2), .val (.int p3), .val (.int p4), .val (.int p5), .val (.int (0 : Int32)), .val (.int y0), .val (.int y1), .val (.int y2), .val (.ref b1), .val (.ref b2), .unset, .unset] [])) (fun t kt => ?_) ?_
    · show Steps p.tables e below (T2.setTop (mkF m 75 #[.val (.long q0), .second, .val (.int p1), .val (.int p2), .val (.int p3), .val (.int p4), .val (.int p5), .val (.int (0 : Int32)), .val (.int y0), .val (.int y1), .val (.int y2), .val (.ref b1), .val (.ref b2), .unset, .unset] [])) _
      refine XS.iload X2.here hx rfl (hb hby at_75) rfl ?_
      show Steps p.tables e below (T2.setTop (mkF m 77 #[.val (.long q0), .second, .val (.int p1), .val (.int p2), .val (.int p3), .val (.int p4), .val (.int p5), .val (.int (0 : Int32)), .val (.int y0), .val (.int y1), .val (.int y2), .val (.ref b1), .val (.ref b2), .unset, .unset] [(.int (0 : Int32))])) _
      refine XS.ifYes X2.here hx rfl (pc0 := 77) (pc' := 91) rfl (hb hby at_77) rfl ((if0 _ _).trans (flt (by decide)).2.2.2) (by decide) (by decide) ?_
      show Steps p.tables e below (T2.setTop (mkF m 91 #[.val (.long q0), .second, .val (.int p1), .val (.int p2), .val (.int p3), .val (.int p4), .val (.int p5), .val (.int (0 : Int32)), .val (.int y0), .val (.int y1), .val (.int y2), .val (.ref b1), .val (.ref b2), .unset, .unset] [])) _
      refine XS.iload X2.here hx rfl (hb hby at_91) rfl ?_
      show Steps p.tables e below (T2.setTop (mkF m 93 #[.val (.long q0), .second, .val (.int p1), .val (.int p2), .val (.int p3), .val (.int p4), .val (.int p5), .val (.int (0 : Int32)), .val (.int y0), .val (.int y1), .val (.int y2), .val (.ref b1), .val (.ref b2), .unset, .unset] [(.int (0 : Int32))])) _
      refine XS.iconst X2.here hx rfl (hb hby at_93) ?_
      show Steps p.tables e below (T2.setTop (mkF m 94 #[.val (.long q0), .second, .val (.int p1), .val (.int p2), .val (.int p3), .val (.int p4), .val (.int p5), .val (.int (0 : Int32)), .val (.int y0), .val (.int y1), .val (.int y2), .val (.ref b1), .val (.ref b2), .unset, .unset] [(.int (1 : Int32)), (.int (0 : Int32))])) _
      refine XS.icmpYes X2.here hx rfl (pc0 := 94) (pc' := 109) rfl (hb hby at_94) rfl (flt (by decide)).2.2.2 (by decide) (by decide) ?_
      show Steps p.tables e below (T2.setTop (mkF m 109 #[.val (.long q0), .second, .val (.int p1), .val (.int p2), .val (.int p3), .val (.int p4), .val (.int p5), .val (.int (0 : Int32)), .val (.int y0), .val (.int y1), .val (.int y2), .val (.ref b1), .val (.ref b2), .unset, .unset] [])) _
      refine XS.iload X2.here hx rfl (hb hby at_109) rfl ?_
      show Steps p.tables e below (T2.setTop (mkF m 111 #[.val (.long q0), .second, .val (.int p1), .val (.int p2), .val (.int p3), .val (.int p4), .val (.int p5), .val (.int (0 : Int32)), .val (.int y0), .val (.int y1), .val (.int y2), .val (.ref b1), .val (.ref b2), .unset, .unset] [(.int (0 : Int32))])) _
      refine XS.iconst X2.here hx rfl (hb hby at_111) ?_
      show Steps p.tables e below (T2.setTop (mkF m 112 #[.val (.long q0), .second, .val (.int p1), .val (.int p2), .val (.int p3), .val (.int p4), .val (.int p5), .val (.int (0 : Int32)), .val (.int y0), .val (.int y1), .val (.int y2), .val (.ref b1), .val (.ref b2), .unset, .unset] [(.int (2 : Int32)), (.int (0 : Int32))])) _
      refine XS.icmpYes X2.here hx rfl (pc0 := 112) (pc' := 127) rfl (hb hby at_112) rfl (flt (by decide)).2.2.2 (by decide) (by decide) ?_
      exact kt
    refine own_go (B := T2.setTop (mkF m 170 #[.val (.long q0), .second, .val (.int p1), .val (.int p2), .val (.int p3), .val (.int p4), .val (.int p5), .val (.int (0 : Int32)), .val (.int y0), .val (.int y1), .val (.int y2), .val (.ref b1), .val (.ref b2), .unset, .unset] [(.int (1 : Int32))])) (fun t kt => ?_) ?_
    · show Steps p.tables e below (T2.setTop (mkF m 127 #[.val (.long q0), .second, .val (.int p1), .val (.int p2), .val (.int p3), .val (.int p4), .val (.int p5), .val (.int (0 : Int32)), .val (.int y0), .val (.int y1), .val (.int y2), .val (.ref b1), .val (.ref b2), .unset, .unset] [])) _
      refine XS.iload X2.here hx rfl (hb hby at_127) rfl ?_
      show Steps p.tables e below (T2.setTop (mkF m 129 #[.val (.long q0), .second, .val (.int p1), .val (.int p2), .val (.int p3), .val (.int p4), .val (.int p5), .val (.int (0 : Int32)), .val (.int y0), .val (.int y1), .val (.int y2), .val (.ref b1), .val (.ref b2), .unset, .unset] [(.int (0 : Int32))])) _
      refine XS.iconst X2.here hx rfl (hb hby at_129) ?_
      show Steps p.tables e below (T2.setTop (mkF m 130 #[.val (.long q0), .second, .val (.int p1), .val (.int p2), .val (.int p3), .val (.int p4), .val (.int p5), .val (.int (0 : Int32)), .val (.int y0), .val (.int y1), .val (.int y2), .val (.ref b1), .val (.ref b2), .unset, .unset] [(.int (1 : Int32)), (.int (0 : Int32))])) _
      refine XS.icmpYes X2.here hx rfl (pc0 := 130) (pc' := 139) rfl (hb hby at_130) rfl (tlt (by decide)).1 (by decide) (by decide) ?_
      show Steps p.tables e below (T2.setTop (mkF m 139 #[.val (.long q0), .second, .val (.int p1), .val (.int p2), .val (.int p3), .val (.int p4), .val (.int p5), .val (.int (0 : Int32)), .val (.int y0), .val (.int y1), .val (.int y2), .val (.ref b1), .val (.ref b2), .unset, .unset] [])) _
      refine XS.iload X2.here hx rfl (hb hby at_139) rfl ?_
      show Steps p.tables e below (T2.setTop (mkF m 141 #[.val (.long q0), .second, .val (.int p1), .val (.int p2), .val (.int p3), .val (.int p4), .val (.int p5), .val (.int (0 : Int32)), .val (.int y0), .val (.int y1), .val (.int y2), .val (.ref b1), .val (.ref b2), .unset, .unset] [(.int (0 : Int32))])) _
      refine XS.iconst X2.here hx rfl (hb hby at_141) ?_
      show Steps p.tables e below (T2.setTop (mkF m 142 #[.val (.long q0), .second, .val (.int p1), .val (.int p2), .val (.int p3), .val (.int p4), .val (.int p5), .val (.int (0 : Int32)), .val (.int y0), .val (.int y1), .val (.int y2), .val (.ref b1), .val (.ref b2), .unset, .unset] [(.int (2 : Int32)), (.int (0 : Int32))])) _
      refine XS.icmpYes X2.here hx rfl (pc0 := 142) (pc' := 152) rfl (hb hby at_142) rfl (tlt (by decide)).1 (by decide) (by decide) ?_
      show Steps p.tables e below (T2.setTop (mkF m 152 #[.val (.long q0), .second, .val (.int p1), .val (.int p2), .val (.int p3), .val (.int p4), .val (.int p5), .val (.int (0 : Int32)), .val (.int y0), .val (.int y1), .val (.int y2), .val (.ref b1), .val (.ref b2), .unset, .unset] [])) _
      refine XS.iload X2.here hx rfl (hb hby at_152) rfl ?_
      show Steps p.tables e below (T2.setTop (mkF m 154 #[.val (.long q0), .second, .val (.int p1), .val (.int p2), .val (.int p3), .val (.int p4), .val (.int p5), .val (.int (0 : Int32)), .val (.int y0), .val (.int y1), .val (.int y2), .val (.ref b1), .val (.ref b2), .unset, .unset] [(.int (0 : Int32))])) _
      refine XS.iconst X2.here hx rfl (hb hby at_154) ?_
      show Steps p.tables e below (T2.setTop (mkF m 155 #[.val (.long q0), .second, .val (.int p1), .val (.int p2), .val (.int p3), .val (.int p4), .val (.int p5), .val (.int (0 : Int32)), .val (.int y0), .val (.int y1), .val (.int y2), .val (.ref b1), .val (.ref b2), .unset, .unset] [(.int (3 : Int32)), (.int (0 : Int32))])) _
      refine XS.icmpYes X2.here hx rfl (pc0 := 155) (pc' := 165) rfl (hb hby at_155) rfl (tlt (by decide)).1 (by decide) (by decide) ?_
      show Steps p.tables e below (T2.setTop (mkF m 165 #[.val (.long q0), .second, .val (.int p1), .val (.int p2), .val (.int p3), .val (.int p4), .val (.int p5), .val (.int (0 : Int32)), .val (.int y0), .val (.int y1), .val (.int y2), .val (.ref b1), .val (.ref b2), .unset, .unset] [])) _
      refine XS.iconst X2.here hx rfl (hb hby at_165) ?_
      show Steps p.tables e below (T2.setTop (mkF m 166 #[.val (.long q0), .second, .val (.int p1), .val (.int p2), .val (.int p3), .val (.int p4), .val (.int p5), .val (.int (0 : Int32)), .val (.int y0), .val (.int y1), .val (.int y2), .val (.ref b1), .val (.ref b2), .unset, .unset] [(.int (1 : Int32))])) _
      refine XS.goto X2.here hx rfl (pc0 := 166) (pc' := 170) rfl (hb hby at_166) (by decide) (by decide) ?_
      exact kt
    refine own_go (B := T2.setTop (mkF m 172 #[.val (.long q0), .second, .val (.int p1), .val (.int p2), .val (.int p3), .val (.int p4), .val (.int p5), .val (.int (0 : Int32)), .val (.int y0), .val (.int y1), .val (.int y2), .val (.ref b1), .val (.ref b2), .val (.int (1 : Int32)), .unset] [])) (fun t kt => ?_) ?_
    · show Steps p.tables e below (T2.setTop (mkF m 170 #[.val (.long q0), .second, .val (.int p1), .val (.int p2), .val (.int p3), .val (.int p4), .val (.int p5), .val (.int (0 : Int32)), .val (.int y0), .val (.int y1), .val (.int y2), .val (.ref b1), .val (.ref b2), .unset, .unset] [(.int (1 : Int32))])) _
      refine XS.istore X2.here hx rfl (hb hby at_170) rfl (l' := #[.val (.long q0), .second, .val (.int p1), .val (.int p2), .val (.int p3), .val (.int p4), .val (.int p5), .val (.int (0 : Int32)), .val (.int y0), .val (.int y1), .val (.int y2), .val (.ref b1), .val (.ref b2), .val (.int (1 : Int32)), .unset]) rfl ?_
      exact kt
    obtain ⟨T3, h3, X3, e3, E3, A3, D3, -, st3⟩ := newO X2 hx hZ hown (hw _ (List.mem_of_getElem? (i := 1) rfl)) (hw _ (List.mem_of_getElem? (i := 2) rfl)) (hw _ (List.mem_of_getElem? (i := 3) rfl)) e2 (g := (mkF m 172 #[.val (.long q0), .second, .val (.int p1), .val (.int p2), .val (.int p3), .val (.int p4), .val (.int p5), .val (.int (0 : Int32)), .val (.int y0), .val (.int y1), .val (.int y2), .val (.ref b1), .val (.ref b2), .val (.int (1 : Int32)), .unset] [])) rfl (hb hby at_172) (by decide) (by decide)
    obtain ⟨b3, g3⟩ : ∃ z, z = h2.size := ⟨_, rfl⟩
    rw [← g3] at A3 D3 st3
    have g_b3 : n0 ≤ b3 := Nat.le_trans Z2 (Nat.le_of_eq g3.symm)
    have ne_b1_b3 : b1 ≠ b3 := Nat.ne_of_lt (Nat.lt_of_lt_of_le V_b1_2.lt (Nat.le_of_eq g3.symm))
    have ne_b2_b3 : b2 ≠ b3 := Nat.ne_of_lt (Nat.lt_of_lt_of_le V_b2.lt (Nat.le_of_eq g3.symm))
    have V_b1_3 := V_b1_2.ext E3
    have V_b2_3 := V_b2.ext E3
    have Z3 : n0 ≤ h3.size := Nat.le_trans Z2 E3.1
    have E_b3 := A3
    have F_id_b3 : Fld Z h3 b3 "com/example/columella/columella/ipc/Renumbering" "id" "J" (.long (0 : Int64)) := D3 (Or.inr (hw _ (List.mem_of_getElem? (i := 11) rfl))) (ty := .long) (by decide)
    have F_entries_b3 : Fld Z h3 b3 "com/example/columella/columella/ipc/Renumbering" "entries" "[I" .null := D3 (Or.inr (hw _ (List.mem_of_getElem? (i := 13) rfl))) (ty := (.array .int)) (by decide)
    have F_numbers_b3 : Fld Z h3 b3 "com/example/columella/columella/ipc/Renumbering" "numbers" "[I" .null := D3 (Or.inr (hw _ (List.mem_of_getElem? (i := 15) rfl))) (ty := (.array .int)) (by decide)
    refine own_go (B := T3.setTop (mkF m 175 #[.val (.long q0), .second, .val (.int p1), .val (.int p2), .val (.int p3), .val (.int p4), .val (.int p5), .val (.int (0 : Int32)), .val (.int y0), .val (.int y1), .val (.int y2), .val (.ref b1), .val (.ref b2), .val (.int (1 : Int32)), .unset] [(.ref b3)])) (fun t kt => st3 t kt) ?_
    refine own_go (B := T3.setTop (mkF m 181 #[.val (.long q0), .second, .val (.int p1), .val (.int p2), .val (.int p3), .val (.int p4), .val (.int p5), .val (.int (0 : Int32)), .val (.int y0), .val (.int y1), .val (.int y2), .val (.ref b1), .val (.ref b2), .val (.int (1 : Int32)), .unset] [(.ref b2), (.ref b1), (.long q0), (.ref b3), (.ref b3)])) (fun t kt => ?_) ?_
    · show Steps p.tables e below (T3.setTop (mkF m 175 #[.val (.long q0), .second, .val (.int p1), .val (.int p2), .val (.int p3), .val (.int p4), .val (.int p5), .val (.int (0 : Int32)), .val (.int y0), .val (.int y1), .val (.int y2), .val (.ref b1), .val (.ref b2), .val (.int (1 : Int32)), .unset] [(.ref b3)])) _
      refine XS.dup X3.here hx rfl (hb hby at_175) rfl rfl ?_
      show Steps p.tables e below (T3.setTop (mkF m 176 #[.val (.long q0), .second, .val (.int p1), .val (.int p2), .val (.int p3), .val (.int p4), .val (.int p5), .val (.int (0 : Int32)), .val (.int y0), .val (.int y1), .val (.int y2), .val (.ref b1), .val (.ref b2), .val (.int (1 : Int32)), .unset] [(.ref b3), (.ref b3)])) _
      refine XS.lloadN X3.here hx rfl (hb hby at_176) rfl ?_
      show Steps p.tables e below (T3.setTop (mkF m 177 #[.val (.long q0), .second, .val (.int p1), .val (.int p2), .val (.int p3), .val (.int p4), .val (.int p5), .val (.int (0 : Int32)), .val (.int y0), .val (.int y1), .val (.int y2), .val (.ref b1), .val (.ref b2), .val (.int (1 : Int32)), .unset] [(.long q0), (.ref b3), (.ref b3)])) _
      refine XS.aload X3.here hx rfl (hb hby at_177) rfl rfl ?_
      show Steps p.tables e below (T3.setTop (mkF m 179 #[.val (.long q0), .second, .val (.int p1), .val (.int p2), .val (.int p3), .val (.int p4), .val (.int p5), .val (.int (0 : Int32)), .val (.int y0), .val (.int y1), .val (.int y2), .val (.ref b1), .val (.ref b2), .val (.int (1 : Int32)), .unset] [(.ref b1), (.long q0), (.ref b3), (.ref b3)])) _
      refine XS.aload X3.here hx rfl (hb hby at_179) rfl rfl ?_
      exact kt
    obtain ⟨_, _, ⟨T4, L4, k4, n4⟩, -, X4, ⟨Lc4, hQ4, l4, y4, z4⟩, st4⟩ := X3.specialBack hx (y := (⟨"com/example/columella/columella/ipc/Renumbering", "<init>", "(J[I[I)V"⟩ : MethodName)) rfl hown (mvT hZ (hw _ (List.mem_of_getElem? (i := 4) rfl))) (mvT hZ (hw _ (List.mem_of_getElem? (i := 5) rfl))) (mvT hZ (hw _ (List.mem_of_getElem? (i := 6) rfl))) (by decide) (backOf (W := 1) (rm1 l Z t0 hw [] b3 q0 b1 b2 h3 n0 Z3 g_b3 E_b3 F_id_b3 F_entries_b3 F_numbers_b3) hZ (hw _ (List.mem_of_getElem? (i := 6) rfl)) (hw _ (List.mem_of_getElem? (i := 3) rfl)) (by decide) (by decide)) (g := (mkF m 181 #[.val (.long q0), .second, .val (.int p1), .val (.int p2), .val (.int p3), .val (.int p4), .val (.int p5), .val (.int (0 : Int32)), .val (.int y0), .val (.int y1), .val (.int y2), .val (.ref b1), .val (.ref b2), .val (.int (1 : Int32)), .unset] [(.ref b2), (.ref b1), (.long q0), (.ref b3), (.ref b3)])) rfl (by rw [hml]; rfl) (Steps.refl _) (a := b3) (argsL := [(.long q0), (.ref b1), (.ref b2)]) (rest := [(.ref b3)]) (lenOf pd_0_0 rfl) rfl (by show 2 * 0 + _ ≤ _; exact Nat.le_of_eq rfl) (hb hby at_181) (fun _ _ => ⟨rfl, e3, (by decide : 3 + 0 ≤ _), (by decide : 3 + 0 ≤ _)⟩)
    dsimp only [Pt.U, Pt.locs, Pt.cells, Pt.slots] at X4 l4 y4 z4 st4 hQ4
    subst l4 y4 z4
    obtain ⟨rfl, Nq4, Kc4, Ec4, Fe4, Fn4⟩ := hQ4
    have N4 := Fr.app N0 Nq4
    obtain ⟨h4, e4⟩ : ∃ z, T4.heap = z := ⟨_, rfl⟩
    rw [e4] at Kc4 Ec4 Fe4 Fn4
    have V_b1_4 := V_b1_3.keep Kc4 (ninS ne_b1_b3 nin0)
    have V_b2_4 := V_b2_3.keep Kc4 (ninS ne_b2_b3 nin0)
    have Z4 : n0 ≤ h4.size := Nat.le_trans Z3 Kc4.1
    refine own_go (B := T4.setTop (mkF m 184 #[.val (.long q0), .second, .val (.int p1), .val (.int p2), .val (.int p3), .val (.int p4), .val (.int p5), .val (.int (0 : Int32)), .val (.int y0), .val (.int y1), .val (.int y2), .val (.ref b1), .val (.ref b2), .val (.int (1 : Int32)), .unset] [(.ref b3)])) (fun t kt => st4.trans kt) ?_
    refine own_go (B := T4.setTop (mkF m 188 #[.val (.long q0), .second, .val (.int p1), .val (.int p2), .val (.int p3), .val (.int p4), .val (.int p5), .val (.int (0 : Int32)), .val (.int y0), .val (.int y1), .val (.int y2), .val (.ref b1), .val (.ref b2), .val (.int (1 : Int32)), .val (.ref b3)] [(.ref b3)])) (fun t kt => ?_) ?_
    · show Steps p.tables e below (T4.setTop (mkF m 184 #[.val (.long q0), .second, .val (.int p1), .val (.int p2), .val (.int p3), .val (.int p4), .val (.int p5), .val (.int (0 : Int32)), .val (.int y0), .val (.int y1), .val (.int y2), .val (.ref b1), .val (.ref b2), .val (.int (1 : Int32)), .unset] [(.ref b3)])) _
      refine XS.astore X4.here hx rfl (hb hby at_184) rfl rfl (l' := #[.val (.long q0), .second, .val (.int p1), .val (.int p2), .val (.int p3), .val (.int p4), .val (.int p5), .val (.int (0 : Int32)), .val (.int y0), .val (.int y1), .val (.int y2), .val (.ref b1), .val (.ref b2), .val (.int (1 : Int32)), .val (.ref b3)]) rfl ?_
      show Steps p.tables e below (T4.setTop (mkF m 186 #[.val (.long q0), .second, .val (.int p1), .val (.int p2), .val (.int p3), .val (.int p4), .val (.int p5), .val (.int (0 : Int32)), .val (.int y0), .val (.int y1), .val (.int y2), .val (.ref b1), .val (.ref b2), .val (.int (1 : Int32)), .val (.ref b3)] [])) _
      refine XS.aload X4.here hx rfl (hb hby at_186) rfl rfl ?_
      exact kt
    obtain ⟨cq5, kq5, qa5, qb5, qc5⟩ := isOf hZ e4 Ec4
    obtain ⟨_, _, ⟨T5, L5, k5, n5⟩, -, X5, ⟨Lc5, hQ5, l5, y5, z5⟩, st5⟩ := X4.virtualBack hx (y := (⟨"com/example/columella/columella/ipc/Renumbering", "keepsEveryNumber", "()Z"⟩ : MethodName)) (z := (⟨"com/example/columella/columella/ipc/Renumbering", "keepsEveryNumber", "()Z"⟩ : MethodName)) hown (mvT hZ (hw _ (List.mem_of_getElem? (i := 16) rfl))) (mvT hZ (hw _ (List.mem_of_getElem? (i := 17) rfl))) (notFace_of_selects (args := #[]) (mvT hZ (hw _ (List.mem_of_getElem? (i := 19) rfl)))) (mvT hZ (hw _ (List.mem_of_getElem? (i := 19) rfl))) (mvT hZ (hw _ (List.mem_of_getElem? (i := 18) rfl))) (by decide) (backOf (W := 0) (rm3_0 l Z t0 hw [] b3 b1 b2 k1 k2  h4 n0 Z4 Fe4 Fn4 V_b1_4 V_b2_4) hZ (hw _ (List.mem_of_getElem? (i := 20) rfl)) (hw _ (List.mem_of_getElem? (i := 3) rfl)) (by decide) (by decide)) qa5 qc5 (g := (mkF m 188 #[.val (.long q0), .second, .val (.int p1), .val (.int p2), .val (.int p3), .val (.int p4), .val (.int p5), .val (.int (0 : Int32)), .val (.int y0), .val (.int y1), .val (.int y2), .val (.ref b1), .val (.ref b2), .val (.int (1 : Int32)), .val (.ref b3)] [(.ref b3)])) rfl (by rw [hml]; rfl) (Steps.refl _) (argsL := []) (rest := []) (lenOf pd_0_1 rfl) rfl (by show 2 * 0 + _ ≤ _; exact Nat.le_of_eq rfl) (hb hby at_188) (fun _ _ => ⟨rfl, e4, (by decide : 3 + 0 ≤ _), (by decide : 3 + 0 ≤ _)⟩)
    dsimp only [Pt.U, Pt.locs, Pt.cells, Pt.slots] at X5 l5 y5 z5 st5 hQ5
    subst l5 y5 z5
    obtain ⟨rfl, Nq5, hh5⟩ := hQ5
    have N5 := Fr.app N4 Nq5
    have e5 : T5.heap = h4 := hh5
    refine own_go (B := T5.setTop (mkF m 191 #[.val (.long q0), .second, .val (.int p1), .val (.int p2), .val (.int p3), .val (.int p4), .val (.int p5), .val (.int (0 : Int32)), .val (.int y0), .val (.int y1), .val (.int y2), .val (.ref b1), .val (.ref b2), .val (.int (1 : Int32)), .val (.ref b3)] [(.int (1 : Int32))])) (fun t kt => st5.trans kt) ?_
    refine own_go (B := T5.setTop (mkF m 201 #[.val (.long q0), .second, .val (.int p1), .val (.int p2), .val (.int p3), .val (.int p4), .val (.int p5), .val (.int (0 : Int32)), .val (.int y0), .val (.int y1), .val (.int y2), .val (.ref b1), .val (.ref b2), .val (.int (1 : Int32)), .val (.ref b3)] [(.int (1 : Int32))])) (fun t kt => ?_) ?_
    · show Steps p.tables e below (T5.setTop (mkF m 191 #[.val (.long q0), .second, .val (.int p1), .val (.int p2), .val (.int p3), .val (.int p4), .val (.int p5), .val (.int (0 : Int32)), .val (.int y0), .val (.int y1), .val (.int y2), .val (.ref b1), .val (.ref b2), .val (.int (1 : Int32)), .val (.ref b3)] [(.int (1 : Int32))])) _
      refine XS.iload X5.here hx rfl (hb hby at_191) rfl ?_
      show Steps p.tables e below (T5.setTop (mkF m 193 #[.val (.long q0), .second, .val (.int p1), .val (.int p2), .val (.int p3), .val (.int p4), .val (.int p5), .val (.int (0 : Int32)), .val (.int y0), .val (.int y1), .val (.int y2), .val (.ref b1), .val (.ref b2), .val (.int (1 : Int32)), .val (.ref b3)] [(.int (1 : Int32)), (.int (1 : Int32))])) _
      refine XS.icmpNo X5.here hx rfl (hb hby at_193) rfl (teq rfl).2 ?_
      show Steps p.tables e below (T5.setTop (mkF m 196 #[.val (.long q0), .second, .val (.int p1), .val (.int p2), .val (.int p3), .val (.int p4), .val (.int p5), .val (.int (0 : Int32)), .val (.int y0), .val (.int y1), .val (.int y2), .val (.ref b1), .val (.ref b2), .val (.int (1 : Int32)), .val (.ref b3)] [])) _
      refine XS.iconst X5.here hx rfl (hb hby at_196) ?_
      show Steps p.tables e below (T5.setTop (mkF m 197 #[.val (.long q0), .second, .val (.int p1), .val (.int p2), .val (.int p3), .val (.int p4), .val (.int p5), .val (.int (0 : Int32)), .val (.int y0), .val (.int y1), .val (.int y2), .val (.ref b1), .val (.ref b2), .val (.int (1 : Int32)), .val (.ref b3)] [(.int (1 : Int32))])) _
      refine XS.goto X5.here hx rfl (pc0 := 197) (pc' := 201) rfl (hb hby at_197) (by decide) (by decide) ?_
      exact kt
    obtain ⟨fs, hr, hrun, hended, hW, hsame⟩ := X5.leave (v := some (.int (1 : Int32))) (fun h => by rw [Bd.returns] at h; cases h)
    refine ⟨_, _, ?_, hrun, hended, _, _, rfl, ?_, ⟨_, rfl⟩, hW, hsame.mono (by decide) (by decide)⟩
    · show Steps p.tables e below (T5.setTop (mkF m 201 #[.val (.long q0), .second, .val (.int p1), .val (.int p2), .val (.int p3), .val (.int p4), .val (.int p5), .val (.int (0 : Int32)), .val (.int y0), .val (.int y1), .val (.int y2), .val (.ref b1), .val (.ref b2), .val (.int (1 : Int32)), .val (.ref b3)] [(.int (1 : Int32))])) _
      exact retN X5 hx (t := .boolean) Bd.returns (by simp) (hb hby at_201) hr
    · show Q0 n0 _ _
      exact ⟨rfl, N5⟩
  · refine own_go (B := s₁.setTop (mkF m 65 #[.val (.long q0), .second, .val (.int p1), .val (.int p2), .val (.int p3), .val (.int p4), .val (.int p5), .val (.int (1 : Int32)), .val (.int y0), .val (.int y1), .val (.int y2), .unset, .unset, .unset, .unset] [(.int (1 : Int32))])) (fun t kt => ?_) ?_
    · show Steps p.tables e below (s₁.setTop (mkF m 63 #[.val (.long q0), .second, .val (.int p1), .val (.int p2), .val (.int p3), .val (.int p4), .val (.int p5), .val (.int (1 : Int32)), .val (.int y0), .val (.int y1), .val (.int y2), .unset, .unset, .unset, .unset] [])) _
      refine XS.iload X0.here hx rfl (hb hby at_63) rfl ?_
      exact kt
    obtain ⟨T6, h6, k6, X6, e6, E6, A6, st6⟩ := newP X0 hx hZ (hw _ (List.mem_of_getElem? (i := 0) rfl)) e0 (g := (mkF m 65 #[.val (.long q0), .second, .val (.int p1), .val (.int p2), .val (.int p3), .val (.int p4), .val (.int p5), .val (.int (1 : Int32)), .val (.int y0), .val (.int y1), .val (.int y2), .unset, .unset, .unset, .unset] [(.int (1 : Int32))])) rfl (hb hby at_65) rfl (by decide) (cap := 1) (by decide) (by decide) (by decide) (by decide)
    obtain ⟨b6, g6⟩ : ∃ z, z = h0.size := ⟨_, rfl⟩
    rw [← g6] at A6 st6
    have g_b6 : n0 ≤ b6 := Nat.le_trans Z0 (Nat.le_of_eq g6.symm)
    have Z6 : n0 ≤ h6.size := Nat.le_trans Z0 E6.1
    have V_b6 : Arv Z h6 b6 k6 .int (1 : Int32) [(.int (0 : Int32))] (.int (0 : Int32)) := (Arv.new A6 (by decide)).pad (pad_rep [] (.int (0 : Int32)) 1)
    refine own_go (B := T6.setTop (mkF m 67 #[.val (.long q0), .second, .val (.int p1), .val (.int p2), .val (.int p3), .val (.int p4), .val (.int p5), .val (.int (1 : Int32)), .val (.int y0), .val (.int y1), .val (.int y2), .unset, .unset, .unset, .unset] [(.ref b6)])) (fun t kt => st6 t kt) ?_
    refine own_go (B := T6.setTop (mkF m 71 #[.val (.long q0), .second, .val (.int p1), .val (.int p2), .val (.int p3), .val (.int p4), .val (.int p5), .val (.int (1 : Int32)), .val (.int y0), .val (.int y1), .val (.int y2), .val (.ref b6), .unset, .unset, .unset] [(.int (1 : Int32))])) (fun t kt => ?_) ?_
    · show Steps p.tables e below (T6.setTop (mkF m 67 #[.val (.long q0), .second, .val (.int p1), .val (.int p2), .val (.int p3), .val (.int p4), .val (.int p5), .val (.int (1 : Int32)), .val (.int y0), .val (.int y1), .val (.int y2), .unset, .unset, .unset, .unset] [(.ref b6)])) _
      refine XS.astore X6.here hx rfl (hb hby at_67) rfl rfl (l' := #[.val (.long q0), .second, .val (.int p1), .val (.int p2), .val (.int p3), .val (.int p4), .val (.int p5), .val (.int (1 : Int32)), .val (.int y0), .val (.int y1), .val (.int y2), .val (.ref b6), .unset, .unset, .unset]) rfl ?_
      show Steps p.tables e below (T6.setTop (mkF m 69 #[.val (.long q0), .second, .val (.int p1), .val (.int p2), .val (.int p3), .val (.int p4), .val (.int p5), .val (.int (1 : Int32)), .val (.int y0), .val (.int y1), .val (.int y2), .val (.ref b6), .unset, .unset, .unset] [])) _
      refine XS.iload X6.here hx rfl (hb hby at_69) rfl ?_
      exact kt
    obtain ⟨T7, h7, k7, X7, e7, E7, A7, st7⟩ := newP X6 hx hZ (hw _ (List.mem_of_getElem? (i := 0) rfl)) e6 (g := (mkF m 71 #[.val (.long q0), .second, .val (.int p1), .val (.int p2), .val (.int p3), .val (.int p4), .val (.int p5), .val (.int (1 : Int32)), .val (.int y0), .val (.int y1), .val (.int y2), .val (.ref b6), .unset, .unset, .unset] [(.int (1 : Int32))])) rfl (hb hby at_71) rfl (by decide) (cap := 1) (by decide) (by decide) (by decide) (by decide)
    obtain ⟨b7, g7⟩ : ∃ z, z = h6.size := ⟨_, rfl⟩
    rw [← g7] at A7 st7
    have g_b7 : n0 ≤ b7 := Nat.le_trans Z6 (Nat.le_of_eq g7.symm)
    have ne_b6_b7 : b6 ≠ b7 := Nat.ne_of_lt (Nat.lt_of_lt_of_le V_b6.lt (Nat.le_of_eq g7.symm))
    have V_b6_7 := V_b6.ext E7
    have Z7 : n0 ≤ h7.size := Nat.le_trans Z6 E7.1
    have V_b7 : Arv Z h7 b7 k7 .int (1 : Int32) [(.int (0 : Int32))] (.int (0 : Int32)) := (Arv.new A7 (by decide)).pad (pad_rep [] (.int (0 : Int32)) 1)
    refine own_go (B := T7.setTop (mkF m 73 #[.val (.long q0), .second, .val (.int p1), .val (.int p2), .val (.int p3), .val (.int p4), .val (.int p5), .val (.int (1 : Int32)), .val (.int y0), .val (.int y1), .val (.int y2), .val (.ref b6), .unset, .unset, .unset] [(.ref b7)])) (fun t kt => st7 t kt) ?_
    refine own_go (B := T7.setTop (mkF m 75 #[.val (.long q0), .second, .val (.int p1), .val (.int p2), .val (.int p3), .val (.int p4), .val (.int p5), .val (.int (1 : Int32)), .val (.int y0), .val (.int y1), .val (.int y2), .val (.ref b6), .val (.ref b7), .unset, .unset] [])) (fun t kt => ?_) ?_
    · show Steps p.tables e below (T7.setTop (mkF m 73 #[.val (.long q0), .second, .val (.int p1), .val (.int p2), .val (.int p3), .val (.int p4), .val (.int p5), .val (.int (1 : Int32)), .val (.int y0), .val (.int y1), .val (.int y2), .val (.ref b6), .unset, .unset, .unset] [(.ref b7)])) _
      refine XS.astore X7.here hx rfl (hb hby at_73) rfl rfl (l' := #[.val (.long q0), .second, .val (.int p1), .val (.int p2), .val (.int p3), .val (.int p4), .val (.int p5), .val (.int (1 : Int32)), .val (.int y0), .val (.int y1), .val (.int y2), .val (.ref b6), .val (.ref b7), .unset, .unset]) rfl ?_
      exact kt
    refine own_go (B := T7.setTop (mkF m 84 #[.val (.long q0), .second, .val (.int p1), .val (.int p2), .val (.int p3), .val (.int p4), .val (.int p5), .val (.int (1 : Int32)), .val (.int y0), .val (.int y1), .val (.int y2), .val (.ref b6), .val (.ref b7), .unset, .unset] [(.int p2), (.int (0 : Int32)), (.ref b6)])) (fun t kt => ?_) ?_
    · show Steps p.tables e below (T7.setTop (mkF m 75 #[.val (.long q0), .second, .val (.int p1), .val (.int p2), .val (.int p3), .val (.int p4), .val (.int p5), .val (.int (1 : Int32)), .val (.int y0), .val (.int y1), .val (.int y2), .val (.ref b6), .val (.ref b7), .unset, .unset] [])) _
      refine XS.iload X7.here hx rfl (hb hby at_75) rfl ?_
      show Steps p.tables e below (T7.setTop (mkF m 77 #[.val (.long q0), .second, .val (.int p1), .val (.int p2), .val (.int p3), .val (.int p4), .val (.int p5), .val (.int (1 : Int32)), .val (.int y0), .val (.int y1), .val (.int y2), .val (.ref b6), .val (.ref b7), .unset, .unset] [(.int (1 : Int32))])) _
      refine XS.ifNo X7.here hx rfl (hb hby at_77) rfl ((if0 _ _).trans (tlt (by decide)).2.2.2) ?_
      show Steps p.tables e below (T7.setTop (mkF m 80 #[.val (.long q0), .second, .val (.int p1), .val (.int p2), .val (.int p3), .val (.int p4), .val (.int p5), .val (.int (1 : Int32)), .val (.int y0), .val (.int y1), .val (.int y2), .val (.ref b6), .val (.ref b7), .unset, .unset] [])) _
      refine XS.aload X7.here hx rfl (hb hby at_80) rfl rfl ?_
      show Steps p.tables e below (T7.setTop (mkF m 82 #[.val (.long q0), .second, .val (.int p1), .val (.int p2), .val (.int p3), .val (.int p4), .val (.int p5), .val (.int (1 : Int32)), .val (.int y0), .val (.int y1), .val (.int y2), .val (.ref b6), .val (.ref b7), .unset, .unset] [(.ref b6)])) _
      refine XS.iconst X7.here hx rfl (hb hby at_82) ?_
      show Steps p.tables e below (T7.setTop (mkF m 83 #[.val (.long q0), .second, .val (.int p1), .val (.int p2), .val (.int p3), .val (.int p4), .val (.int p5), .val (.int (1 : Int32)), .val (.int y0), .val (.int y1), .val (.int y2), .val (.ref b6), .val (.ref b7), .unset, .unset] [(.int (0 : Int32)), (.ref b6)])) _
      refine XS.iloadN X7.here hx rfl (hb hby at_83) rfl ?_
      exact kt
    obtain ⟨cl8, Ar8, q8, S8, M8, H8, G8⟩ := id V_b6_7
    obtain ⟨T9, h9, X9, e9, W9, st9⟩ := stI X7 hx hZ e7 Ar8 (j := (0 : Int32)) (inb_of S8 ⟨by decide, by decide⟩) (g := (mkF m 84 #[.val (.long q0), .second, .val (.int p1), .val (.int p2), .val (.int p3), .val (.int p4), .val (.int p5), .val (.int (1 : Int32)), .val (.int y0), .val (.int y1), .val (.int y2), .val (.ref b6), .val (.ref b7), .unset, .unset] [(.int p2), (.int (0 : Int32)), (.ref b6)])) rfl rfl (hb hby at_84)
    have V_b6_9 : Arv Z h9 b6 k6 .int (1 : Int32) [(.int p2)] (.int (0 : Int32)) := Arv.set Ar8 q8 S8 M8 H8 G8 rfl W9 0 rfl (Nat.le_of_ble_eq_true rfl)
    have V_b7_9 := V_b7.other W9 (Ne.symm ne_b6_b7)
    have Z9 : n0 ≤ h9.size := Nat.le_trans Z7 (Keep.of_wr W9).1
    have N9 := Fr.snoc X9 N0 g_b6
    refine own_go (B := T9.setTop (mkF m 85 #[.val (.long q0), .second, .val (.int p1), .val (.int p2), .val (.int p3), .val (.int p4), .val (.int p5), .val (.int (1 : Int32)), .val (.int y0), .val (.int y1), .val (.int y2), .val (.ref b6), .val (.ref b7), .unset, .unset] [])) (fun t kt => st9 t kt) ?_
    refine own_go (B := T9.setTop (mkF m 90 #[.val (.long q0), .second, .val (.int p1), .val (.int p2), .val (.int p3), .val (.int p4), .val (.int p5), .val (.int (1 : Int32)), .val (.int y0), .val (.int y1), .val (.int y2), .val (.ref b6), .val (.ref b7), .unset, .unset] [(.int y0), (.int (0 : Int32)), (.ref b7)])) (fun t kt => ?_) ?_
    · show Steps p.tables e below (T9.setTop (mkF m 85 #[.val (.long q0), .second, .val (.int p1), .val (.int p2), .val (.int p3), .val (.int p4), .val (.int p5), .val (.int (1 : Int32)), .val (.int y0), .val (.int y1), .val (.int y2), .val (.ref b6), .val (.ref b7), .unset, .unset] [])) _
      refine XS.aload X9.here hx rfl (hb hby at_85) rfl rfl ?_
      show Steps p.tables e below (T9.setTop (mkF m 87 #[.val (.long q0), .second, .val (.int p1), .val (.int p2), .val (.int p3), .val (.int p4), .val (.int p5), .val (.int (1 : Int32)), .val (.int y0), .val (.int y1), .val (.int y2), .val (.ref b6), .val (.ref b7), .unset, .unset] [(.ref b7)])) _
      refine XS.iconst X9.here hx rfl (hb hby at_87) ?_
      show Steps p.tables e below (T9.setTop (mkF m 88 #[.val (.long q0), .second, .val (.int p1), .val (.int p2), .val (.int p3), .val (.int p4), .val (.int p5), .val (.int (1 : Int32)), .val (.int y0), .val (.int y1), .val (.int y2), .val (.ref b6), .val (.ref b7), .unset, .unset] [(.int (0 : Int32)), (.ref b7)])) _
      refine XS.iload X9.here hx rfl (hb hby at_88) rfl ?_
      exact kt
    obtain ⟨cl10, Ar10, q10, S10, M10, H10, G10⟩ := id V_b7_9
    obtain ⟨T11, h11, X11, e11, W11, st11⟩ := stI X9 hx hZ e9 Ar10 (j := (0 : Int32)) (inb_of S10 ⟨by decide, by decide⟩) (g := (mkF m 90 #[.val (.long q0), .second, .val (.int p1), .val (.int p2), .val (.int p3), .val (.int p4), .val (.int p5), .val (.int (1 : Int32)), .val (.int y0), .val (.int y1), .val (.int y2), .val (.ref b6), .val (.ref b7), .unset, .unset] [(.int y0), (.int (0 : Int32)), (.ref b7)])) rfl rfl (hb hby at_90)
    have V_b7_11 : Arv Z h11 b7 k7 .int (1 : Int32) [(.int y0)] (.int (0 : Int32)) := Arv.set Ar10 q10 S10 M10 H10 G10 rfl W11 0 rfl (Nat.le_of_ble_eq_true rfl)
    have V_b6_11 := V_b6_9.other W11 ne_b6_b7
    have Z11 : n0 ≤ h11.size := Nat.le_trans Z9 (Keep.of_wr W11).1
    have N11 := Fr.snoc X11 N9 g_b7
    refine own_go (B := T11.setTop (mkF m 91 #[.val (.long q0), .second, .val (.int p1), .val (.int p2), .val (.int p3), .val (.int p4), .val (.int p5), .val (.int (1 : Int32)), .val (.int y0), .val (.int y1), .val (.int y2), .val (.ref b6), .val (.ref b7), .unset, .unset] [])) (fun t kt => st11 t kt) ?_
    refine own_go (B := T11.setTop (mkF m 127 #[.val (.long q0), .second, .val (.int p1), .val (.int p2), .val (.int p3), .val (.int p4), .val (.int p5), .val (.int (1 : Int32)), .val (.int y0), .val (.int y1), .val (.int y2), .val (.ref b6), .val (.ref b7), .unset, .unset] [])) (fun t kt => ?_) ?_
    · show Steps p.tables e below (T11.setTop (mkF m 91 #[.val (.long q0), .second, .val (.int p1), .val (.int p2), .val (.int p3), .val (.int p4), .val (.int p5), .val (.int (1 : Int32)), .val (.int y0), .val (.int y1), .val (.int y2), .val (.ref b6), .val (.ref b7), .unset, .unset] [])) _
      refine XS.iload X11.here hx rfl (hb hby at_91) rfl ?_
      show Steps p.tables e below (T11.setTop (mkF m 93 #[.val (.long q0), .second, .val (.int p1), .val (.int p2), .val (.int p3), .val (.int p4), .val (.int p5), .val (.int (1 : Int32)), .val (.int y0), .val (.int y1), .val (.int y2), .val (.ref b6), .val (.ref b7), .unset, .unset] [(.int (1 : Int32))])) _
      refine XS.iconst X11.here hx rfl (hb hby at_93) ?_
      show Steps p.tables e below (T11.setTop (mkF m 94 #[.val (.long q0), .second, .val (.int p1), .val (.int p2), .val (.int p3), .val (.int p4), .val (.int p5), .val (.int (1 : Int32)), .val (.int y0), .val (.int y1), .val (.int y2), .val (.ref b6), .val (.ref b7), .unset, .unset] [(.int (1 : Int32)), (.int (1 : Int32))])) _
      refine XS.icmpYes X11.here hx rfl (pc0 := 94) (pc' := 109) rfl (hb hby at_94) rfl (flt (by decide)).2.2.2 (by decide) (by decide) ?_
      show Steps p.tables e below (T11.setTop (mkF m 109 #[.val (.long q0), .second, .val (.int p1), .val (.int p2), .val (.int p3), .val (.int p4), .val (.int p5), .val (.int (1 : Int32)), .val (.int y0), .val (.int y1), .val (.int y2), .val (.ref b6), .val (.ref b7), .unset, .unset] [])) _
      refine XS.iload X11.here hx rfl (hb hby at_109) rfl ?_
      show Steps p.tables e below (T11.setTop (mkF m 111 #[.val (.long q0), .second, .val (.int p1), .val (.int p2), .val (.int p3), .val (.int p4), .val (.int p5), .val (.int (1 : Int32)), .val (.int y0), .val (.int y1), .val (.int y2), .val (.ref b6), .val (.ref b7), .unset, .unset] [(.int (1 : Int32))])) _
      refine XS.iconst X11.here hx rfl (hb hby at_111) ?_
      show Steps p.tables e below (T11.setTop (mkF m 112 #[.val (.long q0), .second, .val (.int p1), .val (.int p2), .val (.int p3), .val (.int p4), .val (.int p5), .val (.int (1 : Int32)), .val (.int y0), .val (.int y1), .val (.int y2), .val (.ref b6), .val (.ref b7), .unset, .unset] [(.int (2 : Int32)), (.int (1 : Int32))])) _
      refine XS.icmpYes X11.here hx rfl (pc0 := 112) (pc' := 127) rfl (hb hby at_112) rfl (flt (by decide)).2.2.2 (by decide) (by decide) ?_
      exact kt
    obtain ⟨ex, hex⟩ : ∃ z : Int32, z = (if p2 = y0 then (1 : Int32) else (0 : Int32)) := ⟨_, rfl⟩
    refine own_go (B := T11.setTop (mkF m 170 #[.val (.long q0), .second, .val (.int p1), .val (.int p2), .val (.int p3), .val (.int p4), .val (.int p5), .val (.int (1 : Int32)), .val (.int y0), .val (.int y1), .val (.int y2), .val (.ref b6), .val (.ref b7), .unset, .unset] [(.int ex)])) (fun t kt => ?_) ?_
    · show Steps p.tables e below (T11.setTop (mkF m 127 #[.val (.long q0), .second, .val (.int p1), .val (.int p2), .val (.int p3), .val (.int p4), .val (.int p5), .val (.int (1 : Int32)), .val (.int y0), .val (.int y1), .val (.int y2), .val (.ref b6), .val (.ref b7), .unset, .unset] [])) _
      refine XS.iload X11.here hx rfl (hb hby at_127) rfl ?_
      show Steps p.tables e below (T11.setTop (mkF m 129 #[.val (.long q0), .second, .val (.int p1), .val (.int p2), .val (.int p3), .val (.int p4), .val (.int p5), .val (.int (1 : Int32)), .val (.int y0), .val (.int y1), .val (.int y2), .val (.ref b6), .val (.ref b7), .unset, .unset] [(.int (1 : Int32))])) _
      refine XS.iconst X11.here hx rfl (hb hby at_129) ?_
      show Steps p.tables e below (T11.setTop (mkF m 130 #[.val (.long q0), .second, .val (.int p1), .val (.int p2), .val (.int p3), .val (.int p4), .val (.int p5), .val (.int (1 : Int32)), .val (.int y0), .val (.int y1), .val (.int y2), .val (.ref b6), .val (.ref b7), .unset, .unset] [(.int (1 : Int32)), (.int (1 : Int32))])) _
      refine XS.icmpNo X11.here hx rfl (hb hby at_130) rfl (flt (by decide)).1 ?_
      show Steps p.tables e below (T11.setTop (mkF m 133 #[.val (.long q0), .second, .val (.int p1), .val (.int p2), .val (.int p3), .val (.int p4), .val (.int p5), .val (.int (1 : Int32)), .val (.int y0), .val (.int y1), .val (.int y2), .val (.ref b6), .val (.ref b7), .unset, .unset] [])) _
      refine XS.iloadN X11.here hx rfl (hb hby at_133) rfl ?_
      show Steps p.tables e below (T11.setTop (mkF m 134 #[.val (.long q0), .second, .val (.int p1), .val (.int p2), .val (.int p3), .val (.int p4), .val (.int p5), .val (.int (1 : Int32)), .val (.int y0), .val (.int y1), .val (.int y2), .val (.ref b6), .val (.ref b7), .unset, .unset] [(.int p2)])) _
      refine XS.iload X11.here hx rfl (hb hby at_134) rfl ?_
      by_cases hc136 : p2 = y0
      · show Steps p.tables e below (T11.setTop (mkF m 136 #[.val (.long q0), .second, .val (.int p1), .val (.int p2), .val (.int p3), .val (.int p4), .val (.int p5), .val (.int (1 : Int32)), .val (.int y0), .val (.int y1), .val (.int y2), .val (.ref b6), .val (.ref b7), .unset, .unset] [(.int y0), (.int p2)])) _
        refine XS.icmpNo X11.here hx rfl (hb hby at_136) rfl (teq hc136).2 ?_
        show Steps p.tables e below (T11.setTop (mkF m 139 #[.val (.long q0), .second, .val (.int p1), .val (.int p2), .val (.int p3), .val (.int p4), .val (.int p5), .val (.int (1 : Int32)), .val (.int y0), .val (.int y1), .val (.int y2), .val (.ref b6), .val (.ref b7), .unset, .unset] [])) _
        refine XS.iload X11.here hx rfl (hb hby at_139) rfl ?_
        show Steps p.tables e below (T11.setTop (mkF m 141 #[.val (.long q0), .second, .val (.int p1), .val (.int p2), .val (.int p3), .val (.int p4), .val (.int p5), .val (.int (1 : Int32)), .val (.int y0), .val (.int y1), .val (.int y2), .val (.ref b6), .val (.ref b7), .unset, .unset] [(.int (1 : Int32))])) _
        refine XS.iconst X11.here hx rfl (hb hby at_141) ?_
        show Steps p.tables e below (T11.setTop (mkF m 142 #[.val (.long q0), .second, .val (.int p1), .val (.int p2), .val (.int p3), .val (.int p4), .val (.int p5), .val (.int (1 : Int32)), .val (.int y0), .val (.int y1), .val (.int y2), .val (.ref b6), .val (.ref b7), .unset, .unset] [(.int (2 : Int32)), (.int (1 : Int32))])) _
        refine XS.icmpYes X11.here hx rfl (pc0 := 142) (pc' := 152) rfl (hb hby at_142) rfl (tlt (by decide)).1 (by decide) (by decide) ?_
        show Steps p.tables e below (T11.setTop (mkF m 152 #[.val (.long q0), .second, .val (.int p1), .val (.int p2), .val (.int p3), .val (.int p4), .val (.int p5), .val (.int (1 : Int32)), .val (.int y0), .val (.int y1), .val (.int y2), .val (.ref b6), .val (.ref b7), .unset, .unset] [])) _
        refine XS.iload X11.here hx rfl (hb hby at_152) rfl ?_
        show Steps p.tables e below (T11.setTop (mkF m 154 #[.val (.long q0), .second, .val (.int p1), .val (.int p2), .val (.int p3), .val (.int p4), .val (.int p5), .val (.int (1 : Int32)), .val (.int y0), .val (.int y1), .val (.int y2), .val (.ref b6), .val (.ref b7), .unset, .unset] [(.int (1 : Int32))])) _
        refine XS.iconst X11.here hx rfl (hb hby at_154) ?_
        show Steps p.tables e below (T11.setTop (mkF m 155 #[.val (.long q0), .second, .val (.int p1), .val (.int p2), .val (.int p3), .val (.int p4), .val (.int p5), .val (.int (1 : Int32)), .val (.int y0), .val (.int y1), .val (.int y2), .val (.ref b6), .val (.ref b7), .unset, .unset] [(.int (3 : Int32)), (.int (1 : Int32))])) _
        refine XS.icmpYes X11.here hx rfl (pc0 := 155) (pc' := 165) rfl (hb hby at_155) rfl (tlt (by decide)).1 (by decide) (by decide) ?_
        show Steps p.tables e below (T11.setTop (mkF m 165 #[.val (.long q0), .second, .val (.int p1), .val (.int p2), .val (.int p3), .val (.int p4), .val (.int p5), .val (.int (1 : Int32)), .val (.int y0), .val (.int y1), .val (.int y2), .val (.ref b6), .val (.ref b7), .unset, .unset] [])) _
        refine XS.iconst X11.here hx rfl (hb hby at_165) ?_
        show Steps p.tables e below (T11.setTop (mkF m 166 #[.val (.long q0), .second, .val (.int p1), .val (.int p2), .val (.int p3), .val (.int p4), .val (.int p5), .val (.int (1 : Int32)), .val (.int y0), .val (.int y1), .val (.int y2), .val (.ref b6), .val (.ref b7), .unset, .unset] [(.int (1 : Int32))])) _
        refine XS.goto X11.here hx rfl (pc0 := 166) (pc' := 170) rfl (hb hby at_166) (by decide) (by decide) ?_
        rw [show ex = (1 : Int32) from by rw [hex, if_pos hc136]] at kt
        exact kt
      · show Steps p.tables e below (T11.setTop (mkF m 136 #[.val (.long q0), .second, .val (.int p1), .val (.int p2), .val (.int p3), .val (.int p4), .val (.int p5), .val (.int (1 : Int32)), .val (.int y0), .val (.int y1), .val (.int y2), .val (.ref b6), .val (.ref b7), .unset, .unset] [(.int y0), (.int p2)])) _
        refine XS.icmpYes X11.here hx rfl (pc0 := 136) (pc' := 169) rfl (hb hby at_136) rfl (feq hc136).2 (by decide) (by decide) ?_
        show Steps p.tables e below (T11.setTop (mkF m 169 #[.val (.long q0), .second, .val (.int p1), .val (.int p2), .val (.int p3), .val (.int p4), .val (.int p5), .val (.int (1 : Int32)), .val (.int y0), .val (.int y1), .val (.int y2), .val (.ref b6), .val (.ref b7), .unset, .unset] [])) _
        refine XS.iconst X11.here hx rfl (hb hby at_169) ?_
        rw [show ex = (0 : Int32) from by rw [hex, if_neg hc136]] at kt
        exact kt
    refine own_go (B := T11.setTop (mkF m 172 #[.val (.long q0), .second, .val (.int p1), .val (.int p2), .val (.int p3), .val (.int p4), .val (.int p5), .val (.int (1 : Int32)), .val (.int y0), .val (.int y1), .val (.int y2), .val (.ref b6), .val (.ref b7), .val (.int ex), .unset] [])) (fun t kt => ?_) ?_
    · show Steps p.tables e below (T11.setTop (mkF m 170 #[.val (.long q0), .second, .val (.int p1), .val (.int p2), .val (.int p3), .val (.int p4), .val (.int p5), .val (.int (1 : Int32)), .val (.int y0), .val (.int y1), .val (.int y2), .val (.ref b6), .val (.ref b7), .unset, .unset] [(.int ex)])) _
      refine XS.istore X11.here hx rfl (hb hby at_170) rfl (l' := #[.val (.long q0), .second, .val (.int p1), .val (.int p2), .val (.int p3), .val (.int p4), .val (.int p5), .val (.int (1 : Int32)), .val (.int y0), .val (.int y1), .val (.int y2), .val (.ref b6), .val (.ref b7), .val (.int ex), .unset]) rfl ?_
      exact kt
    obtain ⟨T12, h12, X12, e12, E12, A12, D12, -, st12⟩ := newO X11 hx hZ hown (hw _ (List.mem_of_getElem? (i := 1) rfl)) (hw _ (List.mem_of_getElem? (i := 2) rfl)) (hw _ (List.mem_of_getElem? (i := 3) rfl)) e11 (g := (mkF m 172 #[.val (.long q0), .second, .val (.int p1), .val (.int p2), .val (.int p3), .val (.int p4), .val (.int p5), .val (.int (1 : Int32)), .val (.int y0), .val (.int y1), .val (.int y2), .val (.ref b6), .val (.ref b7), .val (.int ex), .unset] [])) rfl (hb hby at_172) (by decide) (by decide)
    obtain ⟨b12, g12⟩ : ∃ z, z = h11.size := ⟨_, rfl⟩
    rw [← g12] at A12 D12 st12
    have g_b12 : n0 ≤ b12 := Nat.le_trans Z11 (Nat.le_of_eq g12.symm)
    have ne_b6_b12 : b6 ≠ b12 := Nat.ne_of_lt (Nat.lt_of_lt_of_le V_b6_11.lt (Nat.le_of_eq g12.symm))
    have ne_b7_b12 : b7 ≠ b12 := Nat.ne_of_lt (Nat.lt_of_lt_of_le V_b7_11.lt (Nat.le_of_eq g12.symm))
    have V_b6_12 := V_b6_11.ext E12
    have V_b7_12 := V_b7_11.ext E12
    have Z12 : n0 ≤ h12.size := Nat.le_trans Z11 E12.1
    have E_b12 := A12
    have F_id_b12 : Fld Z h12 b12 "com/example/columella/columella/ipc/Renumbering" "id" "J" (.long (0 : Int64)) := D12 (Or.inr (hw _ (List.mem_of_getElem? (i := 11) rfl))) (ty := .long) (by decide)
    have F_entries_b12 : Fld Z h12 b12 "com/example/columella/columella/ipc/Renumbering" "entries" "[I" .null := D12 (Or.inr (hw _ (List.mem_of_getElem? (i := 13) rfl))) (ty := (.array .int)) (by decide)
    have F_numbers_b12 : Fld Z h12 b12 "com/example/columella/columella/ipc/Renumbering" "numbers" "[I" .null := D12 (Or.inr (hw _ (List.mem_of_getElem? (i := 15) rfl))) (ty := (.array .int)) (by decide)
    refine own_go (B := T12.setTop (mkF m 175 #[.val (.long q0), .second, .val (.int p1), .val (.int p2), .val (.int p3), .val (.int p4), .val (.int p5), .val (.int (1 : Int32)), .val (.int y0), .val (.int y1), .val (.int y2), .val (.ref b6), .val (.ref b7), .val (.int ex), .unset] [(.ref b12)])) (fun t kt => st12 t kt) ?_
    refine own_go (B := T12.setTop (mkF m 181 #[.val (.long q0), .second, .val (.int p1), .val (.int p2), .val (.int p3), .val (.int p4), .val (.int p5), .val (.int (1 : Int32)), .val (.int y0), .val (.int y1), .val (.int y2), .val (.ref b6), .val (.ref b7), .val (.int ex), .unset] [(.ref b7), (.ref b6), (.long q0), (.ref b12), (.ref b12)])) (fun t kt => ?_) ?_
    · show Steps p.tables e below (T12.setTop (mkF m 175 #[.val (.long q0), .second, .val (.int p1), .val (.int p2), .val (.int p3), .val (.int p4), .val (.int p5), .val (.int (1 : Int32)), .val (.int y0), .val (.int y1), .val (.int y2), .val (.ref b6), .val (.ref b7), .val (.int ex), .unset] [(.ref b12)])) _
      refine XS.dup X12.here hx rfl (hb hby at_175) rfl rfl ?_
      show Steps p.tables e below (T12.setTop (mkF m 176 #[.val (.long q0), .second, .val (.int p1), .val (.int p2), .val (.int p3), .val (.int p4), .val (.int p5), .val (.int (1 : Int32)), .val (.int y0), .val (.int y1), .val (.int y2), .val (.ref b6), .val (.ref b7), .val (.int ex), .unset] [(.ref b12), (.ref b12)])) _
      refine XS.lloadN X12.here hx rfl (hb hby at_176) rfl ?_
      show Steps p.tables e below (T12.setTop (mkF m 177 #[.val (.long q0), .second, .val (.int p1), .val (.int p2), .val (.int p3), .val (.int p4), .val (.int p5), .val (.int (1 : Int32)), .val (.int y0), .val (.int y1), .val (.int y2), .val (.ref b6), .val (.ref b7), .val (.int ex), .unset] [(.long q0), (.ref b12), (.ref b12)])) _
      refine XS.aload X12.here hx rfl (hb hby at_177) rfl rfl ?_
      show Steps p.tables e below (T12.setTop (mkF m 179 #[.val (.long q0), .second, .val (.int p1), .val (.int p2), .val (.int p3), .val (.int p4), .val (.int p5), .val (.int (1 : Int32)), .val (.int y0), .val (.int y1), .val (.int y2), .val (.ref b6), .val (.ref b7), .val (.int ex), .unset] [(.ref b6), (.long q0), (.ref b12), (.ref b12)])) _
      refine XS.aload X12.here hx rfl (hb hby at_179) rfl rfl ?_
      exact kt
    obtain ⟨_, _, ⟨T13, L13, k13, n13⟩, -, X13, ⟨Lc13, hQ13, l13, y13, z13⟩, st13⟩ := X12.specialBack hx (y := (⟨"com/example/columella/columella/ipc/Renumbering", "<init>", "(J[I[I)V"⟩ : MethodName)) rfl hown (mvT hZ (hw _ (List.mem_of_getElem? (i := 4) rfl))) (mvT hZ (hw _ (List.mem_of_getElem? (i := 5) rfl))) (mvT hZ (hw _ (List.mem_of_getElem? (i := 6) rfl))) (by decide) (backOf (W := 1) (rm1 l Z t0 hw [] b12 q0 b6 b7 h12 n0 Z12 g_b12 E_b12 F_id_b12 F_entries_b12 F_numbers_b12) hZ (hw _ (List.mem_of_getElem? (i := 6) rfl)) (hw _ (List.mem_of_getElem? (i := 3) rfl)) (by decide) (by decide)) (g := (mkF m 181 #[.val (.long q0), .second, .val (.int p1), .val (.int p2), .val (.int p3), .val (.int p4), .val (.int p5), .val (.int (1 : Int32)), .val (.int y0), .val (.int y1), .val (.int y2), .val (.ref b6), .val (.ref b7), .val (.int ex), .unset] [(.ref b7), (.ref b6), (.long q0), (.ref b12), (.ref b12)])) rfl (by rw [hml]; rfl) (Steps.refl _) (a := b12) (argsL := [(.long q0), (.ref b6), (.ref b7)]) (rest := [(.ref b12)]) (lenOf pd_0_0 rfl) rfl (by show 2 * 0 + _ ≤ _; exact Nat.le_of_eq rfl) (hb hby at_181) (fun _ _ => ⟨rfl, e12, (by decide : 3 + 0 ≤ _), (by decide : 5 + 0 ≤ _)⟩)
    dsimp only [Pt.U, Pt.locs, Pt.cells, Pt.slots] at X13 l13 y13 z13 st13 hQ13
    subst l13 y13 z13
    obtain ⟨rfl, Nq13, Kc13, Ec13, Fe13, Fn13⟩ := hQ13
    have N13 := Fr.app N11 Nq13
    obtain ⟨h13, e13⟩ : ∃ z, T13.heap = z := ⟨_, rfl⟩
    rw [e13] at Kc13 Ec13 Fe13 Fn13
    have V_b6_13 := V_b6_12.keep Kc13 (ninS ne_b6_b12 nin0)
    have V_b7_13 := V_b7_12.keep Kc13 (ninS ne_b7_b12 nin0)
    have Z13 : n0 ≤ h13.size := Nat.le_trans Z12 Kc13.1
    refine own_go (B := T13.setTop (mkF m 184 #[.val (.long q0), .second, .val (.int p1), .val (.int p2), .val (.int p3), .val (.int p4), .val (.int p5), .val (.int (1 : Int32)), .val (.int y0), .val (.int y1), .val (.int y2), .val (.ref b6), .val (.ref b7), .val (.int ex), .unset] [(.ref b12)])) (fun t kt => st13.trans kt) ?_
    refine own_go (B := T13.setTop (mkF m 188 #[.val (.long q0), .second, .val (.int p1), .val (.int p2), .val (.int p3), .val (.int p4), .val (.int p5), .val (.int (1 : Int32)), .val (.int y0), .val (.int y1), .val (.int y2), .val (.ref b6), .val (.ref b7), .val (.int ex), .val (.ref b12)] [(.ref b12)])) (fun t kt => ?_) ?_
    · show Steps p.tables e below (T13.setTop (mkF m 184 #[.val (.long q0), .second, .val (.int p1), .val (.int p2), .val (.int p3), .val (.int p4), .val (.int p5), .val (.int (1 : Int32)), .val (.int y0), .val (.int y1), .val (.int y2), .val (.ref b6), .val (.ref b7), .val (.int ex), .unset] [(.ref b12)])) _
      refine XS.astore X13.here hx rfl (hb hby at_184) rfl rfl (l' := #[.val (.long q0), .second, .val (.int p1), .val (.int p2), .val (.int p3), .val (.int p4), .val (.int p5), .val (.int (1 : Int32)), .val (.int y0), .val (.int y1), .val (.int y2), .val (.ref b6), .val (.ref b7), .val (.int ex), .val (.ref b12)]) rfl ?_
      show Steps p.tables e below (T13.setTop (mkF m 186 #[.val (.long q0), .second, .val (.int p1), .val (.int p2), .val (.int p3), .val (.int p4), .val (.int p5), .val (.int (1 : Int32)), .val (.int y0), .val (.int y1), .val (.int y2), .val (.ref b6), .val (.ref b7), .val (.int ex), .val (.ref b12)] [])) _
      refine XS.aload X13.here hx rfl (hb hby at_186) rfl rfl ?_
      exact kt
    obtain ⟨cq14, kq14, qa14, qb14, qc14⟩ := isOf hZ e13 Ec13
    obtain ⟨_, _, ⟨T14, L14, k14, n14⟩, -, X14, ⟨Lc14, hQ14, l14, y14, z14⟩, st14⟩ := X13.virtualBack hx (y := (⟨"com/example/columella/columella/ipc/Renumbering", "keepsEveryNumber", "()Z"⟩ : MethodName)) (z := (⟨"com/example/columella/columella/ipc/Renumbering", "keepsEveryNumber", "()Z"⟩ : MethodName)) hown (mvT hZ (hw _ (List.mem_of_getElem? (i := 16) rfl))) (mvT hZ (hw _ (List.mem_of_getElem? (i := 17) rfl))) (notFace_of_selects (args := #[]) (mvT hZ (hw _ (List.mem_of_getElem? (i := 19) rfl)))) (mvT hZ (hw _ (List.mem_of_getElem? (i := 19) rfl))) (mvT hZ (hw _ (List.mem_of_getElem? (i := 18) rfl))) (by decide) (backOf (W := 0) (rm3_1 l Z t0 hw [] b12 b6 b7 k6 k7 p2 y0 h13 n0 Z13 Fe13 Fn13 V_b6_13 V_b7_13) hZ (hw _ (List.mem_of_getElem? (i := 20) rfl)) (hw _ (List.mem_of_getElem? (i := 3) rfl)) (by decide) (by decide)) qa14 qc14 (g := (mkF m 188 #[.val (.long q0), .second, .val (.int p1), .val (.int p2), .val (.int p3), .val (.int p4), .val (.int p5), .val (.int (1 : Int32)), .val (.int y0), .val (.int y1), .val (.int y2), .val (.ref b6), .val (.ref b7), .val (.int ex), .val (.ref b12)] [(.ref b12)])) rfl (by rw [hml]; rfl) (Steps.refl _) (argsL := []) (rest := []) (lenOf pd_0_1 rfl) rfl (by show 2 * 0 + _ ≤ _; exact Nat.le_of_eq rfl) (hb hby at_188) (fun _ _ => ⟨rfl, e13, (by decide : 3 + 0 ≤ _), (by decide : 5 + 0 ≤ _)⟩)
    dsimp only [Pt.U, Pt.locs, Pt.cells, Pt.slots] at X14 l14 y14 z14 st14 hQ14
    subst l14 y14 z14
    obtain ⟨rfl, Nq14, hh14⟩ := hQ14
    have N14 := Fr.app N13 Nq14
    have e14 : T14.heap = h13 := hh14
    refine own_go (B := T14.setTop (mkF m 191 #[.val (.long q0), .second, .val (.int p1), .val (.int p2), .val (.int p3), .val (.int p4), .val (.int p5), .val (.int (1 : Int32)), .val (.int y0), .val (.int y1), .val (.int y2), .val (.ref b6), .val (.ref b7), .val (.int ex), .val (.ref b12)] [(.int (if p2 = y0 then (1 : Int32) else (0 : Int32)))])) (fun t kt => st14.trans kt) ?_
    refine own_go (B := T14.setTop (mkF m 201 #[.val (.long q0), .second, .val (.int p1), .val (.int p2), .val (.int p3), .val (.int p4), .val (.int p5), .val (.int (1 : Int32)), .val (.int y0), .val (.int y1), .val (.int y2), .val (.ref b6), .val (.ref b7), .val (.int ex), .val (.ref b12)] [(.int (1 : Int32))])) (fun t kt => ?_) ?_
    · show Steps p.tables e below (T14.setTop (mkF m 191 #[.val (.long q0), .second, .val (.int p1), .val (.int p2), .val (.int p3), .val (.int p4), .val (.int p5), .val (.int (1 : Int32)), .val (.int y0), .val (.int y1), .val (.int y2), .val (.ref b6), .val (.ref b7), .val (.int ex), .val (.ref b12)] [(.int (if p2 = y0 then (1 : Int32) else (0 : Int32)))])) _
      refine XS.iload X14.here hx rfl (hb hby at_191) rfl ?_
      show Steps p.tables e below (T14.setTop (mkF m 193 #[.val (.long q0), .second, .val (.int p1), .val (.int p2), .val (.int p3), .val (.int p4), .val (.int p5), .val (.int (1 : Int32)), .val (.int y0), .val (.int y1), .val (.int y2), .val (.ref b6), .val (.ref b7), .val (.int ex), .val (.ref b12)] [(.int ex), (.int (if p2 = y0 then (1 : Int32) else (0 : Int32)))])) _
      refine XS.icmpNo X14.here hx rfl (hb hby at_193) rfl (teq hex.symm).2 ?_
      show Steps p.tables e below (T14.setTop (mkF m 196 #[.val (.long q0), .second, .val (.int p1), .val (.int p2), .val (.int p3), .val (.int p4), .val (.int p5), .val (.int (1 : Int32)), .val (.int y0), .val (.int y1), .val (.int y2), .val (.ref b6), .val (.ref b7), .val (.int ex), .val (.ref b12)] [])) _
      refine XS.iconst X14.here hx rfl (hb hby at_196) ?_
      show Steps p.tables e below (T14.setTop (mkF m 197 #[.val (.long q0), .second, .val (.int p1), .val (.int p2), .val (.int p3), .val (.int p4), .val (.int p5), .val (.int (1 : Int32)), .val (.int y0), .val (.int y1), .val (.int y2), .val (.ref b6), .val (.ref b7), .val (.int ex), .val (.ref b12)] [(.int (1 : Int32))])) _
      refine XS.goto X14.here hx rfl (pc0 := 197) (pc' := 201) rfl (hb hby at_197) (by decide) (by decide) ?_
      exact kt
    obtain ⟨fs, hr, hrun, hended, hW, hsame⟩ := X14.leave (v := some (.int (1 : Int32))) (fun h => by rw [Bd.returns] at h; cases h)
    refine ⟨_, _, ?_, hrun, hended, _, _, rfl, ?_, ⟨_, rfl⟩, hW, hsame.mono (by decide) (by decide)⟩
    · show Steps p.tables e below (T14.setTop (mkF m 201 #[.val (.long q0), .second, .val (.int p1), .val (.int p2), .val (.int p3), .val (.int p4), .val (.int p5), .val (.int (1 : Int32)), .val (.int y0), .val (.int y1), .val (.int y2), .val (.ref b6), .val (.ref b7), .val (.int ex), .val (.ref b12)] [(.int (1 : Int32))])) _
      exact retN X14 hx (t := .boolean) Bd.returns (by simp) (hb hby at_201) hr
    · show Q0 n0 _ _
      exact ⟨rfl, N14⟩
  · refine own_go (B := s₁.setTop (mkF m 65 #[.val (.long q0), .second, .val (.int p1), .val (.int p2), .val (.int p3), .val (.int p4), .val (.int p5), .val (.int (2 : Int32)), .val (.int y0), .val (.int y1), .val (.int y2), .unset, .unset, .unset, .unset] [(.int (2 : Int32))])) (fun t kt => ?_) ?_
    · show Steps p.tables e below (s₁.setTop (mkF m 63 #[.val (.long q0), .second, .val (.int p1), .val (.int p2), .val (.int p3), .val (.int p4), .val (.int p5), .val (.int (2 : Int32)), .val (.int y0), .val (.int y1), .val (.int y2), .unset, .unset, .unset, .unset] [])) _
      refine XS.iload X0.here hx rfl (hb hby at_63) rfl ?_
      exact kt
    obtain ⟨T15, h15, k15, X15, e15, E15, A15, st15⟩ := newP X0 hx hZ (hw _ (List.mem_of_getElem? (i := 0) rfl)) e0 (g := (mkF m 65 #[.val (.long q0), .second, .val (.int p1), .val (.int p2), .val (.int p3), .val (.int p4), .val (.int p5), .val (.int (2 : Int32)), .val (.int y0), .val (.int y1), .val (.int y2), .unset, .unset, .unset, .unset] [(.int (2 : Int32))])) rfl (hb hby at_65) rfl (by decide) (cap := 2) (by decide) (by decide) (by decide) (by decide)
    obtain ⟨b15, g15⟩ : ∃ z, z = h0.size := ⟨_, rfl⟩
    rw [← g15] at A15 st15
    have g_b15 : n0 ≤ b15 := Nat.le_trans Z0 (Nat.le_of_eq g15.symm)
    have Z15 : n0 ≤ h15.size := Nat.le_trans Z0 E15.1
    have V_b15 : Arv Z h15 b15 k15 .int (2 : Int32) [(.int (0 : Int32)), (.int (0 : Int32))] (.int (0 : Int32)) := (Arv.new A15 (by decide)).pad (pad_rep [] (.int (0 : Int32)) 2)
    refine own_go (B := T15.setTop (mkF m 67 #[.val (.long q0), .second, .val (.int p1), .val (.int p2), .val (.int p3), .val (.int p4), .val (.int p5), .val (.int (2 : Int32)), .val (.int y0), .val (.int y1), .val (.int y2), .unset, .unset, .unset, .unset] [(.ref b15)])) (fun t kt => st15 t kt) ?_
    refine own_go (B := T15.setTop (mkF m 71 #[.val (.long q0), .second, .val (.int p1), .val (.int p2), .val (.int p3), .val (.int p4), .val (.int p5), .val (.int (2 : Int32)), .val (.int y0), .val (.int y1), .val (.int y2), .val (.ref b15), .unset, .unset, .unset] [(.int (2 : Int32))])) (fun t kt => ?_) ?_
    · show Steps p.tables e below (T15.setTop (mkF m 67 #[.val (.long q0), .second, .val (.int p1), .val (.int p2), .val (.int p3), .val (.int p4), .val (.int p5), .val (.int (2 : Int32)), .val (.int y0), .val (.int y1), .val (.int y2), .unset, .unset, .unset, .unset] [(.ref b15)])) _
      refine XS.astore X15.here hx rfl (hb hby at_67) rfl rfl (l' := #[.val (.long q0), .second, .val (.int p1), .val (.int p2), .val (.int p3), .val (.int p4), .val (.int p5), .val (.int (2 : Int32)), .val (.int y0), .val (.int y1), .val (.int y2), .val (.ref b15), .unset, .unset, .unset]) rfl ?_
      show Steps p.tables e below (T15.setTop (mkF m 69 #[.val (.long q0), .second, .val (.int p1), .val (.int p2), .val (.int p3), .val (.int p4), .val (.int p5), .val (.int (2 : Int32)), .val (.int y0), .val (.int y1), .val (.int y2), .val (.ref b15), .unset, .unset, .unset] [])) _
      refine XS.iload X15.here hx rfl (hb hby at_69) rfl ?_
      exact kt
    obtain ⟨T16, h16, k16, X16, e16, E16, A16, st16⟩ := newP X15 hx hZ (hw _ (List.mem_of_getElem? (i := 0) rfl)) e15 (g := (mkF m 71 #[.val (.long q0), .second, .val (.int p1), .val (.int p2), .val (.int p3), .val (.int p4), .val (.int p5), .val (.int (2 : Int32)), .val (.int y0), .val (.int y1), .val (.int y2), .val (.ref b15), .unset, .unset, .unset] [(.int (2 : Int32))])) rfl (hb hby at_71) rfl (by decide) (cap := 2) (by decide) (by decide) (by decide) (by decide)
    obtain ⟨b16, g16⟩ : ∃ z, z = h15.size := ⟨_, rfl⟩
    rw [← g16] at A16 st16
    have g_b16 : n0 ≤ b16 := Nat.le_trans Z15 (Nat.le_of_eq g16.symm)
    have ne_b15_b16 : b15 ≠ b16 := Nat.ne_of_lt (Nat.lt_of_lt_of_le V_b15.lt (Nat.le_of_eq g16.symm))
    have V_b15_16 := V_b15.ext E16
    have Z16 : n0 ≤ h16.size := Nat.le_trans Z15 E16.1
    have V_b16 : Arv Z h16 b16 k16 .int (2 : Int32) [(.int (0 : Int32)), (.int (0 : Int32))] (.int (0 : Int32)) := (Arv.new A16 (by decide)).pad (pad_rep [] (.int (0 : Int32)) 2)
    refine own_go (B := T16.setTop (mkF m 73 #[.val (.long q0), .second, .val (.int p1), .val (.int p2), .val (.int p3), .val (.int p4), .val (.int p5), .val (.int (2 : Int32)), .val (.int y0), .val (.int y1), .val (.int y2), .val (.ref b15), .unset, .unset, .unset] [(.ref b16)])) (fun t kt => st16 t kt) ?_
    refine own_go (B := T16.setTop (mkF m 75 #[.val (.long q0), .second, .val (.int p1), .val (.int p2), .val (.int p3), .val (.int p4), .val (.int p5), .val (.int (2 : Int32)), .val (.int y0), .val (.int y1), .val (.int y2), .val (.ref b15), .val (.ref b16), .unset, .unset] [])) (fun t kt => ?_) ?_
    · show Steps p.tables e below (T16.setTop (mkF m 73 #[.val (.long q0), .second, .val (.int p1), .val (.int p2), .val (.int p3), .val (.int p4), .val (.int p5), .val (.int (2 : Int32)), .val (.int y0), .val (.int y1), .val (.int y2), .val (.ref b15), .unset, .unset, .unset] [(.ref b16)])) _
      refine XS.astore X16.here hx rfl (hb hby at_73) rfl rfl (l' := #[.val (.long q0), .second, .val (.int p1), .val (.int p2), .val (.int p3), .val (.int p4), .val (.int p5), .val (.int (2 : Int32)), .val (.int y0), .val (.int y1), .val (.int y2), .val (.ref b15), .val (.ref b16), .unset, .unset]) rfl ?_
      exact kt
    refine own_go (B := T16.setTop (mkF m 84 #[.val (.long q0), .second, .val (.int p1), .val (.int p2), .val (.int p3), .val (.int p4), .val (.int p5), .val (.int (2 : Int32)), .val (.int y0), .val (.int y1), .val (.int y2), .val (.ref b15), .val (.ref b16), .unset, .unset] [(.int p2), (.int (0 : Int32)), (.ref b15)])) (fun t kt => ?_) ?_
    · show Steps p.tables e below (T16.setTop (mkF m 75 #[.val (.long q0), .second, .val (.int p1), .val (.int p2), .val (.int p3), .val (.int p4), .val (.int p5), .val (.int (2 : Int32)), .val (.int y0), .val (.int y1), .val (.int y2), .val (.ref b15), .val (.ref b16), .unset, .unset] [])) _
      refine XS.iload X16.here hx rfl (hb hby at_75) rfl ?_
      show Steps p.tables e below (T16.setTop (mkF m 77 #[.val (.long q0), .second, .val (.int p1), .val (.int p2), .val (.int p3), .val (.int p4), .val (.int p5), .val (.int (2 : Int32)), .val (.int y0), .val (.int y1), .val (.int y2), .val (.ref b15), .val (.ref b16), .unset, .unset] [(.int (2 : Int32))])) _
      refine XS.ifNo X16.here hx rfl (hb hby at_77) rfl ((if0 _ _).trans (tlt (by decide)).2.2.2) ?_
      show Steps p.tables e below (T16.setTop (mkF m 80 #[.val (.long q0), .second, .val (.int p1), .val (.int p2), .val (.int p3), .val (.int p4), .val (.int p5), .val (.int (2 : Int32)), .val (.int y0), .val (.int y1), .val (.int y2), .val (.ref b15), .val (.ref b16), .unset, .unset] [])) _
      refine XS.aload X16.here hx rfl (hb hby at_80) rfl rfl ?_
      show Steps p.tables e below (T16.setTop (mkF m 82 #[.val (.long q0), .second, .val (.int p1), .val (.int p2), .val (.int p3), .val (.int p4), .val (.int p5), .val (.int (2 : Int32)), .val (.int y0), .val (.int y1), .val (.int y2), .val (.ref b15), .val (.ref b16), .unset, .unset] [(.ref b15)])) _
      refine XS.iconst X16.here hx rfl (hb hby at_82) ?_
      show Steps p.tables e below (T16.setTop (mkF m 83 #[.val (.long q0), .second, .val (.int p1), .val (.int p2), .val (.int p3), .val (.int p4), .val (.int p5), .val (.int (2 : Int32)), .val (.int y0), .val (.int y1), .val (.int y2), .val (.ref b15), .val (.ref b16), .unset, .unset] [(.int (0 : Int32)), (.ref b15)])) _
      refine XS.iloadN X16.here hx rfl (hb hby at_83) rfl ?_
      exact kt
    obtain ⟨cl17, Ar17, q17, S17, M17, H17, G17⟩ := id V_b15_16
    obtain ⟨T18, h18, X18, e18, W18, st18⟩ := stI X16 hx hZ e16 Ar17 (j := (0 : Int32)) (inb_of S17 ⟨by decide, by decide⟩) (g := (mkF m 84 #[.val (.long q0), .second, .val (.int p1), .val (.int p2), .val (.int p3), .val (.int p4), .val (.int p5), .val (.int (2 : Int32)), .val (.int y0), .val (.int y1), .val (.int y2), .val (.ref b15), .val (.ref b16), .unset, .unset] [(.int p2), (.int (0 : Int32)), (.ref b15)])) rfl rfl (hb hby at_84)
    have V_b15_18 : Arv Z h18 b15 k15 .int (2 : Int32) [(.int p2), (.int (0 : Int32))] (.int (0 : Int32)) := Arv.set Ar17 q17 S17 M17 H17 G17 rfl W18 0 rfl (Nat.le_of_ble_eq_true rfl)
    have V_b16_18 := V_b16.other W18 (Ne.symm ne_b15_b16)
    have Z18 : n0 ≤ h18.size := Nat.le_trans Z16 (Keep.of_wr W18).1
    have N18 := Fr.snoc X18 N0 g_b15
    refine own_go (B := T18.setTop (mkF m 85 #[.val (.long q0), .second, .val (.int p1), .val (.int p2), .val (.int p3), .val (.int p4), .val (.int p5), .val (.int (2 : Int32)), .val (.int y0), .val (.int y1), .val (.int y2), .val (.ref b15), .val (.ref b16), .unset, .unset] [])) (fun t kt => st18 t kt) ?_
    refine own_go (B := T18.setTop (mkF m 90 #[.val (.long q0), .second, .val (.int p1), .val (.int p2), .val (.int p3), .val (.int p4), .val (.int p5), .val (.int (2 : Int32)), .val (.int y0), .val (.int y1), .val (.int y2), .val (.ref b15), .val (.ref b16), .unset, .unset] [(.int y0), (.int (0 : Int32)), (.ref b16)])) (fun t kt => ?_) ?_
    · show Steps p.tables e below (T18.setTop (mkF m 85 #[.val (.long q0), .second, .val (.int p1), .val (.int p2), .val (.int p3), .val (.int p4), .val (.int p5), .val (.int (2 : Int32)), .val (.int y0), .val (.int y1), .val (.int y2), .val (.ref b15), .val (.ref b16), .unset, .unset] [])) _
      refine XS.aload X18.here hx rfl (hb hby at_85) rfl rfl ?_
      show Steps p.tables e below (T18.setTop (mkF m 87 #[.val (.long q0), .second, .val (.int p1), .val (.int p2), .val (.int p3), .val (.int p4), .val (.int p5), .val (.int (2 : Int32)), .val (.int y0), .val (.int y1), .val (.int y2), .val (.ref b15), .val (.ref b16), .unset, .unset] [(.ref b16)])) _
      refine XS.iconst X18.here hx rfl (hb hby at_87) ?_
      show Steps p.tables e below (T18.setTop (mkF m 88 #[.val (.long q0), .second, .val (.int p1), .val (.int p2), .val (.int p3), .val (.int p4), .val (.int p5), .val (.int (2 : Int32)), .val (.int y0), .val (.int y1), .val (.int y2), .val (.ref b15), .val (.ref b16), .unset, .unset] [(.int (0 : Int32)), (.ref b16)])) _
      refine XS.iload X18.here hx rfl (hb hby at_88) rfl ?_
      exact kt
    obtain ⟨cl19, Ar19, q19, S19, M19, H19, G19⟩ := id V_b16_18
    obtain ⟨T20, h20, X20, e20, W20, st20⟩ := stI X18 hx hZ e18 Ar19 (j := (0 : Int32)) (inb_of S19 ⟨by decide, by decide⟩) (g := (mkF m 90 #[.val (.long q0), .second, .val (.int p1), .val (.int p2), .val (.int p3), .val (.int p4), .val (.int p5), .val (.int (2 : Int32)), .val (.int y0), .val (.int y1), .val (.int y2), .val (.ref b15), .val (.ref b16), .unset, .unset] [(.int y0), (.int (0 : Int32)), (.ref b16)])) rfl rfl (hb hby at_90)
    have V_b16_20 : Arv Z h20 b16 k16 .int (2 : Int32) [(.int y0), (.int (0 : Int32))] (.int (0 : Int32)) := Arv.set Ar19 q19 S19 M19 H19 G19 rfl W20 0 rfl (Nat.le_of_ble_eq_true rfl)
    have V_b15_20 := V_b15_18.other W20 ne_b15_b16
    have Z20 : n0 ≤ h20.size := Nat.le_trans Z18 (Keep.of_wr W20).1
    have N20 := Fr.snoc X20 N18 g_b16
    refine own_go (B := T20.setTop (mkF m 91 #[.val (.long q0), .second, .val (.int p1), .val (.int p2), .val (.int p3), .val (.int p4), .val (.int p5), .val (.int (2 : Int32)), .val (.int y0), .val (.int y1), .val (.int y2), .val (.ref b15), .val (.ref b16), .unset, .unset] [])) (fun t kt => st20 t kt) ?_
    refine own_go (B := T20.setTop (mkF m 102 #[.val (.long q0), .second, .val (.int p1), .val (.int p2), .val (.int p3), .val (.int p4), .val (.int p5), .val (.int (2 : Int32)), .val (.int y0), .val (.int y1), .val (.int y2), .val (.ref b15), .val (.ref b16), .unset, .unset] [(.int p3), (.int (1 : Int32)), (.ref b15)])) (fun t kt => ?_) ?_
    · show Steps p.tables e below (T20.setTop (mkF m 91 #[.val (.long q0), .second, .val (.int p1), .val (.int p2), .val (.int p3), .val (.int p4), .val (.int p5), .val (.int (2 : Int32)), .val (.int y0), .val (.int y1), .val (.int y2), .val (.ref b15), .val (.ref b16), .unset, .unset] [])) _
      refine XS.iload X20.here hx rfl (hb hby at_91) rfl ?_
      show Steps p.tables e below (T20.setTop (mkF m 93 #[.val (.long q0), .second, .val (.int p1), .val (.int p2), .val (.int p3), .val (.int p4), .val (.int p5), .val (.int (2 : Int32)), .val (.int y0), .val (.int y1), .val (.int y2), .val (.ref b15), .val (.ref b16), .unset, .unset] [(.int (2 : Int32))])) _
      refine XS.iconst X20.here hx rfl (hb hby at_93) ?_
      show Steps p.tables e below (T20.setTop (mkF m 94 #[.val (.long q0), .second, .val (.int p1), .val (.int p2), .val (.int p3), .val (.int p4), .val (.int p5), .val (.int (2 : Int32)), .val (.int y0), .val (.int y1), .val (.int y2), .val (.ref b15), .val (.ref b16), .unset, .unset] [(.int (1 : Int32)), (.int (2 : Int32))])) _
      refine XS.icmpNo X20.here hx rfl (hb hby at_94) rfl (tlt (by decide)).2.2.2 ?_
      show Steps p.tables e below (T20.setTop (mkF m 97 #[.val (.long q0), .second, .val (.int p1), .val (.int p2), .val (.int p3), .val (.int p4), .val (.int p5), .val (.int (2 : Int32)), .val (.int y0), .val (.int y1), .val (.int y2), .val (.ref b15), .val (.ref b16), .unset, .unset] [])) _
      refine XS.aload X20.here hx rfl (hb hby at_97) rfl rfl ?_
      show Steps p.tables e below (T20.setTop (mkF m 99 #[.val (.long q0), .second, .val (.int p1), .val (.int p2), .val (.int p3), .val (.int p4), .val (.int p5), .val (.int (2 : Int32)), .val (.int y0), .val (.int y1), .val (.int y2), .val (.ref b15), .val (.ref b16), .unset, .unset] [(.ref b15)])) _
      refine XS.iconst X20.here hx rfl (hb hby at_99) ?_
      show Steps p.tables e below (T20.setTop (mkF m 100 #[.val (.long q0), .second, .val (.int p1), .val (.int p2), .val (.int p3), .val (.int p4), .val (.int p5), .val (.int (2 : Int32)), .val (.int y0), .val (.int y1), .val (.int y2), .val (.ref b15), .val (.ref b16), .unset, .unset] [(.int (1 : Int32)), (.ref b15)])) _
      refine XS.iload X20.here hx rfl (hb hby at_100) rfl ?_
      exact kt
    obtain ⟨cl21, Ar21, q21, S21, M21, H21, G21⟩ := id V_b15_20
    obtain ⟨T22, h22, X22, e22, W22, st22⟩ := stI X20 hx hZ e20 Ar21 (j := (1 : Int32)) (inb_of S21 ⟨by decide, by decide⟩) (g := (mkF m 102 #[.val (.long q0), .second, .val (.int p1), .val (.int p2), .val (.int p3), .val (.int p4), .val (.int p5), .val (.int (2 : Int32)), .val (.int y0), .val (.int y1), .val (.int y2), .val (.ref b15), .val (.ref b16), .unset, .unset] [(.int p3), (.int (1 : Int32)), (.ref b15)])) rfl rfl (hb hby at_102)
    have V_b15_22 : Arv Z h22 b15 k15 .int (2 : Int32) [(.int p2), (.int p3)] (.int (0 : Int32)) := Arv.set Ar21 q21 S21 M21 H21 G21 rfl W22 1 rfl (Nat.le_of_ble_eq_true rfl)
    have V_b16_22 := V_b16_20.other W22 (Ne.symm ne_b15_b16)
    have Z22 : n0 ≤ h22.size := Nat.le_trans Z20 (Keep.of_wr W22).1
    have N22 := Fr.snoc X22 N20 g_b15
    refine own_go (B := T22.setTop (mkF m 103 #[.val (.long q0), .second, .val (.int p1), .val (.int p2), .val (.int p3), .val (.int p4), .val (.int p5), .val (.int (2 : Int32)), .val (.int y0), .val (.int y1), .val (.int y2), .val (.ref b15), .val (.ref b16), .unset, .unset] [])) (fun t kt => st22 t kt) ?_
    refine own_go (B := T22.setTop (mkF m 108 #[.val (.long q0), .second, .val (.int p1), .val (.int p2), .val (.int p3), .val (.int p4), .val (.int p5), .val (.int (2 : Int32)), .val (.int y0), .val (.int y1), .val (.int y2), .val (.ref b15), .val (.ref b16), .unset, .unset] [(.int y1), (.int (1 : Int32)), (.ref b16)])) (fun t kt => ?_) ?_
    · show Steps p.tables e below (T22.setTop (mkF m 103 #[.val (.long q0), .second, .val (.int p1), .val (.int p2), .val (.int p3), .val (.int p4), .val (.int p5), .val (.int (2 : Int32)), .val (.int y0), .val (.int y1), .val (.int y2), .val (.ref b15), .val (.ref b16), .unset, .unset] [])) _
      refine XS.aload X22.here hx rfl (hb hby at_103) rfl rfl ?_
      show Steps p.tables e below (T22.setTop (mkF m 105 #[.val (.long q0), .second, .val (.int p1), .val (.int p2), .val (.int p3), .val (.int p4), .val (.int p5), .val (.int (2 : Int32)), .val (.int y0), .val (.int y1), .val (.int y2), .val (.ref b15), .val (.ref b16), .unset, .unset] [(.ref b16)])) _
      refine XS.iconst X22.here hx rfl (hb hby at_105) ?_
      show Steps p.tables e below (T22.setTop (mkF m 106 #[.val (.long q0), .second, .val (.int p1), .val (.int p2), .val (.int p3), .val (.int p4), .val (.int p5), .val (.int (2 : Int32)), .val (.int y0), .val (.int y1), .val (.int y2), .val (.ref b15), .val (.ref b16), .unset, .unset] [(.int (1 : Int32)), (.ref b16)])) _
      refine XS.iload X22.here hx rfl (hb hby at_106) rfl ?_
      exact kt
    obtain ⟨cl23, Ar23, q23, S23, M23, H23, G23⟩ := id V_b16_22
    obtain ⟨T24, h24, X24, e24, W24, st24⟩ := stI X22 hx hZ e22 Ar23 (j := (1 : Int32)) (inb_of S23 ⟨by decide, by decide⟩) (g := (mkF m 108 #[.val (.long q0), .second, .val (.int p1), .val (.int p2), .val (.int p3), .val (.int p4), .val (.int p5), .val (.int (2 : Int32)), .val (.int y0), .val (.int y1), .val (.int y2), .val (.ref b15), .val (.ref b16), .unset, .unset] [(.int y1), (.int (1 : Int32)), (.ref b16)])) rfl rfl (hb hby at_108)
    have V_b16_24 : Arv Z h24 b16 k16 .int (2 : Int32) [(.int y0), (.int y1)] (.int (0 : Int32)) := Arv.set Ar23 q23 S23 M23 H23 G23 rfl W24 1 rfl (Nat.le_of_ble_eq_true rfl)
    have V_b15_24 := V_b15_22.other W24 ne_b15_b16
    have Z24 : n0 ≤ h24.size := Nat.le_trans Z22 (Keep.of_wr W24).1
    have N24 := Fr.snoc X24 N22 g_b16
    refine own_go (B := T24.setTop (mkF m 109 #[.val (.long q0), .second, .val (.int p1), .val (.int p2), .val (.int p3), .val (.int p4), .val (.int p5), .val (.int (2 : Int32)), .val (.int y0), .val (.int y1), .val (.int y2), .val (.ref b15), .val (.ref b16), .unset, .unset] [])) (fun t kt => st24 t kt) ?_
    refine own_go (B := T24.setTop (mkF m 127 #[.val (.long q0), .second, .val (.int p1), .val (.int p2), .val (.int p3), .val (.int p4), .val (.int p5), .val (.int (2 : Int32)), .val (.int y0), .val (.int y1), .val (.int y2), .val (.ref b15), .val (.ref b16), .unset, .unset] [])) (fun t kt => ?_) ?_
    · show Steps p.tables e below (T24.setTop (mkF m 109 #[.val (.long q0), .second, .val (.int p1), .val (.int p2), .val (.int p3), .val (.int p4), .val (.int p5), .val (.int (2 : Int32)), .val (.int y0), .val (.int y1), .val (.int y2), .val (.ref b15), .val (.ref b16), .unset, .unset] [])) _
      refine XS.iload X24.here hx rfl (hb hby at_109) rfl ?_
      show Steps p.tables e below (T24.setTop (mkF m 111 #[.val (.long q0), .second, .val (.int p1), .val (.int p2), .val (.int p3), .val (.int p4), .val (.int p5), .val (.int (2 : Int32)), .val (.int y0), .val (.int y1), .val (.int y2), .val (.ref b15), .val (.ref b16), .unset, .unset] [(.int (2 : Int32))])) _
      refine XS.iconst X24.here hx rfl (hb hby at_111) ?_
      show Steps p.tables e below (T24.setTop (mkF m 112 #[.val (.long q0), .second, .val (.int p1), .val (.int p2), .val (.int p3), .val (.int p4), .val (.int p5), .val (.int (2 : Int32)), .val (.int y0), .val (.int y1), .val (.int y2), .val (.ref b15), .val (.ref b16), .unset, .unset] [(.int (2 : Int32)), (.int (2 : Int32))])) _
      refine XS.icmpYes X24.here hx rfl (pc0 := 112) (pc' := 127) rfl (hb hby at_112) rfl (flt (by decide)).2.2.2 (by decide) (by decide) ?_
      exact kt
    obtain ⟨ex, hex⟩ : ∃ z : Int32, z = (if p2 = y0 then (if p3 = y1 then (1 : Int32) else (0 : Int32)) else (0 : Int32)) := ⟨_, rfl⟩
    refine own_go (B := T24.setTop (mkF m 170 #[.val (.long q0), .second, .val (.int p1), .val (.int p2), .val (.int p3), .val (.int p4), .val (.int p5), .val (.int (2 : Int32)), .val (.int y0), .val (.int y1), .val (.int y2), .val (.ref b15), .val (.ref b16), .unset, .unset] [(.int ex)])) (fun t kt => ?_) ?_
    · show Steps p.tables e below (T24.setTop (mkF m 127 #[.val (.long q0), .second, .val (.int p1), .val (.int p2), .val (.int p3), .val (.int p4), .val (.int p5), .val (.int (2 : Int32)), .val (.int y0), .val (.int y1), .val (.int y2), .val (.ref b15), .val (.ref b16), .unset, .unset] [])) _
      refine XS.iload X24.here hx rfl (hb hby at_127) rfl ?_
      show Steps p.tables e below (T24.setTop (mkF m 129 #[.val (.long q0), .second, .val (.int p1), .val (.int p2), .val (.int p3), .val (.int p4), .val (.int p5), .val (.int (2 : Int32)), .val (.int y0), .val (.int y1), .val (.int y2), .val (.ref b15), .val (.ref b16), .unset, .unset] [(.int (2 : Int32))])) _
      refine XS.iconst X24.here hx rfl (hb hby at_129) ?_
      show Steps p.tables e below (T24.setTop (mkF m 130 #[.val (.long q0), .second, .val (.int p1), .val (.int p2), .val (.int p3), .val (.int p4), .val (.int p5), .val (.int (2 : Int32)), .val (.int y0), .val (.int y1), .val (.int y2), .val (.ref b15), .val (.ref b16), .unset, .unset] [(.int (1 : Int32)), (.int (2 : Int32))])) _
      refine XS.icmpNo X24.here hx rfl (hb hby at_130) rfl (flt (by decide)).1 ?_
      show Steps p.tables e below (T24.setTop (mkF m 133 #[.val (.long q0), .second, .val (.int p1), .val (.int p2), .val (.int p3), .val (.int p4), .val (.int p5), .val (.int (2 : Int32)), .val (.int y0), .val (.int y1), .val (.int y2), .val (.ref b15), .val (.ref b16), .unset, .unset] [])) _
      refine XS.iloadN X24.here hx rfl (hb hby at_133) rfl ?_
      show Steps p.tables e below (T24.setTop (mkF m 134 #[.val (.long q0), .second, .val (.int p1), .val (.int p2), .val (.int p3), .val (.int p4), .val (.int p5), .val (.int (2 : Int32)), .val (.int y0), .val (.int y1), .val (.int y2), .val (.ref b15), .val (.ref b16), .unset, .unset] [(.int p2)])) _
      refine XS.iload X24.here hx rfl (hb hby at_134) rfl ?_
      by_cases hc136 : p2 = y0
      · show Steps p.tables e below (T24.setTop (mkF m 136 #[.val (.long q0), .second, .val (.int p1), .val (.int p2), .val (.int p3), .val (.int p4), .val (.int p5), .val (.int (2 : Int32)), .val (.int y0), .val (.int y1), .val (.int y2), .val (.ref b15), .val (.ref b16), .unset, .unset] [(.int y0), (.int p2)])) _
        refine XS.icmpNo X24.here hx rfl (hb hby at_136) rfl (teq hc136).2 ?_
        show Steps p.tables e below (T24.setTop (mkF m 139 #[.val (.long q0), .second, .val (.int p1), .val (.int p2), .val (.int p3), .val (.int p4), .val (.int p5), .val (.int (2 : Int32)), .val (.int y0), .val (.int y1), .val (.int y2), .val (.ref b15), .val (.ref b16), .unset, .unset] [])) _
        refine XS.iload X24.here hx rfl (hb hby at_139) rfl ?_
        show Steps p.tables e below (T24.setTop (mkF m 141 #[.val (.long q0), .second, .val (.int p1), .val (.int p2), .val (.int p3), .val (.int p4), .val (.int p5), .val (.int (2 : Int32)), .val (.int y0), .val (.int y1), .val (.int y2), .val (.ref b15), .val (.ref b16), .unset, .unset] [(.int (2 : Int32))])) _
        refine XS.iconst X24.here hx rfl (hb hby at_141) ?_
        show Steps p.tables e below (T24.setTop (mkF m 142 #[.val (.long q0), .second, .val (.int p1), .val (.int p2), .val (.int p3), .val (.int p4), .val (.int p5), .val (.int (2 : Int32)), .val (.int y0), .val (.int y1), .val (.int y2), .val (.ref b15), .val (.ref b16), .unset, .unset] [(.int (2 : Int32)), (.int (2 : Int32))])) _
        refine XS.icmpNo X24.here hx rfl (hb hby at_142) rfl (flt (by decide)).1 ?_
        show Steps p.tables e below (T24.setTop (mkF m 145 #[.val (.long q0), .second, .val (.int p1), .val (.int p2), .val (.int p3), .val (.int p4), .val (.int p5), .val (.int (2 : Int32)), .val (.int y0), .val (.int y1), .val (.int y2), .val (.ref b15), .val (.ref b16), .unset, .unset] [])) _
        refine XS.iload X24.here hx rfl (hb hby at_145) rfl ?_
        show Steps p.tables e below (T24.setTop (mkF m 147 #[.val (.long q0), .second, .val (.int p1), .val (.int p2), .val (.int p3), .val (.int p4), .val (.int p5), .val (.int (2 : Int32)), .val (.int y0), .val (.int y1), .val (.int y2), .val (.ref b15), .val (.ref b16), .unset, .unset] [(.int p3)])) _
        refine XS.iload X24.here hx rfl (hb hby at_147) rfl ?_
        by_cases hc149 : p3 = y1
        · show Steps p.tables e below (T24.setTop (mkF m 149 #[.val (.long q0), .second, .val (.int p1), .val (.int p2), .val (.int p3), .val (.int p4), .val (.int p5), .val (.int (2 : Int32)), .val (.int y0), .val (.int y1), .val (.int y2), .val (.ref b15), .val (.ref b16), .unset, .unset] [(.int y1), (.int p3)])) _
          refine XS.icmpNo X24.here hx rfl (hb hby at_149) rfl (teq hc149).2 ?_
          show Steps p.tables e below (T24.setTop (mkF m 152 #[.val (.long q0), .second, .val (.int p1), .val (.int p2), .val (.int p3), .val (.int p4), .val (.int p5), .val (.int (2 : Int32)), .val (.int y0), .val (.int y1), .val (.int y2), .val (.ref b15), .val (.ref b16), .unset, .unset] [])) _
          refine XS.iload X24.here hx rfl (hb hby at_152) rfl ?_
          show Steps p.tables e below (T24.setTop (mkF m 154 #[.val (.long q0), .second, .val (.int p1), .val (.int p2), .val (.int p3), .val (.int p4), .val (.int p5), .val (.int (2 : Int32)), .val (.int y0), .val (.int y1), .val (.int y2), .val (.ref b15), .val (.ref b16), .unset, .unset] [(.int (2 : Int32))])) _
          refine XS.iconst X24.here hx rfl (hb hby at_154) ?_
          show Steps p.tables e below (T24.setTop (mkF m 155 #[.val (.long q0), .second, .val (.int p1), .val (.int p2), .val (.int p3), .val (.int p4), .val (.int p5), .val (.int (2 : Int32)), .val (.int y0), .val (.int y1), .val (.int y2), .val (.ref b15), .val (.ref b16), .unset, .unset] [(.int (3 : Int32)), (.int (2 : Int32))])) _
          refine XS.icmpYes X24.here hx rfl (pc0 := 155) (pc' := 165) rfl (hb hby at_155) rfl (tlt (by decide)).1 (by decide) (by decide) ?_
          show Steps p.tables e below (T24.setTop (mkF m 165 #[.val (.long q0), .second, .val (.int p1), .val (.int p2), .val (.int p3), .val (.int p4), .val (.int p5), .val (.int (2 : Int32)), .val (.int y0), .val (.int y1), .val (.int y2), .val (.ref b15), .val (.ref b16), .unset, .unset] [])) _
          refine XS.iconst X24.here hx rfl (hb hby at_165) ?_
          show Steps p.tables e below (T24.setTop (mkF m 166 #[.val (.long q0), .second, .val (.int p1), .val (.int p2), .val (.int p3), .val (.int p4), .val (.int p5), .val (.int (2 : Int32)), .val (.int y0), .val (.int y1), .val (.int y2), .val (.ref b15), .val (.ref b16), .unset, .unset] [(.int (1 : Int32))])) _
          refine XS.goto X24.here hx rfl (pc0 := 166) (pc' := 170) rfl (hb hby at_166) (by decide) (by decide) ?_
          rw [show ex = (1 : Int32) from by rw [hex, if_pos hc136, if_pos hc149]] at kt
          exact kt
        · show Steps p.tables e below (T24.setTop (mkF m 149 #[.val (.long q0), .second, .val (.int p1), .val (.int p2), .val (.int p3), .val (.int p4), .val (.int p5), .val (.int (2 : Int32)), .val (.int y0), .val (.int y1), .val (.int y2), .val (.ref b15), .val (.ref b16), .unset, .unset] [(.int y1), (.int p3)])) _
          refine XS.icmpYes X24.here hx rfl (pc0 := 149) (pc' := 169) rfl (hb hby at_149) rfl (feq hc149).2 (by decide) (by decide) ?_
          show Steps p.tables e below (T24.setTop (mkF m 169 #[.val (.long q0), .second, .val (.int p1), .val (.int p2), .val (.int p3), .val (.int p4), .val (.int p5), .val (.int (2 : Int32)), .val (.int y0), .val (.int y1), .val (.int y2), .val (.ref b15), .val (.ref b16), .unset, .unset] [])) _
          refine XS.iconst X24.here hx rfl (hb hby at_169) ?_
          rw [show ex = (0 : Int32) from by rw [hex, if_pos hc136, if_neg hc149]] at kt
          exact kt
      · show Steps p.tables e below (T24.setTop (mkF m 136 #[.val (.long q0), .second, .val (.int p1), .val (.int p2), .val (.int p3), .val (.int p4), .val (.int p5), .val (.int (2 : Int32)), .val (.int y0), .val (.int y1), .val (.int y2), .val (.ref b15), .val (.ref b16), .unset, .unset] [(.int y0), (.int p2)])) _
        refine XS.icmpYes X24.here hx rfl (pc0 := 136) (pc' := 169) rfl (hb hby at_136) rfl (feq hc136).2 (by decide) (by decide) ?_
        show Steps p.tables e below (T24.setTop (mkF m 169 #[.val (.long q0), .second, .val (.int p1), .val (.int p2), .val (.int p3), .val (.int p4), .val (.int p5), .val (.int (2 : Int32)), .val (.int y0), .val (.int y1), .val (.int y2), .val (.ref b15), .val (.ref b16), .unset, .unset] [])) _
        refine XS.iconst X24.here hx rfl (hb hby at_169) ?_
        rw [show ex = (0 : Int32) from by rw [hex, if_neg hc136]] at kt
        exact kt
    refine own_go (B := T24.setTop (mkF m 172 #[.val (.long q0), .second, .val (.int p1), .val (.int p2), .val (.int p3), .val (.int p4), .val (.int p5), .val (.int (2 : Int32)), .val (.int y0), .val (.int y1), .val (.int y2), .val (.ref b15), .val (.ref b16), .val (.int ex), .unset] [])) (fun t kt => ?_) ?_
    · show Steps p.tables e below (T24.setTop (mkF m 170 #[.val (.long q0), .second, .val (.int p1), .val (.int p2), .val (.int p3), .val (.int p4), .val (.int p5), .val (.int (2 : Int32)), .val (.int y0), .val (.int y1), .val (.int y2), .val (.ref b15), .val (.ref b16), .unset, .unset] [(.int ex)])) _
      refine XS.istore X24.here hx rfl (hb hby at_170) rfl (l' := #[.val (.long q0), .second, .val (.int p1), .val (.int p2), .val (.int p3), .val (.int p4), .val (.int p5), .val (.int (2 : Int32)), .val (.int y0), .val (.int y1), .val (.int y2), .val (.ref b15), .val (.ref b16), .val (.int ex), .unset]) rfl ?_
      exact kt
    obtain ⟨T25, h25, X25, e25, E25, A25, D25, -, st25⟩ := newO X24 hx hZ hown (hw _ (List.mem_of_getElem? (i := 1) rfl)) (hw _ (List.mem_of_getElem? (i := 2) rfl)) (hw _ (List.mem_of_getElem? (i := 3) rfl)) e24 (g := (mkF m 172 #[.val (.long q0), .second, .val (.int p1), .val (.int p2), .val (.int p3), .val (.int p4), .val (.int p5), .val (.int (2 : Int32)), .val (.int y0), .val (.int y1), .val (.int y2), .val (.ref b15), .val (.ref b16), .val (.int ex), .unset] [])) rfl (hb hby at_172) (by decide) (by decide)
    obtain ⟨b25, g25⟩ : ∃ z, z = h24.size := ⟨_, rfl⟩
    rw [← g25] at A25 D25 st25
    have g_b25 : n0 ≤ b25 := Nat.le_trans Z24 (Nat.le_of_eq g25.symm)
    have ne_b15_b25 : b15 ≠ b25 := Nat.ne_of_lt (Nat.lt_of_lt_of_le V_b15_24.lt (Nat.le_of_eq g25.symm))
    have ne_b16_b25 : b16 ≠ b25 := Nat.ne_of_lt (Nat.lt_of_lt_of_le V_b16_24.lt (Nat.le_of_eq g25.symm))
    have V_b15_25 := V_b15_24.ext E25
    have V_b16_25 := V_b16_24.ext E25
    have Z25 : n0 ≤ h25.size := Nat.le_trans Z24 E25.1
    have E_b25 := A25
    have F_id_b25 : Fld Z h25 b25 "com/example/columella/columella/ipc/Renumbering" "id" "J" (.long (0 : Int64)) := D25 (Or.inr (hw _ (List.mem_of_getElem? (i := 11) rfl))) (ty := .long) (by decide)
    have F_entries_b25 : Fld Z h25 b25 "com/example/columella/columella/ipc/Renumbering" "entries" "[I" .null := D25 (Or.inr (hw _ (List.mem_of_getElem? (i := 13) rfl))) (ty := (.array .int)) (by decide)
    have F_numbers_b25 : Fld Z h25 b25 "com/example/columella/columella/ipc/Renumbering" "numbers" "[I" .null := D25 (Or.inr (hw _ (List.mem_of_getElem? (i := 15) rfl))) (ty := (.array .int)) (by decide)
    refine own_go (B := T25.setTop (mkF m 175 #[.val (.long q0), .second, .val (.int p1), .val (.int p2), .val (.int p3), .val (.int p4), .val (.int p5), .val (.int (2 : Int32)), .val (.int y0), .val (.int y1), .val (.int y2), .val (.ref b15), .val (.ref b16), .val (.int ex), .unset] [(.ref b25)])) (fun t kt => st25 t kt) ?_
    refine own_go (B := T25.setTop (mkF m 181 #[.val (.long q0), .second, .val (.int p1), .val (.int p2), .val (.int p3), .val (.int p4), .val (.int p5), .val (.int (2 : Int32)), .val (.int y0), .val (.int y1), .val (.int y2), .val (.ref b15), .val (.ref b16), .val (.int ex), .unset] [(.ref b16), (.ref b15), (.long q0), (.ref b25), (.ref b25)])) (fun t kt => ?_) ?_
    · show Steps p.tables e below (T25.setTop (mkF m 175 #[.val (.long q0), .second, .val (.int p1), .val (.int p2), .val (.int p3), .val (.int p4), .val (.int p5), .val (.int (2 : Int32)), .val (.int y0), .val (.int y1), .val (.int y2), .val (.ref b15), .val (.ref b16), .val (.int ex), .unset] [(.ref b25)])) _
      refine XS.dup X25.here hx rfl (hb hby at_175) rfl rfl ?_
      show Steps p.tables e below (T25.setTop (mkF m 176 #[.val (.long q0), .second, .val (.int p1), .val (.int p2), .val (.int p3), .val (.int p4), .val (.int p5), .val (.int (2 : Int32)), .val (.int y0), .val (.int y1), .val (.int y2), .val (.ref b15), .val (.ref b16), .val (.int ex), .unset] [(.ref b25), (.ref b25)])) _
      refine XS.lloadN X25.here hx rfl (hb hby at_176) rfl ?_
      show Steps p.tables e below (T25.setTop (mkF m 177 #[.val (.long q0), .second, .val (.int p1), .val (.int p2), .val (.int p3), .val (.int p4), .val (.int p5), .val (.int (2 : Int32)), .val (.int y0), .val (.int y1), .val (.int y2), .val (.ref b15), .val (.ref b16), .val (.int ex), .unset] [(.long q0), (.ref b25), (.ref b25)])) _
      refine XS.aload X25.here hx rfl (hb hby at_177) rfl rfl ?_
      show Steps p.tables e below (T25.setTop (mkF m 179 #[.val (.long q0), .second, .val (.int p1), .val (.int p2), .val (.int p3), .val (.int p4), .val (.int p5), .val (.int (2 : Int32)), .val (.int y0), .val (.int y1), .val (.int y2), .val (.ref b15), .val (.ref b16), .val (.int ex), .unset] [(.ref b15), (.long q0), (.ref b25), (.ref b25)])) _
      refine XS.aload X25.here hx rfl (hb hby at_179) rfl rfl ?_
      exact kt
    obtain ⟨_, _, ⟨T26, L26, k26, n26⟩, -, X26, ⟨Lc26, hQ26, l26, y26, z26⟩, st26⟩ := X25.specialBack hx (y := (⟨"com/example/columella/columella/ipc/Renumbering", "<init>", "(J[I[I)V"⟩ : MethodName)) rfl hown (mvT hZ (hw _ (List.mem_of_getElem? (i := 4) rfl))) (mvT hZ (hw _ (List.mem_of_getElem? (i := 5) rfl))) (mvT hZ (hw _ (List.mem_of_getElem? (i := 6) rfl))) (by decide) (backOf (W := 1) (rm1 l Z t0 hw [] b25 q0 b15 b16 h25 n0 Z25 g_b25 E_b25 F_id_b25 F_entries_b25 F_numbers_b25) hZ (hw _ (List.mem_of_getElem? (i := 6) rfl)) (hw _ (List.mem_of_getElem? (i := 3) rfl)) (by decide) (by decide)) (g := (mkF m 181 #[.val (.long q0), .second, .val (.int p1), .val (.int p2), .val (.int p3), .val (.int p4), .val (.int p5), .val (.int (2 : Int32)), .val (.int y0), .val (.int y1), .val (.int y2), .val (.ref b15), .val (.ref b16), .val (.int ex), .unset] [(.ref b16), (.ref b15), (.long q0), (.ref b25), (.ref b25)])) rfl (by rw [hml]; rfl) (Steps.refl _) (a := b25) (argsL := [(.long q0), (.ref b15), (.ref b16)]) (rest := [(.ref b25)]) (lenOf pd_0_0 rfl) rfl (by show 2 * 0 + _ ≤ _; exact Nat.le_of_eq rfl) (hb hby at_181) (fun _ _ => ⟨rfl, e25, (by decide : 3 + 0 ≤ _), (by decide : 7 + 0 ≤ _)⟩)
    dsimp only [Pt.U, Pt.locs, Pt.cells, Pt.slots] at X26 l26 y26 z26 st26 hQ26
    subst l26 y26 z26
    obtain ⟨rfl, Nq26, Kc26, Ec26, Fe26, Fn26⟩ := hQ26
    have N26 := Fr.app N24 Nq26
    obtain ⟨h26, e26⟩ : ∃ z, T26.heap = z := ⟨_, rfl⟩
    rw [e26] at Kc26 Ec26 Fe26 Fn26
    have V_b15_26 := V_b15_25.keep Kc26 (ninS ne_b15_b25 nin0)
    have V_b16_26 := V_b16_25.keep Kc26 (ninS ne_b16_b25 nin0)
    have Z26 : n0 ≤ h26.size := Nat.le_trans Z25 Kc26.1
    refine own_go (B := T26.setTop (mkF m 184 #[.val (.long q0), .second, .val (.int p1), .val (.int p2), .val (.int p3), .val (.int p4), .val (.int p5), .val (.int (2 : Int32)), .val (.int y0), .val (.int y1), .val (.int y2), .val (.ref b15), .val (.ref b16), .val (.int ex), .unset] [(.ref b25)])) (fun t kt => st26.trans kt) ?_
    refine own_go (B := T26.setTop (mkF m 188 #[.val (.long q0), .second, .val (.int p1), .val (.int p2), .val (.int p3), .val (.int p4), .val (.int p5), .val (.int (2 : Int32)), .val (.int y0), .val (.int y1), .val (.int y2), .val (.ref b15), .val (.ref b16), .val (.int ex), .val (.ref b25)] [(.ref b25)])) (fun t kt => ?_) ?_
    · show Steps p.tables e below (T26.setTop (mkF m 184 #[.val (.long q0), .second, .val (.int p1), .val (.int p2), .val (.int p3), .val (.int p4), .val (.int p5), .val (.int (2 : Int32)), .val (.int y0), .val (.int y1), .val (.int y2), .val (.ref b15), .val (.ref b16), .val (.int ex), .unset] [(.ref b25)])) _
      refine XS.astore X26.here hx rfl (hb hby at_184) rfl rfl (l' := #[.val (.long q0), .second, .val (.int p1), .val (.int p2), .val (.int p3), .val (.int p4), .val (.int p5), .val (.int (2 : Int32)), .val (.int y0), .val (.int y1), .val (.int y2), .val (.ref b15), .val (.ref b16), .val (.int ex), .val (.ref b25)]) rfl ?_
      show Steps p.tables e below (T26.setTop (mkF m 186 #[.val (.long q0), .second, .val (.int p1), .val (.int p2), .val (.int p3), .val (.int p4), .val (.int p5), .val (.int (2 : Int32)), .val (.int y0), .val (.int y1), .val (.int y2), .val (.ref b15), .val (.ref b16), .val (.int ex), .val (.ref b25)] [])) _
      refine XS.aload X26.here hx rfl (hb hby at_186) rfl rfl ?_
      exact kt
    obtain ⟨cq27, kq27, qa27, qb27, qc27⟩ := isOf hZ e26 Ec26
    obtain ⟨_, _, ⟨T27, L27, k27, n27⟩, -, X27, ⟨Lc27, hQ27, l27, y27, z27⟩, st27⟩ := X26.virtualBack hx (y := (⟨"com/example/columella/columella/ipc/Renumbering", "keepsEveryNumber", "()Z"⟩ : MethodName)) (z := (⟨"com/example/columella/columella/ipc/Renumbering", "keepsEveryNumber", "()Z"⟩ : MethodName)) hown (mvT hZ (hw _ (List.mem_of_getElem? (i := 16) rfl))) (mvT hZ (hw _ (List.mem_of_getElem? (i := 17) rfl))) (notFace_of_selects (args := #[]) (mvT hZ (hw _ (List.mem_of_getElem? (i := 19) rfl)))) (mvT hZ (hw _ (List.mem_of_getElem? (i := 19) rfl))) (mvT hZ (hw _ (List.mem_of_getElem? (i := 18) rfl))) (by decide) (backOf (W := 0) (rm3_2 l Z t0 hw [] b25 b15 b16 k15 k16 p2 p3 y0 y1 h26 n0 Z26 Fe26 Fn26 V_b15_26 V_b16_26) hZ (hw _ (List.mem_of_getElem? (i := 20) rfl)) (hw _ (List.mem_of_getElem? (i := 3) rfl)) (by decide) (by decide)) qa27 qc27 (g := (mkF m 188 #[.val (.long q0), .second, .val (.int p1), .val (.int p2), .val (.int p3), .val (.int p4), .val (.int p5), .val (.int (2 : Int32)), .val (.int y0), .val (.int y1), .val (.int y2), .val (.ref b15), .val (.ref b16), .val (.int ex), .val (.ref b25)] [(.ref b25)])) rfl (by rw [hml]; rfl) (Steps.refl _) (argsL := []) (rest := []) (lenOf pd_0_1 rfl) rfl (by show 2 * 0 + _ ≤ _; exact Nat.le_of_eq rfl) (hb hby at_188) (fun _ _ => ⟨rfl, e26, (by decide : 3 + 0 ≤ _), (by decide : 7 + 0 ≤ _)⟩)
    dsimp only [Pt.U, Pt.locs, Pt.cells, Pt.slots] at X27 l27 y27 z27 st27 hQ27
    subst l27 y27 z27
    obtain ⟨rfl, Nq27, hh27⟩ := hQ27
    have N27 := Fr.app N26 Nq27
    have e27 : T27.heap = h26 := hh27
    refine own_go (B := T27.setTop (mkF m 191 #[.val (.long q0), .second, .val (.int p1), .val (.int p2), .val (.int p3), .val (.int p4), .val (.int p5), .val (.int (2 : Int32)), .val (.int y0), .val (.int y1), .val (.int y2), .val (.ref b15), .val (.ref b16), .val (.int ex), .val (.ref b25)] [(.int (if p2 = y0 then (if p3 = y1 then (1 : Int32) else (0 : Int32)) else (0 : Int32)))])) (fun t kt => st27.trans kt) ?_
    refine own_go (B := T27.setTop (mkF m 201 #[.val (.long q0), .second, .val (.int p1), .val (.int p2), .val (.int p3), .val (.int p4), .val (.int p5), .val (.int (2 : Int32)), .val (.int y0), .val (.int y1), .val (.int y2), .val (.ref b15), .val (.ref b16), .val (.int ex), .val (.ref b25)] [(.int (1 : Int32))])) (fun t kt => ?_) ?_
    · show Steps p.tables e below (T27.setTop (mkF m 191 #[.val (.long q0), .second, .val (.int p1), .val (.int p2), .val (.int p3), .val (.int p4), .val (.int p5), .val (.int (2 : Int32)), .val (.int y0), .val (.int y1), .val (.int y2), .val (.ref b15), .val (.ref b16), .val (.int ex), .val (.ref b25)] [(.int (if p2 = y0 then (if p3 = y1 then (1 : Int32) else (0 : Int32)) else (0 : Int32)))])) _
      refine XS.iload X27.here hx rfl (hb hby at_191) rfl ?_
      show Steps p.tables e below (T27.setTop (mkF m 193 #[.val (.long q0), .second, .val (.int p1), .val (.int p2), .val (.int p3), .val (.int p4), .val (.int p5), .val (.int (2 : Int32)), .val (.int y0), .val (.int y1), .val (.int y2), .val (.ref b15), .val (.ref b16), .val (.int ex), .val (.ref b25)] [(.int ex), (.int (if p2 = y0 then (if p3 = y1 then (1 : Int32) else (0 : Int32)) else (0 : Int32)))])) _
      refine XS.icmpNo X27.here hx rfl (hb hby at_193) rfl (teq hex.symm).2 ?_
      show Steps p.tables e below (T27.setTop (mkF m 196 #[.val (.long q0), .second, .val (.int p1), .val (.int p2), .val (.int p3), .val (.int p4), .val (.int p5), .val (.int (2 : Int32)), .val (.int y0), .val (.int y1), .val (.int y2), .val (.ref b15), .val (.ref b16), .val (.int ex), .val (.ref b25)] [])) _
      refine XS.iconst X27.here hx rfl (hb hby at_196) ?_
      show Steps p.tables e below (T27.setTop (mkF m 197 #[.val (.long q0), .second, .val (.int p1), .val (.int p2), .val (.int p3), .val (.int p4), .val (.int p5), .val (.int (2 : Int32)), .val (.int y0), .val (.int y1), .val (.int y2), .val (.ref b15), .val (.ref b16), .val (.int ex), .val (.ref b25)] [(.int (1 : Int32))])) _
      refine XS.goto X27.here hx rfl (pc0 := 197) (pc' := 201) rfl (hb hby at_197) (by decide) (by decide) ?_
      exact kt
    obtain ⟨fs, hr, hrun, hended, hW, hsame⟩ := X27.leave (v := some (.int (1 : Int32))) (fun h => by rw [Bd.returns] at h; cases h)
    refine ⟨_, _, ?_, hrun, hended, _, _, rfl, ?_, ⟨_, rfl⟩, hW, hsame.mono (by decide) (by decide)⟩
    · show Steps p.tables e below (T27.setTop (mkF m 201 #[.val (.long q0), .second, .val (.int p1), .val (.int p2), .val (.int p3), .val (.int p4), .val (.int p5), .val (.int (2 : Int32)), .val (.int y0), .val (.int y1), .val (.int y2), .val (.ref b15), .val (.ref b16), .val (.int ex), .val (.ref b25)] [(.int (1 : Int32))])) _
      exact retN X27 hx (t := .boolean) Bd.returns (by simp) (hb hby at_201) hr
    · show Q0 n0 _ _
      exact ⟨rfl, N27⟩
  · refine own_go (B := s₁.setTop (mkF m 65 #[.val (.long q0), .second, .val (.int p1), .val (.int p2), .val (.int p3), .val (.int p4), .val (.int p5), .val (.int (3 : Int32)), .val (.int y0), .val (.int y1), .val (.int y2), .unset, .unset, .unset, .unset] [(.int (3 : Int32))])) (fun t kt => ?_) ?_
    · show Steps p.tables e below (s₁.setTop (mkF m 63 #[.val (.long q0), .second, .val (.int p1), .val (.int p2), .val (.int p3), .val (.int p4), .val (.int p5), .val (.int (3 : Int32)), .val (.int y0), .val (.int y1), .val (.int y2), .unset, .unset, .unset, .unset] [])) _
      refine XS.iload X0.here hx rfl (hb hby at_63) rfl ?_
      exact kt
    obtain ⟨T28, h28, k28, X28, e28, E28, A28, st28⟩ := newP X0 hx hZ (hw _ (List.mem_of_getElem? (i := 0) rfl)) e0 (g := (mkF m 65 #[.val (.long q0), .second, .val (.int p1), .val (.int p2), .val (.int p3), .val (.int p4), .val (.int p5), .val (.int (3 : Int32)), .val (.int y0), .val (.int y1), .val (.int y2), .unset, .unset, .unset, .unset] [(.int (3 : Int32))])) rfl (hb hby at_65) rfl (by decide) (cap := 3) (by decide) (by decide) (by decide) (by decide)
    obtain ⟨b28, g28⟩ : ∃ z, z = h0.size := ⟨_, rfl⟩
    rw [← g28] at A28 st28
    have g_b28 : n0 ≤ b28 := Nat.le_trans Z0 (Nat.le_of_eq g28.symm)
    have Z28 : n0 ≤ h28.size := Nat.le_trans Z0 E28.1
    have V_b28 : Arv Z h28 b28 k28 .int (3 : Int32) [(.int (0 : Int32)), (.int (0 : Int32)), (.int (0 : Int32))] (.int (0 : Int32)) := (Arv.new A28 (by decide)).pad (pad_rep [] (.int (0 : Int32)) 3)
    refine own_go (B := T28.setTop (mkF m 67 #[.val (.long q0), .second, .val (.int p1), .val (.int p2), .val (.int p3), .val (.int p4), .val (.int p5), .val (.int (3 : Int32)), .val (.int y0), .val (.int y1), .val (.int y2), .unset, .unset, .unset, .unset] [(.ref b28)])) (fun t kt => st28 t kt) ?_
    refine own_go (B := T28.setTop (mkF m 71 #[.val (.long q0), .second, .val (.int p1), .val (.int p2), .val (.int p3), .val (.int p4), .val (.int p5), .val (.int (3 : Int32)), .val (.int y0), .val (.int y1), .val (.int y2), .val (.ref b28), .unset, .unset, .unset] [(.int (3 : Int32))])) (fun t kt => ?_) ?_
    · show Steps p.tables e below (T28.setTop (mkF m 67 #[.val (.long q0), .second, .val (.int p1), .val (.int p2), .val (.int p3), .val (.int p4), .val (.int p5), .val (.int (3 : Int32)), .val (.int y0), .val (.int y1), .val (.int y2), .unset, .unset, .unset, .unset] [(.ref b28)])) _
      refine XS.astore X28.here hx rfl (hb hby at_67) rfl rfl (l' := #[.val (.long q0), .second, .val (.int p1), .val (.int p2), .val (.int p3), .val (.int p4), .val (.int p5), .val (.int (3 : Int32)), .val (.int y0), .val (.int y1), .val (.int y2), .val (.ref b28), .unset, .unset, .unset]) rfl ?_
      show Steps p.tables e below (T28.setTop (mkF m 69 #[.val (.long q0), .second, .val (.int p1), .val (.int p2), .val (.int p3), .val (.int p4), .val (.int p5), .val (.int (3 : Int32)), .val (.int y0), .val (.int y1), .val (.int y2), .val (.ref b28), .unset, .unset, .unset] [])) _
      refine XS.iload X28.here hx rfl (hb hby at_69) rfl ?_
      exact kt
    obtain ⟨T29, h29, k29, X29, e29, E29, A29, st29⟩ := newP X28 hx hZ (hw _ (List.mem_of_getElem? (i := 0) rfl)) e28 (g := (mkF m 71 #[.val (.long q0), .second, .val (.int p1), .val (.int p2), .val (.int p3), .val (.int p4), .val (.int p5), .val (.int (3 : Int32)), .val (.int y0), .val (.int y1), .val (.int y2), .val (.ref b28), .unset, .unset, .unset] [(.int (3 : Int32))])) rfl (hb hby at_71) rfl (by decide) (cap := 3) (by decide) (by decide) (by decide) (by decide)
    obtain ⟨b29, g29⟩ : ∃ z, z = h28.size := ⟨_, rfl⟩
    rw [← g29] at A29 st29
    have g_b29 : n0 ≤ b29 := Nat.le_trans Z28 (Nat.le_of_eq g29.symm)
    have ne_b28_b29 : b28 ≠ b29 := Nat.ne_of_lt (Nat.lt_of_lt_of_le V_b28.lt (Nat.le_of_eq g29.symm))
    have V_b28_29 := V_b28.ext E29
    have Z29 : n0 ≤ h29.size := Nat.le_trans Z28 E29.1
    have V_b29 : Arv Z h29 b29 k29 .int (3 : Int32) [(.int (0 : Int32)), (.int (0 : Int32)), (.int (0 : Int32))] (.int (0 : Int32)) := (Arv.new A29 (by decide)).pad (pad_rep [] (.int (0 : Int32)) 3)
    refine own_go (B := T29.setTop (mkF m 73 #[.val (.long q0), .second, .val (.int p1), .val (.int p2), .val (.int p3), .val (.int p4), .val (.int p5), .val (.int (3 : Int32)), .val (.int y0), .val (.int y1), .val (.int y2), .val (.ref b28), .unset, .unset, .unset] [(.ref b29)])) (fun t kt => st29 t kt) ?_
    refine own_go (B := T29.setTop (mkF m 75 #[.val (.long q0), .second, .val (.int p1), .val (.int p2), .val (.int p3), .val (.int p4), .val (.int p5), .val (.int (3 : Int32)), .val (.int y0), .val (.int y1), .val (.int y2), .val (.ref b28), .val (.ref b29), .unset, .unset] [])) (fun t kt => ?_) ?_
    · show Steps p.tables e below (T29.setTop (mkF m 73 #[.val (.long q0), .second, .val (.int p1), .val (.int p2), .val (.int p3), .val (.int p4), .val (.int p5), .val (.int (3 : Int32)), .val (.int y0), .val (.int y1), .val (.int y2), .val (.ref b28), .unset, .unset, .unset] [(.ref b29)])) _
      refine XS.astore X29.here hx rfl (hb hby at_73) rfl rfl (l' := #[.val (.long q0), .second, .val (.int p1), .val (.int p2), .val (.int p3), .val (.int p4), .val (.int p5), .val (.int (3 : Int32)), .val (.int y0), .val (.int y1), .val (.int y2), .val (.ref b28), .val (.ref b29), .unset, .unset]) rfl ?_
      exact kt
    refine own_go (B := T29.setTop (mkF m 84 #[.val (.long q0), .second, .val (.int p1), .val (.int p2), .val (.int p3), .val (.int p4), .val (.int p5), .val (.int (3 : Int32)), .val (.int y0), .val (.int y1), .val (.int y2), .val (.ref b28), .val (.ref b29), .unset, .unset] [(.int p2), (.int (0 : Int32)), (.ref b28)])) (fun t kt => ?_) ?_
    · show Steps p.tables e below (T29.setTop (mkF m 75 #[.val (.long q0), .second, .val (.int p1), .val (.int p2), .val (.int p3), .val (.int p4), .val (.int p5), .val (.int (3 : Int32)), .val (.int y0), .val (.int y1), .val (.int y2), .val (.ref b28), .val (.ref b29), .unset, .unset] [])) _
      refine XS.iload X29.here hx rfl (hb hby at_75) rfl ?_
      show Steps p.tables e below (T29.setTop (mkF m 77 #[.val (.long q0), .second, .val (.int p1), .val (.int p2), .val (.int p3), .val (.int p4), .val (.int p5), .val (.int (3 : Int32)), .val (.int y0), .val (.int y1), .val (.int y2), .val (.ref b28), .val (.ref b29), .unset, .unset] [(.int (3 : Int32))])) _
      refine XS.ifNo X29.here hx rfl (hb hby at_77) rfl ((if0 _ _).trans (tlt (by decide)).2.2.2) ?_
      show Steps p.tables e below (T29.setTop (mkF m 80 #[.val (.long q0), .second, .val (.int p1), .val (.int p2), .val (.int p3), .val (.int p4), .val (.int p5), .val (.int (3 : Int32)), .val (.int y0), .val (.int y1), .val (.int y2), .val (.ref b28), .val (.ref b29), .unset, .unset] [])) _
      refine XS.aload X29.here hx rfl (hb hby at_80) rfl rfl ?_
      show Steps p.tables e below (T29.setTop (mkF m 82 #[.val (.long q0), .second, .val (.int p1), .val (.int p2), .val (.int p3), .val (.int p4), .val (.int p5), .val (.int (3 : Int32)), .val (.int y0), .val (.int y1), .val (.int y2), .val (.ref b28), .val (.ref b29), .unset, .unset] [(.ref b28)])) _
      refine XS.iconst X29.here hx rfl (hb hby at_82) ?_
      show Steps p.tables e below (T29.setTop (mkF m 83 #[.val (.long q0), .second, .val (.int p1), .val (.int p2), .val (.int p3), .val (.int p4), .val (.int p5), .val (.int (3 : Int32)), .val (.int y0), .val (.int y1), .val (.int y2), .val (.ref b28), .val (.ref b29), .unset, .unset] [(.int (0 : Int32)), (.ref b28)])) _
      refine XS.iloadN X29.here hx rfl (hb hby at_83) rfl ?_
      exact kt
    obtain ⟨cl30, Ar30, q30, S30, M30, H30, G30⟩ := id V_b28_29
    obtain ⟨T31, h31, X31, e31, W31, st31⟩ := stI X29 hx hZ e29 Ar30 (j := (0 : Int32)) (inb_of S30 ⟨by decide, by decide⟩) (g := (mkF m 84 #[.val (.long q0), .second, .val (.int p1), .val (.int p2), .val (.int p3), .val (.int p4), .val (.int p5), .val (.int (3 : Int32)), .val (.int y0), .val (.int y1), .val (.int y2), .val (.ref b28), .val (.ref b29), .unset, .unset] [(.int p2), (.int (0 : Int32)), (.ref b28)])) rfl rfl (hb hby at_84)
    have V_b28_31 : Arv Z h31 b28 k28 .int (3 : Int32) [(.int p2), (.int (0 : Int32)), (.int (0 : Int32))] (.int (0 : Int32)) := Arv.set Ar30 q30 S30 M30 H30 G30 rfl W31 0 rfl (Nat.le_of_ble_eq_true rfl)
    have V_b29_31 := V_b29.other W31 (Ne.symm ne_b28_b29)
    have Z31 : n0 ≤ h31.size := Nat.le_trans Z29 (Keep.of_wr W31).1
    have N31 := Fr.snoc X31 N0 g_b28
    refine own_go (B := T31.setTop (mkF m 85 #[.val (.long q0), .second, .val (.int p1), .val (.int p2), .val (.int p3), .val (.int p4), .val (.int p5), .val (.int (3 : Int32)), .val (.int y0), .val (.int y1), .val (.int y2), .val (.ref b28), .val (.ref b29), .unset, .unset] [])) (fun t kt => st31 t kt) ?_
    refine own_go (B := T31.setTop (mkF m 90 #[.val (.long q0), .second, .val (.int p1), .val (.int p2), .val (.int p3), .val (.int p4), .val (.int p5), .val (.int (3 : Int32)), .val (.int y0), .val (.int y1), .val (.int y2), .val (.ref b28), .val (.ref b29), .unset, .unset] [(.int y0), (.int (0 : Int32)), (.ref b29)])) (fun t kt => ?_) ?_
    · show Steps p.tables e below (T31.setTop (mkF m 85 #[.val (.long q0), .second, .val (.int p1), .val (.int p2), .val (.int p3), .val (.int p4), .val (.int p5), .val (.int (3 : Int32)), .val (.int y0), .val (.int y1), .val (.int y2), .val (.ref b28), .val (.ref b29), .unset, .unset] [])) _
      refine XS.aload X31.here hx rfl (hb hby at_85) rfl rfl ?_
      show Steps p.tables e below (T31.setTop (mkF m 87 #[.val (.long q0), .second, .val (.int p1), .val (.int p2), .val (.int p3), .val (.int p4), .val (.int p5), .val (.int (3 : Int32)), .val (.int y0), .val (.int y1), .val (.int y2), .val (.ref b28), .val (.ref b29), .unset, .unset] [(.ref b29)])) _
      refine XS.iconst X31.here hx rfl (hb hby at_87) ?_
      show Steps p.tables e below (T31.setTop (mkF m 88 #[.val (.long q0), .second, .val (.int p1), .val (.int p2), .val (.int p3), .val (.int p4), .val (.int p5), .val (.int (3 : Int32)), .val (.int y0), .val (.int y1), .val (.int y2), .val (.ref b28), .val (.ref b29), .unset, .unset] [(.int (0 : Int32)), (.ref b29)])) _
      refine XS.iload X31.here hx rfl (hb hby at_88) rfl ?_
      exact kt
    obtain ⟨cl32, Ar32, q32, S32, M32, H32, G32⟩ := id V_b29_31
    obtain ⟨T33, h33, X33, e33, W33, st33⟩ := stI X31 hx hZ e31 Ar32 (j := (0 : Int32)) (inb_of S32 ⟨by decide, by decide⟩) (g := (mkF m 90 #[.val (.long q0), .second, .val (.int p1), .val (.int p2), .val (.int p3), .val (.int p4), .val (.int p5), .val (.int (3 : Int32)), .val (.int y0), .val (.int y1), .val (.int y2), .val (.ref b28), .val (.ref b29), .unset, .unset] [(.int y0), (.int (0 : Int32)), (.ref b29)])) rfl rfl (hb hby at_90)
    have V_b29_33 : Arv Z h33 b29 k29 .int (3 : Int32) [(.int y0), (.int (0 : Int32)), (.int (0 : Int32))] (.int (0 : Int32)) := Arv.set Ar32 q32 S32 M32 H32 G32 rfl W33 0 rfl (Nat.le_of_ble_eq_true rfl)
    have V_b28_33 := V_b28_31.other W33 ne_b28_b29
    have Z33 : n0 ≤ h33.size := Nat.le_trans Z31 (Keep.of_wr W33).1
    have N33 := Fr.snoc X33 N31 g_b29
    refine own_go (B := T33.setTop (mkF m 91 #[.val (.long q0), .second, .val (.int p1), .val (.int p2), .val (.int p3), .val (.int p4), .val (.int p5), .val (.int (3 : Int32)), .val (.int y0), .val (.int y1), .val (.int y2), .val (.ref b28), .val (.ref b29), .unset, .unset] [])) (fun t kt => st33 t kt) ?_
    refine own_go (B := T33.setTop (mkF m 102 #[.val (.long q0), .second, .val (.int p1), .val (.int p2), .val (.int p3), .val (.int p4), .val (.int p5), .val (.int (3 : Int32)), .val (.int y0), .val (.int y1), .val (.int y2), .val (.ref b28), .val (.ref b29), .unset, .unset] [(.int p3), (.int (1 : Int32)), (.ref b28)])) (fun t kt => ?_) ?_
    · show Steps p.tables e below (T33.setTop (mkF m 91 #[.val (.long q0), .second, .val (.int p1), .val (.int p2), .val (.int p3), .val (.int p4), .val (.int p5), .val (.int (3 : Int32)), .val (.int y0), .val (.int y1), .val (.int y2), .val (.ref b28), .val (.ref b29), .unset, .unset] [])) _
      refine XS.iload X33.here hx rfl (hb hby at_91) rfl ?_
      show Steps p.tables e below (T33.setTop (mkF m 93 #[.val (.long q0), .second, .val (.int p1), .val (.int p2), .val (.int p3), .val (.int p4), .val (.int p5), .val (.int (3 : Int32)), .val (.int y0), .val (.int y1), .val (.int y2), .val (.ref b28), .val (.ref b29), .unset, .unset] [(.int (3 : Int32))])) _
      refine XS.iconst X33.here hx rfl (hb hby at_93) ?_
      show Steps p.tables e below (T33.setTop (mkF m 94 #[.val (.long q0), .second, .val (.int p1), .val (.int p2), .val (.int p3), .val (.int p4), .val (.int p5), .val (.int (3 : Int32)), .val (.int y0), .val (.int y1), .val (.int y2), .val (.ref b28), .val (.ref b29), .unset, .unset] [(.int (1 : Int32)), (.int (3 : Int32))])) _
      refine XS.icmpNo X33.here hx rfl (hb hby at_94) rfl (tlt (by decide)).2.2.2 ?_
      show Steps p.tables e below (T33.setTop (mkF m 97 #[.val (.long q0), .second, .val (.int p1), .val (.int p2), .val (.int p3), .val (.int p4), .val (.int p5), .val (.int (3 : Int32)), .val (.int y0), .val (.int y1), .val (.int y2), .val (.ref b28), .val (.ref b29), .unset, .unset] [])) _
      refine XS.aload X33.here hx rfl (hb hby at_97) rfl rfl ?_
      show Steps p.tables e below (T33.setTop (mkF m 99 #[.val (.long q0), .second, .val (.int p1), .val (.int p2), .val (.int p3), .val (.int p4), .val (.int p5), .val (.int (3 : Int32)), .val (.int y0), .val (.int y1), .val (.int y2), .val (.ref b28), .val (.ref b29), .unset, .unset] [(.ref b28)])) _
      refine XS.iconst X33.here hx rfl (hb hby at_99) ?_
      show Steps p.tables e below (T33.setTop (mkF m 100 #[.val (.long q0), .second, .val (.int p1), .val (.int p2), .val (.int p3), .val (.int p4), .val (.int p5), .val (.int (3 : Int32)), .val (.int y0), .val (.int y1), .val (.int y2), .val (.ref b28), .val (.ref b29), .unset, .unset] [(.int (1 : Int32)), (.ref b28)])) _
      refine XS.iload X33.here hx rfl (hb hby at_100) rfl ?_
      exact kt
    obtain ⟨cl34, Ar34, q34, S34, M34, H34, G34⟩ := id V_b28_33
    obtain ⟨T35, h35, X35, e35, W35, st35⟩ := stI X33 hx hZ e33 Ar34 (j := (1 : Int32)) (inb_of S34 ⟨by decide, by decide⟩) (g := (mkF m 102 #[.val (.long q0), .second, .val (.int p1), .val (.int p2), .val (.int p3), .val (.int p4), .val (.int p5), .val (.int (3 : Int32)), .val (.int y0), .val (.int y1), .val (.int y2), .val (.ref b28), .val (.ref b29), .unset, .unset] [(.int p3), (.int (1 : Int32)), (.ref b28)])) rfl rfl (hb hby at_102)
    have V_b28_35 : Arv Z h35 b28 k28 .int (3 : Int32) [(.int p2), (.int p3), (.int (0 : Int32))] (.int (0 : Int32)) := Arv.set Ar34 q34 S34 M34 H34 G34 rfl W35 1 rfl (Nat.le_of_ble_eq_true rfl)
    have V_b29_35 := V_b29_33.other W35 (Ne.symm ne_b28_b29)
    have Z35 : n0 ≤ h35.size := Nat.le_trans Z33 (Keep.of_wr W35).1
    have N35 := Fr.snoc X35 N33 g_b28
    refine own_go (B := T35.setTop (mkF m 103 #[.val (.long q0), .second, .val (.int p1), .val (.int p2), .val (.int p3), .val (.int p4), .val (.int p5), .val (.int (3 : Int32)), .val (.int y0), .val (.int y1), .val (.int y2), .val (.ref b28), .val (.ref b29), .unset, .unset] [])) (fun t kt => st35 t kt) ?_
    refine own_go (B := T35.setTop (mkF m 108 #[.val (.long q0), .second, .val (.int p1), .val (.int p2), .val (.int p3), .val (.int p4), .val (.int p5), .val (.int (3 : Int32)), .val (.int y0), .val (.int y1), .val (.int y2), .val (.ref b28), .val (.ref b29), .unset, .unset] [(.int y1), (.int (1 : Int32)), (.ref b29)])) (fun t kt => ?_) ?_
    · show Steps p.tables e below (T35.setTop (mkF m 103 #[.val (.long q0), .second, .val (.int p1), .val (.int p2), .val (.int p3), .val (.int p4), .val (.int p5), .val (.int (3 : Int32)), .val (.int y0), .val (.int y1), .val (.int y2), .val (.ref b28), .val (.ref b29), .unset, .unset] [])) _
      refine XS.aload X35.here hx rfl (hb hby at_103) rfl rfl ?_
      show Steps p.tables e below (T35.setTop (mkF m 105 #[.val (.long q0), .second, .val (.int p1), .val (.int p2), .val (.int p3), .val (.int p4), .val (.int p5), .val (.int (3 : Int32)), .val (.int y0), .val (.int y1), .val (.int y2), .val (.ref b28), .val (.ref b29), .unset, .unset] [(.ref b29)])) _
      refine XS.iconst X35.here hx rfl (hb hby at_105) ?_
      show Steps p.tables e below (T35.setTop (mkF m 106 #[.val (.long q0), .second, .val (.int p1), .val (.int p2), .val (.int p3), .val (.int p4), .val (.int p5), .val (.int (3 : Int32)), .val (.int y0), .val (.int y1), .val (.int y2), .val (.ref b28), .val (.ref b29), .unset, .unset] [(.int (1 : Int32)), (.ref b29)])) _
      refine XS.iload X35.here hx rfl (hb hby at_106) rfl ?_
      exact kt
    obtain ⟨cl36, Ar36, q36, S36, M36, H36, G36⟩ := id V_b29_35
    obtain ⟨T37, h37, X37, e37, W37, st37⟩ := stI X35 hx hZ e35 Ar36 (j := (1 : Int32)) (inb_of S36 ⟨by decide, by decide⟩) (g := (mkF m 108 #[.val (.long q0), .second, .val (.int p1), .val (.int p2), .val (.int p3), .val (.int p4), .val (.int p5), .val (.int (3 : Int32)), .val (.int y0), .val (.int y1), .val (.int y2), .val (.ref b28), .val (.ref b29), .unset, .unset] [(.int y1), (.int (1 : Int32)), (.ref b29)])) rfl rfl (hb hby at_108)
    have V_b29_37 : Arv Z h37 b29 k29 .int (3 : Int32) [(.int y0), (.int y1), (.int (0 : Int32))] (.int (0 : Int32)) := Arv.set Ar36 q36 S36 M36 H36 G36 rfl W37 1 rfl (Nat.le_of_ble_eq_true rfl)
    have V_b28_37 := V_b28_35.other W37 ne_b28_b29
    have Z37 : n0 ≤ h37.size := Nat.le_trans Z35 (Keep.of_wr W37).1
    have N37 := Fr.snoc X37 N35 g_b29
    refine own_go (B := T37.setTop (mkF m 109 #[.val (.long q0), .second, .val (.int p1), .val (.int p2), .val (.int p3), .val (.int p4), .val (.int p5), .val (.int (3 : Int32)), .val (.int y0), .val (.int y1), .val (.int y2), .val (.ref b28), .val (.ref b29), .unset, .unset] [])) (fun t kt => st37 t kt) ?_
    refine own_go (B := T37.setTop (mkF m 120 #[.val (.long q0), .second, .val (.int p1), .val (.int p2), .val (.int p3), .val (.int p4), .val (.int p5), .val (.int (3 : Int32)), .val (.int y0), .val (.int y1), .val (.int y2), .val (.ref b28), .val (.ref b29), .unset, .unset] [(.int p4), (.int (2 : Int32)), (.ref b28)])) (fun t kt => ?_) ?_
    · show Steps p.tables e below (T37.setTop (mkF m 109 #[.val (.long q0), .second, .val (.int p1), .val (.int p2), .val (.int p3), .val (.int p4), .val (.int p5), .val (.int (3 : Int32)), .val (.int y0), .val (.int y1), .val (.int y2), .val (.ref b28), .val (.ref b29), .unset, .unset] [])) _
      refine XS.iload X37.here hx rfl (hb hby at_109) rfl ?_
      show Steps p.tables e below (T37.setTop (mkF m 111 #[.val (.long q0), .second, .val (.int p1), .val (.int p2), .val (.int p3), .val (.int p4), .val (.int p5), .val (.int (3 : Int32)), .val (.int y0), .val (.int y1), .val (.int y2), .val (.ref b28), .val (.ref b29), .unset, .unset] [(.int (3 : Int32))])) _
      refine XS.iconst X37.here hx rfl (hb hby at_111) ?_
      show Steps p.tables e below (T37.setTop (mkF m 112 #[.val (.long q0), .second, .val (.int p1), .val (.int p2), .val (.int p3), .val (.int p4), .val (.int p5), .val (.int (3 : Int32)), .val (.int y0), .val (.int y1), .val (.int y2), .val (.ref b28), .val (.ref b29), .unset, .unset] [(.int (2 : Int32)), (.int (3 : Int32))])) _
      refine XS.icmpNo X37.here hx rfl (hb hby at_112) rfl (tlt (by decide)).2.2.2 ?_
      show Steps p.tables e below (T37.setTop (mkF m 115 #[.val (.long q0), .second, .val (.int p1), .val (.int p2), .val (.int p3), .val (.int p4), .val (.int p5), .val (.int (3 : Int32)), .val (.int y0), .val (.int y1), .val (.int y2), .val (.ref b28), .val (.ref b29), .unset, .unset] [])) _
      refine XS.aload X37.here hx rfl (hb hby at_115) rfl rfl ?_
      show Steps p.tables e below (T37.setTop (mkF m 117 #[.val (.long q0), .second, .val (.int p1), .val (.int p2), .val (.int p3), .val (.int p4), .val (.int p5), .val (.int (3 : Int32)), .val (.int y0), .val (.int y1), .val (.int y2), .val (.ref b28), .val (.ref b29), .unset, .unset] [(.ref b28)])) _
      refine XS.iconst X37.here hx rfl (hb hby at_117) ?_
      show Steps p.tables e below (T37.setTop (mkF m 118 #[.val (.long q0), .second, .val (.int p1), .val (.int p2), .val (.int p3), .val (.int p4), .val (.int p5), .val (.int (3 : Int32)), .val (.int y0), .val (.int y1), .val (.int y2), .val (.ref b28), .val (.ref b29), .unset, .unset] [(.int (2 : Int32)), (.ref b28)])) _
      refine XS.iload X37.here hx rfl (hb hby at_118) rfl ?_
      exact kt
    obtain ⟨cl38, Ar38, q38, S38, M38, H38, G38⟩ := id V_b28_37
    obtain ⟨T39, h39, X39, e39, W39, st39⟩ := stI X37 hx hZ e37 Ar38 (j := (2 : Int32)) (inb_of S38 ⟨by decide, by decide⟩) (g := (mkF m 120 #[.val (.long q0), .second, .val (.int p1), .val (.int p2), .val (.int p3), .val (.int p4), .val (.int p5), .val (.int (3 : Int32)), .val (.int y0), .val (.int y1), .val (.int y2), .val (.ref b28), .val (.ref b29), .unset, .unset] [(.int p4), (.int (2 : Int32)), (.ref b28)])) rfl rfl (hb hby at_120)
    have V_b28_39 : Arv Z h39 b28 k28 .int (3 : Int32) [(.int p2), (.int p3), (.int p4)] (.int (0 : Int32)) := Arv.set Ar38 q38 S38 M38 H38 G38 rfl W39 2 rfl (Nat.le_of_ble_eq_true rfl)
    have V_b29_39 := V_b29_37.other W39 (Ne.symm ne_b28_b29)
    have Z39 : n0 ≤ h39.size := Nat.le_trans Z37 (Keep.of_wr W39).1
    have N39 := Fr.snoc X39 N37 g_b28
    refine own_go (B := T39.setTop (mkF m 121 #[.val (.long q0), .second, .val (.int p1), .val (.int p2), .val (.int p3), .val (.int p4), .val (.int p5), .val (.int (3 : Int32)), .val (.int y0), .val (.int y1), .val (.int y2), .val (.ref b28), .val (.ref b29), .unset, .unset] [])) (fun t kt => st39 t kt) ?_
    refine own_go (B := T39.setTop (mkF m 126 #[.val (.long q0), .second, .val (.int p1), .val (.int p2), .val (.int p3), .val (.int p4), .val (.int p5), .val (.int (3 : Int32)), .val (.int y0), .val (.int y1), .val (.int y2), .val (.ref b28), .val (.ref b29), .unset, .unset] [(.int y2), (.int (2 : Int32)), (.ref b29)])) (fun t kt => ?_) ?_
    · show Steps p.tables e below (T39.setTop (mkF m 121 #[.val (.long q0), .second, .val (.int p1), .val (.int p2), .val (.int p3), .val (.int p4), .val (.int p5), .val (.int (3 : Int32)), .val (.int y0), .val (.int y1), .val (.int y2), .val (.ref b28), .val (.ref b29), .unset, .unset] [])) _
      refine XS.aload X39.here hx rfl (hb hby at_121) rfl rfl ?_
      show Steps p.tables e below (T39.setTop (mkF m 123 #[.val (.long q0), .second, .val (.int p1), .val (.int p2), .val (.int p3), .val (.int p4), .val (.int p5), .val (.int (3 : Int32)), .val (.int y0), .val (.int y1), .val (.int y2), .val (.ref b28), .val (.ref b29), .unset, .unset] [(.ref b29)])) _
      refine XS.iconst X39.here hx rfl (hb hby at_123) ?_
      show Steps p.tables e below (T39.setTop (mkF m 124 #[.val (.long q0), .second, .val (.int p1), .val (.int p2), .val (.int p3), .val (.int p4), .val (.int p5), .val (.int (3 : Int32)), .val (.int y0), .val (.int y1), .val (.int y2), .val (.ref b28), .val (.ref b29), .unset, .unset] [(.int (2 : Int32)), (.ref b29)])) _
      refine XS.iload X39.here hx rfl (hb hby at_124) rfl ?_
      exact kt
    obtain ⟨cl40, Ar40, q40, S40, M40, H40, G40⟩ := id V_b29_39
    obtain ⟨T41, h41, X41, e41, W41, st41⟩ := stI X39 hx hZ e39 Ar40 (j := (2 : Int32)) (inb_of S40 ⟨by decide, by decide⟩) (g := (mkF m 126 #[.val (.long q0), .second, .val (.int p1), .val (.int p2), .val (.int p3), .val (.int p4), .val (.int p5), .val (.int (3 : Int32)), .val (.int y0), .val (.int y1), .val (.int y2), .val (.ref b28), .val (.ref b29), .unset, .unset] [(.int y2), (.int (2 : Int32)), (.ref b29)])) rfl rfl (hb hby at_126)
    have V_b29_41 : Arv Z h41 b29 k29 .int (3 : Int32) [(.int y0), (.int y1), (.int y2)] (.int (0 : Int32)) := Arv.set Ar40 q40 S40 M40 H40 G40 rfl W41 2 rfl (Nat.le_of_ble_eq_true rfl)
    have V_b28_41 := V_b28_39.other W41 ne_b28_b29
    have Z41 : n0 ≤ h41.size := Nat.le_trans Z39 (Keep.of_wr W41).1
    have N41 := Fr.snoc X41 N39 g_b29
    refine own_go (B := T41.setTop (mkF m 127 #[.val (.long q0), .second, .val (.int p1), .val (.int p2), .val (.int p3), .val (.int p4), .val (.int p5), .val (.int (3 : Int32)), .val (.int y0), .val (.int y1), .val (.int y2), .val (.ref b28), .val (.ref b29), .unset, .unset] [])) (fun t kt => st41 t kt) ?_
    obtain ⟨ex, hex⟩ : ∃ z : Int32, z = (if p2 = y0 then (if p3 = y1 then (if p4 = y2 then (1 : Int32) else (0 : Int32)) else (0 : Int32)) else (0 : Int32)) := ⟨_, rfl⟩
    refine own_go (B := T41.setTop (mkF m 170 #[.val (.long q0), .second, .val (.int p1), .val (.int p2), .val (.int p3), .val (.int p4), .val (.int p5), .val (.int (3 : Int32)), .val (.int y0), .val (.int y1), .val (.int y2), .val (.ref b28), .val (.ref b29), .unset, .unset] [(.int ex)])) (fun t kt => ?_) ?_
    · show Steps p.tables e below (T41.setTop (mkF m 127 #[.val (.long q0), .second, .val (.int p1), .val (.int p2), .val (.int p3), .val (.int p4), .val (.int p5), .val (.int (3 : Int32)), .val (.int y0), .val (.int y1), .val (.int y2), .val (.ref b28), .val (.ref b29), .unset, .unset] [])) _
      refine XS.iload X41.here hx rfl (hb hby at_127) rfl ?_
      show Steps p.tables e below (T41.setTop (mkF m 129 #[.val (.long q0), .second, .val (.int p1), .val (.int p2), .val (.int p3), .val (.int p4), .val (.int p5), .val (.int (3 : Int32)), .val (.int y0), .val (.int y1), .val (.int y2), .val (.ref b28), .val (.ref b29), .unset, .unset] [(.int (3 : Int32))])) _
      refine XS.iconst X41.here hx rfl (hb hby at_129) ?_
      show Steps p.tables e below (T41.setTop (mkF m 130 #[.val (.long q0), .second, .val (.int p1), .val (.int p2), .val (.int p3), .val (.int p4), .val (.int p5), .val (.int (3 : Int32)), .val (.int y0), .val (.int y1), .val (.int y2), .val (.ref b28), .val (.ref b29), .unset, .unset] [(.int (1 : Int32)), (.int (3 : Int32))])) _
      refine XS.icmpNo X41.here hx rfl (hb hby at_130) rfl (flt (by decide)).1 ?_
      show Steps p.tables e below (T41.setTop (mkF m 133 #[.val (.long q0), .second, .val (.int p1), .val (.int p2), .val (.int p3), .val (.int p4), .val (.int p5), .val (.int (3 : Int32)), .val (.int y0), .val (.int y1), .val (.int y2), .val (.ref b28), .val (.ref b29), .unset, .unset] [])) _
      refine XS.iloadN X41.here hx rfl (hb hby at_133) rfl ?_
      show Steps p.tables e below (T41.setTop (mkF m 134 #[.val (.long q0), .second, .val (.int p1), .val (.int p2), .val (.int p3), .val (.int p4), .val (.int p5), .val (.int (3 : Int32)), .val (.int y0), .val (.int y1), .val (.int y2), .val (.ref b28), .val (.ref b29), .unset, .unset] [(.int p2)])) _
      refine XS.iload X41.here hx rfl (hb hby at_134) rfl ?_
      by_cases hc136 : p2 = y0
      · show Steps p.tables e below (T41.setTop (mkF m 136 #[.val (.long q0), .second, .val (.int p1), .val (.int p2), .val (.int p3), .val (.int p4), .val (.int p5), .val (.int (3 : Int32)), .val (.int y0), .val (.int y1), .val (.int y2), .val (.ref b28), .val (.ref b29), .unset, .unset] [(.int y0), (.int p2)])) _
        refine XS.icmpNo X41.here hx rfl (hb hby at_136) rfl (teq hc136).2 ?_
        show Steps p.tables e below (T41.setTop (mkF m 139 #[.val (.long q0), .second, .val (.int p1), .val (.int p2), .val (.int p3), .val (.int p4), .val (.int p5), .val (.int (3 : Int32)), .val (.int y0), .val (.int y1), .val (.int y2), .val (.ref b28), .val (.ref b29), .unset, .unset] [])) _
        refine XS.iload X41.here hx rfl (hb hby at_139) rfl ?_
        show Steps p.tables e below (T41.setTop (mkF m 141 #[.val (.long q0), .second, .val (.int p1), .val (.int p2), .val (.int p3), .val (.int p4), .val (.int p5), .val (.int (3 : Int32)), .val (.int y0), .val (.int y1), .val (.int y2), .val (.ref b28), .val (.ref b29), .unset, .unset] [(.int (3 : Int32))])) _
        refine XS.iconst X41.here hx rfl (hb hby at_141) ?_
        show Steps p.tables e below (T41.setTop (mkF m 142 #[.val (.long q0), .second, .val (.int p1), .val (.int p2), .val (.int p3), .val (.int p4), .val (.int p5), .val (.int (3 : Int32)), .val (.int y0), .val (.int y1), .val (.int y2), .val (.ref b28), .val (.ref b29), .unset, .unset] [(.int (2 : Int32)), (.int (3 : Int32))])) _
        refine XS.icmpNo X41.here hx rfl (hb hby at_142) rfl (flt (by decide)).1 ?_
        show Steps p.tables e below (T41.setTop (mkF m 145 #[.val (.long q0), .second, .val (.int p1), .val (.int p2), .val (.int p3), .val (.int p4), .val (.int p5), .val (.int (3 : Int32)), .val (.int y0), .val (.int y1), .val (.int y2), .val (.ref b28), .val (.ref b29), .unset, .unset] [])) _
        refine XS.iload X41.here hx rfl (hb hby at_145) rfl ?_
        show Steps p.tables e below (T41.setTop (mkF m 147 #[.val (.long q0), .second, .val (.int p1), .val (.int p2), .val (.int p3), .val (.int p4), .val (.int p5), .val (.int (3 : Int32)), .val (.int y0), .val (.int y1), .val (.int y2), .val (.ref b28), .val (.ref b29), .unset, .unset] [(.int p3)])) _
        refine XS.iload X41.here hx rfl (hb hby at_147) rfl ?_
        by_cases hc149 : p3 = y1
        · show Steps p.tables e below (T41.setTop (mkF m 149 #[.val (.long q0), .second, .val (.int p1), .val (.int p2), .val (.int p3), .val (.int p4), .val (.int p5), .val (.int (3 : Int32)), .val (.int y0), .val (.int y1), .val (.int y2), .val (.ref b28), .val (.ref b29), .unset, .unset] [(.int y1), (.int p3)])) _
          refine XS.icmpNo X41.here hx rfl (hb hby at_149) rfl (teq hc149).2 ?_
          show Steps p.tables e below (T41.setTop (mkF m 152 #[.val (.long q0), .second, .val (.int p1), .val (.int p2), .val (.int p3), .val (.int p4), .val (.int p5), .val (.int (3 : Int32)), .val (.int y0), .val (.int y1), .val (.int y2), .val (.ref b28), .val (.ref b29), .unset, .unset] [])) _
          refine XS.iload X41.here hx rfl (hb hby at_152) rfl ?_
          show Steps p.tables e below (T41.setTop (mkF m 154 #[.val (.long q0), .second, .val (.int p1), .val (.int p2), .val (.int p3), .val (.int p4), .val (.int p5), .val (.int (3 : Int32)), .val (.int y0), .val (.int y1), .val (.int y2), .val (.ref b28), .val (.ref b29), .unset, .unset] [(.int (3 : Int32))])) _
          refine XS.iconst X41.here hx rfl (hb hby at_154) ?_
          show Steps p.tables e below (T41.setTop (mkF m 155 #[.val (.long q0), .second, .val (.int p1), .val (.int p2), .val (.int p3), .val (.int p4), .val (.int p5), .val (.int (3 : Int32)), .val (.int y0), .val (.int y1), .val (.int y2), .val (.ref b28), .val (.ref b29), .unset, .unset] [(.int (3 : Int32)), (.int (3 : Int32))])) _
          refine XS.icmpNo X41.here hx rfl (hb hby at_155) rfl (flt (by decide)).1 ?_
          show Steps p.tables e below (T41.setTop (mkF m 158 #[.val (.long q0), .second, .val (.int p1), .val (.int p2), .val (.int p3), .val (.int p4), .val (.int p5), .val (.int (3 : Int32)), .val (.int y0), .val (.int y1), .val (.int y2), .val (.ref b28), .val (.ref b29), .unset, .unset] [])) _
          refine XS.iload X41.here hx rfl (hb hby at_158) rfl ?_
          show Steps p.tables e below (T41.setTop (mkF m 160 #[.val (.long q0), .second, .val (.int p1), .val (.int p2), .val (.int p3), .val (.int p4), .val (.int p5), .val (.int (3 : Int32)), .val (.int y0), .val (.int y1), .val (.int y2), .val (.ref b28), .val (.ref b29), .unset, .unset] [(.int p4)])) _
          refine XS.iload X41.here hx rfl (hb hby at_160) rfl ?_
          by_cases hc162 : p4 = y2
          · show Steps p.tables e below (T41.setTop (mkF m 162 #[.val (.long q0), .second, .val (.int p1), .val (.int p2), .val (.int p3), .val (.int p4), .val (.int p5), .val (.int (3 : Int32)), .val (.int y0), .val (.int y1), .val (.int y2), .val (.ref b28), .val (.ref b29), .unset, .unset] [(.int y2), (.int p4)])) _
            refine XS.icmpNo X41.here hx rfl (hb hby at_162) rfl (teq hc162).2 ?_
            show Steps p.tables e below (T41.setTop (mkF m 165 #[.val (.long q0), .second, .val (.int p1), .val (.int p2), .val (.int p3), .val (.int p4), .val (.int p5), .val (.int (3 : Int32)), .val (.int y0), .val (.int y1), .val (.int y2), .val (.ref b28), .val (.ref b29), .unset, .unset] [])) _
            refine XS.iconst X41.here hx rfl (hb hby at_165) ?_
            show Steps p.tables e below (T41.setTop (mkF m 166 #[.val (.long q0), .second, .val (.int p1), .val (.int p2), .val (.int p3), .val (.int p4), .val (.int p5), .val (.int (3 : Int32)), .val (.int y0), .val (.int y1), .val (.int y2), .val (.ref b28), .val (.ref b29), .unset, .unset] [(.int (1 : Int32))])) _
            refine XS.goto X41.here hx rfl (pc0 := 166) (pc' := 170) rfl (hb hby at_166) (by decide) (by decide) ?_
            rw [show ex = (1 : Int32) from by rw [hex, if_pos hc136, if_pos hc149, if_pos hc162]] at kt
            exact kt
          · show Steps p.tables e below (T41.setTop (mkF m 162 #[.val (.long q0), .second, .val (.int p1), .val (.int p2), .val (.int p3), .val (.int p4), .val (.int p5), .val (.int (3 : Int32)), .val (.int y0), .val (.int y1), .val (.int y2), .val (.ref b28), .val (.ref b29), .unset, .unset] [(.int y2), (.int p4)])) _
            refine XS.icmpYes X41.here hx rfl (pc0 := 162) (pc' := 169) rfl (hb hby at_162) rfl (feq hc162).2 (by decide) (by decide) ?_
            show Steps p.tables e below (T41.setTop (mkF m 169 #[.val (.long q0), .second, .val (.int p1), .val (.int p2), .val (.int p3), .val (.int p4), .val (.int p5), .val (.int (3 : Int32)), .val (.int y0), .val (.int y1), .val (.int y2), .val (.ref b28), .val (.ref b29), .unset, .unset] [])) _
            refine XS.iconst X41.here hx rfl (hb hby at_169) ?_
            rw [show ex = (0 : Int32) from by rw [hex, if_pos hc136, if_pos hc149, if_neg hc162]] at kt
            exact kt
        · show Steps p.tables e below (T41.setTop (mkF m 149 #[.val (.long q0), .second, .val (.int p1), .val (.int p2), .val (.int p3), .val (.int p4), .val (.int p5), .val (.int (3 : Int32)), .val (.int y0), .val (.int y1), .val (.int y2), .val (.ref b28), .val (.ref b29), .unset, .unset] [(.int y1), (.int p3)])) _
          refine XS.icmpYes X41.here hx rfl (pc0 := 149) (pc' := 169) rfl (hb hby at_149) rfl (feq hc149).2 (by decide) (by decide) ?_
          show Steps p.tables e below (T41.setTop (mkF m 169 #[.val (.long q0), .second, .val (.int p1), .val (.int p2), .val (.int p3), .val (.int p4), .val (.int p5), .val (.int (3 : Int32)), .val (.int y0), .val (.int y1), .val (.int y2), .val (.ref b28), .val (.ref b29), .unset, .unset] [])) _
          refine XS.iconst X41.here hx rfl (hb hby at_169) ?_
          rw [show ex = (0 : Int32) from by rw [hex, if_pos hc136, if_neg hc149]] at kt
          exact kt
      · show Steps p.tables e below (T41.setTop (mkF m 136 #[.val (.long q0), .second, .val (.int p1), .val (.int p2), .val (.int p3), .val (.int p4), .val (.int p5), .val (.int (3 : Int32)), .val (.int y0), .val (.int y1), .val (.int y2), .val (.ref b28), .val (.ref b29), .unset, .unset] [(.int y0), (.int p2)])) _
        refine XS.icmpYes X41.here hx rfl (pc0 := 136) (pc' := 169) rfl (hb hby at_136) rfl (feq hc136).2 (by decide) (by decide) ?_
        show Steps p.tables e below (T41.setTop (mkF m 169 #[.val (.long q0), .second, .val (.int p1), .val (.int p2), .val (.int p3), .val (.int p4), .val (.int p5), .val (.int (3 : Int32)), .val (.int y0), .val (.int y1), .val (.int y2), .val (.ref b28), .val (.ref b29), .unset, .unset] [])) _
        refine XS.iconst X41.here hx rfl (hb hby at_169) ?_
        rw [show ex = (0 : Int32) from by rw [hex, if_neg hc136]] at kt
        exact kt
    refine own_go (B := T41.setTop (mkF m 172 #[.val (.long q0), .second, .val (.int p1), .val (.int p2), .val (.int p3), .val (.int p4), .val (.int p5), .val (.int (3 : Int32)), .val (.int y0), .val (.int y1), .val (.int y2), .val (.ref b28), .val (.ref b29), .val (.int ex), .unset] [])) (fun t kt => ?_) ?_
    · show Steps p.tables e below (T41.setTop (mkF m 170 #[.val (.long q0), .second, .val (.int p1), .val (.int p2), .val (.int p3), .val (.int p4), .val (.int p5), .val (.int (3 : Int32)), .val (.int y0), .val (.int y1), .val (.int y2), .val (.ref b28), .val (.ref b29), .unset, .unset] [(.int ex)])) _
      refine XS.istore X41.here hx rfl (hb hby at_170) rfl (l' := #[.val (.long q0), .second, .val (.int p1), .val (.int p2), .val (.int p3), .val (.int p4), .val (.int p5), .val (.int (3 : Int32)), .val (.int y0), .val (.int y1), .val (.int y2), .val (.ref b28), .val (.ref b29), .val (.int ex), .unset]) rfl ?_
      exact kt
    obtain ⟨T42, h42, X42, e42, E42, A42, D42, -, st42⟩ := newO X41 hx hZ hown (hw _ (List.mem_of_getElem? (i := 1) rfl)) (hw _ (List.mem_of_getElem? (i := 2) rfl)) (hw _ (List.mem_of_getElem? (i := 3) rfl)) e41 (g := (mkF m 172 #[.val (.long q0), .second, .val (.int p1), .val (.int p2), .val (.int p3), .val (.int p4), .val (.int p5), .val (.int (3 : Int32)), .val (.int y0), .val (.int y1), .val (.int y2), .val (.ref b28), .val (.ref b29), .val (.int ex), .unset] [])) rfl (hb hby at_172) (by decide) (by decide)
    obtain ⟨b42, g42⟩ : ∃ z, z = h41.size := ⟨_, rfl⟩
    rw [← g42] at A42 D42 st42
    have g_b42 : n0 ≤ b42 := Nat.le_trans Z41 (Nat.le_of_eq g42.symm)
    have ne_b28_b42 : b28 ≠ b42 := Nat.ne_of_lt (Nat.lt_of_lt_of_le V_b28_41.lt (Nat.le_of_eq g42.symm))
    have ne_b29_b42 : b29 ≠ b42 := Nat.ne_of_lt (Nat.lt_of_lt_of_le V_b29_41.lt (Nat.le_of_eq g42.symm))
    have V_b28_42 := V_b28_41.ext E42
    have V_b29_42 := V_b29_41.ext E42
    have Z42 : n0 ≤ h42.size := Nat.le_trans Z41 E42.1
    have E_b42 := A42
    have F_id_b42 : Fld Z h42 b42 "com/example/columella/columella/ipc/Renumbering" "id" "J" (.long (0 : Int64)) := D42 (Or.inr (hw _ (List.mem_of_getElem? (i := 11) rfl))) (ty := .long) (by decide)
    have F_entries_b42 : Fld Z h42 b42 "com/example/columella/columella/ipc/Renumbering" "entries" "[I" .null := D42 (Or.inr (hw _ (List.mem_of_getElem? (i := 13) rfl))) (ty := (.array .int)) (by decide)
    have F_numbers_b42 : Fld Z h42 b42 "com/example/columella/columella/ipc/Renumbering" "numbers" "[I" .null := D42 (Or.inr (hw _ (List.mem_of_getElem? (i := 15) rfl))) (ty := (.array .int)) (by decide)
    refine own_go (B := T42.setTop (mkF m 175 #[.val (.long q0), .second, .val (.int p1), .val (.int p2), .val (.int p3), .val (.int p4), .val (.int p5), .val (.int (3 : Int32)), .val (.int y0), .val (.int y1), .val (.int y2), .val (.ref b28), .val (.ref b29), .val (.int ex), .unset] [(.ref b42)])) (fun t kt => st42 t kt) ?_
    refine own_go (B := T42.setTop (mkF m 181 #[.val (.long q0), .second, .val (.int p1), .val (.int p2), .val (.int p3), .val (.int p4), .val (.int p5), .val (.int (3 : Int32)), .val (.int y0), .val (.int y1), .val (.int y2), .val (.ref b28), .val (.ref b29), .val (.int ex), .unset] [(.ref b29), (.ref b28), (.long q0), (.ref b42), (.ref b42)])) (fun t kt => ?_) ?_
    · show Steps p.tables e below (T42.setTop (mkF m 175 #[.val (.long q0), .second, .val (.int p1), .val (.int p2), .val (.int p3), .val (.int p4), .val (.int p5), .val (.int (3 : Int32)), .val (.int y0), .val (.int y1), .val (.int y2), .val (.ref b28), .val (.ref b29), .val (.int ex), .unset] [(.ref b42)])) _
      refine XS.dup X42.here hx rfl (hb hby at_175) rfl rfl ?_
      show Steps p.tables e below (T42.setTop (mkF m 176 #[.val (.long q0), .second, .val (.int p1), .val (.int p2), .val (.int p3), .val (.int p4), .val (.int p5), .val (.int (3 : Int32)), .val (.int y0), .val (.int y1), .val (.int y2), .val (.ref b28), .val (.ref b29), .val (.int ex), .unset] [(.ref b42), (.ref b42)])) _
      refine XS.lloadN X42.here hx rfl (hb hby at_176) rfl ?_
      show Steps p.tables e below (T42.setTop (mkF m 177 #[.val (.long q0), .second, .val (.int p1), .val (.int p2), .val (.int p3), .val (.int p4), .val (.int p5), .val (.int (3 : Int32)), .val (.int y0), .val (.int y1), .val (.int y2), .val (.ref b28), .val (.ref b29), .val (.int ex), .unset] [(.long q0), (.ref b42), (.ref b42)])) _
      refine XS.aload X42.here hx rfl (hb hby at_177) rfl rfl ?_
      show Steps p.tables e below (T42.setTop (mkF m 179 #[.val (.long q0), .second, .val (.int p1), .val (.int p2), .val (.int p3), .val (.int p4), .val (.int p5), .val (.int (3 : Int32)), .val (.int y0), .val (.int y1), .val (.int y2), .val (.ref b28), .val (.ref b29), .val (.int ex), .unset] [(.ref b28), (.long q0), (.ref b42), (.ref b42)])) _
      refine XS.aload X42.here hx rfl (hb hby at_179) rfl rfl ?_
      exact kt
    obtain ⟨_, _, ⟨T43, L43, k43, n43⟩, -, X43, ⟨Lc43, hQ43, l43, y43, z43⟩, st43⟩ := X42.specialBack hx (y := (⟨"com/example/columella/columella/ipc/Renumbering", "<init>", "(J[I[I)V"⟩ : MethodName)) rfl hown (mvT hZ (hw _ (List.mem_of_getElem? (i := 4) rfl))) (mvT hZ (hw _ (List.mem_of_getElem? (i := 5) rfl))) (mvT hZ (hw _ (List.mem_of_getElem? (i := 6) rfl))) (by decide) (backOf (W := 1) (rm1 l Z t0 hw [] b42 q0 b28 b29 h42 n0 Z42 g_b42 E_b42 F_id_b42 F_entries_b42 F_numbers_b42) hZ (hw _ (List.mem_of_getElem? (i := 6) rfl)) (hw _ (List.mem_of_getElem? (i := 3) rfl)) (by decide) (by decide)) (g := (mkF m 181 #[.val (.long q0), .second, .val (.int p1), .val (.int p2), .val (.int p3), .val (.int p4), .val (.int p5), .val (.int (3 : Int32)), .val (.int y0), .val (.int y1), .val (.int y2), .val (.ref b28), .val (.ref b29), .val (.int ex), .unset] [(.ref b29), (.ref b28), (.long q0), (.ref b42), (.ref b42)])) rfl (by rw [hml]; rfl) (Steps.refl _) (a := b42) (argsL := [(.long q0), (.ref b28), (.ref b29)]) (rest := [(.ref b42)]) (lenOf pd_0_0 rfl) rfl (by show 2 * 0 + _ ≤ _; exact Nat.le_of_eq rfl) (hb hby at_181) (fun _ _ => ⟨rfl, e42, (by decide : 3 + 0 ≤ _), (by decide : 9 + 0 ≤ _)⟩)
    dsimp only [Pt.U, Pt.locs, Pt.cells, Pt.slots] at X43 l43 y43 z43 st43 hQ43
    subst l43 y43 z43
    obtain ⟨rfl, Nq43, Kc43, Ec43, Fe43, Fn43⟩ := hQ43
    have N43 := Fr.app N41 Nq43
    obtain ⟨h43, e43⟩ : ∃ z, T43.heap = z := ⟨_, rfl⟩
    rw [e43] at Kc43 Ec43 Fe43 Fn43
    have V_b28_43 := V_b28_42.keep Kc43 (ninS ne_b28_b42 nin0)
    have V_b29_43 := V_b29_42.keep Kc43 (ninS ne_b29_b42 nin0)
    have Z43 : n0 ≤ h43.size := Nat.le_trans Z42 Kc43.1
    refine own_go (B := T43.setTop (mkF m 184 #[.val (.long q0), .second, .val (.int p1), .val (.int p2), .val (.int p3), .val (.int p4), .val (.int p5), .val (.int (3 : Int32)), .val (.int y0), .val (.int y1), .val (.int y2), .val (.ref b28), .val (.ref b29), .val (.int ex), .unset] [(.ref b42)])) (fun t kt => st43.trans kt) ?_
    refine own_go (B := T43.setTop (mkF m 188 #[.val (.long q0), .second, .val (.int p1), .val (.int p2), .val (.int p3), .val (.int p4), .val (.int p5), .val (.int (3 : Int32)), .val (.int y0), .val (.int y1), .val (.int y2), .val (.ref b28), .val (.ref b29), .val (.int ex), .val (.ref b42)] [(.ref b42)])) (fun t kt => ?_) ?_
    · show Steps p.tables e below (T43.setTop (mkF m 184 #[.val (.long q0), .second, .val (.int p1), .val (.int p2), .val (.int p3), .val (.int p4), .val (.int p5), .val (.int (3 : Int32)), .val (.int y0), .val (.int y1), .val (.int y2), .val (.ref b28), .val (.ref b29), .val (.int ex), .unset] [(.ref b42)])) _
      refine XS.astore X43.here hx rfl (hb hby at_184) rfl rfl (l' := #[.val (.long q0), .second, .val (.int p1), .val (.int p2), .val (.int p3), .val (.int p4), .val (.int p5), .val (.int (3 : Int32)), .val (.int y0), .val (.int y1), .val (.int y2), .val (.ref b28), .val (.ref b29), .val (.int ex), .val (.ref b42)]) rfl ?_
      show Steps p.tables e below (T43.setTop (mkF m 186 #[.val (.long q0), .second, .val (.int p1), .val (.int p2), .val (.int p3), .val (.int p4), .val (.int p5), .val (.int (3 : Int32)), .val (.int y0), .val (.int y1), .val (.int y2), .val (.ref b28), .val (.ref b29), .val (.int ex), .val (.ref b42)] [])) _
      refine XS.aload X43.here hx rfl (hb hby at_186) rfl rfl ?_
      exact kt
    obtain ⟨cq44, kq44, qa44, qb44, qc44⟩ := isOf hZ e43 Ec43
    obtain ⟨_, _, ⟨T44, L44, k44, n44⟩, -, X44, ⟨Lc44, hQ44, l44, y44, z44⟩, st44⟩ := X43.virtualBack hx (y := (⟨"com/example/columella/columella/ipc/Renumbering", "keepsEveryNumber", "()Z"⟩ : MethodName)) (z := (⟨"com/example/columella/columella/ipc/Renumbering", "keepsEveryNumber", "()Z"⟩ : MethodName)) hown (mvT hZ (hw _ (List.mem_of_getElem? (i := 16) rfl))) (mvT hZ (hw _ (List.mem_of_getElem? (i := 17) rfl))) (notFace_of_selects (args := #[]) (mvT hZ (hw _ (List.mem_of_getElem? (i := 19) rfl)))) (mvT hZ (hw _ (List.mem_of_getElem? (i := 19) rfl))) (mvT hZ (hw _ (List.mem_of_getElem? (i := 18) rfl))) (by decide) (backOf (W := 0) (rm3_3 l Z t0 hw [] b42 b28 b29 k28 k29 p2 p3 p4 y0 y1 y2 h43 n0 Z43 Fe43 Fn43 V_b28_43 V_b29_43) hZ (hw _ (List.mem_of_getElem? (i := 20) rfl)) (hw _ (List.mem_of_getElem? (i := 3) rfl)) (by decide) (by decide)) qa44 qc44 (g := (mkF m 188 #[.val (.long q0), .second, .val (.int p1), .val (.int p2), .val (.int p3), .val (.int p4), .val (.int p5), .val (.int (3 : Int32)), .val (.int y0), .val (.int y1), .val (.int y2), .val (.ref b28), .val (.ref b29), .val (.int ex), .val (.ref b42)] [(.ref b42)])) rfl (by rw [hml]; rfl) (Steps.refl _) (argsL := []) (rest := []) (lenOf pd_0_1 rfl) rfl (by show 2 * 0 + _ ≤ _; exact Nat.le_of_eq rfl) (hb hby at_188) (fun _ _ => ⟨rfl, e43, (by decide : 3 + 0 ≤ _), (by decide : 9 + 0 ≤ _)⟩)
    dsimp only [Pt.U, Pt.locs, Pt.cells, Pt.slots] at X44 l44 y44 z44 st44 hQ44
    subst l44 y44 z44
    obtain ⟨rfl, Nq44, hh44⟩ := hQ44
    have N44 := Fr.app N43 Nq44
    have e44 : T44.heap = h43 := hh44
    refine own_go (B := T44.setTop (mkF m 191 #[.val (.long q0), .second, .val (.int p1), .val (.int p2), .val (.int p3), .val (.int p4), .val (.int p5), .val (.int (3 : Int32)), .val (.int y0), .val (.int y1), .val (.int y2), .val (.ref b28), .val (.ref b29), .val (.int ex), .val (.ref b42)] [(.int (if p2 = y0 then (if p3 = y1 then (if p4 = y2 then (1 : Int32) else (0 : Int32)) else (0 : Int32)) else (0 : Int32)))])) (fun t kt => st44.trans kt) ?_
    refine own_go (B := T44.setTop (mkF m 201 #[.val (.long q0), .second, .val (.int p1), .val (.int p2), .val (.int p3), .val (.int p4), .val (.int p5), .val (.int (3 : Int32)), .val (.int y0), .val (.int y1), .val (.int y2), .val (.ref b28), .val (.ref b29), .val (.int ex), .val (.ref b42)] [(.int (1 : Int32))])) (fun t kt => ?_) ?_
    · show Steps p.tables e below (T44.setTop (mkF m 191 #[.val (.long q0), .second, .val (.int p1), .val (.int p2), .val (.int p3), .val (.int p4), .val (.int p5), .val (.int (3 : Int32)), .val (.int y0), .val (.int y1), .val (.int y2), .val (.ref b28), .val (.ref b29), .val (.int ex), .val (.ref b42)] [(.int (if p2 = y0 then (if p3 = y1 then (if p4 = y2 then (1 : Int32) else (0 : Int32)) else (0 : Int32)) else (0 : Int32)))])) _
      refine XS.iload X44.here hx rfl (hb hby at_191) rfl ?_
      show Steps p.tables e below (T44.setTop (mkF m 193 #[.val (.long q0), .second, .val (.int p1), .val (.int p2), .val (.int p3), .val (.int p4), .val (.int p5), .val (.int (3 : Int32)), .val (.int y0), .val (.int y1), .val (.int y2), .val (.ref b28), .val (.ref b29), .val (.int ex), .val (.ref b42)] [(.int ex), (.int (if p2 = y0 then (if p3 = y1 then (if p4 = y2 then (1 : Int32) else (0 : Int32)) else (0 : Int32)) else (0 : Int32)))])) _
      refine XS.icmpNo X44.here hx rfl (hb hby at_193) rfl (teq hex.symm).2 ?_
      show Steps p.tables e below (T44.setTop (mkF m 196 #[.val (.long q0), .second, .val (.int p1), .val (.int p2), .val (.int p3), .val (.int p4), .val (.int p5), .val (.int (3 : Int32)), .val (.int y0), .val (.int y1), .val (.int y2), .val (.ref b28), .val (.ref b29), .val (.int ex), .val (.ref b42)] [])) _
      refine XS.iconst X44.here hx rfl (hb hby at_196) ?_
      show Steps p.tables e below (T44.setTop (mkF m 197 #[.val (.long q0), .second, .val (.int p1), .val (.int p2), .val (.int p3), .val (.int p4), .val (.int p5), .val (.int (3 : Int32)), .val (.int y0), .val (.int y1), .val (.int y2), .val (.ref b28), .val (.ref b29), .val (.int ex), .val (.ref b42)] [(.int (1 : Int32))])) _
      refine XS.goto X44.here hx rfl (pc0 := 197) (pc' := 201) rfl (hb hby at_197) (by decide) (by decide) ?_
      exact kt
    obtain ⟨fs, hr, hrun, hended, hW, hsame⟩ := X44.leave (v := some (.int (1 : Int32))) (fun h => by rw [Bd.returns] at h; cases h)
    refine ⟨_, _, ?_, hrun, hended, _, _, rfl, ?_, ⟨_, rfl⟩, hW, hsame.mono (by decide) (by decide)⟩
    · show Steps p.tables e below (T44.setTop (mkF m 201 #[.val (.long q0), .second, .val (.int p1), .val (.int p2), .val (.int p3), .val (.int p4), .val (.int p5), .val (.int (3 : Int32)), .val (.int y0), .val (.int y1), .val (.int y2), .val (.ref b28), .val (.ref b29), .val (.int ex), .val (.ref b42)] [(.int (1 : Int32))])) _
      exact retN X44 hx (t := .boolean) Bd.returns (by simp) (hb hby at_201) hr
    · show Q0 n0 _ _
      exact ⟨rfl, N44⟩
set_option maxRecDepth 65536 in
set_option maxHeartbeats 40000000 in
theorem comes_1 {Post : Tables → Env → Array Value → State → Outcome → State → Prop} (hpost : ∀ tb e args s v u, (limb_1_1.after args s (.returned v) u = true ∧ limb_1_2.after args s (.returned v) u = true ∧ True) → FrameEnd s (.returned v) u (Jvm.fieldLocs frame_1_writes args s ++ Jvm.arrayLocs frame_1_arrays args s ++ Jvm.staticLocs frame_1_statics s) 16 128 → Post tb e args s (.returned v) u) :
    ArmFor flags0 classFile x code maxLocals ret World_1 tables_1 room_1 Calls_1 rest_1 Pre_1 Post := by
  intro l hfl _ _ p e ha hc hk s m args below hf hA hF happ hP
  obtain ⟨hcalls, hrest, hpre⟩ := hP
  obtain ⟨-, -, -, hnamed, -, -, -, hat⟩ := (Spec.applies_iff hf).mp happ
  obtain ⟨hg, hn⟩ := and_e (Cond.before_iff.mp (show (Jvm.Cond.and given_1 narrow_1).before args s = true from hpre))
  obtain ⟨ga0, gb0⟩ := and_e hg
  obtain ⟨ga1, gb1⟩ := and_e gb0
  obtain ⟨ga2, gb2⟩ := and_e gb1
  obtain ⟨ga3, gb3⟩ := and_e gb2
  obtain ⟨ga4, gb4⟩ := and_e gb3
  obtain ⟨ga5, gb5⟩ := and_e gb4
  obtain ⟨w0, w1, w2, w3, w4, w5, rfl⟩ : ∃ w0 w1 w2 w3 w4 w5 : Value, args = #[w0, w1, w2, w3, w4, w5] := by
    have hs : args.size = 6 := by simpa [Cond.value, given_1] using ga0
    obtain ⟨L⟩ := args
    match L, hs with
    | [w0, w1, w2, w3, w4, w5], _ => exact ⟨w0, w1, w2, w3, w4, w5, rfl⟩
  have hw := fun d (hd : d ∈ tables_1) => atoms_spec (ws := Jvm.Cond.code x code maxLocals ret :: tables_1) hat d (List.mem_cons_of_mem _ hd)
  obtain ⟨i0, ei0⟩ := isL_v ga1
  obtain rfl : w0 = (.long i0) := Option.some.inj ei0
  obtain ⟨i1, ei1⟩ := is_v ga2
  obtain rfl : w1 = (.int i1) := Option.some.inj ei1
  obtain ⟨i2, ei2⟩ := is_v ga3
  obtain rfl : w2 = (.int i2) := Option.some.inj ei2
  obtain ⟨i3, ei3⟩ := is_v ga4
  obtain rfl : w3 = (.int i3) := Option.some.inj ei3
  obtain ⟨i4, ei4⟩ := is_v ga5
  obtain rfl : w4 = (.int i4) := Option.some.inj ei4
  obtain ⟨i5, ei5⟩ := is_v gb5
  obtain rfl : w5 = (.int i5) := Option.some.inj ei5
  obtain ⟨n, o, h1, h2, h3, _, L, rfl, ⟨rfl, N⟩, hq⟩ := rm0 l s _ hw tables_1 i0 i1 i2 i3 i4 i5 s.heap s.heap.size (Nat.le_refl _)  p e ha hc hk s m _ below hf ((Spec.applies_iff_loose hf).mp happ).1 ⟨rfl, State.Warmed39.refl s, rfl⟩ trivial
  refine ⟨n, _, h1, h2, h3, hpost _ _ _ _ _ _ ⟨Cond.after_iff.mpr rfl, Cond.after_iff.mpr (eq_i res_at (Term.int_eval (1)) rfl), trivial⟩ ⟨hq.1, hq.2.1, (hq.2.2.sift fun y hy => Or.inr (N y hy)).mono (by decide) (by decide)⟩⟩
theorem main_1_1 : Claimed_1_1 := comes_1 fun _ _ _ _ _ _ h hF => ⟨h.1, hF⟩
theorem main_1_2 : Claimed_1_2 := comes_1 fun _ _ _ _ _ _ h hF => ⟨h.2.1, hF⟩
end Jvm.Pilot.@@N@@
namespace Jvm.Pilot.@@N@@
open Jvm Jvm.ClassFile Sem Op Lib Jvm.Free Jvm.Stand Jvm.Pilot.@@N@@.Jvm.D
/-! MADE BY PROGRAM (witnessworld.py) out of the Statement's table words and the real class files: 9 classes; the members and pool entries that the words name. The judged class is class 1, her method 1. -/
namespace start1
open Jvm.ClassFile
def u (s : String) : CpInfo := .utf8 (stringToUtf16 s)
/-- a pool by its gaps: so many unusable entries, then the entry; so many at the end -/
def gap : Nat → List CpInfo → List CpInfo
  | 0, r => r
  | n + 1, r => .unusable :: gap n r
def poolList (es : List (Nat × CpInfo)) (last : Nat) : List CpInfo := es.foldr (fun e r => gap e.1 (e.2 :: r)) (gap last [])
def pool (es : List (Nat × CpInfo)) (last : Nat) : Array CpInfo := ⟨poolList es last⟩
def fileOf (pool : Array CpInfo) (this : Nat) (attrs : Array Attribute := #[]) (ms : Array MethodInfo := #[]) (fl : Nat := 33) (sup : Nat := 0) (ifs : Array Nat := #[]) (fds : Array FieldInfo := #[]) : ClassFile where
  minorVersion := 0
  majorVersion := 65
  constantPool := pool
  accessFlags := fl
  thisClass := this
  superClass := sup
  interfaces := ifs
  fields := fds
  methods := ms
  attributes := attrs
def plain (name : String) (sup : Option ClassId) : Class where
  name := name
  kind := .ordinary
  loader := none
  accessFlags := 33
  super := sup
  interfaces := #[]
  cf := none
  fields := #[]
  methods := #[]
  instanceTypes := #[]
  staticTypes := #[]
  resolved := #[]
  callSites := []
  init := .initialized
  statics := none
  mirror := none

def pool0 : Array CpInfo := pool [(5, u "<init>"), (0, u "()V"), (1, .class_ 10), (1, u "java/lang/Object")] 113

def k0c0 : Code := { maxStack := 0, maxLocals := 1, code := object_method_1_code, exceptionTable := #[], attributes := #[] }
def k0m0 : Method := { name := "<init>", desc := "()V", sig := { parameters := [], returnType := none }, accessFlags := 1, code := some k0c0 }
/-- java/lang/Object -/
def k0 : Class := { plain "java/lang/Object" none with
  accessFlags := 33
  interfaces := #[]
  cf := some (fileOf pool0 8 #[] #[{ accessFlags := 1, nameIndex := 5, descriptorIndex := 6, attributes := #[] }] 33 0 #[] #[])
  fields := #[]
  methods := #[k0m0]
  instanceTypes := #[]
  staticTypes := #[]
  resolved := Array.replicate 124 none
  statics := none }

def pool1 : Array CpInfo := pool [(2, .class_ 4), (1, u "java/lang/Object"), (0, u "<init>"), (0, u "()V"), (0, .class_ 8), (0, u "com/example/columella/columella/ipc/Renumbering"), (0, .methodref 7 10), (0, .nameAndType 5 11), (0, u "(J[I[I)V"), (0, .methodref 7 13), (0, .nameAndType 14 15), (0, u "keepsEveryNumber"), (0, u "()Z"), (0, .class_ 17), (0, u "com/example/columella/columella/ipc/RenumberingKeepsEveryNumberPinLaw"), (2, u "law"), (0, u "(JIIIII)Z")] 5

def k1m0 : Method := { name := "<init>", desc := "()V", sig := { parameters := [], returnType := none }, accessFlags := 1, code := none }
def k1c1 : Code := { maxStack := 6, maxLocals := 15, code := code, exceptionTable := #[], attributes := #[] }
def k1m1 : Method := { name := "law", desc := "(JIIIII)Z", sig := { parameters := [.long, .int, .int, .int, .int, .int], returnType := some .boolean }, accessFlags := 9, code := some k1c1 }
/-- com/example/columella/columella/ipc/RenumberingKeepsEveryNumberPinLaw -/
def k1 : Class := { plain "com/example/columella/columella/ipc/RenumberingKeepsEveryNumberPinLaw" (some 0) with
  accessFlags := 49
  interfaces := #[]
  cf := some (fileOf pool1 16 #[] #[{ accessFlags := 1, nameIndex := 5, descriptorIndex := 6, attributes := #[] }, { accessFlags := 9, nameIndex := 20, descriptorIndex := 21, attributes := #[] }] 49 2 #[] #[])
  fields := #[]
  methods := #[k1m0, k1m1]
  instanceTypes := #[]
  staticTypes := #[]
  resolved := Array.replicate 27 none
  statics := none }

def pool2 : Array CpInfo := pool [(1, .methodref 2 3), (0, .class_ 4), (0, .nameAndType 5 6), (0, u "java/lang/Object"), (0, u "<init>"), (0, u "()V"), (0, .fieldref 8 9), (0, .class_ 10), (0, .nameAndType 11 12), (0, u "com/example/columella/columella/ipc/Renumbering"), (0, u "id"), (0, u "J"), (0, .fieldref 8 14), (0, .nameAndType 15 16), (0, u "entries"), (0, u "[I"), (0, .fieldref 8 18), (0, .nameAndType 19 16), (0, u "numbers"), (20, u "()Z"), (196, u "(J[I[I)V"), (11, u "keepsEveryNumber")] 23

def k2c0 : Code := { maxStack := 3, maxLocals := 5, code := prog_92_method_1_code, exceptionTable := #[], attributes := #[] }
def k2m0 : Method := { name := "<init>", desc := "(J[I[I)V", sig := { parameters := [.long, (.array .int), (.array .int)], returnType := none }, accessFlags := 0, code := some k2c0 }
def k2c1 : Code := { maxStack := 3, maxLocals := 2, code := prog_92_method_4_code, exceptionTable := #[], attributes := #[] }
def k2m1 : Method := { name := "keepsEveryNumber", desc := "()Z", sig := { parameters := [], returnType := some .boolean }, accessFlags := 0, code := some k2c1 }
/-- com/example/columella/columella/ipc/Renumbering -/
def k2 : Class := { plain "com/example/columella/columella/ipc/Renumbering" (some 0) with
  accessFlags := 48
  interfaces := #[]
  cf := some (fileOf pool2 8 #[] #[{ accessFlags := 0, nameIndex := 5, descriptorIndex := 237, attributes := #[] }, { accessFlags := 0, nameIndex := 249, descriptorIndex := 40, attributes := #[] }] 48 2 #[] #[{ accessFlags := 18, nameIndex := 11, descriptorIndex := 12, attributes := #[] }, { accessFlags := 18, nameIndex := 15, descriptorIndex := 16, attributes := #[] }, { accessFlags := 18, nameIndex := 19, descriptorIndex := 16, attributes := #[] }])
  fields := #[{ name := "id", type := .long, accessFlags := 18, slot := 0, constantValue := 0 }, { name := "entries", type := (.array .int), accessFlags := 18, slot := 1, constantValue := 0 }, { name := "numbers", type := (.array .int), accessFlags := 18, slot := 2, constantValue := 0 }]
  methods := #[k2m0, k2m1]
  instanceTypes := #[.long, (.array .int), (.array .int)]
  staticTypes := #[]
  resolved := Array.replicate 273 none
  statics := none }

def pool3 : Array CpInfo := pool [(1, u "java/lang/Cloneable"), (0, .class_ 1), (0, u "java/lang/Object"), (0, .class_ 3)] 3

/-- java/lang/Cloneable -/
def k3 : Class := { plain "java/lang/Cloneable" (some 0) with
  accessFlags := 1537
  interfaces := #[]
  cf := some (fileOf pool3 2 #[] #[] 1537 4 #[] #[])
  fields := #[]
  methods := #[]
  instanceTypes := #[]
  staticTypes := #[]
  resolved := Array.replicate 8 none
  statics := none }

def pool4 : Array CpInfo := pool [(1, u "java/io/Serializable"), (0, .class_ 1), (0, u "java/lang/Object"), (0, .class_ 3)] 3

/-- java/io/Serializable -/
def k4 : Class := { plain "java/io/Serializable" (some 0) with
  accessFlags := 1537
  interfaces := #[]
  cf := some (fileOf pool4 2 #[] #[] 1537 4 #[] #[])
  fields := #[]
  methods := #[]
  instanceTypes := #[]
  staticTypes := #[]
  resolved := Array.replicate 8 none
  statics := none }

/-- the primitive byte -/
def k5 : Class := { plain "byte" none with kind := .primitive 'B', accessFlags := 0x411 }
/-- [B -/
def k6 : Class := { plain "[B" (some 0) with kind := .array 5 .byte, interfaces := #[3, 4], accessFlags := 1041 }

/-- the primitive int -/
def k7 : Class := { plain "int" none with kind := .primitive 'I', accessFlags := 0x411 }
/-- [I -/
def k8 : Class := { plain "[I" (some 0) with kind := .array 7 .int, interfaces := #[3, 4], accessFlags := 1041 }

def heap : Heap := #[]
def classes : Array Class := #[k0, k1, k2, k3, k4, k5, k6, k7, k8]
def interned : List (Array UInt16 × Addr) := []
def slotsUsed : Nat := 0
def theMethod : MethodId := ⟨1, 1⟩
def args0 : Array Value := #[.long 5, .int 3, .int 4, .int 5, .int 6, .int 7]
def aboutOver (below : List Frame) : State where
  vm := { classes := classes, interned := interned.toArray }
  heap := heap
  slotsUsed := slotsUsed
  threads := #[{ frames := .invoking theMethod args0 :: below }]
def below0 : List Frame := [.native { method := ⟨0, 0⟩, args := #[] }]
def about1 : State := aboutOver below0
def p0 : Program := .bare "" "" ""
def e0 : Env := launch0.env 0 0 0
theorem w_frames : about1.frames = Frame.invoking theMethod args0 :: below0 := rfl
set_option maxRecDepth 65536 in
theorem w_args : argsFit about1.vm theMethod args0 = true := by decide +kernel
set_option maxRecDepth 65536 in
theorem w_heap : heapFits about1 = true := by decide +kernel
set_option maxRecDepth 65536 in
theorem w_runnable : about1.curStatus? = some .runnable := by decide +kernel
set_option maxRecDepth 65536 in
theorem w_alone : about1.alone = true := by decide +kernel
set_option maxRecDepth 65536 in
theorem w_named : about1.methodNamed? x = some theMethod := by decide +kernel
set_option maxRecDepth 65536 in
theorem w_hears : about1.hears theMethod below0 = true := by decide +kernel
set_option maxRecDepth 65536 in
theorem w_ripe : about1.ripe theMethod args0 below0 = true := by decide +kernel
theorem w_running : about1.status = .running := rfl
set_option maxRecDepth 65536 in
theorem w_room : about1.hasRoom e0.platform room_1 = true :=
  launch0.hasRoom_least _ room_1 (by decide +kernel) (by decide +kernel) (by decide +kernel) (by decide +kernel) (by decide +kernel) (by decide +kernel)
theorem allAtoms_all (ts : List Jvm.Cond) (a : Array Jvm.Value) (st : Jvm.State) : (allAtoms ts).before a st = ts.all (fun c => c.before a st) := by
  induction ts with
  | nil => rfl
  | cons c t ih =>
    show (Jvm.Cond.and c (allAtoms t)).before a st = _
    rw [Jvm.Cond.before_and, ih, List.all_cons]
def words1 : List Jvm.Cond := Jvm.Cond.code x code maxLocals ret :: tables_1
/-- a 'code' word, met by the world's own term for the bytes: nothing is compared byte by byte -/
theorem code_word {y : MethodName} {bytes : ByteArray} {mx : Nat} {rt : Option FieldType} {a : Array Value} {s : State} {m : MethodId} {meth : Method} {c : Code} (h1 : s.methodNamed? y = some m) (h2 : s.vm.method? m = some meth) (h3 : meth.code = some c) (h4 : c.code = bytes)
    (h5 : (c.maxLocals == mx && c.exceptionTable.isEmpty && decide (c.maxStack ≤ mostOperands) && decide (meth.sig.returnType = rt) && !meth.locks && decide (parseMethodDescriptor y.desc = some meth.sig)) = true) : (Jvm.Cond.code y bytes mx rt).before a s = true := by
  simp only [Bool.and_eq_true, beq_iff_eq, Bool.not_eq_true', decide_eq_true_eq] at h5
  obtain ⟨⟨⟨⟨⟨g1, g2⟩, g3⟩, g4⟩, g5⟩, g6⟩ := h5
  simp [Cond.before, Cond.holds, Cond.value, h1, h2, h3, h4, g1, g2, g3, g4, g5, g6]
def isCode : Jvm.Cond → Bool
  | .code _ _ _ _ => true
  | _ => false
theorem all_split {L : List Jvm.Cond} {P : Jvm.Cond → Bool} (h1 : L.all (fun c => isCode c || P c) = true) (h2 : ∀ c ∈ L.filter isCode, P c = true) : L.all P = true := by
  refine List.all_eq_true.mpr fun c hc => ?_
  have h := List.all_eq_true.mp h1 c hc
  rcases Bool.eq_false_or_eq_true (isCode c) with hi | hi
  · exact h2 c (List.mem_filter.mpr ⟨hc, hi⟩)
  · simpa [hi] using h
set_option maxRecDepth 65536 in
theorem w_c0 : (Jvm.Cond.code x code maxLocals ret).before args0 about1 = true := code_word (m := ⟨1, 1⟩) (meth := k1m1) (c := k1c1) (by decide +kernel) rfl rfl rfl (by decide +kernel)
set_option maxRecDepth 65536 in
theorem w_c1 : (Jvm.Cond.code ({ cls := "com/example/columella/columella/ipc/Renumbering", name := "<init>", desc := "(J[I[I)V" } : Jvm.MethodName) prog_92_method_1_code (5 : Nat) (Option.none : Option Jvm.ClassFile.FieldType)).before args0 about1 = true := code_word (m := ⟨2, 0⟩) (meth := k2m0) (c := k2c0) (by decide +kernel) rfl rfl rfl (by decide +kernel)
set_option maxRecDepth 65536 in
theorem w_c2 : (Jvm.Cond.code ({ cls := "java/lang/Object", name := "<init>", desc := "()V" } : Jvm.MethodName) object_method_1_code (1 : Nat) (Option.none : Option Jvm.ClassFile.FieldType)).before args0 about1 = true := code_word (m := ⟨0, 0⟩) (meth := k0m0) (c := k0c0) (by decide +kernel) rfl rfl rfl (by decide +kernel)
set_option maxRecDepth 65536 in
theorem w_c3 : (Jvm.Cond.code ({ cls := "com/example/columella/columella/ipc/Renumbering", name := "keepsEveryNumber", desc := "()Z" } : Jvm.MethodName) prog_92_method_4_code (2 : Nat) (Option.some Jvm.ClassFile.FieldType.boolean)).before args0 about1 = true := code_word (m := ⟨2, 1⟩) (meth := k2m1) (c := k2c1) (by decide +kernel) rfl rfl rfl (by decide +kernel)
def codes1 : List Jvm.Cond := [Jvm.Cond.code x code maxLocals ret, Jvm.Cond.code ({ cls := "com/example/columella/columella/ipc/Renumbering", name := "<init>", desc := "(J[I[I)V" } : Jvm.MethodName) prog_92_method_1_code (5 : Nat) (Option.none : Option Jvm.ClassFile.FieldType), Jvm.Cond.code ({ cls := "java/lang/Object", name := "<init>", desc := "()V" } : Jvm.MethodName) object_method_1_code (1 : Nat) (Option.none : Option Jvm.ClassFile.FieldType), Jvm.Cond.code ({ cls := "com/example/columella/columella/ipc/Renumbering", name := "keepsEveryNumber", desc := "()Z" } : Jvm.MethodName) prog_92_method_4_code (2 : Nat) (Option.some Jvm.ClassFile.FieldType.boolean)]
set_option maxRecDepth 65536 in
theorem codes_eq : words1.filter isCode = codes1 := rfl
theorem w_codes : ∀ c ∈ words1.filter isCode, c.before args0 about1 = true := by
  rw [codes_eq]
  intro c hc
  simp only [codes1, List.mem_cons, List.not_mem_nil, or_false] at hc
  rcases hc with rfl | rfl | rfl | rfl
  · exact w_c0
  · exact w_c1
  · exact w_c2
  · exact w_c3
set_option maxRecDepth 65536 in
theorem w_t1 : words1.all (fun c => isCode c || c.before args0 about1) = true := by decide +kernel
theorem w_tables : (allAtoms (Jvm.Cond.code x code maxLocals ret :: tables_1)).before args0 about1 = true := by
  rw [allAtoms_all]
  show words1.all (fun c => c.before args0 about1) = true
  refine all_split ?_ w_codes
  rw [w_t1]
set_option maxRecDepth 65536 in
theorem w_case : (Jvm.Cond.and given_1 narrow_1).before args0 about1 = true := by decide +kernel
theorem w_applies : (headSpec (Jvm.Cond.code x code maxLocals ret :: tables_1) room_1).applies x e0.platform about1 = true :=
  (Spec.applies_iff w_frames).mpr ⟨w_running, w_runnable, w_alone, w_named, w_hears, w_ripe, w_room, w_tables⟩
theorem atStart : AtStart classFile x code maxLocals ret World_1 tables_1 room_1 Calls_1 rest_1 Pre_1 launch0 p0 e0 about1 theMethod args0 below0 :=
  ⟨lists_1, trivial, launch0.admits_env _ _ _, launch0.least_env, fairChoices_fair.cas, fairChoices_fair.clock, w_frames, w_args, w_heap, w_applies, trivial, trivial, w_case⟩
end start1
theorem witness_1 : WitnessClaimed_1 := ⟨start1.p0, start1.e0, start1.about1, start1.theMethod, start1.args0, start1.below0, start1.atStart⟩
end Jvm.Pilot.@@N@@
