import JvmDerived
import JvmDerived.Pilot.@@N@@Statement
import JvmDerived.Pilot.@@N@@Code
set_option linter.unusedVariables false
set_option linter.unusedSimpArgs false
namespace Jvm.RoadKit
open Sem ClassFile Op Lib Jvm.Stand Jvm.Free Jvm.LawKit
section New
variable {p : Program} {l : Launch} {e : Env} {R : Room} {s : State} {m : MethodId} {args : Array Value} {below : List Frame} {meth : Method} {c : Code} {T : State} {locs : List Loc} {cells slots : Nat}
theorem retI (X : Stand p l e R s m args below meth c T locs cells slots) (hx : p.tables.exec = Jvm.exec) {pc : Nat} {Ls : Array Slot} {z : Int32} {rest : List Value} (hret : meth.sig.returnType = some .int) (hd : decode c.code pc = .ok (.ireturn, 1)) {fs : List Frame}
    (hl : ∀ (f : JFrame) (acts : List Action), f.method = m → f.locked = none → f.entered = [] → (doReturn e (T.setTop f) acts (some (.int z))).1 = T.setFrames fs) : Steps p.tables e below (T.setTop (mkF m pc Ls (.int z :: rest))) (T.setFrames fs) := by
  have hm' : T.vm.method? m = some meth := X.method'
  have hn : narrow .int (.int z) = .int z := rfl
  show Steps p.tables e below (T.setTop { method := m, pc := pc, locals := Ls, stack := _ :: rest, locked := none }) _
  jvm_step X.here [X.here.top, hx, hd, hm', hret, hn]
  first | (intro acts; rw [hl _ acts rfl rfl rfl]) | rw [hl _ _ rfl rfl rfl]
  exact Steps.refl _
end New
end Jvm.RoadKit
namespace Jvm.Pilot.@@N@@
open Jvm Jvm.ClassFile Sem Op Lib Jvm.Free Jvm.Stand Jvm.LawKit Jvm.RoadKit Bundle Jvm.Pilot.@@N@@.Jvm.D

theorem own_go {tb : Tables} {e : Env} {below : List Frame} {A B : State} {Φ : State → Outcome → Prop} (st : ∀ t, Steps tb e below B t → Steps tb e below A t) (h : ∃ s₂ o, Steps tb e below B s₂ ∧ Φ s₂ o) : ∃ s₂ o, Steps tb e below A s₂ ∧ Φ s₂ o := by
  obtain ⟨t, o, h1, h2⟩ := h
  exact ⟨t, o, st t h1, h2⟩
theorem d1_0 : decode method_3_code 0 = .ok (.iload_n 1, 1) := by decide +kernel
theorem d1_1 : decode method_3_code 1 = .ok (.iload_n 2, 1) := by decide +kernel
theorem d1_2 : decode method_3_code 2 = .ok (.if_icmp .lt 14, 3) := by decide +kernel
theorem d1_5 : decode method_3_code 5 = .ok (.iload_n 1, 1) := by decide +kernel
theorem d1_6 : decode method_3_code 6 = .ok (.iload_n 2, 1) := by decide +kernel
theorem d1_7 : decode method_3_code 7 = .ok (.iload_n 3, 1) := by decide +kernel
theorem d1_8 : decode method_3_code 8 = .ok (.iadd, 1) := by decide +kernel
theorem d1_9 : decode method_3_code 9 = .ok (.if_icmp .ge 7, 3) := by decide +kernel
theorem d1_12 : decode method_3_code 12 = .ok (.iload_n 0, 1) := by decide +kernel
theorem d1_13 : decode method_3_code 13 = .ok (.ifCond .lt 7, 3) := by decide +kernel
theorem d1_16 : decode method_3_code 16 = .ok (.iconst 1, 1) := by decide +kernel
theorem d1_17 : decode method_3_code 17 = .ok (.goto 4, 3) := by decide +kernel
theorem d1_20 : decode method_3_code 20 = .ok (.iconst 0, 1) := by decide +kernel
theorem d1_21 : decode method_3_code 21 = .ok (.ireturn, 1) := by decide +kernel
def own1_f16 (p0 : Int32) (p1 : Int32) (p2 : Int32) (p3 : Int32) : Int32 := (1 : Int32)
theorem own1_e16 (p0 : Int32) (p1 : Int32) (p2 : Int32) (p3 : Int32) : (own1_f16 p0 p1 p2 p3) = (1 : Int32) := rfl
set_option maxRecDepth 65536 in
set_option maxHeartbeats 40000000 in
theorem own1_b16 {p : Program} {l : Launch} {e : Env} {R : Room} {s : State} {m : MethodId} {args : Array Value} {below : List Frame} {meth : Method} {c : Code} {T0 : State} {locs : List Loc} {cells slots : Nat} {Z : State} {t0 : Array Value} {h0 : Heap} (p0 : Int32) (p1 : Int32) (p2 : Int32) (p3 : Int32) (X0 : Stand p l e R s m args below meth c T0 locs cells slots) (hx : p.tables.exec = Jvm.exec) (hZ : Z.Warmed39 s.vm) (hw : ∀ d ∈ tables_1, d.before t0 Z = true) (hby : c.code = method_3_code) (hown : s.vm.findClass "com/example/hazy_hash/hazyhash/cli/NumberedLinesIsAsciiPinLaw" = some m.cls) (e0 : T0.heap = h0)  (hret : meth.sig.returnType = some .boolean) {fs : List Frame} (hr : ∀ (f : JFrame) (acts : List Action), f.method = m → f.locked = none → f.entered = [] → (doReturn e (T0.setTop f) acts (some (.int (own1_f16 p0 p1 p2 p3)))).1 = T0.setFrames fs) : Steps p.tables e below (T0.setTop (mkF m 16 #[.val (.int p0), .val (.int p1), .val (.int p2), .val (.int p3)] [])) (T0.setFrames fs) := by
  rw [own1_e16] at hr
  show Steps p.tables e below (T0.setTop (mkF m 16 #[.val (.int p0), .val (.int p1), .val (.int p2), .val (.int p3)] [])) _
  refine XS.iconst X0.here hx rfl (hb hby d1_16) ?_
  show Steps p.tables e below (T0.setTop (mkF m 17 #[.val (.int p0), .val (.int p1), .val (.int p2), .val (.int p3)] [(.int (1 : Int32))])) _
  refine XS.goto X0.here hx rfl (pc0 := 17) (pc' := 21) rfl (hb hby d1_17) (by decide) (by decide) ?_
  show Steps p.tables e below (T0.setTop (mkF m 21 #[.val (.int p0), .val (.int p1), .val (.int p2), .val (.int p3)] [(.int (1 : Int32))])) _
  exact retN X0 hx (t := .boolean) hret (by simp) (hb hby d1_21) hr
def own1_f0 (p0 : Int32) (p1 : Int32) (p2 : Int32) (p3 : Int32) : Int32 := (if p1 < p2 then (own1_f16 p0 p1 p2 p3) else (if p1 < (p2 + p3) then (if p0 < (0 : Int32) then (0 : Int32) else (own1_f16 p0 p1 p2 p3)) else (own1_f16 p0 p1 p2 p3)))
theorem own1_e0 (p0 : Int32) (p1 : Int32) (p2 : Int32) (p3 : Int32) : (own1_f0 p0 p1 p2 p3) = (if p1 < p2 then (own1_f16 p0 p1 p2 p3) else (if p1 < (p2 + p3) then (if p0 < (0 : Int32) then (0 : Int32) else (own1_f16 p0 p1 p2 p3)) else (own1_f16 p0 p1 p2 p3))) := rfl
set_option maxRecDepth 65536 in
set_option maxHeartbeats 40000000 in
theorem own1_b0 {p : Program} {l : Launch} {e : Env} {R : Room} {s : State} {m : MethodId} {args : Array Value} {below : List Frame} {meth : Method} {c : Code} {T0 : State} {locs : List Loc} {cells slots : Nat} {Z : State} {t0 : Array Value} {h0 : Heap} (p0 : Int32) (p1 : Int32) (p2 : Int32) (p3 : Int32) (X0 : Stand p l e R s m args below meth c T0 locs cells slots) (hx : p.tables.exec = Jvm.exec) (hZ : Z.Warmed39 s.vm) (hw : ∀ d ∈ tables_1, d.before t0 Z = true) (hby : c.code = method_3_code) (hown : s.vm.findClass "com/example/hazy_hash/hazyhash/cli/NumberedLinesIsAsciiPinLaw" = some m.cls) (e0 : T0.heap = h0)  (hret : meth.sig.returnType = some .boolean) {fs : List Frame} (hr : ∀ (f : JFrame) (acts : List Action), f.method = m → f.locked = none → f.entered = [] → (doReturn e (T0.setTop f) acts (some (.int (own1_f0 p0 p1 p2 p3)))).1 = T0.setFrames fs) : Steps p.tables e below (T0.setTop (mkF m 0 #[.val (.int p0), .val (.int p1), .val (.int p2), .val (.int p3)] [])) (T0.setFrames fs) := by
  rw [own1_e0] at hr
  show Steps p.tables e below (T0.setTop (mkF m 0 #[.val (.int p0), .val (.int p1), .val (.int p2), .val (.int p3)] [])) _
  refine XS.iloadN X0.here hx rfl (hb hby d1_0) rfl ?_
  show Steps p.tables e below (T0.setTop (mkF m 1 #[.val (.int p0), .val (.int p1), .val (.int p2), .val (.int p3)] [(.int p1)])) _
  refine XS.iloadN X0.here hx rfl (hb hby d1_1) rfl ?_
  by_cases hc2 : p1 < p2
  · rw [if_pos hc2] at hr
    show Steps p.tables e below (T0.setTop (mkF m 2 #[.val (.int p0), .val (.int p1), .val (.int p2), .val (.int p3)] [(.int p2), (.int p1)])) _
    refine XS.icmpYes X0.here hx rfl (pc0 := 2) (pc' := 16) rfl (hb hby d1_2) rfl (tlt hc2).1 (by decide) (by decide) ?_
    exact own1_b16 p0 p1 p2 p3 X0 hx hZ hw hby hown e0  hret hr
  · rw [if_neg hc2] at hr
    show Steps p.tables e below (T0.setTop (mkF m 2 #[.val (.int p0), .val (.int p1), .val (.int p2), .val (.int p3)] [(.int p2), (.int p1)])) _
    refine XS.icmpNo X0.here hx rfl (hb hby d1_2) rfl (flt hc2).1 ?_
    show Steps p.tables e below (T0.setTop (mkF m 5 #[.val (.int p0), .val (.int p1), .val (.int p2), .val (.int p3)] [])) _
    refine XS.iloadN X0.here hx rfl (hb hby d1_5) rfl ?_
    show Steps p.tables e below (T0.setTop (mkF m 6 #[.val (.int p0), .val (.int p1), .val (.int p2), .val (.int p3)] [(.int p1)])) _
    refine XS.iloadN X0.here hx rfl (hb hby d1_6) rfl ?_
    show Steps p.tables e below (T0.setTop (mkF m 7 #[.val (.int p0), .val (.int p1), .val (.int p2), .val (.int p3)] [(.int p2), (.int p1)])) _
    refine XS.iloadN X0.here hx rfl (hb hby d1_7) rfl ?_
    show Steps p.tables e below (T0.setTop (mkF m 8 #[.val (.int p0), .val (.int p1), .val (.int p2), .val (.int p3)] [(.int p3), (.int p2), (.int p1)])) _
    refine XS.iadd X0.here hx rfl (hb hby d1_8) rfl ?_
    by_cases hc9 : p1 < (p2 + p3)
    · rw [if_pos hc9] at hr
      show Steps p.tables e below (T0.setTop (mkF m 9 #[.val (.int p0), .val (.int p1), .val (.int p2), .val (.int p3)] [(.int (p2 + p3)), (.int p1)])) _
      refine XS.icmpNo X0.here hx rfl (hb hby d1_9) rfl (tlt hc9).2.1 ?_
      show Steps p.tables e below (T0.setTop (mkF m 12 #[.val (.int p0), .val (.int p1), .val (.int p2), .val (.int p3)] [])) _
      refine XS.iloadN X0.here hx rfl (hb hby d1_12) rfl ?_
      by_cases hc13 : p0 < (0 : Int32)
      · rw [if_pos hc13] at hr
        show Steps p.tables e below (T0.setTop (mkF m 13 #[.val (.int p0), .val (.int p1), .val (.int p2), .val (.int p3)] [(.int p0)])) _
        refine XS.ifYes X0.here hx rfl (pc0 := 13) (pc' := 20) rfl (hb hby d1_13) rfl ((if0 _ _).trans (tlt hc13).1) (by decide) (by decide) ?_
        show Steps p.tables e below (T0.setTop (mkF m 20 #[.val (.int p0), .val (.int p1), .val (.int p2), .val (.int p3)] [])) _
        refine XS.iconst X0.here hx rfl (hb hby d1_20) ?_
        show Steps p.tables e below (T0.setTop (mkF m 21 #[.val (.int p0), .val (.int p1), .val (.int p2), .val (.int p3)] [(.int (0 : Int32))])) _
        exact retN X0 hx (t := .boolean) hret (by simp) (hb hby d1_21) hr
      · rw [if_neg hc13] at hr
        show Steps p.tables e below (T0.setTop (mkF m 13 #[.val (.int p0), .val (.int p1), .val (.int p2), .val (.int p3)] [(.int p0)])) _
        refine XS.ifNo X0.here hx rfl (hb hby d1_13) rfl ((if0 _ _).trans (flt hc13).1) ?_
        exact own1_b16 p0 p1 p2 p3 X0 hx hZ hw hby hown e0  hret hr
    · rw [if_neg hc9] at hr
      show Steps p.tables e below (T0.setTop (mkF m 9 #[.val (.int p0), .val (.int p1), .val (.int p2), .val (.int p3)] [(.int (p2 + p3)), (.int p1)])) _
      refine XS.icmpYes X0.here hx rfl (pc0 := 9) (pc' := 16) rfl (hb hby d1_9) rfl (flt hc9).2.1 (by decide) (by decide) ?_
      exact own1_b16 p0 p1 p2 p3 X0 hx hZ hw hby hown e0  hret hr
theorem ef_1 (m : MethodId) (p0 : Int32) (p1 : Int32) (p2 : Int32) (p3 : Int32) : entryFrame m #[(.int p0), (.int p1), (.int p2), (.int p3)] 4 = mkF m 0 #[.val (.int p0), .val (.int p1), .val (.int p2), .val (.int p3)] [] := by first | (simp [entryFrame, mkF, argsToLocals, Value.category]; done) | rfl
theorem pn_1 : plainName "com/example/hazy_hash/hazyhash/cli/NumberedLinesIsAsciiPinLaw" = true := by first | (simp [plainName, overriddenIn]; done) | decide +kernel
def Q1 (p0 : Int32) (p1 : Int32) (p2 : Int32) (p3 : Int32) (h0 : Heap) (n0 : Nat) (v : Option Value) (h : Heap) (L : List Loc) : Prop := v = some (.int (own1_f0 p0 p1 p2 p3)) ∧ Fr n0 L ∧ h = h0
set_option maxRecDepth 65536 in
set_option maxHeartbeats 40000000 in
theorem rm1 (l : Launch) (Z : State) (t0 : Array Value) (hw : ∀ d ∈ tables_1, d.before t0 Z = true) (ws : List Jvm.Cond) (p0 : Int32) (p1 : Int32) (p2 : Int32) (p3 : Int32) (h0 : Heap) (n0 : Nat) (Z0 : n0 ≤ h0.size)  :
    MetFree l (⟨"com/example/hazy_hash/hazyhash/cli/NumberedLinesIsAsciiPinLaw", "ok", "(BIII)Z"⟩ : MethodName) (head1 (Jvm.Cond.code (⟨"com/example/hazy_hash/hazyhash/cli/NumberedLinesIsAsciiPinLaw", "ok", "(BIII)Z"⟩ : MethodName) method_3_code 4 (some .boolean) :: ws) ({ frames := 0, cells := 0, slots := 0, locals := 0 } : Room)) (fun a U => a = #[(.int p0), (.int p1), (.int p2), (.int p3)] ∧ Z.Warmed39 U.vm ∧ U.heap = h0) (fun _ _ _ _ _ => True) (fun _ U o U' => ∃ v L, o = .returned v ∧ Q1 p0 p1 p2 p3 h0 n0 v U'.heap L ∧ FrameEnd U o U' L ({ frames := 0, cells := 0, slots := 0, locals := 0 } : Room).cells ({ frames := 0, cells := 0, slots := 0, locals := 0 } : Room).slots) := by
  refine MetFree.of_bodySF (plainFor_of_name pn_1) hisR ?_
  intro p e s m args below meth c s₁ Bd hml0 hP hK
  obtain ⟨rfl, hZ, hh⟩ := hP
  have hx := Bd.exec
  have hby := Bd.bytes
  have hml : c.maxLocals = 4 := hml0
  have hown : s.vm.findClass "com/example/hazy_hash/hazyhash/cli/NumberedLinesIsAsciiPinLaw" = some m.cls := findClass_of_methodNamed Bd.named
  have hnm := (name_of_methodNamed Bd.named Bd.method).1
  have X0 : Stand p l e ({ frames := 0, cells := 0, slots := 0, locals := 0 } : Room) s m #[(.int p0), (.int p1), (.int p2), (.int p3)] below meth c s₁ [] 0 0 := Stand.of_body Bd
  have e0 : s₁.heap = h0 := by rw [← hh, Bd.state]; rfl
  have N0 := Fr.nil n0
  have pre0 : ∀ t, Steps p.tables e below (s₁.setTop (mkF m 0 #[.val (.int p0), .val (.int p1), .val (.int p2), .val (.int p3)] [])) t → Steps p.tables e below (s₁.setTop (entryFrame m #[(.int p0), (.int p1), (.int p2), (.int p3)] 4)) t := fun t k => castTop (ef_1 m p0 p1 p2 p3) k
  obtain ⟨fs, hr, hrun, hended, hW, hsame⟩ := X0.leave (v := some (.int (own1_f0 p0 p1 p2 p3))) (fun h => by rw [Bd.returns] at h; cases h)
  refine ⟨_, _, pre0 _ ?_, hrun, hended, _, _, rfl, ?_, ⟨_, rfl⟩, hW, hsame.mono (by decide) (by decide)⟩
  · exact own1_b0 p0 p1 p2 p3 X0 hx hZ hw hby hown e0  Bd.returns hr
  · show Q1 p0 p1 p2 p3 h0 n0 _ s₁.heap _
    rw [e0]
    exact ⟨rfl, N0, rfl⟩
theorem d2_0 : decode prog_50_method_16_code 0 = .ok (.iload_n 1, 1) := by decide +kernel
theorem d2_1 : decode prog_50_method_16_code 1 = .ok (.istore_n 3, 1) := by decide +kernel
theorem d2_2 : decode prog_50_method_16_code 2 = .ok (.iload_n 3, 1) := by decide +kernel
theorem d2_3 : decode prog_50_method_16_code 3 = .ok (.iload_n 1, 1) := by decide +kernel
theorem d2_4 : decode prog_50_method_16_code 4 = .ok (.iload_n 2, 1) := by decide +kernel
theorem d2_5 : decode prog_50_method_16_code 5 = .ok (.iadd, 1) := by decide +kernel
theorem d2_6 : decode prog_50_method_16_code 6 = .ok (.if_icmp .ge 17, 3) := by decide +kernel
theorem d2_9 : decode prog_50_method_16_code 9 = .ok (.aload_n 0, 1) := by decide +kernel
theorem d2_10 : decode prog_50_method_16_code 10 = .ok (.iload_n 3, 1) := by decide +kernel
theorem d2_11 : decode prog_50_method_16_code 11 = .ok (.baload, 1) := by decide +kernel
theorem d2_12 : decode prog_50_method_16_code 12 = .ok (.ifCond .ge 5, 3) := by decide +kernel
theorem d2_15 : decode prog_50_method_16_code 15 = .ok (.iconst 0, 1) := by decide +kernel
theorem d2_16 : decode prog_50_method_16_code 16 = .ok (.ireturn, 1) := by decide +kernel
theorem d2_17 : decode prog_50_method_16_code 17 = .ok (.iinc 3 1, 3) := by decide +kernel
theorem d2_20 : decode prog_50_method_16_code 20 = .ok (.goto (-18), 3) := by decide +kernel
theorem d2_23 : decode prog_50_method_16_code 23 = .ok (.iconst 1, 1) := by decide +kernel
theorem d2_24 : decode prog_50_method_16_code 24 = .ok (.ireturn, 1) := by decide +kernel
def own_lp (g : Int32 → Int32) : Nat → Int32 → Int32
  | 0, _ => (1 : Int32)
  | k + 1, i => if (g i) < (0 : Int32) then (0 : Int32) else own_lp g k (i + (1 : Int32))
theorem own_lps (g : Int32 → Int32) (k : Nat) (i : Int32) : own_lp g (k + 1) i = (if (g i) < (0 : Int32) then (0 : Int32) else own_lp g k (i + (1 : Int32))) := rfl
set_option maxRecDepth 65536 in
set_option maxHeartbeats 40000000 in
theorem own2_loop {p : Program} {l : Launch} {e : Env} {R : Room} {s : State} {m : MethodId} {args : Array Value} {below : List Frame} {meth : Method} {c : Code} {T0 : State} {locs : List Loc} {cells slots : Nat} {Z : State} {t0 : Array Value} {h0 : Heap} (a0 : Addr) (p1 : Int32) (p2 : Int32) (cl : Cell) (g : Int32 → Int32) (X0 : Stand p l e R s m args below meth c T0 locs cells slots) (hx : p.tables.exec = Jvm.exec) (hZ : Z.Warmed39 s.vm) (hw : ∀ d ∈ tables_1, d.before t0 Z = true) (hby : c.code = prog_50_method_16_code) (hown : s.vm.findClass "com/example/hazy_hash/hazyhash/cli/NumberedLines" = some m.cls) (e0 : T0.heap = h0) (Ar : Arr Z h0 a0 cl .byte) (Hat : ∀ j : Int32, ¬ (j < 0 ∨ cl.slots.size ≤ j.toNatClampNeg) → cl.slots[j.toNatClampNeg]? = some (.int (g j))) (hE : (p1 + p2).toInt ≤ cl.slots.size) (hret : meth.sig.returnType = some .boolean) {fs : List Frame} :
    ∀ (k : Nat) (i : Int32), i.toInt + k = (p1 + p2).toInt → 0 ≤ i.toInt → (hr : ∀ (f : JFrame) (acts : List Action), f.method = m → f.locked = none → f.entered = [] → (doReturn e (T0.setTop f) acts (some (.int (own_lp g k i)))).1 = T0.setFrames fs) → Steps p.tables e below (T0.setTop (mkF m 2 #[.val (.ref a0), .val (.int p1), .val (.int p2), .val (.int i)] [])) (T0.setFrames fs) := by
  intro k
  induction k with
  | zero =>
    intro i hi h0i hr
    have hc6 : ¬ (i < (p1 + p2)) := by rw [Int32.lt_iff_toInt_lt]; omega
    show Steps p.tables e below (T0.setTop (mkF m 2 #[.val (.ref a0), .val (.int p1), .val (.int p2), .val (.int i)] [])) _
    refine XS.iloadN X0.here hx rfl (hb hby d2_2) rfl ?_
    show Steps p.tables e below (T0.setTop (mkF m 3 #[.val (.ref a0), .val (.int p1), .val (.int p2), .val (.int i)] [(.int i)])) _
    refine XS.iloadN X0.here hx rfl (hb hby d2_3) rfl ?_
    show Steps p.tables e below (T0.setTop (mkF m 4 #[.val (.ref a0), .val (.int p1), .val (.int p2), .val (.int i)] [(.int p1), (.int i)])) _
    refine XS.iloadN X0.here hx rfl (hb hby d2_4) rfl ?_
    show Steps p.tables e below (T0.setTop (mkF m 5 #[.val (.ref a0), .val (.int p1), .val (.int p2), .val (.int i)] [(.int p2), (.int p1), (.int i)])) _
    refine XS.iadd X0.here hx rfl (hb hby d2_5) rfl ?_
    show Steps p.tables e below (T0.setTop (mkF m 6 #[.val (.ref a0), .val (.int p1), .val (.int p2), .val (.int i)] [(.int (p1 + p2)), (.int i)])) _
    refine XS.icmpYes X0.here hx rfl (pc0 := 6) (pc' := 23) rfl (hb hby d2_6) rfl (flt hc6).2.1 (by decide) (by decide) ?_
    show Steps p.tables e below (T0.setTop (mkF m 23 #[.val (.ref a0), .val (.int p1), .val (.int p2), .val (.int i)] [])) _
    refine XS.iconst X0.here hx rfl (hb hby d2_23) ?_
    show Steps p.tables e below (T0.setTop (mkF m 24 #[.val (.ref a0), .val (.int p1), .val (.int p2), .val (.int i)] [(.int (1 : Int32))])) _
    exact retN X0 hx (t := .boolean) hret (by simp) (hb hby d2_24) hr
  | succ k ih =>
    intro i hi h0i hr
    have hc6 : i < (p1 + p2) := by rw [Int32.lt_iff_toInt_lt]; omega
    have hn : ¬ i < 0 := by rw [Int32.lt_iff_toInt_lt, show (0 : Int32).toInt = 0 from by decide]; omega
    have hnat := nat_of hn
    have hin : ¬ (i < 0 ∨ cl.slots.size ≤ i.toNatClampNeg) := fun q => q.elim hn (fun q => by omega)
    rw [own_lps] at hr
    by_cases hc12 : (g i) < (0 : Int32)
    · rw [if_pos hc12] at hr
      show Steps p.tables e below (T0.setTop (mkF m 2 #[.val (.ref a0), .val (.int p1), .val (.int p2), .val (.int i)] [])) _
      refine XS.iloadN X0.here hx rfl (hb hby d2_2) rfl ?_
      show Steps p.tables e below (T0.setTop (mkF m 3 #[.val (.ref a0), .val (.int p1), .val (.int p2), .val (.int i)] [(.int i)])) _
      refine XS.iloadN X0.here hx rfl (hb hby d2_3) rfl ?_
      show Steps p.tables e below (T0.setTop (mkF m 4 #[.val (.ref a0), .val (.int p1), .val (.int p2), .val (.int i)] [(.int p1), (.int i)])) _
      refine XS.iloadN X0.here hx rfl (hb hby d2_4) rfl ?_
      show Steps p.tables e below (T0.setTop (mkF m 5 #[.val (.ref a0), .val (.int p1), .val (.int p2), .val (.int i)] [(.int p2), (.int p1), (.int i)])) _
      refine XS.iadd X0.here hx rfl (hb hby d2_5) rfl ?_
      show Steps p.tables e below (T0.setTop (mkF m 6 #[.val (.ref a0), .val (.int p1), .val (.int p2), .val (.int i)] [(.int (p1 + p2)), (.int i)])) _
      refine XS.icmpNo X0.here hx rfl (hb hby d2_6) rfl (tlt hc6).2.1 ?_
      show Steps p.tables e below (T0.setTop (mkF m 9 #[.val (.ref a0), .val (.int p1), .val (.int p2), .val (.int i)] [])) _
      refine XS.aloadN X0.here hx rfl (hb hby d2_9) rfl rfl ?_
      show Steps p.tables e below (T0.setTop (mkF m 10 #[.val (.ref a0), .val (.int p1), .val (.int p2), .val (.int i)] [(.ref a0)])) _
      refine XS.iloadN X0.here hx rfl (hb hby d2_10) rfl ?_
      show Steps p.tables e below (T0.setTop (mkF m 11 #[.val (.ref a0), .val (.int p1), .val (.int p2), .val (.int i)] [(.int i), (.ref a0)])) _
      refine X0.baloadBytes hx (j := i) (v := (.int (g i))) (by rw [e0]; exact Ar.1) (State.isArrayOf_alike hZ.alike Ar.2.1) Ar.2.2 hin (Hat i hin) (g := (mkF m 11 #[.val (.ref a0), .val (.int p1), .val (.int p2), .val (.int i)] [(.int i), (.ref a0)])) rfl rfl (hb hby d2_11) _ ?_
      show Steps p.tables e below (T0.setTop (mkF m 12 #[.val (.ref a0), .val (.int p1), .val (.int p2), .val (.int i)] [(.int (g i))])) _
      refine XS.ifNo X0.here hx rfl (hb hby d2_12) rfl ((if0 _ _).trans (tlt hc12).2.1) ?_
      show Steps p.tables e below (T0.setTop (mkF m 15 #[.val (.ref a0), .val (.int p1), .val (.int p2), .val (.int i)] [])) _
      refine XS.iconst X0.here hx rfl (hb hby d2_15) ?_
      show Steps p.tables e below (T0.setTop (mkF m 16 #[.val (.ref a0), .val (.int p1), .val (.int p2), .val (.int i)] [(.int (0 : Int32))])) _
      exact retN X0 hx (t := .boolean) hret (by simp) (hb hby d2_16) hr
    · rw [if_neg hc12] at hr
      show Steps p.tables e below (T0.setTop (mkF m 2 #[.val (.ref a0), .val (.int p1), .val (.int p2), .val (.int i)] [])) _
      refine XS.iloadN X0.here hx rfl (hb hby d2_2) rfl ?_
      show Steps p.tables e below (T0.setTop (mkF m 3 #[.val (.ref a0), .val (.int p1), .val (.int p2), .val (.int i)] [(.int i)])) _
      refine XS.iloadN X0.here hx rfl (hb hby d2_3) rfl ?_
      show Steps p.tables e below (T0.setTop (mkF m 4 #[.val (.ref a0), .val (.int p1), .val (.int p2), .val (.int i)] [(.int p1), (.int i)])) _
      refine XS.iloadN X0.here hx rfl (hb hby d2_4) rfl ?_
      show Steps p.tables e below (T0.setTop (mkF m 5 #[.val (.ref a0), .val (.int p1), .val (.int p2), .val (.int i)] [(.int p2), (.int p1), (.int i)])) _
      refine XS.iadd X0.here hx rfl (hb hby d2_5) rfl ?_
      show Steps p.tables e below (T0.setTop (mkF m 6 #[.val (.ref a0), .val (.int p1), .val (.int p2), .val (.int i)] [(.int (p1 + p2)), (.int i)])) _
      refine XS.icmpNo X0.here hx rfl (hb hby d2_6) rfl (tlt hc6).2.1 ?_
      show Steps p.tables e below (T0.setTop (mkF m 9 #[.val (.ref a0), .val (.int p1), .val (.int p2), .val (.int i)] [])) _
      refine XS.aloadN X0.here hx rfl (hb hby d2_9) rfl rfl ?_
      show Steps p.tables e below (T0.setTop (mkF m 10 #[.val (.ref a0), .val (.int p1), .val (.int p2), .val (.int i)] [(.ref a0)])) _
      refine XS.iloadN X0.here hx rfl (hb hby d2_10) rfl ?_
      show Steps p.tables e below (T0.setTop (mkF m 11 #[.val (.ref a0), .val (.int p1), .val (.int p2), .val (.int i)] [(.int i), (.ref a0)])) _
      refine X0.baloadBytes hx (j := i) (v := (.int (g i))) (by rw [e0]; exact Ar.1) (State.isArrayOf_alike hZ.alike Ar.2.1) Ar.2.2 hin (Hat i hin) (g := (mkF m 11 #[.val (.ref a0), .val (.int p1), .val (.int p2), .val (.int i)] [(.int i), (.ref a0)])) rfl rfl (hb hby d2_11) _ ?_
      show Steps p.tables e below (T0.setTop (mkF m 12 #[.val (.ref a0), .val (.int p1), .val (.int p2), .val (.int i)] [(.int (g i))])) _
      refine XS.ifYes X0.here hx rfl (pc0 := 12) (pc' := 17) rfl (hb hby d2_12) rfl ((if0 _ _).trans (flt hc12).2.1) (by decide) (by decide) ?_
      show Steps p.tables e below (T0.setTop (mkF m 17 #[.val (.ref a0), .val (.int p1), .val (.int p2), .val (.int i)] [])) _
      refine XS.iinc X0.here hx rfl (hb hby d2_17) rfl (l' := #[.val (.ref a0), .val (.int p1), .val (.int p2), .val (.int (i + (1 : Int32)))]) rfl ?_
      show Steps p.tables e below (T0.setTop (mkF m 20 #[.val (.ref a0), .val (.int p1), .val (.int p2), .val (.int (i + (1 : Int32)))] [])) _
      refine XS.goto X0.here hx rfl (pc0 := 20) (pc' := 2) rfl (hb hby d2_20) (by decide) (by decide) ?_
      have c1 := c_iadd i (1 : Int32)
      have c2 := rng32 (i + (1 : Int32))
      have c3 : (1 : Int32).toInt = 1 := by decide
      have c4 := rng32 (p1 + p2)
      exact ih (i + (1 : Int32)) (by omega) (by omega) hr
theorem ef_2 (m : MethodId) (a0 : Addr) (p1 : Int32) (p2 : Int32) : entryFrame m #[(.ref a0), (.int p1), (.int p2)] 4 = mkF m 0 #[.val (.ref a0), .val (.int p1), .val (.int p2), .unset] [] := by first | (simp [entryFrame, mkF, argsToLocals, Value.category]; done) | rfl
theorem pn_2 : plainName "com/example/hazy_hash/hazyhash/cli/NumberedLines" = true := by first | (simp [plainName, overriddenIn]; done) | decide +kernel
def Q2 (g : Int32 → Int32) (k : Nat) (p1 : Int32) (h0 : Heap) (n0 : Nat) (v : Option Value) (h : Heap) (L : List Loc) : Prop := v = some (.int (own_lp g k p1)) ∧ Fr n0 L ∧ h = h0
set_option maxRecDepth 65536 in
set_option maxHeartbeats 40000000 in
theorem rm2 (l : Launch) (Z : State) (t0 : Array Value) (hw : ∀ d ∈ tables_1, d.before t0 Z = true) (ws : List Jvm.Cond) (a0 : Addr) (p1 : Int32) (p2 : Int32) (cl : Cell) (g : Int32 → Int32) (k : Nat) (h0 : Heap) (n0 : Nat) (Z0 : n0 ≤ h0.size) (Ar : Arr Z h0 a0 cl .byte) (Hat : ∀ j : Int32, ¬ (j < 0 ∨ cl.slots.size ≤ j.toNatClampNeg) → cl.slots[j.toNatClampNeg]? = some (.int (g j))) (hE : (p1 + p2).toInt ≤ cl.slots.size) (hk : p1.toInt + k = (p1 + p2).toInt) (hp : 0 ≤ p1.toInt) :
    MetFree l (⟨"com/example/hazy_hash/hazyhash/cli/NumberedLines", "isAscii", "([BII)Z"⟩ : MethodName) (head1 (Jvm.Cond.code (⟨"com/example/hazy_hash/hazyhash/cli/NumberedLines", "isAscii", "([BII)Z"⟩ : MethodName) prog_50_method_16_code 4 (some .boolean) :: ws) ({ frames := 0, cells := 0, slots := 0, locals := 0 } : Room)) (fun a U => a = #[(.ref a0), (.int p1), (.int p2)] ∧ Z.Warmed39 U.vm ∧ U.heap = h0) (fun _ _ _ _ _ => True) (fun _ U o U' => ∃ v L, o = .returned v ∧ Q2 g k p1 h0 n0 v U'.heap L ∧ FrameEnd U o U' L ({ frames := 0, cells := 0, slots := 0, locals := 0 } : Room).cells ({ frames := 0, cells := 0, slots := 0, locals := 0 } : Room).slots) := by
  refine MetFree.of_bodySF (plainFor_of_name pn_2) hisR ?_
  intro p e s m args below meth c s₁ Bd hml0 hP hK
  obtain ⟨rfl, hZ, hh⟩ := hP
  have hx := Bd.exec
  have hby := Bd.bytes
  have hml : c.maxLocals = 4 := hml0
  have hown : s.vm.findClass "com/example/hazy_hash/hazyhash/cli/NumberedLines" = some m.cls := findClass_of_methodNamed Bd.named
  have hnm := (name_of_methodNamed Bd.named Bd.method).1
  have X0 : Stand p l e ({ frames := 0, cells := 0, slots := 0, locals := 0 } : Room) s m #[(.ref a0), (.int p1), (.int p2)] below meth c s₁ [] 0 0 := Stand.of_body Bd
  have e0 : s₁.heap = h0 := by rw [← hh, Bd.state]; rfl
  have N0 := Fr.nil n0
  have pre0 : ∀ t, Steps p.tables e below (s₁.setTop (mkF m 0 #[.val (.ref a0), .val (.int p1), .val (.int p2), .unset] [])) t → Steps p.tables e below (s₁.setTop (entryFrame m #[(.ref a0), (.int p1), (.int p2)] 4)) t := fun t k => castTop (ef_2 m a0 p1 p2) k
  obtain ⟨fs, hr, hrun, hended, hW, hsame⟩ := X0.leave (v := some (.int (own_lp g k p1))) (fun h => by rw [Bd.returns] at h; cases h)
  refine ⟨_, _, pre0 _ ?_, hrun, hended, _, _, rfl, ?_, ⟨_, rfl⟩, hW, hsame.mono (by decide) (by decide)⟩
  · show Steps p.tables e below (s₁.setTop (mkF m 0 #[.val (.ref a0), .val (.int p1), .val (.int p2), .unset] [])) _
    refine XS.iloadN X0.here hx rfl (hb hby d2_0) rfl ?_
    show Steps p.tables e below (s₁.setTop (mkF m 1 #[.val (.ref a0), .val (.int p1), .val (.int p2), .unset] [(.int p1)])) _
    refine XS.istoreN X0.here hx rfl (hb hby d2_1) rfl (l' := #[.val (.ref a0), .val (.int p1), .val (.int p2), .val (.int p1)]) rfl ?_
    exact own2_loop a0 p1 p2 cl g X0 hx hZ hw hby hown e0 Ar Hat hE Bd.returns k p1 hk hp hr
  · show Q2 g k p1 h0 n0 _ s₁.heap _
    rw [e0]
    exact ⟨rfl, N0, rfl⟩
def own_g (b0 b1 b2 b3 : Int32) (j : Int32) : Int32 := if j = (0 : Int32) then b0 else if j = (1 : Int32) then b1 else if j = (2 : Int32) then b2 else b3
theorem own_hat {cl : Cell} {b0 b1 b2 b3 : Int32} (S : cl.slots.size = (4 : Int32).toNatClampNeg) (H : Has cl [(.int b0), (.int b1), (.int b2), (.int b3)] (.int (0 : Int32))) (j : Int32) (hj : ¬ (j < 0 ∨ cl.slots.size ≤ j.toNatClampNeg)) : cl.slots[j.toNatClampNeg]? = some (.int (own_g b0 b1 b2 b3 j)) := by
  have hs : cl.slots.size = 4 := S
  have hn : ¬ j < 0 := fun q => hj (Or.inl q)
  have hnat := nat_of hn
  have hlt : j.toNatClampNeg < 4 := by
    have : ¬ cl.slots.size ≤ j.toNatClampNeg := fun q => hj (Or.inr q)
    omega
  have hd : j.toInt = 0 ∨ j.toInt = 1 ∨ j.toInt = 2 ∨ j.toInt = 3 := by omega
  have k0 : j.toInt = 0 → j = (0 : Int32) := fun e => Int32.toInt_inj.mp (e.trans (by decide))
  have k1 : j.toInt = 1 → j = (1 : Int32) := fun e => Int32.toInt_inj.mp (e.trans (by decide))
  have k2 : j.toInt = 2 → j = (2 : Int32) := fun e => Int32.toInt_inj.mp (e.trans (by decide))
  have k3 : j.toInt = 3 → j = (3 : Int32) := fun e => Int32.toInt_inj.mp (e.trans (by decide))
  rcases hd with h | h | h | h
  · cases k0 h; exact Has.at H hj rfl
  · cases k1 h; exact Has.at H hj rfl
  · cases k2 h; exact Has.at H hj rfl
  · cases k3 h; exact Has.at H hj rfl
theorem own_off (p1 : Int32) {of : Int32} (h : of = ((p1 &&& (7 : Int32)) % (5 : Int32))) : of = 0 ∨ of = 1 ∨ of = 2 ∨ of = 3 ∨ of = 4 := by
  have m1 := c_mask p1 (7 : Int32) 3 (by decide) (by decide)
  have t3 : ((2 ^ 3 : Nat) : Int) = 8 := by decide
  rw [t3] at m1
  have hh := (c_irem (p1 &&& (7 : Int32)) (5 : Int32) 5 (by decide)).1 (by omega)
  rw [← h] at hh
  have hd : of.toInt = 0 ∨ of.toInt = 1 ∨ of.toInt = 2 ∨ of.toInt = 3 ∨ of.toInt = 4 := by omega
  have k0 : of.toInt = 0 → of = (0 : Int32) := fun e => Int32.toInt_inj.mp (e.trans (by decide))
  have k1 : of.toInt = 1 → of = (1 : Int32) := fun e => Int32.toInt_inj.mp (e.trans (by decide))
  have k2 : of.toInt = 2 → of = (2 : Int32) := fun e => Int32.toInt_inj.mp (e.trans (by decide))
  have k3 : of.toInt = 3 → of = (3 : Int32) := fun e => Int32.toInt_inj.mp (e.trans (by decide))
  have k4 : of.toInt = 4 → of = (4 : Int32) := fun e => Int32.toInt_inj.mp (e.trans (by decide))
  rcases hd with h | h | h | h | h
  · exact Or.inl (k0 h)
  · exact Or.inr (Or.inl (k1 h))
  · exact Or.inr (Or.inr (Or.inl (k2 h)))
  · exact Or.inr (Or.inr (Or.inr (Or.inl (k3 h))))
  · exact Or.inr (Or.inr (Or.inr (Or.inr (k4 h))))
theorem own_nz {of : Int32} (b : of = 0 ∨ of = 1 ∨ of = 2 ∨ of = 3 ∨ of = 4) : ((5 : Int32) - of) ≠ (0 : Int32) := by
  rcases b with rfl | rfl | rfl | rfl | rfl <;> decide
theorem own_len (u : Int32) {of le : Int32} (b : of = 0 ∨ of = 1 ∨ of = 2 ∨ of = 3 ∨ of = 4) (h : le = ((u &&& (7 : Int32)) % ((5 : Int32) - of))) : 0 ≤ le.toInt ∧ of.toInt + le.toInt ≤ 4 := by
  have m1 := c_mask u (7 : Int32) 3 (by decide) (by decide)
  have t3 : ((2 ^ 3 : Nat) : Int) = 8 := by decide
  rw [t3] at m1
  have z0 : (0 : Int32).toInt = 0 := by decide
  have z1 : (1 : Int32).toInt = 1 := by decide
  have z2 : (2 : Int32).toInt = 2 := by decide
  have z3 : (3 : Int32).toInt = 3 := by decide
  have z4 : (4 : Int32).toInt = 4 := by decide
  rcases b with rfl | rfl | rfl | rfl | rfl
  · have hh := (c_irem (u &&& (7 : Int32)) ((5 : Int32) - 0) 5 (by decide)).1 (by omega); rw [← h] at hh; omega
  · have hh := (c_irem (u &&& (7 : Int32)) ((5 : Int32) - 1) 4 (by decide)).1 (by omega); rw [← h] at hh; omega
  · have hh := (c_irem (u &&& (7 : Int32)) ((5 : Int32) - 2) 3 (by decide)).1 (by omega); rw [← h] at hh; omega
  · have hh := (c_irem (u &&& (7 : Int32)) ((5 : Int32) - 3) 2 (by decide)).1 (by omega); rw [← h] at hh; omega
  · have hh := (c_irem (u &&& (7 : Int32)) ((5 : Int32) - 4) 1 (by decide)).1 (by omega); rw [← h] at hh; omega
theorem own_ok (b i o l : Int32) : own1_f0 b i o l = 0 ↔ (¬ i < o ∧ i < o + l ∧ b < 0) := by
  rw [own1_e0]
  by_cases h1 : i < o
  · simp [h1, own1_e16]
  · by_cases h2 : i < o + l
    · by_cases h3 : b < 0
      · simp [h1, h2, h3]
      · simp [h1, h2, h3, own1_e16]
    · simp [h1, h2, own1_e16]
theorem own_lp0 (g : Int32 → Int32) (i : Int32) : own_lp g 0 i = 1 := rfl
theorem own_main (b0 b1 b2 b3 : Int32) {of le : Int32} (b : of = 0 ∨ of = 1 ∨ of = 2 ∨ of = 3 ∨ of = 4) (hl : 0 ≤ le.toInt ∧ of.toInt + le.toInt ≤ 4) :
    ∃ k : Nat, of.toInt + k = (of + le).toInt ∧ (of + le).toInt ≤ ((4 : Nat) : Int) ∧ 0 ≤ of.toInt ∧ own_lp (own_g b0 b1 b2 b3) k of = (if (own1_f0 b0 (0 : Int32) of le) = (0 : Int32) then (0 : Int32) else (if (own1_f0 b1 (1 : Int32) of le) = (0 : Int32) then (0 : Int32) else (if (own1_f0 b2 (2 : Int32) of le) = (0 : Int32) then (0 : Int32) else (if (own1_f0 b3 (3 : Int32) of le) = (0 : Int32) then (0 : Int32) else (1 : Int32))))) := by
  have z0 : (0 : Int32).toInt = 0 := by decide
  have z1 : (1 : Int32).toInt = 1 := by decide
  have z2 : (2 : Int32).toInt = 2 := by decide
  have z3 : (3 : Int32).toInt = 3 := by decide
  have z4 : (4 : Int32).toInt = 4 := by decide
  have hd : le.toInt = 0 ∨ le.toInt = 1 ∨ le.toInt = 2 ∨ le.toInt = 3 ∨ le.toInt = 4 := by rcases b with rfl | rfl | rfl | rfl | rfl <;> omega
  have k0 : le.toInt = 0 → le = (0 : Int32) := fun e => Int32.toInt_inj.mp (e.trans (by decide))
  have k1 : le.toInt = 1 → le = (1 : Int32) := fun e => Int32.toInt_inj.mp (e.trans (by decide))
  have k2 : le.toInt = 2 → le = (2 : Int32) := fun e => Int32.toInt_inj.mp (e.trans (by decide))
  have k3 : le.toInt = 3 → le = (3 : Int32) := fun e => Int32.toInt_inj.mp (e.trans (by decide))
  have k4 : le.toInt = 4 → le = (4 : Int32) := fun e => Int32.toInt_inj.mp (e.trans (by decide))
  have hle : le = 0 ∨ le = 1 ∨ le = 2 ∨ le = 3 ∨ le = 4 := by
    rcases hd with h | h | h | h | h
    · exact Or.inl (k0 h)
    · exact Or.inr (Or.inl (k1 h))
    · exact Or.inr (Or.inr (Or.inl (k2 h)))
    · exact Or.inr (Or.inr (Or.inr (Or.inl (k3 h))))
    · exact Or.inr (Or.inr (Or.inr (Or.inr (k4 h))))
  refine ⟨le.toInt.toNat, ?_, ?_, ?_, ?_⟩
  · rcases b with rfl | rfl | rfl | rfl | rfl <;> rcases hle with rfl | rfl | rfl | rfl | rfl <;> first | decide | (exfalso; omega)
  · rcases b with rfl | rfl | rfl | rfl | rfl <;> rcases hle with rfl | rfl | rfl | rfl | rfl <;> first | decide | (exfalso; omega)
  · rcases b with rfl | rfl | rfl | rfl | rfl <;> decide
  · simp only [own_ok]
    rcases b with rfl | rfl | rfl | rfl | rfl <;> rcases hle with rfl | rfl | rfl | rfl | rfl <;> first | (exfalso; omega) | skip
    all_goals
      by_cases g0 : b0 < 0 <;> by_cases g1 : b1 < 0 <;> by_cases g2 : b2 < 0 <;> by_cases g3 : b3 < 0 <;> simp +decide [own_lp, own_g, g0, g1, g2, g3]

theorem pd_0_0 : parseMethodDescriptor "(BIII)Z" = some ⟨[.byte, .int, .int, .int], some .boolean⟩ := by decide +kernel
theorem pd_0_1 : parseMethodDescriptor "([BII)Z" = some ⟨[(.array .byte), .int, .int], some .boolean⟩ := by decide +kernel
theorem ef_0 (m : MethodId) (p0 : Int32) (p1 : Int32) : entryFrame m #[(.int p0), (.int p1)] maxLocals = mkF m 0 #[.val (.int p0), .val (.int p1), .unset, .unset, .unset, .unset] [] := by first | (simp [entryFrame, mkF, argsToLocals, Value.category, maxLocals]; done) | rfl
theorem pn_0 : plainName "com/example/hazy_hash/hazyhash/cli/NumberedLinesIsAsciiPinLaw" = true := by first | (simp [plainName, overriddenIn]; done) | decide +kernel
def Q0 (n0 : Nat) (v : Option Value) (L : List Loc) : Prop := v = some (.int (1 : Int32)) ∧ Fr n0 L
set_option maxRecDepth 65536 in
set_option maxHeartbeats 40000000 in
theorem rm0 (l : Launch) (Z : State) (t0 : Array Value) (hw : ∀ d ∈ tables_1, d.before t0 Z = true) (ws : List Jvm.Cond) (p0 : Int32) (p1 : Int32) (h0 : Heap) (n0 : Nat) (Z0 : n0 ≤ h0.size)  :
    MetFree l x (head1 (Jvm.Cond.code x code maxLocals ret :: ws) room_1) (fun a U => a = #[(.int p0), (.int p1)] ∧ Z.Warmed39 U.vm ∧ U.heap = h0) (fun _ _ _ _ _ => True) (fun _ U o U' => ∃ v L, o = .returned v ∧ Q0 n0 v L ∧ FrameEnd U o U' L room_1.cells room_1.slots) := by
  refine MetFree.of_bodySF (plainFor_of_name pn_0) hisR ?_
  intro p e s m args below meth c s₁ Bd hml0 hP hK
  obtain ⟨rfl, hZ, hh⟩ := hP
  have hx := Bd.exec
  have hby := Bd.bytes
  have hml : c.maxLocals = 6 := hml0
  have hown : s.vm.findClass "com/example/hazy_hash/hazyhash/cli/NumberedLinesIsAsciiPinLaw" = some m.cls := findClass_of_methodNamed Bd.named
  have hnm := (name_of_methodNamed Bd.named Bd.method).1
  have X0 : Stand p l e room_1 s m #[(.int p0), (.int p1)] below meth c s₁ [] 0 0 := Stand.of_body Bd
  have e0 : s₁.heap = h0 := by rw [← hh, Bd.state]; rfl
  have N0 := Fr.nil n0
  have pre0 : ∀ t, Steps p.tables e below (s₁.setTop (mkF m 0 #[.val (.int p0), .val (.int p1), .unset, .unset, .unset, .unset] [])) t → Steps p.tables e below (s₁.setTop (entryFrame m #[(.int p0), (.int p1)] maxLocals)) t := fun t k => castTop (ef_0 m p0 p1) k
  refine own_go pre0 ?_
  refine own_go (B := s₁.setTop (mkF m 1 #[.val (.int p0), .val (.int p1), .unset, .unset, .unset, .unset] [(.int (4 : Int32))])) (fun t kt => ?_) ?_
  · show Steps p.tables e below (s₁.setTop (mkF m 0 #[.val (.int p0), .val (.int p1), .unset, .unset, .unset, .unset] [])) _
    refine XS.iconst X0.here hx rfl (hb hby at_0) ?_
    exact kt
  obtain ⟨T1, h1, k1, X1, e1, E1, A1, st1⟩ := newP X0 hx hZ (hw _ (List.mem_of_getElem? (i := 0) rfl)) e0 (g := (mkF m 1 #[.val (.int p0), .val (.int p1), .unset, .unset, .unset, .unset] [(.int (4 : Int32))])) rfl (hb hby at_1) rfl (by decide) (cap := 4) (by decide) (by decide) (by decide) (by decide)
  obtain ⟨b1, g1⟩ : ∃ z, z = h0.size := ⟨_, rfl⟩
  rw [← g1] at A1 st1
  have g_b1 : n0 ≤ b1 := Nat.le_trans Z0 (Nat.le_of_eq g1.symm)
  have Z1 : n0 ≤ h1.size := Nat.le_trans Z0 E1.1
  have V_b1 : Arv Z h1 b1 k1 .byte (4 : Int32) [(.int (0 : Int32)), (.int (0 : Int32)), (.int (0 : Int32)), (.int (0 : Int32))] (.int (0 : Int32)) := (Arv.new A1 (by decide)).pad (pad_rep [] (.int (0 : Int32)) 4)
  refine own_go (B := T1.setTop (mkF m 3 #[.val (.int p0), .val (.int p1), .unset, .unset, .unset, .unset] [(.ref b1)])) (fun t kt => st1 t kt) ?_
  refine own_go (B := T1.setTop (mkF m 8 #[.val (.int p0), .val (.int p1), .val (.ref b1), .unset, .unset, .unset] [(.int (p0.toInt8.toInt32)), (.int (0 : Int32)), (.ref b1)])) (fun t kt => ?_) ?_
  · show Steps p.tables e below (T1.setTop (mkF m 3 #[.val (.int p0), .val (.int p1), .unset, .unset, .unset, .unset] [(.ref b1)])) _
    refine XS.astoreN X1.here hx rfl (hb hby at_3) rfl rfl (l' := #[.val (.int p0), .val (.int p1), .val (.ref b1), .unset, .unset, .unset]) rfl ?_
    show Steps p.tables e below (T1.setTop (mkF m 4 #[.val (.int p0), .val (.int p1), .val (.ref b1), .unset, .unset, .unset] [])) _
    refine XS.aloadN X1.here hx rfl (hb hby at_4) rfl rfl ?_
    show Steps p.tables e below (T1.setTop (mkF m 5 #[.val (.int p0), .val (.int p1), .val (.ref b1), .unset, .unset, .unset] [(.ref b1)])) _
    refine XS.iconst X1.here hx rfl (hb hby at_5) ?_
    show Steps p.tables e below (T1.setTop (mkF m 6 #[.val (.int p0), .val (.int p1), .val (.ref b1), .unset, .unset, .unset] [(.int (0 : Int32)), (.ref b1)])) _
    refine XS.iloadN X1.here hx rfl (hb hby at_6) rfl ?_
    show Steps p.tables e below (T1.setTop (mkF m 7 #[.val (.int p0), .val (.int p1), .val (.ref b1), .unset, .unset, .unset] [(.int p0), (.int (0 : Int32)), (.ref b1)])) _
    refine XS.i2b X1.here hx rfl (hb hby at_7) rfl ?_
    exact kt
  obtain ⟨cl2, Ar2, q2, S2, M2, H2, G2⟩ := id V_b1
  obtain ⟨T3, h3, X3, e3, W3, st3⟩ := stB X1 hx hZ e1 Ar2 (j := (0 : Int32)) (inb_of S2 ⟨by decide, by decide⟩) (g := (mkF m 8 #[.val (.int p0), .val (.int p1), .val (.ref b1), .unset, .unset, .unset] [(.int (p0.toInt8.toInt32)), (.int (0 : Int32)), (.ref b1)])) rfl rfl (hb hby at_8)
  have V_b1_3 : Arv Z h3 b1 k1 .byte (4 : Int32) [(.int ((p0.toInt8.toInt32).toInt8.toInt32)), (.int (0 : Int32)), (.int (0 : Int32)), (.int (0 : Int32))] (.int (0 : Int32)) := Arv.set Ar2 q2 S2 M2 H2 G2 (fits_nar_byte _) W3 0 rfl (Nat.le_of_ble_eq_true rfl)
  have Z3 : n0 ≤ h3.size := Nat.le_trans Z1 (Keep.of_wr W3).1
  have N3 := Fr.snoc X3 N0 g_b1
  refine own_go (B := T3.setTop (mkF m 9 #[.val (.int p0), .val (.int p1), .val (.ref b1), .unset, .unset, .unset] [])) (fun t kt => st3 t kt) ?_
  refine own_go (B := T3.setTop (mkF m 16 #[.val (.int p0), .val (.int p1), .val (.ref b1), .unset, .unset, .unset] [(.int ((p0 >>> ((8 : Int32) &&& 31)).toInt8.toInt32)), (.int (1 : Int32)), (.ref b1)])) (fun t kt => ?_) ?_
  · show Steps p.tables e below (T3.setTop (mkF m 9 #[.val (.int p0), .val (.int p1), .val (.ref b1), .unset, .unset, .unset] [])) _
    refine XS.aloadN X3.here hx rfl (hb hby at_9) rfl rfl ?_
    show Steps p.tables e below (T3.setTop (mkF m 10 #[.val (.int p0), .val (.int p1), .val (.ref b1), .unset, .unset, .unset] [(.ref b1)])) _
    refine XS.iconst X3.here hx rfl (hb hby at_10) ?_
    show Steps p.tables e below (T3.setTop (mkF m 11 #[.val (.int p0), .val (.int p1), .val (.ref b1), .unset, .unset, .unset] [(.int (1 : Int32)), (.ref b1)])) _
    refine XS.iloadN X3.here hx rfl (hb hby at_11) rfl ?_
    show Steps p.tables e below (T3.setTop (mkF m 12 #[.val (.int p0), .val (.int p1), .val (.ref b1), .unset, .unset, .unset] [(.int p0), (.int (1 : Int32)), (.ref b1)])) _
    refine XS.bipush X3.here hx rfl (hb hby at_12) ?_
    show Steps p.tables e below (T3.setTop (mkF m 14 #[.val (.int p0), .val (.int p1), .val (.ref b1), .unset, .unset, .unset] [(.int (8 : Int32)), (.int p0), (.int (1 : Int32)), (.ref b1)])) _
    refine XS.ishr X3.here hx rfl (hb hby at_14) rfl ?_
    show Steps p.tables e below (T3.setTop (mkF m 15 #[.val (.int p0), .val (.int p1), .val (.ref b1), .unset, .unset, .unset] [(.int (p0 >>> ((8 : Int32) &&& 31))), (.int (1 : Int32)), (.ref b1)])) _
    refine XS.i2b X3.here hx rfl (hb hby at_15) rfl ?_
    exact kt
  obtain ⟨cl4, Ar4, q4, S4, M4, H4, G4⟩ := id V_b1_3
  obtain ⟨T5, h5, X5, e5, W5, st5⟩ := stB X3 hx hZ e3 Ar4 (j := (1 : Int32)) (inb_of S4 ⟨by decide, by decide⟩) (g := (mkF m 16 #[.val (.int p0), .val (.int p1), .val (.ref b1), .unset, .unset, .unset] [(.int ((p0 >>> ((8 : Int32) &&& 31)).toInt8.toInt32)), (.int (1 : Int32)), (.ref b1)])) rfl rfl (hb hby at_16)
  have V_b1_5 : Arv Z h5 b1 k1 .byte (4 : Int32) [(.int ((p0.toInt8.toInt32).toInt8.toInt32)), (.int (((p0 >>> ((8 : Int32) &&& 31)).toInt8.toInt32).toInt8.toInt32)), (.int (0 : Int32)), (.int (0 : Int32))] (.int (0 : Int32)) := Arv.set Ar4 q4 S4 M4 H4 G4 (fits_nar_byte _) W5 1 rfl (Nat.le_of_ble_eq_true rfl)
  have Z5 : n0 ≤ h5.size := Nat.le_trans Z3 (Keep.of_wr W5).1
  have N5 := Fr.snoc X5 N3 g_b1
  refine own_go (B := T5.setTop (mkF m 17 #[.val (.int p0), .val (.int p1), .val (.ref b1), .unset, .unset, .unset] [])) (fun t kt => st5 t kt) ?_
  refine own_go (B := T5.setTop (mkF m 24 #[.val (.int p0), .val (.int p1), .val (.ref b1), .unset, .unset, .unset] [(.int ((p0 >>> ((16 : Int32) &&& 31)).toInt8.toInt32)), (.int (2 : Int32)), (.ref b1)])) (fun t kt => ?_) ?_
  · show Steps p.tables e below (T5.setTop (mkF m 17 #[.val (.int p0), .val (.int p1), .val (.ref b1), .unset, .unset, .unset] [])) _
    refine XS.aloadN X5.here hx rfl (hb hby at_17) rfl rfl ?_
    show Steps p.tables e below (T5.setTop (mkF m 18 #[.val (.int p0), .val (.int p1), .val (.ref b1), .unset, .unset, .unset] [(.ref b1)])) _
    refine XS.iconst X5.here hx rfl (hb hby at_18) ?_
    show Steps p.tables e below (T5.setTop (mkF m 19 #[.val (.int p0), .val (.int p1), .val (.ref b1), .unset, .unset, .unset] [(.int (2 : Int32)), (.ref b1)])) _
    refine XS.iloadN X5.here hx rfl (hb hby at_19) rfl ?_
    show Steps p.tables e below (T5.setTop (mkF m 20 #[.val (.int p0), .val (.int p1), .val (.ref b1), .unset, .unset, .unset] [(.int p0), (.int (2 : Int32)), (.ref b1)])) _
    refine XS.bipush X5.here hx rfl (hb hby at_20) ?_
    show Steps p.tables e below (T5.setTop (mkF m 22 #[.val (.int p0), .val (.int p1), .val (.ref b1), .unset, .unset, .unset] [(.int (16 : Int32)), (.int p0), (.int (2 : Int32)), (.ref b1)])) _
    refine XS.ishr X5.here hx rfl (hb hby at_22) rfl ?_
    show Steps p.tables e below (T5.setTop (mkF m 23 #[.val (.int p0), .val (.int p1), .val (.ref b1), .unset, .unset, .unset] [(.int (p0 >>> ((16 : Int32) &&& 31))), (.int (2 : Int32)), (.ref b1)])) _
    refine XS.i2b X5.here hx rfl (hb hby at_23) rfl ?_
    exact kt
  obtain ⟨cl6, Ar6, q6, S6, M6, H6, G6⟩ := id V_b1_5
  obtain ⟨T7, h7, X7, e7, W7, st7⟩ := stB X5 hx hZ e5 Ar6 (j := (2 : Int32)) (inb_of S6 ⟨by decide, by decide⟩) (g := (mkF m 24 #[.val (.int p0), .val (.int p1), .val (.ref b1), .unset, .unset, .unset] [(.int ((p0 >>> ((16 : Int32) &&& 31)).toInt8.toInt32)), (.int (2 : Int32)), (.ref b1)])) rfl rfl (hb hby at_24)
  have V_b1_7 : Arv Z h7 b1 k1 .byte (4 : Int32) [(.int ((p0.toInt8.toInt32).toInt8.toInt32)), (.int (((p0 >>> ((8 : Int32) &&& 31)).toInt8.toInt32).toInt8.toInt32)), (.int (((p0 >>> ((16 : Int32) &&& 31)).toInt8.toInt32).toInt8.toInt32)), (.int (0 : Int32))] (.int (0 : Int32)) := Arv.set Ar6 q6 S6 M6 H6 G6 (fits_nar_byte _) W7 2 rfl (Nat.le_of_ble_eq_true rfl)
  have Z7 : n0 ≤ h7.size := Nat.le_trans Z5 (Keep.of_wr W7).1
  have N7 := Fr.snoc X7 N5 g_b1
  refine own_go (B := T7.setTop (mkF m 25 #[.val (.int p0), .val (.int p1), .val (.ref b1), .unset, .unset, .unset] [])) (fun t kt => st7 t kt) ?_
  refine own_go (B := T7.setTop (mkF m 32 #[.val (.int p0), .val (.int p1), .val (.ref b1), .unset, .unset, .unset] [(.int ((p0 >>> ((24 : Int32) &&& 31)).toInt8.toInt32)), (.int (3 : Int32)), (.ref b1)])) (fun t kt => ?_) ?_
  · show Steps p.tables e below (T7.setTop (mkF m 25 #[.val (.int p0), .val (.int p1), .val (.ref b1), .unset, .unset, .unset] [])) _
    refine XS.aloadN X7.here hx rfl (hb hby at_25) rfl rfl ?_
    show Steps p.tables e below (T7.setTop (mkF m 26 #[.val (.int p0), .val (.int p1), .val (.ref b1), .unset, .unset, .unset] [(.ref b1)])) _
    refine XS.iconst X7.here hx rfl (hb hby at_26) ?_
    show Steps p.tables e below (T7.setTop (mkF m 27 #[.val (.int p0), .val (.int p1), .val (.ref b1), .unset, .unset, .unset] [(.int (3 : Int32)), (.ref b1)])) _
    refine XS.iloadN X7.here hx rfl (hb hby at_27) rfl ?_
    show Steps p.tables e below (T7.setTop (mkF m 28 #[.val (.int p0), .val (.int p1), .val (.ref b1), .unset, .unset, .unset] [(.int p0), (.int (3 : Int32)), (.ref b1)])) _
    refine XS.bipush X7.here hx rfl (hb hby at_28) ?_
    show Steps p.tables e below (T7.setTop (mkF m 30 #[.val (.int p0), .val (.int p1), .val (.ref b1), .unset, .unset, .unset] [(.int (24 : Int32)), (.int p0), (.int (3 : Int32)), (.ref b1)])) _
    refine XS.ishr X7.here hx rfl (hb hby at_30) rfl ?_
    show Steps p.tables e below (T7.setTop (mkF m 31 #[.val (.int p0), .val (.int p1), .val (.ref b1), .unset, .unset, .unset] [(.int (p0 >>> ((24 : Int32) &&& 31))), (.int (3 : Int32)), (.ref b1)])) _
    refine XS.i2b X7.here hx rfl (hb hby at_31) rfl ?_
    exact kt
  obtain ⟨cl8, Ar8, q8, S8, M8, H8, G8⟩ := id V_b1_7
  obtain ⟨T9, h9, X9, e9, W9, st9⟩ := stB X7 hx hZ e7 Ar8 (j := (3 : Int32)) (inb_of S8 ⟨by decide, by decide⟩) (g := (mkF m 32 #[.val (.int p0), .val (.int p1), .val (.ref b1), .unset, .unset, .unset] [(.int ((p0 >>> ((24 : Int32) &&& 31)).toInt8.toInt32)), (.int (3 : Int32)), (.ref b1)])) rfl rfl (hb hby at_32)
  have V_b1_9 : Arv Z h9 b1 k1 .byte (4 : Int32) [(.int ((p0.toInt8.toInt32).toInt8.toInt32)), (.int (((p0 >>> ((8 : Int32) &&& 31)).toInt8.toInt32).toInt8.toInt32)), (.int (((p0 >>> ((16 : Int32) &&& 31)).toInt8.toInt32).toInt8.toInt32)), (.int (((p0 >>> ((24 : Int32) &&& 31)).toInt8.toInt32).toInt8.toInt32))] (.int (0 : Int32)) := Arv.set Ar8 q8 S8 M8 H8 G8 (fits_nar_byte _) W9 3 rfl (Nat.le_of_ble_eq_true rfl)
  have Z9 : n0 ≤ h9.size := Nat.le_trans Z7 (Keep.of_wr W9).1
  have N9 := Fr.snoc X9 N7 g_b1
  refine own_go (B := T9.setTop (mkF m 33 #[.val (.int p0), .val (.int p1), .val (.ref b1), .unset, .unset, .unset] [])) (fun t kt => st9 t kt) ?_
  generalize ((p0.toInt8.toInt32).toInt8.toInt32) = b100 at V_b1_9
  generalize (((p0 >>> ((8 : Int32) &&& 31)).toInt8.toInt32).toInt8.toInt32) = b101 at V_b1_9
  generalize (((p0 >>> ((16 : Int32) &&& 31)).toInt8.toInt32).toInt8.toInt32) = b102 at V_b1_9
  generalize (((p0 >>> ((24 : Int32) &&& 31)).toInt8.toInt32).toInt8.toInt32) = b103 at V_b1_9
  obtain ⟨cl10, Ar10, q10, S10, M10, H10, G10⟩ := id V_b1_9
  refine own_go (B := T9.setTop (mkF m 40 #[.val (.int p0), .val (.int p1), .val (.ref b1), .val (.int ((p1 &&& (7 : Int32)) % (5 : Int32))), .unset, .unset] [])) (fun t kt => ?_) ?_
  · show Steps p.tables e below (T9.setTop (mkF m 33 #[.val (.int p0), .val (.int p1), .val (.ref b1), .unset, .unset, .unset] [])) _
    refine XS.iloadN X9.here hx rfl (hb hby at_33) rfl ?_
    show Steps p.tables e below (T9.setTop (mkF m 34 #[.val (.int p0), .val (.int p1), .val (.ref b1), .unset, .unset, .unset] [(.int p1)])) _
    refine XS.bipush X9.here hx rfl (hb hby at_34) ?_
    show Steps p.tables e below (T9.setTop (mkF m 36 #[.val (.int p0), .val (.int p1), .val (.ref b1), .unset, .unset, .unset] [(.int (7 : Int32)), (.int p1)])) _
    refine XS.iand X9.here hx rfl (hb hby at_36) rfl ?_
    show Steps p.tables e below (T9.setTop (mkF m 37 #[.val (.int p0), .val (.int p1), .val (.ref b1), .unset, .unset, .unset] [(.int (p1 &&& (7 : Int32)))])) _
    refine XS.iconst X9.here hx rfl (hb hby at_37) ?_
    show Steps p.tables e below (T9.setTop (mkF m 38 #[.val (.int p0), .val (.int p1), .val (.ref b1), .unset, .unset, .unset] [(.int (5 : Int32)), (.int (p1 &&& (7 : Int32)))])) _
    refine Jvm.RoadKit.iremM (g := (mkF m 38 #[.val (.int p0), .val (.int p1), .val (.ref b1), .unset, .unset, .unset] [(.int (5 : Int32)), (.int (p1 &&& (7 : Int32)))])) X9 hx rfl (hb hby at_38) rfl (by decide) ?_
    show Steps p.tables e below (T9.setTop (mkF m 39 #[.val (.int p0), .val (.int p1), .val (.ref b1), .unset, .unset, .unset] [(.int ((p1 &&& (7 : Int32)) % (5 : Int32)))])) _
    refine XS.istoreN X9.here hx rfl (hb hby at_39) rfl (l' := #[.val (.int p0), .val (.int p1), .val (.ref b1), .val (.int ((p1 &&& (7 : Int32)) % (5 : Int32))), .unset, .unset]) rfl ?_
    exact kt
  obtain ⟨of, hof⟩ : ∃ z : Int32, z = ((p1 &&& (7 : Int32)) % (5 : Int32)) := ⟨_, rfl⟩
  rw [← hof]
  have bof := own_off p1 hof
  have hnz49 : ((5 : Int32) - of) ≠ (0 : Int32) := own_nz bof
  refine own_go (B := T9.setTop (mkF m 52 #[.val (.int p0), .val (.int p1), .val (.ref b1), .val (.int of), .val (.int ((((p1.toUInt32 >>> ((3 : Int32) &&& 31).toUInt32).toInt32) &&& (7 : Int32)) % ((5 : Int32) - of))), .unset] [])) (fun t kt => ?_) ?_
  · show Steps p.tables e below (T9.setTop (mkF m 40 #[.val (.int p0), .val (.int p1), .val (.ref b1), .val (.int of), .unset, .unset] [])) _
    refine XS.iloadN X9.here hx rfl (hb hby at_40) rfl ?_
    show Steps p.tables e below (T9.setTop (mkF m 41 #[.val (.int p0), .val (.int p1), .val (.ref b1), .val (.int of), .unset, .unset] [(.int p1)])) _
    refine XS.iconst X9.here hx rfl (hb hby at_41) ?_
    show Steps p.tables e below (T9.setTop (mkF m 42 #[.val (.int p0), .val (.int p1), .val (.ref b1), .val (.int of), .unset, .unset] [(.int (3 : Int32)), (.int p1)])) _
    refine XS.iushr X9.here hx rfl (hb hby at_42) rfl ?_
    show Steps p.tables e below (T9.setTop (mkF m 43 #[.val (.int p0), .val (.int p1), .val (.ref b1), .val (.int of), .unset, .unset] [(.int ((p1.toUInt32 >>> ((3 : Int32) &&& 31).toUInt32).toInt32))])) _
    refine XS.bipush X9.here hx rfl (hb hby at_43) ?_
    show Steps p.tables e below (T9.setTop (mkF m 45 #[.val (.int p0), .val (.int p1), .val (.ref b1), .val (.int of), .unset, .unset] [(.int (7 : Int32)), (.int ((p1.toUInt32 >>> ((3 : Int32) &&& 31).toUInt32).toInt32))])) _
    refine XS.iand X9.here hx rfl (hb hby at_45) rfl ?_
    show Steps p.tables e below (T9.setTop (mkF m 46 #[.val (.int p0), .val (.int p1), .val (.ref b1), .val (.int of), .unset, .unset] [(.int (((p1.toUInt32 >>> ((3 : Int32) &&& 31).toUInt32).toInt32) &&& (7 : Int32)))])) _
    refine XS.iconst X9.here hx rfl (hb hby at_46) ?_
    show Steps p.tables e below (T9.setTop (mkF m 47 #[.val (.int p0), .val (.int p1), .val (.ref b1), .val (.int of), .unset, .unset] [(.int (5 : Int32)), (.int (((p1.toUInt32 >>> ((3 : Int32) &&& 31).toUInt32).toInt32) &&& (7 : Int32)))])) _
    refine XS.iloadN X9.here hx rfl (hb hby at_47) rfl ?_
    show Steps p.tables e below (T9.setTop (mkF m 48 #[.val (.int p0), .val (.int p1), .val (.ref b1), .val (.int of), .unset, .unset] [(.int of), (.int (5 : Int32)), (.int (((p1.toUInt32 >>> ((3 : Int32) &&& 31).toUInt32).toInt32) &&& (7 : Int32)))])) _
    refine XS.isub X9.here hx rfl (hb hby at_48) rfl ?_
    show Steps p.tables e below (T9.setTop (mkF m 49 #[.val (.int p0), .val (.int p1), .val (.ref b1), .val (.int of), .unset, .unset] [(.int ((5 : Int32) - of)), (.int (((p1.toUInt32 >>> ((3 : Int32) &&& 31).toUInt32).toInt32) &&& (7 : Int32)))])) _
    refine Jvm.RoadKit.iremM (g := (mkF m 49 #[.val (.int p0), .val (.int p1), .val (.ref b1), .val (.int of), .unset, .unset] [(.int ((5 : Int32) - of)), (.int (((p1.toUInt32 >>> ((3 : Int32) &&& 31).toUInt32).toInt32) &&& (7 : Int32)))])) X9 hx rfl (hb hby at_49) rfl hnz49 ?_
    show Steps p.tables e below (T9.setTop (mkF m 50 #[.val (.int p0), .val (.int p1), .val (.ref b1), .val (.int of), .unset, .unset] [(.int ((((p1.toUInt32 >>> ((3 : Int32) &&& 31).toUInt32).toInt32) &&& (7 : Int32)) % ((5 : Int32) - of)))])) _
    refine XS.istore X9.here hx rfl (hb hby at_50) rfl (l' := #[.val (.int p0), .val (.int p1), .val (.ref b1), .val (.int of), .val (.int ((((p1.toUInt32 >>> ((3 : Int32) &&& 31).toUInt32).toInt32) &&& (7 : Int32)) % ((5 : Int32) - of))), .unset]) rfl ?_
    exact kt
  obtain ⟨le, hle⟩ : ∃ z : Int32, z = ((((p1.toUInt32 >>> ((3 : Int32) &&& 31).toUInt32).toInt32) &&& (7 : Int32)) % ((5 : Int32) - of)) := ⟨_, rfl⟩
  rw [← hle]
  have ble := own_len _ bof hle
  have Hat : ∀ j : Int32, ¬ (j < 0 ∨ cl10.slots.size ≤ j.toNatClampNeg) → cl10.slots[j.toNatClampNeg]? = some (.int ((own_g b100 b101 b102 b103) j)) := own_hat S10 H10
  have hsz : cl10.slots.size = 4 := S10
  obtain ⟨k, hk1, hk2, hk3, hmain⟩ := own_main b100 b101 b102 b103 bof ble
  refine own_go (B := T9.setTop (mkF m 59 #[.val (.int p0), .val (.int p1), .val (.ref b1), .val (.int of), .val (.int le), .unset] [(.int le), (.int of), (.int (0 : Int32)), (.int b100)])) (fun t kt => ?_) ?_
  · show Steps p.tables e below (T9.setTop (mkF m 52 #[.val (.int p0), .val (.int p1), .val (.ref b1), .val (.int of), .val (.int le), .unset] [])) _
    refine XS.aloadN X9.here hx rfl (hb hby at_52) rfl rfl ?_
    show Steps p.tables e below (T9.setTop (mkF m 53 #[.val (.int p0), .val (.int p1), .val (.ref b1), .val (.int of), .val (.int le), .unset] [(.ref b1)])) _
    refine XS.iconst X9.here hx rfl (hb hby at_53) ?_
    show Steps p.tables e below (T9.setTop (mkF m 54 #[.val (.int p0), .val (.int p1), .val (.ref b1), .val (.int of), .val (.int le), .unset] [(.int (0 : Int32)), (.ref b1)])) _
    refine X9.baloadBytes hx (j := (0 : Int32)) (v := (.int b100)) (by rw [e9]; exact Ar10.1) (State.isArrayOf_alike hZ.alike Ar10.2.1) Ar10.2.2 (inb_of S10 ⟨by decide, by decide⟩) (Has.at H10 (inb_of S10 ⟨by decide, by decide⟩) rfl) (g := (mkF m 54 #[.val (.int p0), .val (.int p1), .val (.ref b1), .val (.int of), .val (.int le), .unset] [(.int (0 : Int32)), (.ref b1)])) rfl rfl (hb hby at_54) _ ?_
    show Steps p.tables e below (T9.setTop (mkF m 55 #[.val (.int p0), .val (.int p1), .val (.ref b1), .val (.int of), .val (.int le), .unset] [(.int b100)])) _
    refine XS.iconst X9.here hx rfl (hb hby at_55) ?_
    show Steps p.tables e below (T9.setTop (mkF m 56 #[.val (.int p0), .val (.int p1), .val (.ref b1), .val (.int of), .val (.int le), .unset] [(.int (0 : Int32)), (.int b100)])) _
    refine XS.iloadN X9.here hx rfl (hb hby at_56) rfl ?_
    show Steps p.tables e below (T9.setTop (mkF m 57 #[.val (.int p0), .val (.int p1), .val (.ref b1), .val (.int of), .val (.int le), .unset] [(.int of), (.int (0 : Int32)), (.int b100)])) _
    refine XS.iload X9.here hx rfl (hb hby at_57) rfl ?_
    exact kt
  obtain ⟨_, _, ⟨T11, L11, k11, n11⟩, -, X11, ⟨Lc11, hQ11, l11, y11, z11⟩, st11⟩ := Jvm.LawKit.callS X9 hx (y := (⟨"com/example/hazy_hash/hazyhash/cli/NumberedLinesIsAsciiPinLaw", "ok", "(BIII)Z"⟩ : MethodName)) hown (mvT hZ (hw _ (List.mem_of_getElem? (i := 1) rfl))) (mvT hZ (hw _ (List.mem_of_getElem? (i := 2) rfl))) (mvT hZ (hw _ (List.mem_of_getElem? (i := 3) rfl))) (mvT hZ (hw _ (List.mem_of_getElem? (i := 4) rfl))) (by decide) (backOf (W := 0) (rm1 l Z t0 hw [] b100 (0 : Int32) of le h9 n0 Z9) hZ (hw _ (List.mem_of_getElem? (i := 4) rfl)) (hw _ (List.mem_of_getElem? (i := 3) rfl)) (by decide) (by decide)) (g := (mkF m 59 #[.val (.int p0), .val (.int p1), .val (.ref b1), .val (.int of), .val (.int le), .unset] [(.int le), (.int of), (.int (0 : Int32)), (.int b100)])) rfl (by rw [hml]; rfl) (argsL := [(.int b100), (.int (0 : Int32)), (.int of), (.int le)]) (rest := []) (lenOf pd_0_0 rfl) rfl (by show 2 * 0 + _ ≤ _; exact Nat.le_of_eq rfl) (hb hby at_59) (fun _ _ => ⟨rfl, e9, (by decide : 1 + 0 ≤ _), (by decide : 4 + 0 ≤ _)⟩)
  dsimp only [Pt.U, Pt.locs, Pt.cells, Pt.slots] at X11 l11 y11 z11 st11 hQ11
  subst l11 y11 z11
  obtain ⟨rfl, Nq11, hh11⟩ := hQ11
  have N11 := Fr.app N9 Nq11
  have e11 : T11.heap = h9 := hh11
  refine own_go (B := T11.setTop (mkF m 62 #[.val (.int p0), .val (.int p1), .val (.ref b1), .val (.int of), .val (.int le), .unset] [(.int (own1_f0 b100 (0 : Int32) of le))])) (fun t kt => st11 t kt) ?_
  by_cases hk_0 : (own1_f0 b100 (0 : Int32) of le) = (0 : Int32)
  · refine own_go (B := T11.setTop (mkF m 111 #[.val (.int p0), .val (.int p1), .val (.ref b1), .val (.int of), .val (.int le), .val (.int (0 : Int32))] [])) (fun t kt => ?_) ?_
    · show Steps p.tables e below (T11.setTop (mkF m 62 #[.val (.int p0), .val (.int p1), .val (.ref b1), .val (.int of), .val (.int le), .unset] [(.int (own1_f0 b100 (0 : Int32) of le))])) _
      refine XS.ifYes X11.here hx rfl (pc0 := 62) (pc' := 108) rfl (hb hby at_62) rfl ((if0 _ _).trans (teq hk_0).1) (by decide) (by decide) ?_
      show Steps p.tables e below (T11.setTop (mkF m 108 #[.val (.int p0), .val (.int p1), .val (.ref b1), .val (.int of), .val (.int le), .unset] [])) _
      refine XS.iconst X11.here hx rfl (hb hby at_108) ?_
      show Steps p.tables e below (T11.setTop (mkF m 109 #[.val (.int p0), .val (.int p1), .val (.ref b1), .val (.int of), .val (.int le), .unset] [(.int (0 : Int32))])) _
      refine XS.istore X11.here hx rfl (hb hby at_109) rfl (l' := #[.val (.int p0), .val (.int p1), .val (.ref b1), .val (.int of), .val (.int le), .val (.int (0 : Int32))]) rfl ?_
      exact kt
    refine own_go (B := T11.setTop (mkF m 115 #[.val (.int p0), .val (.int p1), .val (.ref b1), .val (.int of), .val (.int le), .val (.int (0 : Int32))] [(.int le), (.int of), (.ref b1)])) (fun t kt => ?_) ?_
    · show Steps p.tables e below (T11.setTop (mkF m 111 #[.val (.int p0), .val (.int p1), .val (.ref b1), .val (.int of), .val (.int le), .val (.int (0 : Int32))] [])) _
      refine XS.aloadN X11.here hx rfl (hb hby at_111) rfl rfl ?_
      show Steps p.tables e below (T11.setTop (mkF m 112 #[.val (.int p0), .val (.int p1), .val (.ref b1), .val (.int of), .val (.int le), .val (.int (0 : Int32))] [(.ref b1)])) _
      refine XS.iloadN X11.here hx rfl (hb hby at_112) rfl ?_
      show Steps p.tables e below (T11.setTop (mkF m 113 #[.val (.int p0), .val (.int p1), .val (.ref b1), .val (.int of), .val (.int le), .val (.int (0 : Int32))] [(.int of), (.ref b1)])) _
      refine XS.iload X11.here hx rfl (hb hby at_113) rfl ?_
      exact kt
    obtain ⟨_, _, ⟨T12, L12, k12, n12⟩, -, X12, ⟨Lc12, hQ12, l12, y12, z12⟩, st12⟩ := Jvm.LawKit.callS X11 hx (y := (⟨"com/example/hazy_hash/hazyhash/cli/NumberedLines", "isAscii", "([BII)Z"⟩ : MethodName)) hown (mvT hZ (hw _ (List.mem_of_getElem? (i := 5) rfl))) (mvT hZ (hw _ (List.mem_of_getElem? (i := 6) rfl))) (mvT hZ (hw _ (List.mem_of_getElem? (i := 7) rfl))) (mvT hZ (hw _ (List.mem_of_getElem? (i := 8) rfl))) (by decide) (backOf (W := 0) (rm2 l Z t0 hw [] b1 of le cl10 (own_g b100 b101 b102 b103) k h9 n0 Z9 Ar10 Hat (by rw [hsz]; exact hk2) hk1 hk3) hZ (hw _ (List.mem_of_getElem? (i := 8) rfl)) (hw _ (List.mem_of_getElem? (i := 7) rfl)) (by decide) (by decide)) (g := (mkF m 115 #[.val (.int p0), .val (.int p1), .val (.ref b1), .val (.int of), .val (.int le), .val (.int (0 : Int32))] [(.int le), (.int of), (.ref b1)])) rfl (by rw [hml]; rfl) (argsL := [(.ref b1), (.int of), (.int le)]) (rest := []) (lenOf pd_0_1 rfl) rfl (by show 2 * 0 + _ ≤ _; exact Nat.le_of_eq rfl) (hb hby at_115) (fun _ _ => ⟨rfl, e11, (by decide : 1 + 0 ≤ _), (by decide : 4 + 0 ≤ _)⟩)
    dsimp only [Pt.U, Pt.locs, Pt.cells, Pt.slots] at X12 l12 y12 z12 st12 hQ12
    subst l12 y12 z12
    obtain ⟨rfl, Nq12, hh12⟩ := hQ12
    have N12 := Fr.app N11 Nq12
    have e12 : T12.heap = h9 := hh12
    refine own_go (B := T12.setTop (mkF m 118 #[.val (.int p0), .val (.int p1), .val (.ref b1), .val (.int of), .val (.int le), .val (.int (0 : Int32))] [(.int (own_lp (own_g b100 b101 b102 b103) k of))])) (fun t kt => st12 t kt) ?_
    refine own_go (B := T12.setTop (mkF m 128 #[.val (.int p0), .val (.int p1), .val (.ref b1), .val (.int of), .val (.int le), .val (.int (0 : Int32))] [(.int (1 : Int32))])) (fun t kt => ?_) ?_
    · show Steps p.tables e below (T12.setTop (mkF m 118 #[.val (.int p0), .val (.int p1), .val (.ref b1), .val (.int of), .val (.int le), .val (.int (0 : Int32))] [(.int (own_lp (own_g b100 b101 b102 b103) k of))])) _
      refine XS.iload X12.here hx rfl (hb hby at_118) rfl ?_
      show Steps p.tables e below (T12.setTop (mkF m 120 #[.val (.int p0), .val (.int p1), .val (.ref b1), .val (.int of), .val (.int le), .val (.int (0 : Int32))] [(.int (0 : Int32)), (.int (own_lp (own_g b100 b101 b102 b103) k of))])) _
      refine XS.icmpNo X12.here hx rfl (hb hby at_120) rfl (teq (hmain.trans (if_pos hk_0))).2 ?_
      show Steps p.tables e below (T12.setTop (mkF m 123 #[.val (.int p0), .val (.int p1), .val (.ref b1), .val (.int of), .val (.int le), .val (.int (0 : Int32))] [])) _
      refine XS.iconst X12.here hx rfl (hb hby at_123) ?_
      show Steps p.tables e below (T12.setTop (mkF m 124 #[.val (.int p0), .val (.int p1), .val (.ref b1), .val (.int of), .val (.int le), .val (.int (0 : Int32))] [(.int (1 : Int32))])) _
      refine XS.goto X12.here hx rfl (pc0 := 124) (pc' := 128) rfl (hb hby at_124) (by decide) (by decide) ?_
      exact kt
    obtain ⟨fs, hr, hrun, hended, hW, hsame⟩ := X12.leave (v := some (.int (1 : Int32))) (fun h => by rw [Bd.returns] at h; cases h)
    refine ⟨_, _, ?_, hrun, hended, _, _, rfl, ?_, ⟨_, rfl⟩, hW, hsame.mono (by decide) (by decide)⟩
    · show Steps p.tables e below (T12.setTop (mkF m 128 #[.val (.int p0), .val (.int p1), .val (.ref b1), .val (.int of), .val (.int le), .val (.int (0 : Int32))] [(.int (1 : Int32))])) _
      exact retN X12 hx (t := .boolean) Bd.returns (by simp) (hb hby at_128) hr
    · show Q0 n0 _ _
      exact ⟨rfl, N12⟩
  · refine own_go (B := T11.setTop (mkF m 72 #[.val (.int p0), .val (.int p1), .val (.ref b1), .val (.int of), .val (.int le), .unset] [(.int le), (.int of), (.int (1 : Int32)), (.int b101)])) (fun t kt => ?_) ?_
    · show Steps p.tables e below (T11.setTop (mkF m 62 #[.val (.int p0), .val (.int p1), .val (.ref b1), .val (.int of), .val (.int le), .unset] [(.int (own1_f0 b100 (0 : Int32) of le))])) _
      refine XS.ifNo X11.here hx rfl (hb hby at_62) rfl ((if0 _ _).trans (feq hk_0).1) ?_
      show Steps p.tables e below (T11.setTop (mkF m 65 #[.val (.int p0), .val (.int p1), .val (.ref b1), .val (.int of), .val (.int le), .unset] [])) _
      refine XS.aloadN X11.here hx rfl (hb hby at_65) rfl rfl ?_
      show Steps p.tables e below (T11.setTop (mkF m 66 #[.val (.int p0), .val (.int p1), .val (.ref b1), .val (.int of), .val (.int le), .unset] [(.ref b1)])) _
      refine XS.iconst X11.here hx rfl (hb hby at_66) ?_
      show Steps p.tables e below (T11.setTop (mkF m 67 #[.val (.int p0), .val (.int p1), .val (.ref b1), .val (.int of), .val (.int le), .unset] [(.int (1 : Int32)), (.ref b1)])) _
      refine X11.baloadBytes hx (j := (1 : Int32)) (v := (.int b101)) (by rw [e11]; exact Ar10.1) (State.isArrayOf_alike hZ.alike Ar10.2.1) Ar10.2.2 (inb_of S10 ⟨by decide, by decide⟩) (Has.at H10 (inb_of S10 ⟨by decide, by decide⟩) rfl) (g := (mkF m 67 #[.val (.int p0), .val (.int p1), .val (.ref b1), .val (.int of), .val (.int le), .unset] [(.int (1 : Int32)), (.ref b1)])) rfl rfl (hb hby at_67) _ ?_
      show Steps p.tables e below (T11.setTop (mkF m 68 #[.val (.int p0), .val (.int p1), .val (.ref b1), .val (.int of), .val (.int le), .unset] [(.int b101)])) _
      refine XS.iconst X11.here hx rfl (hb hby at_68) ?_
      show Steps p.tables e below (T11.setTop (mkF m 69 #[.val (.int p0), .val (.int p1), .val (.ref b1), .val (.int of), .val (.int le), .unset] [(.int (1 : Int32)), (.int b101)])) _
      refine XS.iloadN X11.here hx rfl (hb hby at_69) rfl ?_
      show Steps p.tables e below (T11.setTop (mkF m 70 #[.val (.int p0), .val (.int p1), .val (.ref b1), .val (.int of), .val (.int le), .unset] [(.int of), (.int (1 : Int32)), (.int b101)])) _
      refine XS.iload X11.here hx rfl (hb hby at_70) rfl ?_
      exact kt
    obtain ⟨_, _, ⟨T13, L13, k13, n13⟩, -, X13, ⟨Lc13, hQ13, l13, y13, z13⟩, st13⟩ := Jvm.LawKit.callS X11 hx (y := (⟨"com/example/hazy_hash/hazyhash/cli/NumberedLinesIsAsciiPinLaw", "ok", "(BIII)Z"⟩ : MethodName)) hown (mvT hZ (hw _ (List.mem_of_getElem? (i := 1) rfl))) (mvT hZ (hw _ (List.mem_of_getElem? (i := 2) rfl))) (mvT hZ (hw _ (List.mem_of_getElem? (i := 3) rfl))) (mvT hZ (hw _ (List.mem_of_getElem? (i := 4) rfl))) (by decide) (backOf (W := 0) (rm1 l Z t0 hw [] b101 (1 : Int32) of le h9 n0 Z9) hZ (hw _ (List.mem_of_getElem? (i := 4) rfl)) (hw _ (List.mem_of_getElem? (i := 3) rfl)) (by decide) (by decide)) (g := (mkF m 72 #[.val (.int p0), .val (.int p1), .val (.ref b1), .val (.int of), .val (.int le), .unset] [(.int le), (.int of), (.int (1 : Int32)), (.int b101)])) rfl (by rw [hml]; rfl) (argsL := [(.int b101), (.int (1 : Int32)), (.int of), (.int le)]) (rest := []) (lenOf pd_0_0 rfl) rfl (by show 2 * 0 + _ ≤ _; exact Nat.le_of_eq rfl) (hb hby at_72) (fun _ _ => ⟨rfl, e11, (by decide : 1 + 0 ≤ _), (by decide : 4 + 0 ≤ _)⟩)
    dsimp only [Pt.U, Pt.locs, Pt.cells, Pt.slots] at X13 l13 y13 z13 st13 hQ13
    subst l13 y13 z13
    obtain ⟨rfl, Nq13, hh13⟩ := hQ13
    have N13 := Fr.app N11 Nq13
    have e13 : T13.heap = h9 := hh13
    refine own_go (B := T13.setTop (mkF m 75 #[.val (.int p0), .val (.int p1), .val (.ref b1), .val (.int of), .val (.int le), .unset] [(.int (own1_f0 b101 (1 : Int32) of le))])) (fun t kt => st13 t kt) ?_
    by_cases hk_1 : (own1_f0 b101 (1 : Int32) of le) = (0 : Int32)
    · refine own_go (B := T13.setTop (mkF m 111 #[.val (.int p0), .val (.int p1), .val (.ref b1), .val (.int of), .val (.int le), .val (.int (0 : Int32))] [])) (fun t kt => ?_) ?_
      · show Steps p.tables e below (T13.setTop (mkF m 75 #[.val (.int p0), .val (.int p1), .val (.ref b1), .val (.int of), .val (.int le), .unset] [(.int (own1_f0 b101 (1 : Int32) of le))])) _
        refine XS.ifYes X13.here hx rfl (pc0 := 75) (pc' := 108) rfl (hb hby at_75) rfl ((if0 _ _).trans (teq hk_1).1) (by decide) (by decide) ?_
        show Steps p.tables e below (T13.setTop (mkF m 108 #[.val (.int p0), .val (.int p1), .val (.ref b1), .val (.int of), .val (.int le), .unset] [])) _
        refine XS.iconst X13.here hx rfl (hb hby at_108) ?_
        show Steps p.tables e below (T13.setTop (mkF m 109 #[.val (.int p0), .val (.int p1), .val (.ref b1), .val (.int of), .val (.int le), .unset] [(.int (0 : Int32))])) _
        refine XS.istore X13.here hx rfl (hb hby at_109) rfl (l' := #[.val (.int p0), .val (.int p1), .val (.ref b1), .val (.int of), .val (.int le), .val (.int (0 : Int32))]) rfl ?_
        exact kt
      refine own_go (B := T13.setTop (mkF m 115 #[.val (.int p0), .val (.int p1), .val (.ref b1), .val (.int of), .val (.int le), .val (.int (0 : Int32))] [(.int le), (.int of), (.ref b1)])) (fun t kt => ?_) ?_
      · show Steps p.tables e below (T13.setTop (mkF m 111 #[.val (.int p0), .val (.int p1), .val (.ref b1), .val (.int of), .val (.int le), .val (.int (0 : Int32))] [])) _
        refine XS.aloadN X13.here hx rfl (hb hby at_111) rfl rfl ?_
        show Steps p.tables e below (T13.setTop (mkF m 112 #[.val (.int p0), .val (.int p1), .val (.ref b1), .val (.int of), .val (.int le), .val (.int (0 : Int32))] [(.ref b1)])) _
        refine XS.iloadN X13.here hx rfl (hb hby at_112) rfl ?_
        show Steps p.tables e below (T13.setTop (mkF m 113 #[.val (.int p0), .val (.int p1), .val (.ref b1), .val (.int of), .val (.int le), .val (.int (0 : Int32))] [(.int of), (.ref b1)])) _
        refine XS.iload X13.here hx rfl (hb hby at_113) rfl ?_
        exact kt
      obtain ⟨_, _, ⟨T14, L14, k14, n14⟩, -, X14, ⟨Lc14, hQ14, l14, y14, z14⟩, st14⟩ := Jvm.LawKit.callS X13 hx (y := (⟨"com/example/hazy_hash/hazyhash/cli/NumberedLines", "isAscii", "([BII)Z"⟩ : MethodName)) hown (mvT hZ (hw _ (List.mem_of_getElem? (i := 5) rfl))) (mvT hZ (hw _ (List.mem_of_getElem? (i := 6) rfl))) (mvT hZ (hw _ (List.mem_of_getElem? (i := 7) rfl))) (mvT hZ (hw _ (List.mem_of_getElem? (i := 8) rfl))) (by decide) (backOf (W := 0) (rm2 l Z t0 hw [] b1 of le cl10 (own_g b100 b101 b102 b103) k h9 n0 Z9 Ar10 Hat (by rw [hsz]; exact hk2) hk1 hk3) hZ (hw _ (List.mem_of_getElem? (i := 8) rfl)) (hw _ (List.mem_of_getElem? (i := 7) rfl)) (by decide) (by decide)) (g := (mkF m 115 #[.val (.int p0), .val (.int p1), .val (.ref b1), .val (.int of), .val (.int le), .val (.int (0 : Int32))] [(.int le), (.int of), (.ref b1)])) rfl (by rw [hml]; rfl) (argsL := [(.ref b1), (.int of), (.int le)]) (rest := []) (lenOf pd_0_1 rfl) rfl (by show 2 * 0 + _ ≤ _; exact Nat.le_of_eq rfl) (hb hby at_115) (fun _ _ => ⟨rfl, e13, (by decide : 1 + 0 ≤ _), (by decide : 4 + 0 ≤ _)⟩)
      dsimp only [Pt.U, Pt.locs, Pt.cells, Pt.slots] at X14 l14 y14 z14 st14 hQ14
      subst l14 y14 z14
      obtain ⟨rfl, Nq14, hh14⟩ := hQ14
      have N14 := Fr.app N13 Nq14
      have e14 : T14.heap = h9 := hh14
      refine own_go (B := T14.setTop (mkF m 118 #[.val (.int p0), .val (.int p1), .val (.ref b1), .val (.int of), .val (.int le), .val (.int (0 : Int32))] [(.int (own_lp (own_g b100 b101 b102 b103) k of))])) (fun t kt => st14 t kt) ?_
      refine own_go (B := T14.setTop (mkF m 128 #[.val (.int p0), .val (.int p1), .val (.ref b1), .val (.int of), .val (.int le), .val (.int (0 : Int32))] [(.int (1 : Int32))])) (fun t kt => ?_) ?_
      · show Steps p.tables e below (T14.setTop (mkF m 118 #[.val (.int p0), .val (.int p1), .val (.ref b1), .val (.int of), .val (.int le), .val (.int (0 : Int32))] [(.int (own_lp (own_g b100 b101 b102 b103) k of))])) _
        refine XS.iload X14.here hx rfl (hb hby at_118) rfl ?_
        show Steps p.tables e below (T14.setTop (mkF m 120 #[.val (.int p0), .val (.int p1), .val (.ref b1), .val (.int of), .val (.int le), .val (.int (0 : Int32))] [(.int (0 : Int32)), (.int (own_lp (own_g b100 b101 b102 b103) k of))])) _
        refine XS.icmpNo X14.here hx rfl (hb hby at_120) rfl (teq (hmain.trans ((if_neg hk_0).trans (if_pos hk_1)))).2 ?_
        show Steps p.tables e below (T14.setTop (mkF m 123 #[.val (.int p0), .val (.int p1), .val (.ref b1), .val (.int of), .val (.int le), .val (.int (0 : Int32))] [])) _
        refine XS.iconst X14.here hx rfl (hb hby at_123) ?_
        show Steps p.tables e below (T14.setTop (mkF m 124 #[.val (.int p0), .val (.int p1), .val (.ref b1), .val (.int of), .val (.int le), .val (.int (0 : Int32))] [(.int (1 : Int32))])) _
        refine XS.goto X14.here hx rfl (pc0 := 124) (pc' := 128) rfl (hb hby at_124) (by decide) (by decide) ?_
        exact kt
      obtain ⟨fs, hr, hrun, hended, hW, hsame⟩ := X14.leave (v := some (.int (1 : Int32))) (fun h => by rw [Bd.returns] at h; cases h)
      refine ⟨_, _, ?_, hrun, hended, _, _, rfl, ?_, ⟨_, rfl⟩, hW, hsame.mono (by decide) (by decide)⟩
      · show Steps p.tables e below (T14.setTop (mkF m 128 #[.val (.int p0), .val (.int p1), .val (.ref b1), .val (.int of), .val (.int le), .val (.int (0 : Int32))] [(.int (1 : Int32))])) _
        exact retN X14 hx (t := .boolean) Bd.returns (by simp) (hb hby at_128) hr
      · show Q0 n0 _ _
        exact ⟨rfl, N14⟩
    · refine own_go (B := T13.setTop (mkF m 85 #[.val (.int p0), .val (.int p1), .val (.ref b1), .val (.int of), .val (.int le), .unset] [(.int le), (.int of), (.int (2 : Int32)), (.int b102)])) (fun t kt => ?_) ?_
      · show Steps p.tables e below (T13.setTop (mkF m 75 #[.val (.int p0), .val (.int p1), .val (.ref b1), .val (.int of), .val (.int le), .unset] [(.int (own1_f0 b101 (1 : Int32) of le))])) _
        refine XS.ifNo X13.here hx rfl (hb hby at_75) rfl ((if0 _ _).trans (feq hk_1).1) ?_
        show Steps p.tables e below (T13.setTop (mkF m 78 #[.val (.int p0), .val (.int p1), .val (.ref b1), .val (.int of), .val (.int le), .unset] [])) _
        refine XS.aloadN X13.here hx rfl (hb hby at_78) rfl rfl ?_
        show Steps p.tables e below (T13.setTop (mkF m 79 #[.val (.int p0), .val (.int p1), .val (.ref b1), .val (.int of), .val (.int le), .unset] [(.ref b1)])) _
        refine XS.iconst X13.here hx rfl (hb hby at_79) ?_
        show Steps p.tables e below (T13.setTop (mkF m 80 #[.val (.int p0), .val (.int p1), .val (.ref b1), .val (.int of), .val (.int le), .unset] [(.int (2 : Int32)), (.ref b1)])) _
        refine X13.baloadBytes hx (j := (2 : Int32)) (v := (.int b102)) (by rw [e13]; exact Ar10.1) (State.isArrayOf_alike hZ.alike Ar10.2.1) Ar10.2.2 (inb_of S10 ⟨by decide, by decide⟩) (Has.at H10 (inb_of S10 ⟨by decide, by decide⟩) rfl) (g := (mkF m 80 #[.val (.int p0), .val (.int p1), .val (.ref b1), .val (.int of), .val (.int le), .unset] [(.int (2 : Int32)), (.ref b1)])) rfl rfl (hb hby at_80) _ ?_
        show Steps p.tables e below (T13.setTop (mkF m 81 #[.val (.int p0), .val (.int p1), .val (.ref b1), .val (.int of), .val (.int le), .unset] [(.int b102)])) _
        refine XS.iconst X13.here hx rfl (hb hby at_81) ?_
        show Steps p.tables e below (T13.setTop (mkF m 82 #[.val (.int p0), .val (.int p1), .val (.ref b1), .val (.int of), .val (.int le), .unset] [(.int (2 : Int32)), (.int b102)])) _
        refine XS.iloadN X13.here hx rfl (hb hby at_82) rfl ?_
        show Steps p.tables e below (T13.setTop (mkF m 83 #[.val (.int p0), .val (.int p1), .val (.ref b1), .val (.int of), .val (.int le), .unset] [(.int of), (.int (2 : Int32)), (.int b102)])) _
        refine XS.iload X13.here hx rfl (hb hby at_83) rfl ?_
        exact kt
      obtain ⟨_, _, ⟨T15, L15, k15, n15⟩, -, X15, ⟨Lc15, hQ15, l15, y15, z15⟩, st15⟩ := Jvm.LawKit.callS X13 hx (y := (⟨"com/example/hazy_hash/hazyhash/cli/NumberedLinesIsAsciiPinLaw", "ok", "(BIII)Z"⟩ : MethodName)) hown (mvT hZ (hw _ (List.mem_of_getElem? (i := 1) rfl))) (mvT hZ (hw _ (List.mem_of_getElem? (i := 2) rfl))) (mvT hZ (hw _ (List.mem_of_getElem? (i := 3) rfl))) (mvT hZ (hw _ (List.mem_of_getElem? (i := 4) rfl))) (by decide) (backOf (W := 0) (rm1 l Z t0 hw [] b102 (2 : Int32) of le h9 n0 Z9) hZ (hw _ (List.mem_of_getElem? (i := 4) rfl)) (hw _ (List.mem_of_getElem? (i := 3) rfl)) (by decide) (by decide)) (g := (mkF m 85 #[.val (.int p0), .val (.int p1), .val (.ref b1), .val (.int of), .val (.int le), .unset] [(.int le), (.int of), (.int (2 : Int32)), (.int b102)])) rfl (by rw [hml]; rfl) (argsL := [(.int b102), (.int (2 : Int32)), (.int of), (.int le)]) (rest := []) (lenOf pd_0_0 rfl) rfl (by show 2 * 0 + _ ≤ _; exact Nat.le_of_eq rfl) (hb hby at_85) (fun _ _ => ⟨rfl, e13, (by decide : 1 + 0 ≤ _), (by decide : 4 + 0 ≤ _)⟩)
      dsimp only [Pt.U, Pt.locs, Pt.cells, Pt.slots] at X15 l15 y15 z15 st15 hQ15
      subst l15 y15 z15
      obtain ⟨rfl, Nq15, hh15⟩ := hQ15
      have N15 := Fr.app N13 Nq15
      have e15 : T15.heap = h9 := hh15
      refine own_go (B := T15.setTop (mkF m 88 #[.val (.int p0), .val (.int p1), .val (.ref b1), .val (.int of), .val (.int le), .unset] [(.int (own1_f0 b102 (2 : Int32) of le))])) (fun t kt => st15 t kt) ?_
      by_cases hk_2 : (own1_f0 b102 (2 : Int32) of le) = (0 : Int32)
      · refine own_go (B := T15.setTop (mkF m 111 #[.val (.int p0), .val (.int p1), .val (.ref b1), .val (.int of), .val (.int le), .val (.int (0 : Int32))] [])) (fun t kt => ?_) ?_
        · show Steps p.tables e below (T15.setTop (mkF m 88 #[.val (.int p0), .val (.int p1), .val (.ref b1), .val (.int of), .val (.int le), .unset] [(.int (own1_f0 b102 (2 : Int32) of le))])) _
          refine XS.ifYes X15.here hx rfl (pc0 := 88) (pc' := 108) rfl (hb hby at_88) rfl ((if0 _ _).trans (teq hk_2).1) (by decide) (by decide) ?_
          show Steps p.tables e below (T15.setTop (mkF m 108 #[.val (.int p0), .val (.int p1), .val (.ref b1), .val (.int of), .val (.int le), .unset] [])) _
          refine XS.iconst X15.here hx rfl (hb hby at_108) ?_
          show Steps p.tables e below (T15.setTop (mkF m 109 #[.val (.int p0), .val (.int p1), .val (.ref b1), .val (.int of), .val (.int le), .unset] [(.int (0 : Int32))])) _
          refine XS.istore X15.here hx rfl (hb hby at_109) rfl (l' := #[.val (.int p0), .val (.int p1), .val (.ref b1), .val (.int of), .val (.int le), .val (.int (0 : Int32))]) rfl ?_
          exact kt
        refine own_go (B := T15.setTop (mkF m 115 #[.val (.int p0), .val (.int p1), .val (.ref b1), .val (.int of), .val (.int le), .val (.int (0 : Int32))] [(.int le), (.int of), (.ref b1)])) (fun t kt => ?_) ?_
        · show Steps p.tables e below (T15.setTop (mkF m 111 #[.val (.int p0), .val (.int p1), .val (.ref b1), .val (.int of), .val (.int le), .val (.int (0 : Int32))] [])) _
          refine XS.aloadN X15.here hx rfl (hb hby at_111) rfl rfl ?_
          show Steps p.tables e below (T15.setTop (mkF m 112 #[.val (.int p0), .val (.int p1), .val (.ref b1), .val (.int of), .val (.int le), .val (.int (0 : Int32))] [(.ref b1)])) _
          refine XS.iloadN X15.here hx rfl (hb hby at_112) rfl ?_
          show Steps p.tables e below (T15.setTop (mkF m 113 #[.val (.int p0), .val (.int p1), .val (.ref b1), .val (.int of), .val (.int le), .val (.int (0 : Int32))] [(.int of), (.ref b1)])) _
          refine XS.iload X15.here hx rfl (hb hby at_113) rfl ?_
          exact kt
        obtain ⟨_, _, ⟨T16, L16, k16, n16⟩, -, X16, ⟨Lc16, hQ16, l16, y16, z16⟩, st16⟩ := Jvm.LawKit.callS X15 hx (y := (⟨"com/example/hazy_hash/hazyhash/cli/NumberedLines", "isAscii", "([BII)Z"⟩ : MethodName)) hown (mvT hZ (hw _ (List.mem_of_getElem? (i := 5) rfl))) (mvT hZ (hw _ (List.mem_of_getElem? (i := 6) rfl))) (mvT hZ (hw _ (List.mem_of_getElem? (i := 7) rfl))) (mvT hZ (hw _ (List.mem_of_getElem? (i := 8) rfl))) (by decide) (backOf (W := 0) (rm2 l Z t0 hw [] b1 of le cl10 (own_g b100 b101 b102 b103) k h9 n0 Z9 Ar10 Hat (by rw [hsz]; exact hk2) hk1 hk3) hZ (hw _ (List.mem_of_getElem? (i := 8) rfl)) (hw _ (List.mem_of_getElem? (i := 7) rfl)) (by decide) (by decide)) (g := (mkF m 115 #[.val (.int p0), .val (.int p1), .val (.ref b1), .val (.int of), .val (.int le), .val (.int (0 : Int32))] [(.int le), (.int of), (.ref b1)])) rfl (by rw [hml]; rfl) (argsL := [(.ref b1), (.int of), (.int le)]) (rest := []) (lenOf pd_0_1 rfl) rfl (by show 2 * 0 + _ ≤ _; exact Nat.le_of_eq rfl) (hb hby at_115) (fun _ _ => ⟨rfl, e15, (by decide : 1 + 0 ≤ _), (by decide : 4 + 0 ≤ _)⟩)
        dsimp only [Pt.U, Pt.locs, Pt.cells, Pt.slots] at X16 l16 y16 z16 st16 hQ16
        subst l16 y16 z16
        obtain ⟨rfl, Nq16, hh16⟩ := hQ16
        have N16 := Fr.app N15 Nq16
        have e16 : T16.heap = h9 := hh16
        refine own_go (B := T16.setTop (mkF m 118 #[.val (.int p0), .val (.int p1), .val (.ref b1), .val (.int of), .val (.int le), .val (.int (0 : Int32))] [(.int (own_lp (own_g b100 b101 b102 b103) k of))])) (fun t kt => st16 t kt) ?_
        refine own_go (B := T16.setTop (mkF m 128 #[.val (.int p0), .val (.int p1), .val (.ref b1), .val (.int of), .val (.int le), .val (.int (0 : Int32))] [(.int (1 : Int32))])) (fun t kt => ?_) ?_
        · show Steps p.tables e below (T16.setTop (mkF m 118 #[.val (.int p0), .val (.int p1), .val (.ref b1), .val (.int of), .val (.int le), .val (.int (0 : Int32))] [(.int (own_lp (own_g b100 b101 b102 b103) k of))])) _
          refine XS.iload X16.here hx rfl (hb hby at_118) rfl ?_
          show Steps p.tables e below (T16.setTop (mkF m 120 #[.val (.int p0), .val (.int p1), .val (.ref b1), .val (.int of), .val (.int le), .val (.int (0 : Int32))] [(.int (0 : Int32)), (.int (own_lp (own_g b100 b101 b102 b103) k of))])) _
          refine XS.icmpNo X16.here hx rfl (hb hby at_120) rfl (teq (hmain.trans ((if_neg hk_0).trans ((if_neg hk_1).trans (if_pos hk_2))))).2 ?_
          show Steps p.tables e below (T16.setTop (mkF m 123 #[.val (.int p0), .val (.int p1), .val (.ref b1), .val (.int of), .val (.int le), .val (.int (0 : Int32))] [])) _
          refine XS.iconst X16.here hx rfl (hb hby at_123) ?_
          show Steps p.tables e below (T16.setTop (mkF m 124 #[.val (.int p0), .val (.int p1), .val (.ref b1), .val (.int of), .val (.int le), .val (.int (0 : Int32))] [(.int (1 : Int32))])) _
          refine XS.goto X16.here hx rfl (pc0 := 124) (pc' := 128) rfl (hb hby at_124) (by decide) (by decide) ?_
          exact kt
        obtain ⟨fs, hr, hrun, hended, hW, hsame⟩ := X16.leave (v := some (.int (1 : Int32))) (fun h => by rw [Bd.returns] at h; cases h)
        refine ⟨_, _, ?_, hrun, hended, _, _, rfl, ?_, ⟨_, rfl⟩, hW, hsame.mono (by decide) (by decide)⟩
        · show Steps p.tables e below (T16.setTop (mkF m 128 #[.val (.int p0), .val (.int p1), .val (.ref b1), .val (.int of), .val (.int le), .val (.int (0 : Int32))] [(.int (1 : Int32))])) _
          exact retN X16 hx (t := .boolean) Bd.returns (by simp) (hb hby at_128) hr
        · show Q0 n0 _ _
          exact ⟨rfl, N16⟩
      · refine own_go (B := T15.setTop (mkF m 98 #[.val (.int p0), .val (.int p1), .val (.ref b1), .val (.int of), .val (.int le), .unset] [(.int le), (.int of), (.int (3 : Int32)), (.int b103)])) (fun t kt => ?_) ?_
        · show Steps p.tables e below (T15.setTop (mkF m 88 #[.val (.int p0), .val (.int p1), .val (.ref b1), .val (.int of), .val (.int le), .unset] [(.int (own1_f0 b102 (2 : Int32) of le))])) _
          refine XS.ifNo X15.here hx rfl (hb hby at_88) rfl ((if0 _ _).trans (feq hk_2).1) ?_
          show Steps p.tables e below (T15.setTop (mkF m 91 #[.val (.int p0), .val (.int p1), .val (.ref b1), .val (.int of), .val (.int le), .unset] [])) _
          refine XS.aloadN X15.here hx rfl (hb hby at_91) rfl rfl ?_
          show Steps p.tables e below (T15.setTop (mkF m 92 #[.val (.int p0), .val (.int p1), .val (.ref b1), .val (.int of), .val (.int le), .unset] [(.ref b1)])) _
          refine XS.iconst X15.here hx rfl (hb hby at_92) ?_
          show Steps p.tables e below (T15.setTop (mkF m 93 #[.val (.int p0), .val (.int p1), .val (.ref b1), .val (.int of), .val (.int le), .unset] [(.int (3 : Int32)), (.ref b1)])) _
          refine X15.baloadBytes hx (j := (3 : Int32)) (v := (.int b103)) (by rw [e15]; exact Ar10.1) (State.isArrayOf_alike hZ.alike Ar10.2.1) Ar10.2.2 (inb_of S10 ⟨by decide, by decide⟩) (Has.at H10 (inb_of S10 ⟨by decide, by decide⟩) rfl) (g := (mkF m 93 #[.val (.int p0), .val (.int p1), .val (.ref b1), .val (.int of), .val (.int le), .unset] [(.int (3 : Int32)), (.ref b1)])) rfl rfl (hb hby at_93) _ ?_
          show Steps p.tables e below (T15.setTop (mkF m 94 #[.val (.int p0), .val (.int p1), .val (.ref b1), .val (.int of), .val (.int le), .unset] [(.int b103)])) _
          refine XS.iconst X15.here hx rfl (hb hby at_94) ?_
          show Steps p.tables e below (T15.setTop (mkF m 95 #[.val (.int p0), .val (.int p1), .val (.ref b1), .val (.int of), .val (.int le), .unset] [(.int (3 : Int32)), (.int b103)])) _
          refine XS.iloadN X15.here hx rfl (hb hby at_95) rfl ?_
          show Steps p.tables e below (T15.setTop (mkF m 96 #[.val (.int p0), .val (.int p1), .val (.ref b1), .val (.int of), .val (.int le), .unset] [(.int of), (.int (3 : Int32)), (.int b103)])) _
          refine XS.iload X15.here hx rfl (hb hby at_96) rfl ?_
          exact kt
        obtain ⟨_, _, ⟨T17, L17, k17, n17⟩, -, X17, ⟨Lc17, hQ17, l17, y17, z17⟩, st17⟩ := Jvm.LawKit.callS X15 hx (y := (⟨"com/example/hazy_hash/hazyhash/cli/NumberedLinesIsAsciiPinLaw", "ok", "(BIII)Z"⟩ : MethodName)) hown (mvT hZ (hw _ (List.mem_of_getElem? (i := 1) rfl))) (mvT hZ (hw _ (List.mem_of_getElem? (i := 2) rfl))) (mvT hZ (hw _ (List.mem_of_getElem? (i := 3) rfl))) (mvT hZ (hw _ (List.mem_of_getElem? (i := 4) rfl))) (by decide) (backOf (W := 0) (rm1 l Z t0 hw [] b103 (3 : Int32) of le h9 n0 Z9) hZ (hw _ (List.mem_of_getElem? (i := 4) rfl)) (hw _ (List.mem_of_getElem? (i := 3) rfl)) (by decide) (by decide)) (g := (mkF m 98 #[.val (.int p0), .val (.int p1), .val (.ref b1), .val (.int of), .val (.int le), .unset] [(.int le), (.int of), (.int (3 : Int32)), (.int b103)])) rfl (by rw [hml]; rfl) (argsL := [(.int b103), (.int (3 : Int32)), (.int of), (.int le)]) (rest := []) (lenOf pd_0_0 rfl) rfl (by show 2 * 0 + _ ≤ _; exact Nat.le_of_eq rfl) (hb hby at_98) (fun _ _ => ⟨rfl, e15, (by decide : 1 + 0 ≤ _), (by decide : 4 + 0 ≤ _)⟩)
        dsimp only [Pt.U, Pt.locs, Pt.cells, Pt.slots] at X17 l17 y17 z17 st17 hQ17
        subst l17 y17 z17
        obtain ⟨rfl, Nq17, hh17⟩ := hQ17
        have N17 := Fr.app N15 Nq17
        have e17 : T17.heap = h9 := hh17
        refine own_go (B := T17.setTop (mkF m 101 #[.val (.int p0), .val (.int p1), .val (.ref b1), .val (.int of), .val (.int le), .unset] [(.int (own1_f0 b103 (3 : Int32) of le))])) (fun t kt => st17 t kt) ?_
        by_cases hk_3 : (own1_f0 b103 (3 : Int32) of le) = (0 : Int32)
        · refine own_go (B := T17.setTop (mkF m 111 #[.val (.int p0), .val (.int p1), .val (.ref b1), .val (.int of), .val (.int le), .val (.int (0 : Int32))] [])) (fun t kt => ?_) ?_
          · show Steps p.tables e below (T17.setTop (mkF m 101 #[.val (.int p0), .val (.int p1), .val (.ref b1), .val (.int of), .val (.int le), .unset] [(.int (own1_f0 b103 (3 : Int32) of le))])) _
            refine XS.ifYes X17.here hx rfl (pc0 := 101) (pc' := 108) rfl (hb hby at_101) rfl ((if0 _ _).trans (teq hk_3).1) (by decide) (by decide) ?_
            show Steps p.tables e below (T17.setTop (mkF m 108 #[.val (.int p0), .val (.int p1), .val (.ref b1), .val (.int of), .val (.int le), .unset] [])) _
            refine XS.iconst X17.here hx rfl (hb hby at_108) ?_
            show Steps p.tables e below (T17.setTop (mkF m 109 #[.val (.int p0), .val (.int p1), .val (.ref b1), .val (.int of), .val (.int le), .unset] [(.int (0 : Int32))])) _
            refine XS.istore X17.here hx rfl (hb hby at_109) rfl (l' := #[.val (.int p0), .val (.int p1), .val (.ref b1), .val (.int of), .val (.int le), .val (.int (0 : Int32))]) rfl ?_
            exact kt
          refine own_go (B := T17.setTop (mkF m 115 #[.val (.int p0), .val (.int p1), .val (.ref b1), .val (.int of), .val (.int le), .val (.int (0 : Int32))] [(.int le), (.int of), (.ref b1)])) (fun t kt => ?_) ?_
          · show Steps p.tables e below (T17.setTop (mkF m 111 #[.val (.int p0), .val (.int p1), .val (.ref b1), .val (.int of), .val (.int le), .val (.int (0 : Int32))] [])) _
            refine XS.aloadN X17.here hx rfl (hb hby at_111) rfl rfl ?_
            show Steps p.tables e below (T17.setTop (mkF m 112 #[.val (.int p0), .val (.int p1), .val (.ref b1), .val (.int of), .val (.int le), .val (.int (0 : Int32))] [(.ref b1)])) _
            refine XS.iloadN X17.here hx rfl (hb hby at_112) rfl ?_
            show Steps p.tables e below (T17.setTop (mkF m 113 #[.val (.int p0), .val (.int p1), .val (.ref b1), .val (.int of), .val (.int le), .val (.int (0 : Int32))] [(.int of), (.ref b1)])) _
            refine XS.iload X17.here hx rfl (hb hby at_113) rfl ?_
            exact kt
          obtain ⟨_, _, ⟨T18, L18, k18, n18⟩, -, X18, ⟨Lc18, hQ18, l18, y18, z18⟩, st18⟩ := Jvm.LawKit.callS X17 hx (y := (⟨"com/example/hazy_hash/hazyhash/cli/NumberedLines", "isAscii", "([BII)Z"⟩ : MethodName)) hown (mvT hZ (hw _ (List.mem_of_getElem? (i := 5) rfl))) (mvT hZ (hw _ (List.mem_of_getElem? (i := 6) rfl))) (mvT hZ (hw _ (List.mem_of_getElem? (i := 7) rfl))) (mvT hZ (hw _ (List.mem_of_getElem? (i := 8) rfl))) (by decide) (backOf (W := 0) (rm2 l Z t0 hw [] b1 of le cl10 (own_g b100 b101 b102 b103) k h9 n0 Z9 Ar10 Hat (by rw [hsz]; exact hk2) hk1 hk3) hZ (hw _ (List.mem_of_getElem? (i := 8) rfl)) (hw _ (List.mem_of_getElem? (i := 7) rfl)) (by decide) (by decide)) (g := (mkF m 115 #[.val (.int p0), .val (.int p1), .val (.ref b1), .val (.int of), .val (.int le), .val (.int (0 : Int32))] [(.int le), (.int of), (.ref b1)])) rfl (by rw [hml]; rfl) (argsL := [(.ref b1), (.int of), (.int le)]) (rest := []) (lenOf pd_0_1 rfl) rfl (by show 2 * 0 + _ ≤ _; exact Nat.le_of_eq rfl) (hb hby at_115) (fun _ _ => ⟨rfl, e17, (by decide : 1 + 0 ≤ _), (by decide : 4 + 0 ≤ _)⟩)
          dsimp only [Pt.U, Pt.locs, Pt.cells, Pt.slots] at X18 l18 y18 z18 st18 hQ18
          subst l18 y18 z18
          obtain ⟨rfl, Nq18, hh18⟩ := hQ18
          have N18 := Fr.app N17 Nq18
          have e18 : T18.heap = h9 := hh18
          refine own_go (B := T18.setTop (mkF m 118 #[.val (.int p0), .val (.int p1), .val (.ref b1), .val (.int of), .val (.int le), .val (.int (0 : Int32))] [(.int (own_lp (own_g b100 b101 b102 b103) k of))])) (fun t kt => st18 t kt) ?_
          refine own_go (B := T18.setTop (mkF m 128 #[.val (.int p0), .val (.int p1), .val (.ref b1), .val (.int of), .val (.int le), .val (.int (0 : Int32))] [(.int (1 : Int32))])) (fun t kt => ?_) ?_
          · show Steps p.tables e below (T18.setTop (mkF m 118 #[.val (.int p0), .val (.int p1), .val (.ref b1), .val (.int of), .val (.int le), .val (.int (0 : Int32))] [(.int (own_lp (own_g b100 b101 b102 b103) k of))])) _
            refine XS.iload X18.here hx rfl (hb hby at_118) rfl ?_
            show Steps p.tables e below (T18.setTop (mkF m 120 #[.val (.int p0), .val (.int p1), .val (.ref b1), .val (.int of), .val (.int le), .val (.int (0 : Int32))] [(.int (0 : Int32)), (.int (own_lp (own_g b100 b101 b102 b103) k of))])) _
            refine XS.icmpNo X18.here hx rfl (hb hby at_120) rfl (teq (hmain.trans ((if_neg hk_0).trans ((if_neg hk_1).trans ((if_neg hk_2).trans (if_pos hk_3)))))).2 ?_
            show Steps p.tables e below (T18.setTop (mkF m 123 #[.val (.int p0), .val (.int p1), .val (.ref b1), .val (.int of), .val (.int le), .val (.int (0 : Int32))] [])) _
            refine XS.iconst X18.here hx rfl (hb hby at_123) ?_
            show Steps p.tables e below (T18.setTop (mkF m 124 #[.val (.int p0), .val (.int p1), .val (.ref b1), .val (.int of), .val (.int le), .val (.int (0 : Int32))] [(.int (1 : Int32))])) _
            refine XS.goto X18.here hx rfl (pc0 := 124) (pc' := 128) rfl (hb hby at_124) (by decide) (by decide) ?_
            exact kt
          obtain ⟨fs, hr, hrun, hended, hW, hsame⟩ := X18.leave (v := some (.int (1 : Int32))) (fun h => by rw [Bd.returns] at h; cases h)
          refine ⟨_, _, ?_, hrun, hended, _, _, rfl, ?_, ⟨_, rfl⟩, hW, hsame.mono (by decide) (by decide)⟩
          · show Steps p.tables e below (T18.setTop (mkF m 128 #[.val (.int p0), .val (.int p1), .val (.ref b1), .val (.int of), .val (.int le), .val (.int (0 : Int32))] [(.int (1 : Int32))])) _
            exact retN X18 hx (t := .boolean) Bd.returns (by simp) (hb hby at_128) hr
          · show Q0 n0 _ _
            exact ⟨rfl, N18⟩
        · refine own_go (B := T17.setTop (mkF m 111 #[.val (.int p0), .val (.int p1), .val (.ref b1), .val (.int of), .val (.int le), .val (.int (1 : Int32))] [])) (fun t kt => ?_) ?_
          · show Steps p.tables e below (T17.setTop (mkF m 101 #[.val (.int p0), .val (.int p1), .val (.ref b1), .val (.int of), .val (.int le), .unset] [(.int (own1_f0 b103 (3 : Int32) of le))])) _
            refine XS.ifNo X17.here hx rfl (hb hby at_101) rfl ((if0 _ _).trans (feq hk_3).1) ?_
            show Steps p.tables e below (T17.setTop (mkF m 104 #[.val (.int p0), .val (.int p1), .val (.ref b1), .val (.int of), .val (.int le), .unset] [])) _
            refine XS.iconst X17.here hx rfl (hb hby at_104) ?_
            show Steps p.tables e below (T17.setTop (mkF m 105 #[.val (.int p0), .val (.int p1), .val (.ref b1), .val (.int of), .val (.int le), .unset] [(.int (1 : Int32))])) _
            refine XS.goto X17.here hx rfl (pc0 := 105) (pc' := 109) rfl (hb hby at_105) (by decide) (by decide) ?_
            show Steps p.tables e below (T17.setTop (mkF m 109 #[.val (.int p0), .val (.int p1), .val (.ref b1), .val (.int of), .val (.int le), .unset] [(.int (1 : Int32))])) _
            refine XS.istore X17.here hx rfl (hb hby at_109) rfl (l' := #[.val (.int p0), .val (.int p1), .val (.ref b1), .val (.int of), .val (.int le), .val (.int (1 : Int32))]) rfl ?_
            exact kt
          refine own_go (B := T17.setTop (mkF m 115 #[.val (.int p0), .val (.int p1), .val (.ref b1), .val (.int of), .val (.int le), .val (.int (1 : Int32))] [(.int le), (.int of), (.ref b1)])) (fun t kt => ?_) ?_
          · show Steps p.tables e below (T17.setTop (mkF m 111 #[.val (.int p0), .val (.int p1), .val (.ref b1), .val (.int of), .val (.int le), .val (.int (1 : Int32))] [])) _
            refine XS.aloadN X17.here hx rfl (hb hby at_111) rfl rfl ?_
            show Steps p.tables e below (T17.setTop (mkF m 112 #[.val (.int p0), .val (.int p1), .val (.ref b1), .val (.int of), .val (.int le), .val (.int (1 : Int32))] [(.ref b1)])) _
            refine XS.iloadN X17.here hx rfl (hb hby at_112) rfl ?_
            show Steps p.tables e below (T17.setTop (mkF m 113 #[.val (.int p0), .val (.int p1), .val (.ref b1), .val (.int of), .val (.int le), .val (.int (1 : Int32))] [(.int of), (.ref b1)])) _
            refine XS.iload X17.here hx rfl (hb hby at_113) rfl ?_
            exact kt
          obtain ⟨_, _, ⟨T19, L19, k19, n19⟩, -, X19, ⟨Lc19, hQ19, l19, y19, z19⟩, st19⟩ := Jvm.LawKit.callS X17 hx (y := (⟨"com/example/hazy_hash/hazyhash/cli/NumberedLines", "isAscii", "([BII)Z"⟩ : MethodName)) hown (mvT hZ (hw _ (List.mem_of_getElem? (i := 5) rfl))) (mvT hZ (hw _ (List.mem_of_getElem? (i := 6) rfl))) (mvT hZ (hw _ (List.mem_of_getElem? (i := 7) rfl))) (mvT hZ (hw _ (List.mem_of_getElem? (i := 8) rfl))) (by decide) (backOf (W := 0) (rm2 l Z t0 hw [] b1 of le cl10 (own_g b100 b101 b102 b103) k h9 n0 Z9 Ar10 Hat (by rw [hsz]; exact hk2) hk1 hk3) hZ (hw _ (List.mem_of_getElem? (i := 8) rfl)) (hw _ (List.mem_of_getElem? (i := 7) rfl)) (by decide) (by decide)) (g := (mkF m 115 #[.val (.int p0), .val (.int p1), .val (.ref b1), .val (.int of), .val (.int le), .val (.int (1 : Int32))] [(.int le), (.int of), (.ref b1)])) rfl (by rw [hml]; rfl) (argsL := [(.ref b1), (.int of), (.int le)]) (rest := []) (lenOf pd_0_1 rfl) rfl (by show 2 * 0 + _ ≤ _; exact Nat.le_of_eq rfl) (hb hby at_115) (fun _ _ => ⟨rfl, e17, (by decide : 1 + 0 ≤ _), (by decide : 4 + 0 ≤ _)⟩)
          dsimp only [Pt.U, Pt.locs, Pt.cells, Pt.slots] at X19 l19 y19 z19 st19 hQ19
          subst l19 y19 z19
          obtain ⟨rfl, Nq19, hh19⟩ := hQ19
          have N19 := Fr.app N17 Nq19
          have e19 : T19.heap = h9 := hh19
          refine own_go (B := T19.setTop (mkF m 118 #[.val (.int p0), .val (.int p1), .val (.ref b1), .val (.int of), .val (.int le), .val (.int (1 : Int32))] [(.int (own_lp (own_g b100 b101 b102 b103) k of))])) (fun t kt => st19 t kt) ?_
          refine own_go (B := T19.setTop (mkF m 128 #[.val (.int p0), .val (.int p1), .val (.ref b1), .val (.int of), .val (.int le), .val (.int (1 : Int32))] [(.int (1 : Int32))])) (fun t kt => ?_) ?_
          · show Steps p.tables e below (T19.setTop (mkF m 118 #[.val (.int p0), .val (.int p1), .val (.ref b1), .val (.int of), .val (.int le), .val (.int (1 : Int32))] [(.int (own_lp (own_g b100 b101 b102 b103) k of))])) _
            refine XS.iload X19.here hx rfl (hb hby at_118) rfl ?_
            show Steps p.tables e below (T19.setTop (mkF m 120 #[.val (.int p0), .val (.int p1), .val (.ref b1), .val (.int of), .val (.int le), .val (.int (1 : Int32))] [(.int (1 : Int32)), (.int (own_lp (own_g b100 b101 b102 b103) k of))])) _
            refine XS.icmpNo X19.here hx rfl (hb hby at_120) rfl (teq (hmain.trans ((if_neg hk_0).trans ((if_neg hk_1).trans ((if_neg hk_2).trans (if_neg hk_3)))))).2 ?_
            show Steps p.tables e below (T19.setTop (mkF m 123 #[.val (.int p0), .val (.int p1), .val (.ref b1), .val (.int of), .val (.int le), .val (.int (1 : Int32))] [])) _
            refine XS.iconst X19.here hx rfl (hb hby at_123) ?_
            show Steps p.tables e below (T19.setTop (mkF m 124 #[.val (.int p0), .val (.int p1), .val (.ref b1), .val (.int of), .val (.int le), .val (.int (1 : Int32))] [(.int (1 : Int32))])) _
            refine XS.goto X19.here hx rfl (pc0 := 124) (pc' := 128) rfl (hb hby at_124) (by decide) (by decide) ?_
            exact kt
          obtain ⟨fs, hr, hrun, hended, hW, hsame⟩ := X19.leave (v := some (.int (1 : Int32))) (fun h => by rw [Bd.returns] at h; cases h)
          refine ⟨_, _, ?_, hrun, hended, _, _, rfl, ?_, ⟨_, rfl⟩, hW, hsame.mono (by decide) (by decide)⟩
          · show Steps p.tables e below (T19.setTop (mkF m 128 #[.val (.int p0), .val (.int p1), .val (.ref b1), .val (.int of), .val (.int le), .val (.int (1 : Int32))] [(.int (1 : Int32))])) _
            exact retN X19 hx (t := .boolean) Bd.returns (by simp) (hb hby at_128) hr
          · show Q0 n0 _ _
            exact ⟨rfl, N19⟩
set_option maxRecDepth 65536 in
set_option maxHeartbeats 40000000 in
theorem comes_1 {Post : Tables → Env → Array Value → State → Outcome → State → Prop} (hpost : ∀ tb e args s v u, (limb_1_1.after args s (.returned v) u = true ∧ limb_1_2.after args s (.returned v) u = true ∧ True) → FrameEnd s (.returned v) u (Jvm.fieldLocs frame_1_writes args s ++ Jvm.arrayLocs frame_1_arrays args s ++ Jvm.staticLocs frame_1_statics s) 16 128 → Post tb e args s (.returned v) u) :
    ArmFor flags0 classFile x code maxLocals ret World_1 tables_1 room_1 Calls_1 rest_1 Pre_1 Post := by
  intro l hfl _ _ p e ha hc hk s m args below hf hA hF happ hP
  obtain ⟨hcalls, hrest, hpre⟩ := hP
  obtain ⟨-, -, -, hnamed, -, -, -, hat⟩ := (Spec.applies_iff hf).mp happ
  obtain ⟨hg, hn⟩ := and_e (Cond.before_iff.mp (show (Jvm.Cond.and given_1 narrow_1).before args s = true from hpre))
  obtain ⟨ga0, gb0⟩ := and_e hg
  obtain ⟨ga1, gb1⟩ := and_e gb0
  obtain ⟨w0, w1, rfl⟩ : ∃ w0 w1 : Value, args = #[w0, w1] := by
    have hs : args.size = 2 := by simpa [Cond.value, given_1] using ga0
    obtain ⟨L⟩ := args
    match L, hs with
    | [w0, w1], _ => exact ⟨w0, w1, rfl⟩
  have hw := fun d (hd : d ∈ tables_1) => atoms_spec (ws := Jvm.Cond.code x code maxLocals ret :: tables_1) hat d (List.mem_cons_of_mem _ hd)
  obtain ⟨i0, ei0⟩ := is_v ga1
  obtain rfl : w0 = (.int i0) := Option.some.inj ei0
  obtain ⟨i1, ei1⟩ := is_v gb1
  obtain rfl : w1 = (.int i1) := Option.some.inj ei1
  obtain ⟨n, o, h1, h2, h3, _, L, rfl, ⟨rfl, N⟩, hq⟩ := rm0 l s _ hw tables_1 i0 i1 s.heap s.heap.size (Nat.le_refl _)  p e ha hc hk s m _ below hf ((Spec.applies_iff_loose hf).mp happ).1 ⟨rfl, State.Warmed39.refl s, rfl⟩ trivial
  refine ⟨n, _, h1, h2, h3, hpost _ _ _ _ _ _ ⟨Cond.after_iff.mpr rfl, Cond.after_iff.mpr (eq_i res_at (Term.int_eval (1)) rfl), trivial⟩ ⟨hq.1, hq.2.1, (hq.2.2.sift fun y hy => Or.inr (N y hy)).mono (by decide) (by decide)⟩⟩
theorem main_1_1 : Claimed_1_1 := comes_1 fun _ _ _ _ _ _ h hF => ⟨h.1, hF⟩
theorem main_1_2 : Claimed_1_2 := comes_1 fun _ _ _ _ _ _ h hF => ⟨h.2.1, hF⟩
end Jvm.Pilot.@@N@@
namespace Jvm.Pilot.@@N@@
open Jvm Jvm.ClassFile Sem Op Lib Jvm.Free Jvm.Stand Jvm.Pilot.@@N@@.Jvm.D
/-! MADE BY PROGRAM (witnessworld.py) out of the Statement's table words and the real class files: 7 classes; the members and pool entries that the words name. The judged class is class 1, her method 1. -/
namespace start1
open Jvm.ClassFile
def u (s : String) : CpInfo := .utf8 (stringToUtf16 s)
/-- a pool by its gaps: so many unusable entries, then the entry; so many at the end -/
def gap : Nat → List CpInfo → List CpInfo
  | 0, r => r
  | n + 1, r => .unusable :: gap n r
def poolList (es : List (Nat × CpInfo)) (last : Nat) : List CpInfo := es.foldr (fun e r => gap e.1 (e.2 :: r)) (gap last [])
def pool (es : List (Nat × CpInfo)) (last : Nat) : Array CpInfo := ⟨poolList es last⟩
def fileOf (pool : Array CpInfo) (this : Nat) (attrs : Array Attribute := #[]) (ms : Array MethodInfo := #[]) (fl : Nat := 33) (sup : Nat := 0) (ifs : Array Nat := #[]) (fds : Array FieldInfo := #[]) : ClassFile where
  minorVersion := 0
  majorVersion := 65
  constantPool := pool
  accessFlags := fl
  thisClass := this
  superClass := sup
  interfaces := ifs
  fields := fds
  methods := ms
  attributes := attrs
def plain (name : String) (sup : Option ClassId) : Class where
  name := name
  kind := .ordinary
  loader := none
  accessFlags := 33
  super := sup
  interfaces := #[]
  cf := none
  fields := #[]
  methods := #[]
  instanceTypes := #[]
  staticTypes := #[]
  resolved := #[]
  callSites := []
  init := .initialized
  statics := none
  mirror := none

def pool0 : Array CpInfo := pool [(5, u "<init>"), (0, u "()V"), (1, .class_ 10), (1, u "java/lang/Object")] 113

def k0m0 : Method := { name := "<init>", desc := "()V", sig := { parameters := [], returnType := none }, accessFlags := 1, code := none }
/-- java/lang/Object -/
def k0 : Class := { plain "java/lang/Object" none with
  accessFlags := 33
  interfaces := #[]
  cf := some (fileOf pool0 8 #[] #[{ accessFlags := 1, nameIndex := 5, descriptorIndex := 6, attributes := #[] }] 33 0 #[] #[])
  fields := #[]
  methods := #[k0m0]
  instanceTypes := #[]
  staticTypes := #[]
  resolved := Array.replicate 124 none
  statics := none }

def pool1 : Array CpInfo := pool [(2, .class_ 4), (1, u "java/lang/Object"), (0, u "<init>"), (0, u "()V"), (0, .methodref 8 9), (0, .class_ 10), (0, .nameAndType 11 12), (0, u "com/example/hazy_hash/hazyhash/cli/NumberedLinesIsAsciiPinLaw"), (0, u "ok"), (0, u "(BIII)Z"), (0, .methodref 14 15), (0, .class_ 16), (0, .nameAndType 17 18), (0, u "com/example/hazy_hash/hazyhash/cli/NumberedLines"), (0, u "isAscii"), (0, u "([BII)Z"), (2, u "law"), (0, u "(II)Z")] 5

def k1m0 : Method := { name := "<init>", desc := "()V", sig := { parameters := [], returnType := none }, accessFlags := 1, code := none }
def k1c1 : Code := { maxStack := 4, maxLocals := 6, code := code, exceptionTable := #[], attributes := #[] }
def k1m1 : Method := { name := "law", desc := "(II)Z", sig := { parameters := [.int, .int], returnType := some .boolean }, accessFlags := 9, code := some k1c1 }
def k1c2 : Code := { maxStack := 3, maxLocals := 4, code := method_3_code, exceptionTable := #[], attributes := #[] }
def k1m2 : Method := { name := "ok", desc := "(BIII)Z", sig := { parameters := [.byte, .int, .int, .int], returnType := some .boolean }, accessFlags := 10, code := some k1c2 }
/-- com/example/hazy_hash/hazyhash/cli/NumberedLinesIsAsciiPinLaw -/
def k1 : Class := { plain "com/example/hazy_hash/hazyhash/cli/NumberedLinesIsAsciiPinLaw" (some 0) with
  accessFlags := 49
  interfaces := #[]
  cf := some (fileOf pool1 8 #[] #[{ accessFlags := 1, nameIndex := 5, descriptorIndex := 6, attributes := #[] }, { accessFlags := 9, nameIndex := 21, descriptorIndex := 22, attributes := #[] }, { accessFlags := 10, nameIndex := 11, descriptorIndex := 12, attributes := #[] }] 49 2 #[] #[])
  fields := #[]
  methods := #[k1m0, k1m1, k1m2]
  instanceTypes := #[]
  staticTypes := #[]
  resolved := Array.replicate 28 none
  statics := none }

def pool2 : Array CpInfo := pool [(2, .class_ 4), (1, u "java/lang/Object"), (2, .class_ 8), (0, u "com/example/hazy_hash/hazyhash/cli/NumberedLines"), (3, u "buffer"), (0, u "[B"), (14, u "utf8"), (0, u "Ljava/nio/charset/CharsetDecoder;"), (2, u "carried"), (2, u "lineBytes"), (2, u "bytes"), (0, u "Ljava/io/InputStream;"), (2, u "path"), (0, u "Ljava/lang/String;"), (10, u "number"), (0, u "J"), (2, u "carriedLength"), (0, u "I"), (6, u "position"), (2, u "limit"), (13, u "lineOffset"), (2, u "lineLength"), (2, u "isAscii"), (0, u "([BII)Z"), (35, u "endedInLineFeed"), (0, u "Z"), (45, u "LONGEST"), (1, u "BUFFER")] 30

def k2c0 : Code := { maxStack := 3, maxLocals := 4, code := prog_50_method_16_code, exceptionTable := #[], attributes := #[] }
def k2m0 : Method := { name := "isAscii", desc := "([BII)Z", sig := { parameters := [(.array .byte), .int, .int], returnType := some .boolean }, accessFlags := 8, code := some k2c0 }
/-- com/example/hazy_hash/hazyhash/cli/NumberedLines -/
def k2 : Class := { plain "com/example/hazy_hash/hazyhash/cli/NumberedLines" (some 0) with
  accessFlags := 32
  interfaces := #[]
  cf := some (fileOf pool2 7 #[] #[{ accessFlags := 8, nameIndex := 89, descriptorIndex := 90, attributes := #[] }] 32 2 #[] #[{ accessFlags := 24, nameIndex := 173, descriptorIndex := 59, attributes := #[] }, { accessFlags := 26, nameIndex := 175, descriptorIndex := 59, attributes := #[] }, { accessFlags := 18, nameIndex := 38, descriptorIndex := 39, attributes := #[] }, { accessFlags := 18, nameIndex := 42, descriptorIndex := 43, attributes := #[] }, { accessFlags := 18, nameIndex := 12, descriptorIndex := 13, attributes := #[] }, { accessFlags := 18, nameIndex := 28, descriptorIndex := 29, attributes := #[] }, { accessFlags := 2, nameIndex := 32, descriptorIndex := 13, attributes := #[] }, { accessFlags := 2, nameIndex := 58, descriptorIndex := 59, attributes := #[] }, { accessFlags := 2, nameIndex := 66, descriptorIndex := 59, attributes := #[] }, { accessFlags := 2, nameIndex := 69, descriptorIndex := 59, attributes := #[] }, { accessFlags := 2, nameIndex := 54, descriptorIndex := 55, attributes := #[] }, { accessFlags := 2, nameIndex := 126, descriptorIndex := 127, attributes := #[] }, { accessFlags := 2, nameIndex := 35, descriptorIndex := 13, attributes := #[] }, { accessFlags := 2, nameIndex := 83, descriptorIndex := 59, attributes := #[] }, { accessFlags := 2, nameIndex := 86, descriptorIndex := 59, attributes := #[] }])
  fields := #[{ name := "LONGEST", type := .int, accessFlags := 24, slot := 0, constantValue := 0 }, { name := "BUFFER", type := .int, accessFlags := 26, slot := 1, constantValue := 0 }, { name := "bytes", type := (.object "java/io/InputStream"), accessFlags := 18, slot := 0, constantValue := 0 }, { name := "path", type := (.object "java/lang/String"), accessFlags := 18, slot := 1, constantValue := 0 }, { name := "buffer", type := (.array .byte), accessFlags := 18, slot := 2, constantValue := 0 }, { name := "utf8", type := (.object "java/nio/charset/CharsetDecoder"), accessFlags := 18, slot := 3, constantValue := 0 }, { name := "carried", type := (.array .byte), accessFlags := 2, slot := 4, constantValue := 0 }, { name := "carriedLength", type := .int, accessFlags := 2, slot := 5, constantValue := 0 }, { name := "position", type := .int, accessFlags := 2, slot := 6, constantValue := 0 }, { name := "limit", type := .int, accessFlags := 2, slot := 7, constantValue := 0 }, { name := "number", type := .long, accessFlags := 2, slot := 8, constantValue := 0 }, { name := "endedInLineFeed", type := .boolean, accessFlags := 2, slot := 9, constantValue := 0 }, { name := "lineBytes", type := (.array .byte), accessFlags := 2, slot := 10, constantValue := 0 }, { name := "lineOffset", type := .int, accessFlags := 2, slot := 11, constantValue := 0 }, { name := "lineLength", type := .int, accessFlags := 2, slot := 12, constantValue := 0 }]
  methods := #[k2m0]
  instanceTypes := #[(.object "java/io/InputStream"), (.object "java/lang/String"), (.array .byte), (.object "java/nio/charset/CharsetDecoder"), (.array .byte), .int, .int, .int, .long, .boolean, (.array .byte), .int, .int]
  staticTypes := #[.int, .int]
  resolved := Array.replicate 206 none
  statics := none }

def pool3 : Array CpInfo := pool [(1, u "java/lang/Cloneable"), (0, .class_ 1), (0, u "java/lang/Object"), (0, .class_ 3)] 3

/-- java/lang/Cloneable -/
def k3 : Class := { plain "java/lang/Cloneable" (some 0) with
  accessFlags := 1537
  interfaces := #[]
  cf := some (fileOf pool3 2 #[] #[] 1537 4 #[] #[])
  fields := #[]
  methods := #[]
  instanceTypes := #[]
  staticTypes := #[]
  resolved := Array.replicate 8 none
  statics := none }

def pool4 : Array CpInfo := pool [(1, u "java/io/Serializable"), (0, .class_ 1), (0, u "java/lang/Object"), (0, .class_ 3)] 3

/-- java/io/Serializable -/
def k4 : Class := { plain "java/io/Serializable" (some 0) with
  accessFlags := 1537
  interfaces := #[]
  cf := some (fileOf pool4 2 #[] #[] 1537 4 #[] #[])
  fields := #[]
  methods := #[]
  instanceTypes := #[]
  staticTypes := #[]
  resolved := Array.replicate 8 none
  statics := none }

/-- the primitive byte -/
def k5 : Class := { plain "byte" none with kind := .primitive 'B', accessFlags := 0x411 }
/-- [B -/
def k6 : Class := { plain "[B" (some 0) with kind := .array 5 .byte, interfaces := #[3, 4], accessFlags := 1041 }

def heap : Heap := #[]
def classes : Array Class := #[k0, k1, k2, k3, k4, k5, k6]
def interned : List (Array UInt16 × Addr) := []
def slotsUsed : Nat := 0
def theMethod : MethodId := ⟨1, 1⟩
def args0 : Array Value := #[.int 65, .int 9]
def aboutOver (below : List Frame) : State where
  vm := { classes := classes, interned := interned.toArray }
  heap := heap
  slotsUsed := slotsUsed
  threads := #[{ frames := .invoking theMethod args0 :: below }]
def below0 : List Frame := [.native { method := ⟨0, 0⟩, args := #[] }]
def about1 : State := aboutOver below0
def p0 : Program := .bare "" "" ""
def e0 : Env := launch0.env 0 0 0
theorem w_frames : about1.frames = Frame.invoking theMethod args0 :: below0 := rfl
set_option maxRecDepth 65536 in
theorem w_args : argsFit about1.vm theMethod args0 = true := by decide +kernel
set_option maxRecDepth 65536 in
theorem w_heap : heapFits about1 = true := by decide +kernel
set_option maxRecDepth 65536 in
theorem w_runnable : about1.curStatus? = some .runnable := by decide +kernel
set_option maxRecDepth 65536 in
theorem w_alone : about1.alone = true := by decide +kernel
set_option maxRecDepth 65536 in
theorem w_named : about1.methodNamed? x = some theMethod := by decide +kernel
set_option maxRecDepth 65536 in
theorem w_hears : about1.hears theMethod below0 = true := by decide +kernel
set_option maxRecDepth 65536 in
theorem w_ripe : about1.ripe theMethod args0 below0 = true := by decide +kernel
theorem w_running : about1.status = .running := rfl
set_option maxRecDepth 65536 in
theorem w_room : about1.hasRoom e0.platform room_1 = true :=
  launch0.hasRoom_least _ room_1 (by decide +kernel) (by decide +kernel) (by decide +kernel) (by decide +kernel) (by decide +kernel) (by decide +kernel)
theorem allAtoms_all (ts : List Jvm.Cond) (a : Array Jvm.Value) (st : Jvm.State) : (allAtoms ts).before a st = ts.all (fun c => c.before a st) := by
  induction ts with
  | nil => rfl
  | cons c t ih =>
    show (Jvm.Cond.and c (allAtoms t)).before a st = _
    rw [Jvm.Cond.before_and, ih, List.all_cons]
def words1 : List Jvm.Cond := Jvm.Cond.code x code maxLocals ret :: tables_1
/-- a 'code' word, met by the world's own term for the bytes: nothing is compared byte by byte -/
theorem code_word {y : MethodName} {bytes : ByteArray} {mx : Nat} {rt : Option FieldType} {a : Array Value} {s : State} {m : MethodId} {meth : Method} {c : Code} (h1 : s.methodNamed? y = some m) (h2 : s.vm.method? m = some meth) (h3 : meth.code = some c) (h4 : c.code = bytes)
    (h5 : (c.maxLocals == mx && c.exceptionTable.isEmpty && decide (c.maxStack ≤ mostOperands) && decide (meth.sig.returnType = rt) && !meth.locks && decide (parseMethodDescriptor y.desc = some meth.sig)) = true) : (Jvm.Cond.code y bytes mx rt).before a s = true := by
  simp only [Bool.and_eq_true, beq_iff_eq, Bool.not_eq_true', decide_eq_true_eq] at h5
  obtain ⟨⟨⟨⟨⟨g1, g2⟩, g3⟩, g4⟩, g5⟩, g6⟩ := h5
  simp [Cond.before, Cond.holds, Cond.value, h1, h2, h3, h4, g1, g2, g3, g4, g5, g6]
def isCode : Jvm.Cond → Bool
  | .code _ _ _ _ => true
  | _ => false
theorem all_split {L : List Jvm.Cond} {P : Jvm.Cond → Bool} (h1 : L.all (fun c => isCode c || P c) = true) (h2 : ∀ c ∈ L.filter isCode, P c = true) : L.all P = true := by
  refine List.all_eq_true.mpr fun c hc => ?_
  have h := List.all_eq_true.mp h1 c hc
  rcases Bool.eq_false_or_eq_true (isCode c) with hi | hi
  · exact h2 c (List.mem_filter.mpr ⟨hc, hi⟩)
  · simpa [hi] using h
set_option maxRecDepth 65536 in
theorem w_c0 : (Jvm.Cond.code x code maxLocals ret).before args0 about1 = true := code_word (m := ⟨1, 1⟩) (meth := k1m1) (c := k1c1) (by decide +kernel) rfl rfl rfl (by decide +kernel)
set_option maxRecDepth 65536 in
theorem w_c1 : (Jvm.Cond.code ({ cls := "com/example/hazy_hash/hazyhash/cli/NumberedLinesIsAsciiPinLaw", name := "ok", desc := "(BIII)Z" } : Jvm.MethodName) method_3_code (4 : Nat) (Option.some Jvm.ClassFile.FieldType.boolean)).before args0 about1 = true := code_word (m := ⟨1, 2⟩) (meth := k1m2) (c := k1c2) (by decide +kernel) rfl rfl rfl (by decide +kernel)
set_option maxRecDepth 65536 in
theorem w_c2 : (Jvm.Cond.code ({ cls := "com/example/hazy_hash/hazyhash/cli/NumberedLines", name := "isAscii", desc := "([BII)Z" } : Jvm.MethodName) prog_50_method_16_code (4 : Nat) (Option.some Jvm.ClassFile.FieldType.boolean)).before args0 about1 = true := code_word (m := ⟨2, 0⟩) (meth := k2m0) (c := k2c0) (by decide +kernel) rfl rfl rfl (by decide +kernel)
def codes1 : List Jvm.Cond := [Jvm.Cond.code x code maxLocals ret, Jvm.Cond.code ({ cls := "com/example/hazy_hash/hazyhash/cli/NumberedLinesIsAsciiPinLaw", name := "ok", desc := "(BIII)Z" } : Jvm.MethodName) method_3_code (4 : Nat) (Option.some Jvm.ClassFile.FieldType.boolean), Jvm.Cond.code ({ cls := "com/example/hazy_hash/hazyhash/cli/NumberedLines", name := "isAscii", desc := "([BII)Z" } : Jvm.MethodName) prog_50_method_16_code (4 : Nat) (Option.some Jvm.ClassFile.FieldType.boolean)]
set_option maxRecDepth 65536 in
theorem codes_eq : words1.filter isCode = codes1 := rfl
theorem w_codes : ∀ c ∈ words1.filter isCode, c.before args0 about1 = true := by
  rw [codes_eq]
  intro c hc
  simp only [codes1, List.mem_cons, List.not_mem_nil, or_false] at hc
  rcases hc with rfl | rfl | rfl
  · exact w_c0
  · exact w_c1
  · exact w_c2
set_option maxRecDepth 65536 in
theorem w_t1 : words1.all (fun c => isCode c || c.before args0 about1) = true := by decide +kernel
theorem w_tables : (allAtoms (Jvm.Cond.code x code maxLocals ret :: tables_1)).before args0 about1 = true := by
  rw [allAtoms_all]
  show words1.all (fun c => c.before args0 about1) = true
  refine all_split ?_ w_codes
  rw [w_t1]
set_option maxRecDepth 65536 in
theorem w_case : (Jvm.Cond.and given_1 narrow_1).before args0 about1 = true := by decide +kernel
theorem w_applies : (headSpec (Jvm.Cond.code x code maxLocals ret :: tables_1) room_1).applies x e0.platform about1 = true :=
  (Spec.applies_iff w_frames).mpr ⟨w_running, w_runnable, w_alone, w_named, w_hears, w_ripe, w_room, w_tables⟩
theorem atStart : AtStart classFile x code maxLocals ret World_1 tables_1 room_1 Calls_1 rest_1 Pre_1 launch0 p0 e0 about1 theMethod args0 below0 :=
  ⟨lists_1, trivial, launch0.admits_env _ _ _, launch0.least_env, fairChoices_fair.cas, fairChoices_fair.clock, w_frames, w_args, w_heap, w_applies, trivial, trivial, w_case⟩
end start1
theorem witness_1 : WitnessClaimed_1 := ⟨start1.p0, start1.e0, start1.about1, start1.theMethod, start1.args0, start1.below0, start1.atStart⟩
end Jvm.Pilot.@@N@@
