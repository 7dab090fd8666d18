import JvmDerived
import JvmDerived.Pilot.@@N@@Statement
import JvmDerived.Pilot.@@N@@Code
set_option linter.unusedVariables false
set_option linter.unusedSimpArgs false
namespace Jvm.RoadKit
open Sem ClassFile Op Lib Jvm.Stand Jvm.Free Jvm.LawKit
section New
variable {p : Program} {l : Launch} {e : Env} {R : Room} {s : State} {m : MethodId} {args : Array Value} {below : List Frame} {meth : Method} {c : Code} {T : State} {locs : List Loc} {cells slots : Nat}
theorem retI (X : Stand p l e R s m args below meth c T locs cells slots) (hx : p.tables.exec = Jvm.exec) {pc : Nat} {Ls : Array Slot} {z : Int32} {rest : List Value} (hret : meth.sig.returnType = some .int) (hd : decode c.code pc = .ok (.ireturn, 1)) {fs : List Frame}
    (hl : ∀ (f : JFrame) (acts : List Action), f.method = m → f.locked = none → f.entered = [] → (doReturn e (T.setTop f) acts (some (.int z))).1 = T.setFrames fs) : Steps p.tables e below (T.setTop (mkF m pc Ls (.int z :: rest))) (T.setFrames fs) := by
  have hm' : T.vm.method? m = some meth := X.method'
  have hn : narrow .int (.int z) = .int z := rfl
  show Steps p.tables e below (T.setTop { method := m, pc := pc, locals := Ls, stack := _ :: rest, locked := none }) _
  jvm_step X.here [X.here.top, hx, hd, hm', hret, hn]
  first | (intro acts; rw [hl _ acts rfl rfl rfl]) | rw [hl _ _ rfl rfl rfl]
  exact Steps.refl _
end New
end Jvm.RoadKit
namespace Jvm.Pilot.@@N@@
open Jvm Jvm.ClassFile Sem Op Lib Jvm.Free Jvm.Stand Jvm.LawKit Jvm.RoadKit Bundle Jvm.Pilot.@@N@@.Jvm.D

theorem own_go {tb : Tables} {e : Env} {below : List Frame} {A B : State} {Φ : State → Outcome → Prop} (st : ∀ t, Steps tb e below B t → Steps tb e below A t) (h : ∃ s₂ o, Steps tb e below B s₂ ∧ Φ s₂ o) : ∃ s₂ o, Steps tb e below A s₂ ∧ Φ s₂ o := by
  obtain ⟨t, o, h1, h2⟩ := h
  exact ⟨t, o, st t h1, h2⟩
theorem d1_0 : decode prog_97_method_10_code 0 = .ok (.iload_n 0, 1) := by decide +kernel
theorem d1_1 : decode prog_97_method_10_code 1 = .ok (.bipush 32, 2) := by decide +kernel
theorem d1_3 : decode prog_97_method_10_code 3 = .ok (.if_icmp .eq 21, 3) := by decide +kernel
theorem d1_6 : decode prog_97_method_10_code 6 = .ok (.iload_n 0, 1) := by decide +kernel
theorem d1_7 : decode prog_97_method_10_code 7 = .ok (.bipush 9, 2) := by decide +kernel
theorem d1_9 : decode prog_97_method_10_code 9 = .ok (.if_icmp .eq 15, 3) := by decide +kernel
theorem d1_12 : decode prog_97_method_10_code 12 = .ok (.iload_n 0, 1) := by decide +kernel
theorem d1_13 : decode prog_97_method_10_code 13 = .ok (.bipush 13, 2) := by decide +kernel
theorem d1_15 : decode prog_97_method_10_code 15 = .ok (.if_icmp .eq 9, 3) := by decide +kernel
theorem d1_18 : decode prog_97_method_10_code 18 = .ok (.iload_n 0, 1) := by decide +kernel
theorem d1_19 : decode prog_97_method_10_code 19 = .ok (.bipush 10, 2) := by decide +kernel
theorem d1_21 : decode prog_97_method_10_code 21 = .ok (.if_icmp .ne 7, 3) := by decide +kernel
theorem d1_24 : decode prog_97_method_10_code 24 = .ok (.iconst 1, 1) := by decide +kernel
theorem d1_25 : decode prog_97_method_10_code 25 = .ok (.goto 4, 3) := by decide +kernel
theorem d1_28 : decode prog_97_method_10_code 28 = .ok (.iconst 0, 1) := by decide +kernel
theorem d1_29 : decode prog_97_method_10_code 29 = .ok (.ireturn, 1) := by decide +kernel
def own1_f24 (p0 : Int32) : Int32 := (1 : Int32)
theorem own1_e24 (p0 : Int32) : (own1_f24 p0) = (1 : Int32) := rfl
set_option maxRecDepth 65536 in
set_option maxHeartbeats 40000000 in
theorem own1_b24 {p : Program} {l : Launch} {e : Env} {R : Room} {s : State} {m : MethodId} {args : Array Value} {below : List Frame} {meth : Method} {c : Code} {T0 : State} {locs : List Loc} {cells slots : Nat} {Z : State} {t0 : Array Value} {h0 : Heap} (p0 : Int32) (X0 : Stand p l e R s m args below meth c T0 locs cells slots) (hx : p.tables.exec = Jvm.exec) (hZ : Z.Warmed39 s.vm) (hw : ∀ d ∈ tables_1, d.before t0 Z = true) (hby : c.code = prog_97_method_10_code) (hown : s.vm.findClass "com/example/crisp_events/crispevents/eventing/XPathValue" = some m.cls) (e0 : T0.heap = h0)  (hret : meth.sig.returnType = some .boolean) {fs : List Frame} (hr : ∀ (f : JFrame) (acts : List Action), f.method = m → f.locked = none → f.entered = [] → (doReturn e (T0.setTop f) acts (some (.int (own1_f24 p0)))).1 = T0.setFrames fs) : Steps p.tables e below (T0.setTop (mkF m 24 #[.val (.int p0)] [])) (T0.setFrames fs) := by
  rw [own1_e24] at hr
  show Steps p.tables e below (T0.setTop (mkF m 24 #[.val (.int p0)] [])) _
  refine XS.iconst X0.here hx rfl (hb hby d1_24) ?_
  show Steps p.tables e below (T0.setTop (mkF m 25 #[.val (.int p0)] [(.int (1 : Int32))])) _
  refine XS.goto X0.here hx rfl (pc0 := 25) (pc' := 29) rfl (hb hby d1_25) (by decide) (by decide) ?_
  show Steps p.tables e below (T0.setTop (mkF m 29 #[.val (.int p0)] [(.int (1 : Int32))])) _
  exact retN X0 hx (t := .boolean) hret (by simp) (hb hby d1_29) hr
def own1_f0 (p0 : Int32) : Int32 := (if p0 = (32 : Int32) then (own1_f24 p0) else (if p0 = (9 : Int32) then (own1_f24 p0) else (if p0 = (13 : Int32) then (own1_f24 p0) else (if p0 = (10 : Int32) then (own1_f24 p0) else (0 : Int32)))))
theorem own1_e0 (p0 : Int32) : (own1_f0 p0) = (if p0 = (32 : Int32) then (own1_f24 p0) else (if p0 = (9 : Int32) then (own1_f24 p0) else (if p0 = (13 : Int32) then (own1_f24 p0) else (if p0 = (10 : Int32) then (own1_f24 p0) else (0 : Int32))))) := rfl
set_option maxRecDepth 65536 in
set_option maxHeartbeats 40000000 in
theorem own1_b0 {p : Program} {l : Launch} {e : Env} {R : Room} {s : State} {m : MethodId} {args : Array Value} {below : List Frame} {meth : Method} {c : Code} {T0 : State} {locs : List Loc} {cells slots : Nat} {Z : State} {t0 : Array Value} {h0 : Heap} (p0 : Int32) (X0 : Stand p l e R s m args below meth c T0 locs cells slots) (hx : p.tables.exec = Jvm.exec) (hZ : Z.Warmed39 s.vm) (hw : ∀ d ∈ tables_1, d.before t0 Z = true) (hby : c.code = prog_97_method_10_code) (hown : s.vm.findClass "com/example/crisp_events/crispevents/eventing/XPathValue" = some m.cls) (e0 : T0.heap = h0)  (hret : meth.sig.returnType = some .boolean) {fs : List Frame} (hr : ∀ (f : JFrame) (acts : List Action), f.method = m → f.locked = none → f.entered = [] → (doReturn e (T0.setTop f) acts (some (.int (own1_f0 p0)))).1 = T0.setFrames fs) : Steps p.tables e below (T0.setTop (mkF m 0 #[.val (.int p0)] [])) (T0.setFrames fs) := by
  rw [own1_e0] at hr
  show Steps p.tables e below (T0.setTop (mkF m 0 #[.val (.int p0)] [])) _
  refine XS.iloadN X0.here hx rfl (hb hby d1_0) rfl ?_
  show Steps p.tables e below (T0.setTop (mkF m 1 #[.val (.int p0)] [(.int p0)])) _
  refine XS.bipush X0.here hx rfl (hb hby d1_1) ?_
  by_cases hc3 : p0 = (32 : Int32)
  · rw [if_pos hc3] at hr
    show Steps p.tables e below (T0.setTop (mkF m 3 #[.val (.int p0)] [(.int (32 : Int32)), (.int p0)])) _
    refine XS.icmpYes X0.here hx rfl (pc0 := 3) (pc' := 24) rfl (hb hby d1_3) rfl (teq hc3).1 (by decide) (by decide) ?_
    exact own1_b24 p0 X0 hx hZ hw hby hown e0  hret hr
  · rw [if_neg hc3] at hr
    show Steps p.tables e below (T0.setTop (mkF m 3 #[.val (.int p0)] [(.int (32 : Int32)), (.int p0)])) _
    refine XS.icmpNo X0.here hx rfl (hb hby d1_3) rfl (feq hc3).1 ?_
    show Steps p.tables e below (T0.setTop (mkF m 6 #[.val (.int p0)] [])) _
    refine XS.iloadN X0.here hx rfl (hb hby d1_6) rfl ?_
    show Steps p.tables e below (T0.setTop (mkF m 7 #[.val (.int p0)] [(.int p0)])) _
    refine XS.bipush X0.here hx rfl (hb hby d1_7) ?_
    by_cases hc9 : p0 = (9 : Int32)
    · rw [if_pos hc9] at hr
      show Steps p.tables e below (T0.setTop (mkF m 9 #[.val (.int p0)] [(.int (9 : Int32)), (.int p0)])) _
      refine XS.icmpYes X0.here hx rfl (pc0 := 9) (pc' := 24) rfl (hb hby d1_9) rfl (teq hc9).1 (by decide) (by decide) ?_
      exact own1_b24 p0 X0 hx hZ hw hby hown e0  hret hr
    · rw [if_neg hc9] at hr
      show Steps p.tables e below (T0.setTop (mkF m 9 #[.val (.int p0)] [(.int (9 : Int32)), (.int p0)])) _
      refine XS.icmpNo X0.here hx rfl (hb hby d1_9) rfl (feq hc9).1 ?_
      show Steps p.tables e below (T0.setTop (mkF m 12 #[.val (.int p0)] [])) _
      refine XS.iloadN X0.here hx rfl (hb hby d1_12) rfl ?_
      show Steps p.tables e below (T0.setTop (mkF m 13 #[.val (.int p0)] [(.int p0)])) _
      refine XS.bipush X0.here hx rfl (hb hby d1_13) ?_
      by_cases hc15 : p0 = (13 : Int32)
      · rw [if_pos hc15] at hr
        show Steps p.tables e below (T0.setTop (mkF m 15 #[.val (.int p0)] [(.int (13 : Int32)), (.int p0)])) _
        refine XS.icmpYes X0.here hx rfl (pc0 := 15) (pc' := 24) rfl (hb hby d1_15) rfl (teq hc15).1 (by decide) (by decide) ?_
        exact own1_b24 p0 X0 hx hZ hw hby hown e0  hret hr
      · rw [if_neg hc15] at hr
        show Steps p.tables e below (T0.setTop (mkF m 15 #[.val (.int p0)] [(.int (13 : Int32)), (.int p0)])) _
        refine XS.icmpNo X0.here hx rfl (hb hby d1_15) rfl (feq hc15).1 ?_
        show Steps p.tables e below (T0.setTop (mkF m 18 #[.val (.int p0)] [])) _
        refine XS.iloadN X0.here hx rfl (hb hby d1_18) rfl ?_
        show Steps p.tables e below (T0.setTop (mkF m 19 #[.val (.int p0)] [(.int p0)])) _
        refine XS.bipush X0.here hx rfl (hb hby d1_19) ?_
        by_cases hc21 : p0 = (10 : Int32)
        · rw [if_pos hc21] at hr
          show Steps p.tables e below (T0.setTop (mkF m 21 #[.val (.int p0)] [(.int (10 : Int32)), (.int p0)])) _
          refine XS.icmpNo X0.here hx rfl (hb hby d1_21) rfl (teq hc21).2 ?_
          exact own1_b24 p0 X0 hx hZ hw hby hown e0  hret hr
        · rw [if_neg hc21] at hr
          show Steps p.tables e below (T0.setTop (mkF m 21 #[.val (.int p0)] [(.int (10 : Int32)), (.int p0)])) _
          refine XS.icmpYes X0.here hx rfl (pc0 := 21) (pc' := 28) rfl (hb hby d1_21) rfl (feq hc21).2 (by decide) (by decide) ?_
          show Steps p.tables e below (T0.setTop (mkF m 28 #[.val (.int p0)] [])) _
          refine XS.iconst X0.here hx rfl (hb hby d1_28) ?_
          show Steps p.tables e below (T0.setTop (mkF m 29 #[.val (.int p0)] [(.int (0 : Int32))])) _
          exact retN X0 hx (t := .boolean) hret (by simp) (hb hby d1_29) hr
theorem ef_1 (m : MethodId) (p0 : Int32) : entryFrame m #[(.int p0)] 1 = mkF m 0 #[.val (.int p0)] [] := by first | (simp [entryFrame, mkF, argsToLocals, Value.category]; done) | rfl
theorem pn_1 : plainName "com/example/crisp_events/crispevents/eventing/XPathValue" = true := by first | (simp [plainName, overriddenIn]; done) | decide +kernel
def Q1 (p0 : Int32) (h0 : Heap) (n0 : Nat) (v : Option Value) (h : Heap) (L : List Loc) : Prop := v = some (.int (own1_f0 p0)) ∧ Fr n0 L ∧ h = h0
set_option maxRecDepth 65536 in
set_option maxHeartbeats 40000000 in
theorem rm1 (l : Launch) (Z : State) (t0 : Array Value) (hw : ∀ d ∈ tables_1, d.before t0 Z = true) (ws : List Jvm.Cond) (p0 : Int32) (h0 : Heap) (n0 : Nat) (Z0 : n0 ≤ h0.size)  :
    MetFree l (⟨"com/example/crisp_events/crispevents/eventing/XPathValue", "isWhiteSpace", "(I)Z"⟩ : MethodName) (head1 (Jvm.Cond.code (⟨"com/example/crisp_events/crispevents/eventing/XPathValue", "isWhiteSpace", "(I)Z"⟩ : MethodName) prog_97_method_10_code 1 (some .boolean) :: ws) ({ frames := 0, cells := 0, slots := 0, locals := 0 } : Room)) (fun a U => a = #[(.int p0)] ∧ Z.Warmed39 U.vm ∧ U.heap = h0) (fun _ _ _ _ _ => True) (fun _ U o U' => ∃ v L, o = .returned v ∧ Q1 p0 h0 n0 v U'.heap L ∧ FrameEnd U o U' L ({ frames := 0, cells := 0, slots := 0, locals := 0 } : Room).cells ({ frames := 0, cells := 0, slots := 0, locals := 0 } : Room).slots) := by
  refine MetFree.of_bodySF (plainFor_of_name pn_1) hisR ?_
  intro p e s m args below meth c s₁ Bd hml0 hP hK
  obtain ⟨rfl, hZ, hh⟩ := hP
  have hx := Bd.exec
  have hby := Bd.bytes
  have hml : c.maxLocals = 1 := hml0
  have hown : s.vm.findClass "com/example/crisp_events/crispevents/eventing/XPathValue" = some m.cls := findClass_of_methodNamed Bd.named
  have hnm := (name_of_methodNamed Bd.named Bd.method).1
  have X0 : Stand p l e ({ frames := 0, cells := 0, slots := 0, locals := 0 } : Room) s m #[(.int p0)] below meth c s₁ [] 0 0 := Stand.of_body Bd
  have e0 : s₁.heap = h0 := by rw [← hh, Bd.state]; rfl
  have N0 := Fr.nil n0
  have pre0 : ∀ t, Steps p.tables e below (s₁.setTop (mkF m 0 #[.val (.int p0)] [])) t → Steps p.tables e below (s₁.setTop (entryFrame m #[(.int p0)] 1)) t := fun t k => castTop (ef_1 m p0) k
  obtain ⟨fs, hr, hrun, hended, hW, hsame⟩ := X0.leave (v := some (.int (own1_f0 p0))) (fun h => by rw [Bd.returns] at h; cases h)
  refine ⟨_, _, pre0 _ ?_, hrun, hended, _, _, rfl, ?_, ⟨_, rfl⟩, hW, hsame.mono (by decide) (by decide)⟩
  · exact own1_b0 p0 X0 hx hZ hw hby hown e0  Bd.returns hr
  · show Q1 p0 h0 n0 _ s₁.heap _
    rw [e0]
    exact ⟨rfl, N0, rfl⟩
theorem d2_0 : decode method_2_code 0 = .ok (.iload_n 0, 1) := by decide +kernel
theorem d2_1 : decode method_2_code 1 = .ok (.ifCond .lt 25, 3) := by decide +kernel
theorem d2_4 : decode method_2_code 4 = .ok (.iload_n 0, 1) := by decide +kernel
theorem d2_5 : decode method_2_code 5 = .ok (.bipush 64, 2) := by decide +kernel
theorem d2_7 : decode method_2_code 7 = .ok (.if_icmp .ge 19, 3) := by decide +kernel
theorem d2_10 : decode method_2_code 10 = .ok (.ldc2_w 9, 3) := by decide +kernel
theorem d2_13 : decode method_2_code 13 = .ok (.iload_n 0, 1) := by decide +kernel
theorem d2_14 : decode method_2_code 14 = .ok (.lushr, 1) := by decide +kernel
theorem d2_15 : decode method_2_code 15 = .ok (.lconst 1, 1) := by decide +kernel
theorem d2_16 : decode method_2_code 16 = .ok (.land, 1) := by decide +kernel
theorem d2_17 : decode method_2_code 17 = .ok (.lconst 0, 1) := by decide +kernel
theorem d2_18 : decode method_2_code 18 = .ok (.lcmp, 1) := by decide +kernel
theorem d2_19 : decode method_2_code 19 = .ok (.ifCond .eq 7, 3) := by decide +kernel
theorem d2_22 : decode method_2_code 22 = .ok (.iconst 1, 1) := by decide +kernel
theorem d2_23 : decode method_2_code 23 = .ok (.goto 4, 3) := by decide +kernel
theorem d2_26 : decode method_2_code 26 = .ok (.iconst 0, 1) := by decide +kernel
theorem d2_27 : decode method_2_code 27 = .ok (.ireturn, 1) := by decide +kernel
def own2_f26 (p0 : Int32) : Int32 := (0 : Int32)
theorem own2_e26 (p0 : Int32) : (own2_f26 p0) = (0 : Int32) := rfl
set_option maxRecDepth 65536 in
set_option maxHeartbeats 40000000 in
theorem own2_b26 {p : Program} {l : Launch} {e : Env} {R : Room} {s : State} {m : MethodId} {args : Array Value} {below : List Frame} {meth : Method} {c : Code} {T0 : State} {locs : List Loc} {cells slots : Nat} {Z : State} {t0 : Array Value} {h0 : Heap} (p0 : Int32) (X0 : Stand p l e R s m args below meth c T0 locs cells slots) (hx : p.tables.exec = Jvm.exec) (hZ : Z.Warmed39 s.vm) (hw : ∀ d ∈ tables_1, d.before t0 Z = true) (hby : c.code = method_2_code) (hown : s.vm.findClass "com/example/crisp_events/crispevents/eventing/XPathValueIsWhiteSpacePinLaw" = some m.cls) (e0 : T0.heap = h0)  (hret : meth.sig.returnType = some .boolean) {fs : List Frame} (hr : ∀ (f : JFrame) (acts : List Action), f.method = m → f.locked = none → f.entered = [] → (doReturn e (T0.setTop f) acts (some (.int (own2_f26 p0)))).1 = T0.setFrames fs) : Steps p.tables e below (T0.setTop (mkF m 26 #[.val (.int p0)] [])) (T0.setFrames fs) := by
  rw [own2_e26] at hr
  show Steps p.tables e below (T0.setTop (mkF m 26 #[.val (.int p0)] [])) _
  refine XS.iconst X0.here hx rfl (hb hby d2_26) ?_
  show Steps p.tables e below (T0.setTop (mkF m 27 #[.val (.int p0)] [(.int (0 : Int32))])) _
  exact retN X0 hx (t := .boolean) hret (by simp) (hb hby d2_27) hr
def own2_f0 (p0 : Int32) : Int32 := (if p0 < (0 : Int32) then (own2_f26 p0) else (if p0 < (64 : Int32) then (if (lcmpW ((((4294977024 : Int64).toUInt64 >>> (p0 &&& 0x3f).toInt64.toUInt64).toInt64) &&& (1 : Int64)) (0 : Int64)) = (0 : Int32) then (own2_f26 p0) else (1 : Int32)) else (own2_f26 p0)))
theorem own2_e0 (p0 : Int32) : (own2_f0 p0) = (if p0 < (0 : Int32) then (own2_f26 p0) else (if p0 < (64 : Int32) then (if (lcmpW ((((4294977024 : Int64).toUInt64 >>> (p0 &&& 0x3f).toInt64.toUInt64).toInt64) &&& (1 : Int64)) (0 : Int64)) = (0 : Int32) then (own2_f26 p0) else (1 : Int32)) else (own2_f26 p0))) := rfl
set_option maxRecDepth 65536 in
set_option maxHeartbeats 40000000 in
theorem own2_b0 {p : Program} {l : Launch} {e : Env} {R : Room} {s : State} {m : MethodId} {args : Array Value} {below : List Frame} {meth : Method} {c : Code} {T0 : State} {locs : List Loc} {cells slots : Nat} {Z : State} {t0 : Array Value} {h0 : Heap} (p0 : Int32) (X0 : Stand p l e R s m args below meth c T0 locs cells slots) (hx : p.tables.exec = Jvm.exec) (hZ : Z.Warmed39 s.vm) (hw : ∀ d ∈ tables_1, d.before t0 Z = true) (hby : c.code = method_2_code) (hown : s.vm.findClass "com/example/crisp_events/crispevents/eventing/XPathValueIsWhiteSpacePinLaw" = some m.cls) (e0 : T0.heap = h0)  (hret : meth.sig.returnType = some .boolean) {fs : List Frame} (hr : ∀ (f : JFrame) (acts : List Action), f.method = m → f.locked = none → f.entered = [] → (doReturn e (T0.setTop f) acts (some (.int (own2_f0 p0)))).1 = T0.setFrames fs) : Steps p.tables e below (T0.setTop (mkF m 0 #[.val (.int p0)] [])) (T0.setFrames fs) := by
  rw [own2_e0] at hr
  show Steps p.tables e below (T0.setTop (mkF m 0 #[.val (.int p0)] [])) _
  refine XS.iloadN X0.here hx rfl (hb hby d2_0) rfl ?_
  by_cases hc1 : p0 < (0 : Int32)
  · rw [if_pos hc1] at hr
    show Steps p.tables e below (T0.setTop (mkF m 1 #[.val (.int p0)] [(.int p0)])) _
    refine XS.ifYes X0.here hx rfl (pc0 := 1) (pc' := 26) rfl (hb hby d2_1) rfl ((if0 _ _).trans (tlt hc1).1) (by decide) (by decide) ?_
    exact own2_b26 p0 X0 hx hZ hw hby hown e0  hret hr
  · rw [if_neg hc1] at hr
    show Steps p.tables e below (T0.setTop (mkF m 1 #[.val (.int p0)] [(.int p0)])) _
    refine XS.ifNo X0.here hx rfl (hb hby d2_1) rfl ((if0 _ _).trans (flt hc1).1) ?_
    show Steps p.tables e below (T0.setTop (mkF m 4 #[.val (.int p0)] [])) _
    refine XS.iloadN X0.here hx rfl (hb hby d2_4) rfl ?_
    show Steps p.tables e below (T0.setTop (mkF m 5 #[.val (.int p0)] [(.int p0)])) _
    refine XS.bipush X0.here hx rfl (hb hby d2_5) ?_
    by_cases hc7 : p0 < (64 : Int32)
    · rw [if_pos hc7] at hr
      show Steps p.tables e below (T0.setTop (mkF m 7 #[.val (.int p0)] [(.int (64 : Int32)), (.int p0)])) _
      refine XS.icmpNo X0.here hx rfl (hb hby d2_7) rfl (tlt hc7).2.1 ?_
      show Steps p.tables e below (T0.setTop (mkF m 10 #[.val (.int p0)] [])) _
      refine X0.ldc2Long hx hown (mvT hZ (hw _ (List.mem_of_getElem? (i := 8) rfl))) (g := (mkF m 10 #[.val (.int p0)] [])) rfl (hb hby d2_10) _ ?_
      show Steps p.tables e below (T0.setTop (mkF m 13 #[.val (.int p0)] [(.long (4294977024 : Int64))])) _
      refine XS.iloadN X0.here hx rfl (hb hby d2_13) rfl ?_
      show Steps p.tables e below (T0.setTop (mkF m 14 #[.val (.int p0)] [(.int p0), (.long (4294977024 : Int64))])) _
      refine XS.lushr X0.here hx rfl (hb hby d2_14) rfl ?_
      show Steps p.tables e below (T0.setTop (mkF m 15 #[.val (.int p0)] [(.long (((4294977024 : Int64).toUInt64 >>> (p0 &&& 0x3f).toInt64.toUInt64).toInt64))])) _
      refine XS.lconst X0.here hx rfl (hb hby d2_15) ?_
      show Steps p.tables e below (T0.setTop (mkF m 16 #[.val (.int p0)] [(.long (1 : Int64)), (.long (((4294977024 : Int64).toUInt64 >>> (p0 &&& 0x3f).toInt64.toUInt64).toInt64))])) _
      refine XS.land X0.here hx rfl (hb hby d2_16) rfl ?_
      show Steps p.tables e below (T0.setTop (mkF m 17 #[.val (.int p0)] [(.long ((((4294977024 : Int64).toUInt64 >>> (p0 &&& 0x3f).toInt64.toUInt64).toInt64) &&& (1 : Int64)))])) _
      refine XS.lconst X0.here hx rfl (hb hby d2_17) ?_
      show Steps p.tables e below (T0.setTop (mkF m 18 #[.val (.int p0)] [(.long (0 : Int64)), (.long ((((4294977024 : Int64).toUInt64 >>> (p0 &&& 0x3f).toInt64.toUInt64).toInt64) &&& (1 : Int64)))])) _
      refine XS.lcmp X0.here hx rfl (hb hby d2_18) rfl ?_
      by_cases hc19 : (lcmpW ((((4294977024 : Int64).toUInt64 >>> (p0 &&& 0x3f).toInt64.toUInt64).toInt64) &&& (1 : Int64)) (0 : Int64)) = (0 : Int32)
      · rw [if_pos hc19] at hr
        show Steps p.tables e below (T0.setTop (mkF m 19 #[.val (.int p0)] [(.int (lcmpW ((((4294977024 : Int64).toUInt64 >>> (p0 &&& 0x3f).toInt64.toUInt64).toInt64) &&& (1 : Int64)) (0 : Int64)))])) _
        refine XS.ifYes X0.here hx rfl (pc0 := 19) (pc' := 26) rfl (hb hby d2_19) rfl ((if0 _ _).trans (teq hc19).1) (by decide) (by decide) ?_
        exact own2_b26 p0 X0 hx hZ hw hby hown e0  hret hr
      · rw [if_neg hc19] at hr
        show Steps p.tables e below (T0.setTop (mkF m 19 #[.val (.int p0)] [(.int (lcmpW ((((4294977024 : Int64).toUInt64 >>> (p0 &&& 0x3f).toInt64.toUInt64).toInt64) &&& (1 : Int64)) (0 : Int64)))])) _
        refine XS.ifNo X0.here hx rfl (hb hby d2_19) rfl ((if0 _ _).trans (feq hc19).1) ?_
        show Steps p.tables e below (T0.setTop (mkF m 22 #[.val (.int p0)] [])) _
        refine XS.iconst X0.here hx rfl (hb hby d2_22) ?_
        show Steps p.tables e below (T0.setTop (mkF m 23 #[.val (.int p0)] [(.int (1 : Int32))])) _
        refine XS.goto X0.here hx rfl (pc0 := 23) (pc' := 27) rfl (hb hby d2_23) (by decide) (by decide) ?_
        show Steps p.tables e below (T0.setTop (mkF m 27 #[.val (.int p0)] [(.int (1 : Int32))])) _
        exact retN X0 hx (t := .boolean) hret (by simp) (hb hby d2_27) hr
    · rw [if_neg hc7] at hr
      show Steps p.tables e below (T0.setTop (mkF m 7 #[.val (.int p0)] [(.int (64 : Int32)), (.int p0)])) _
      refine XS.icmpYes X0.here hx rfl (pc0 := 7) (pc' := 26) rfl (hb hby d2_7) rfl (flt hc7).2.1 (by decide) (by decide) ?_
      exact own2_b26 p0 X0 hx hZ hw hby hown e0  hret hr
theorem ef_2 (m : MethodId) (p0 : Int32) : entryFrame m #[(.int p0)] 1 = mkF m 0 #[.val (.int p0)] [] := by first | (simp [entryFrame, mkF, argsToLocals, Value.category]; done) | rfl
theorem pn_2 : plainName "com/example/crisp_events/crispevents/eventing/XPathValueIsWhiteSpacePinLaw" = true := by first | (simp [plainName, overriddenIn]; done) | decide +kernel
def Q2 (p0 : Int32) (h0 : Heap) (n0 : Nat) (v : Option Value) (h : Heap) (L : List Loc) : Prop := v = some (.int (own2_f0 p0)) ∧ Fr n0 L ∧ h = h0
set_option maxRecDepth 65536 in
set_option maxHeartbeats 40000000 in
theorem rm2 (l : Launch) (Z : State) (t0 : Array Value) (hw : ∀ d ∈ tables_1, d.before t0 Z = true) (ws : List Jvm.Cond) (p0 : Int32) (h0 : Heap) (n0 : Nat) (Z0 : n0 ≤ h0.size)  :
    MetFree l (⟨"com/example/crisp_events/crispevents/eventing/XPathValueIsWhiteSpacePinLaw", "reference", "(I)Z"⟩ : MethodName) (head1 (Jvm.Cond.code (⟨"com/example/crisp_events/crispevents/eventing/XPathValueIsWhiteSpacePinLaw", "reference", "(I)Z"⟩ : MethodName) method_2_code 1 (some .boolean) :: ws) ({ frames := 0, cells := 0, slots := 0, locals := 0 } : Room)) (fun a U => a = #[(.int p0)] ∧ Z.Warmed39 U.vm ∧ U.heap = h0) (fun _ _ _ _ _ => True) (fun _ U o U' => ∃ v L, o = .returned v ∧ Q2 p0 h0 n0 v U'.heap L ∧ FrameEnd U o U' L ({ frames := 0, cells := 0, slots := 0, locals := 0 } : Room).cells ({ frames := 0, cells := 0, slots := 0, locals := 0 } : Room).slots) := by
  refine MetFree.of_bodySF (plainFor_of_name pn_2) hisR ?_
  intro p e s m args below meth c s₁ Bd hml0 hP hK
  obtain ⟨rfl, hZ, hh⟩ := hP
  have hx := Bd.exec
  have hby := Bd.bytes
  have hml : c.maxLocals = 1 := hml0
  have hown : s.vm.findClass "com/example/crisp_events/crispevents/eventing/XPathValueIsWhiteSpacePinLaw" = some m.cls := findClass_of_methodNamed Bd.named
  have hnm := (name_of_methodNamed Bd.named Bd.method).1
  have X0 : Stand p l e ({ frames := 0, cells := 0, slots := 0, locals := 0 } : Room) s m #[(.int p0)] below meth c s₁ [] 0 0 := Stand.of_body Bd
  have e0 : s₁.heap = h0 := by rw [← hh, Bd.state]; rfl
  have N0 := Fr.nil n0
  have pre0 : ∀ t, Steps p.tables e below (s₁.setTop (mkF m 0 #[.val (.int p0)] [])) t → Steps p.tables e below (s₁.setTop (entryFrame m #[(.int p0)] 1)) t := fun t k => castTop (ef_2 m p0) k
  obtain ⟨fs, hr, hrun, hended, hW, hsame⟩ := X0.leave (v := some (.int (own2_f0 p0))) (fun h => by rw [Bd.returns] at h; cases h)
  refine ⟨_, _, pre0 _ ?_, hrun, hended, _, _, rfl, ?_, ⟨_, rfl⟩, hW, hsame.mono (by decide) (by decide)⟩
  · exact own2_b0 p0 X0 hx hZ hw hby hown e0  Bd.returns hr
  · show Q2 p0 h0 n0 _ s₁.heap _
    rw [e0]
    exact ⟨rfl, N0, rfl⟩
theorem own_lit (n : Nat) (h : n < 64) : ((((4294977024 : Int64).toUInt64 >>> ((Int32.ofNat n) &&& 0x3f).toInt64.toUInt64).toInt64) &&& (1 : Int64) = 0) ↔ ¬ (n = 32 ∨ n = 9 ∨ n = 13 ∨ n = 10) := by
  have h2 : ∀ k : Fin 64, ((((4294977024 : Int64).toUInt64 >>> ((Int32.ofNat k.1) &&& 0x3f).toInt64.toUInt64).toInt64) &&& (1 : Int64) = 0) ↔ ¬ (k.1 = 32 ∨ k.1 = 9 ∨ k.1 = 13 ∨ k.1 = 10) := by decide +kernel
  exact h2 ⟨n, h⟩
theorem own_eq (c : Int32) : own1_f0 c = own2_f0 c := by
  rw [own1_e0, own2_e0, own1_e24, own2_e26]
  have e0 : (0 : Int32).toInt = 0 := by decide
  have e64 : (64 : Int32).toInt = 64 := by decide
  have e32 : (32 : Int32).toInt = 32 := by decide
  have e9 : (9 : Int32).toInt = 9 := by decide
  have e13 : (13 : Int32).toInt = 13 := by decide
  have e10 : (10 : Int32).toInt = 10 := by decide
  by_cases h0 : c < 0
  · rw [if_pos h0]
    rw [Int32.lt_iff_toInt_lt] at h0
    have a : ¬ c = 32 := fun q => by rw [q] at h0; omega
    have b : ¬ c = 9 := fun q => by rw [q] at h0; omega
    have d : ¬ c = 13 := fun q => by rw [q] at h0; omega
    have f : ¬ c = 10 := fun q => by rw [q] at h0; omega
    rw [if_neg a, if_neg b, if_neg d, if_neg f]
  · rw [if_neg h0]
    by_cases h1 : c < 64
    · rw [if_pos h1]
      rw [Int32.lt_iff_toInt_lt] at h0 h1
      obtain ⟨n, hn, rfl⟩ : ∃ n : Nat, n < 64 ∧ c = Int32.ofNat n := by
        refine ⟨c.toInt.toNat, by omega, ?_⟩
        apply Int32.toInt_inj.mp
        rw [Int32.toInt_ofNat_of_lt (by omega)]
        omega
      have hl := own_lit n hn
      have q : ∀ k : Nat, k < 64 → (Int32.ofNat n = Int32.ofNat k ↔ n = k) := fun k hk => by
        constructor
        · intro e
          have := congrArg Int32.toInt e
          rw [Int32.toInt_ofNat_of_lt (by omega), Int32.toInt_ofNat_of_lt (by omega)] at this
          omega
        · rintro rfl; rfl
      have q32 : Int32.ofNat n = (32 : Int32) ↔ n = 32 := q 32 (by decide)
      have q9 : Int32.ofNat n = (9 : Int32) ↔ n = 9 := q 9 (by decide)
      have q13 : Int32.ofNat n = (13 : Int32) ↔ n = 13 := q 13 (by decide)
      have q10 : Int32.ofNat n = (10 : Int32) ↔ n = 10 := q 10 (by decide)
      by_cases hz : n = 32 ∨ n = 9 ∨ n = 13 ∨ n = 10
      · rw [if_neg (fun e => absurd hz (hl.1 ((lw_eq _ _).1 e)))]
        rcases hz with rfl | rfl | rfl | rfl <;> rfl
      · rw [if_pos ((lw_eq _ _).2 (hl.2 hz))]
        rw [if_neg (fun e => hz (Or.inl (q32.1 e))), if_neg (fun e => hz (Or.inr (Or.inl (q9.1 e)))), if_neg (fun e => hz (Or.inr (Or.inr (Or.inl (q13.1 e))))), if_neg (fun e => hz (Or.inr (Or.inr (Or.inr (q10.1 e)))))]
    · rw [if_neg h1]
      rw [Int32.lt_iff_toInt_lt] at h1
      have a : ¬ c = 32 := fun q => by rw [q] at h1; omega
      have b : ¬ c = 9 := fun q => by rw [q] at h1; omega
      have d : ¬ c = 13 := fun q => by rw [q] at h1; omega
      have f : ¬ c = 10 := fun q => by rw [q] at h1; omega
      rw [if_neg a, if_neg b, if_neg d, if_neg f]

theorem ef_0 (m : MethodId) (p0 : Int32) (p1 : Int32) : entryFrame m #[(.int p0), (.int p1)] maxLocals = mkF m 0 #[.val (.int p0), .val (.int p1), .unset, .unset, .unset] [] := by first | (simp [entryFrame, mkF, argsToLocals, Value.category, maxLocals]; done) | rfl
theorem pn_0 : plainName "com/example/crisp_events/crispevents/eventing/XPathValueIsWhiteSpacePinLaw" = true := by first | (simp [plainName, overriddenIn]; done) | decide +kernel
def Q0 (n0 : Nat) (v : Option Value) (L : List Loc) : Prop := v = some (.int (1 : Int32)) ∧ Fr n0 L
theorem pd_0_0 : parseMethodDescriptor "(I)Z" = some ⟨[.int], some .boolean⟩ := by decide +kernel
set_option maxRecDepth 65536 in
set_option maxHeartbeats 40000000 in
theorem rm0 (l : Launch) (Z : State) (t0 : Array Value) (hw : ∀ d ∈ tables_1, d.before t0 Z = true) (ws : List Jvm.Cond) (p0 : Int32) (p1 : Int32) (h0 : Heap) (n0 : Nat) (Z0 : n0 ≤ h0.size)  :
    MetFree l x (head1 (Jvm.Cond.code x code maxLocals ret :: ws) room_1) (fun a U => a = #[(.int p0), (.int p1)] ∧ Z.Warmed39 U.vm ∧ U.heap = h0) (fun _ _ _ _ _ => True) (fun _ U o U' => ∃ v L, o = .returned v ∧ Q0 n0 v L ∧ FrameEnd U o U' L room_1.cells room_1.slots) := by
  refine MetFree.of_bodySF (plainFor_of_name pn_0) hisR ?_
  intro p e s m args below meth c s₁ Bd hml0 hP hK
  obtain ⟨rfl, hZ, hh⟩ := hP
  have hx := Bd.exec
  have hby := Bd.bytes
  have hml : c.maxLocals = 5 := hml0
  have hown : s.vm.findClass "com/example/crisp_events/crispevents/eventing/XPathValueIsWhiteSpacePinLaw" = some m.cls := findClass_of_methodNamed Bd.named
  have hnm := (name_of_methodNamed Bd.named Bd.method).1
  have X0 : Stand p l e room_1 s m #[(.int p0), (.int p1)] below meth c s₁ [] 0 0 := Stand.of_body Bd
  have e0 : s₁.heap = h0 := by rw [← hh, Bd.state]; rfl
  have N0 := Fr.nil n0
  have pre0 : ∀ t, Steps p.tables e below (s₁.setTop (mkF m 0 #[.val (.int p0), .val (.int p1), .unset, .unset, .unset] [])) t → Steps p.tables e below (s₁.setTop (entryFrame m #[(.int p0), (.int p1)] maxLocals)) t := fun t k => castTop (ef_0 m p0 p1) k
  refine own_go pre0 ?_
  refine own_go (B := s₁.setTop (mkF m 6 #[.val (.int p0), .val (.int p1), .val (.int (p1 &&& (63 : Int32))), .unset, .unset] [(.int p0)])) (fun t kt => ?_) ?_
  · show Steps p.tables e below (s₁.setTop (mkF m 0 #[.val (.int p0), .val (.int p1), .unset, .unset, .unset] [])) _
    refine XS.iloadN X0.here hx rfl (hb hby at_0) rfl ?_
    show Steps p.tables e below (s₁.setTop (mkF m 1 #[.val (.int p0), .val (.int p1), .unset, .unset, .unset] [(.int p1)])) _
    refine XS.bipush X0.here hx rfl (hb hby at_1) ?_
    show Steps p.tables e below (s₁.setTop (mkF m 3 #[.val (.int p0), .val (.int p1), .unset, .unset, .unset] [(.int (63 : Int32)), (.int p1)])) _
    refine XS.iand X0.here hx rfl (hb hby at_3) rfl ?_
    show Steps p.tables e below (s₁.setTop (mkF m 4 #[.val (.int p0), .val (.int p1), .unset, .unset, .unset] [(.int (p1 &&& (63 : Int32)))])) _
    refine XS.istoreN X0.here hx rfl (hb hby at_4) rfl (l' := #[.val (.int p0), .val (.int p1), .val (.int (p1 &&& (63 : Int32))), .unset, .unset]) rfl ?_
    show Steps p.tables e below (s₁.setTop (mkF m 5 #[.val (.int p0), .val (.int p1), .val (.int (p1 &&& (63 : Int32))), .unset, .unset] [])) _
    refine XS.iloadN X0.here hx rfl (hb hby at_5) rfl ?_
    exact kt
  obtain ⟨_, _, ⟨T1, L1, k1, n1⟩, -, X1, ⟨Lc1, hQ1, l1, y1, z1⟩, st1⟩ := Jvm.LawKit.callS X0 hx (y := (⟨"com/example/crisp_events/crispevents/eventing/XPathValue", "isWhiteSpace", "(I)Z"⟩ : MethodName)) hown (mvT hZ (hw _ (List.mem_of_getElem? (i := 0) rfl))) (mvT hZ (hw _ (List.mem_of_getElem? (i := 1) rfl))) (mvT hZ (hw _ (List.mem_of_getElem? (i := 2) rfl))) (mvT hZ (hw _ (List.mem_of_getElem? (i := 3) rfl))) (by decide) (backOf (W := 0) (rm1 l Z t0 hw [] p0 h0 n0 Z0) hZ (hw _ (List.mem_of_getElem? (i := 3) rfl)) (hw _ (List.mem_of_getElem? (i := 2) rfl)) (by decide) (by decide)) (g := (mkF m 6 #[.val (.int p0), .val (.int p1), .val (.int (p1 &&& (63 : Int32))), .unset, .unset] [(.int p0)])) rfl (by rw [hml]; rfl) (argsL := [(.int p0)]) (rest := []) (lenOf pd_0_0 rfl) rfl (by show 2 * 0 + _ ≤ _; exact Nat.le_of_eq rfl) (hb hby at_6) (fun _ _ => ⟨rfl, e0, (by decide : 0 + 0 ≤ _), (by decide : 0 + 0 ≤ _)⟩)
  dsimp only [Pt.U, Pt.locs, Pt.cells, Pt.slots] at X1 l1 y1 z1 st1 hQ1
  subst l1 y1 z1
  obtain ⟨rfl, Nq1, hh1⟩ := hQ1
  have N1 := Fr.app N0 Nq1
  have e1 : T1.heap = h0 := hh1
  refine own_go (B := T1.setTop (mkF m 9 #[.val (.int p0), .val (.int p1), .val (.int (p1 &&& (63 : Int32))), .unset, .unset] [(.int (own1_f0 p0))])) (fun t kt => st1 t kt) ?_
  refine own_go (B := T1.setTop (mkF m 10 #[.val (.int p0), .val (.int p1), .val (.int (p1 &&& (63 : Int32))), .unset, .unset] [(.int p0), (.int (own1_f0 p0))])) (fun t kt => ?_) ?_
  · show Steps p.tables e below (T1.setTop (mkF m 9 #[.val (.int p0), .val (.int p1), .val (.int (p1 &&& (63 : Int32))), .unset, .unset] [(.int (own1_f0 p0))])) _
    refine XS.iloadN X1.here hx rfl (hb hby at_9) rfl ?_
    exact kt
  obtain ⟨_, _, ⟨T2, L2, k2, n2⟩, -, X2, ⟨Lc2, hQ2, l2, y2, z2⟩, st2⟩ := Jvm.LawKit.callS X1 hx (y := (⟨"com/example/crisp_events/crispevents/eventing/XPathValueIsWhiteSpacePinLaw", "reference", "(I)Z"⟩ : MethodName)) hown (mvT hZ (hw _ (List.mem_of_getElem? (i := 4) rfl))) (mvT hZ (hw _ (List.mem_of_getElem? (i := 5) rfl))) (mvT hZ (hw _ (List.mem_of_getElem? (i := 6) rfl))) (mvT hZ (hw _ (List.mem_of_getElem? (i := 7) rfl))) (by decide) (backOf (W := 1) (rm2 l Z t0 hw [] p0 h0 n0 Z0) hZ (hw _ (List.mem_of_getElem? (i := 7) rfl)) (hw _ (List.mem_of_getElem? (i := 6) rfl)) (by decide) (by decide)) (g := (mkF m 10 #[.val (.int p0), .val (.int p1), .val (.int (p1 &&& (63 : Int32))), .unset, .unset] [(.int p0), (.int (own1_f0 p0))])) rfl (by rw [hml]; rfl) (argsL := [(.int p0)]) (rest := [(.int (own1_f0 p0))]) (lenOf pd_0_0 rfl) rfl (by show 2 * 0 + _ ≤ _; exact Nat.le_of_eq rfl) (hb hby at_10) (fun _ _ => ⟨rfl, e1, (by decide : 0 + 0 ≤ _), (by decide : 0 + 0 ≤ _)⟩)
  dsimp only [Pt.U, Pt.locs, Pt.cells, Pt.slots] at X2 l2 y2 z2 st2 hQ2
  subst l2 y2 z2
  obtain ⟨rfl, Nq2, hh2⟩ := hQ2
  have N2 := Fr.app N1 Nq2
  have e2 : T2.heap = h0 := hh2
  refine own_go (B := T2.setTop (mkF m 13 #[.val (.int p0), .val (.int p1), .val (.int (p1 &&& (63 : Int32))), .unset, .unset] [(.int (own2_f0 p0)), (.int (own1_f0 p0))])) (fun t kt => st2 t kt) ?_
  refine own_go (B := T2.setTop (mkF m 23 #[.val (.int p0), .val (.int p1), .val (.int (p1 &&& (63 : Int32))), .val (.int (1 : Int32)), .unset] [(.int (p1 &&& (63 : Int32)))])) (fun t kt => ?_) ?_
  · show Steps p.tables e below (T2.setTop (mkF m 13 #[.val (.int p0), .val (.int p1), .val (.int (p1 &&& (63 : Int32))), .unset, .unset] [(.int (own2_f0 p0)), (.int (own1_f0 p0))])) _
    refine XS.icmpNo X2.here hx rfl (hb hby at_13) rfl (teq (own_eq p0)).2 ?_
    show Steps p.tables e below (T2.setTop (mkF m 16 #[.val (.int p0), .val (.int p1), .val (.int (p1 &&& (63 : Int32))), .unset, .unset] [])) _
    refine XS.iconst X2.here hx rfl (hb hby at_16) ?_
    show Steps p.tables e below (T2.setTop (mkF m 17 #[.val (.int p0), .val (.int p1), .val (.int (p1 &&& (63 : Int32))), .unset, .unset] [(.int (1 : Int32))])) _
    refine XS.goto X2.here hx rfl (pc0 := 17) (pc' := 21) rfl (hb hby at_17) (by decide) (by decide) ?_
    show Steps p.tables e below (T2.setTop (mkF m 21 #[.val (.int p0), .val (.int p1), .val (.int (p1 &&& (63 : Int32))), .unset, .unset] [(.int (1 : Int32))])) _
    refine XS.istoreN X2.here hx rfl (hb hby at_21) rfl (l' := #[.val (.int p0), .val (.int p1), .val (.int (p1 &&& (63 : Int32))), .val (.int (1 : Int32)), .unset]) rfl ?_
    show Steps p.tables e below (T2.setTop (mkF m 22 #[.val (.int p0), .val (.int p1), .val (.int (p1 &&& (63 : Int32))), .val (.int (1 : Int32)), .unset] [])) _
    refine XS.iloadN X2.here hx rfl (hb hby at_22) rfl ?_
    exact kt
  obtain ⟨_, _, ⟨T3, L3, k3, n3⟩, -, X3, ⟨Lc3, hQ3, l3, y3, z3⟩, st3⟩ := Jvm.LawKit.callS X2 hx (y := (⟨"com/example/crisp_events/crispevents/eventing/XPathValue", "isWhiteSpace", "(I)Z"⟩ : MethodName)) hown (mvT hZ (hw _ (List.mem_of_getElem? (i := 0) rfl))) (mvT hZ (hw _ (List.mem_of_getElem? (i := 1) rfl))) (mvT hZ (hw _ (List.mem_of_getElem? (i := 2) rfl))) (mvT hZ (hw _ (List.mem_of_getElem? (i := 3) rfl))) (by decide) (backOf (W := 0) (rm1 l Z t0 hw [] (p1 &&& (63 : Int32)) h0 n0 Z0) hZ (hw _ (List.mem_of_getElem? (i := 3) rfl)) (hw _ (List.mem_of_getElem? (i := 2) rfl)) (by decide) (by decide)) (g := (mkF m 23 #[.val (.int p0), .val (.int p1), .val (.int (p1 &&& (63 : Int32))), .val (.int (1 : Int32)), .unset] [(.int (p1 &&& (63 : Int32)))])) rfl (by rw [hml]; rfl) (argsL := [(.int (p1 &&& (63 : Int32)))]) (rest := []) (lenOf pd_0_0 rfl) rfl (by show 2 * 0 + _ ≤ _; exact Nat.le_of_eq rfl) (hb hby at_23) (fun _ _ => ⟨rfl, e2, (by decide : 0 + 0 ≤ _), (by decide : 0 + 0 ≤ _)⟩)
  dsimp only [Pt.U, Pt.locs, Pt.cells, Pt.slots] at X3 l3 y3 z3 st3 hQ3
  subst l3 y3 z3
  obtain ⟨rfl, Nq3, hh3⟩ := hQ3
  have N3 := Fr.app N2 Nq3
  have e3 : T3.heap = h0 := hh3
  refine own_go (B := T3.setTop (mkF m 26 #[.val (.int p0), .val (.int p1), .val (.int (p1 &&& (63 : Int32))), .val (.int (1 : Int32)), .unset] [(.int (own1_f0 (p1 &&& (63 : Int32))))])) (fun t kt => st3 t kt) ?_
  refine own_go (B := T3.setTop (mkF m 27 #[.val (.int p0), .val (.int p1), .val (.int (p1 &&& (63 : Int32))), .val (.int (1 : Int32)), .unset] [(.int (p1 &&& (63 : Int32))), (.int (own1_f0 (p1 &&& (63 : Int32))))])) (fun t kt => ?_) ?_
  · show Steps p.tables e below (T3.setTop (mkF m 26 #[.val (.int p0), .val (.int p1), .val (.int (p1 &&& (63 : Int32))), .val (.int (1 : Int32)), .unset] [(.int (own1_f0 (p1 &&& (63 : Int32))))])) _
    refine XS.iloadN X3.here hx rfl (hb hby at_26) rfl ?_
    exact kt
  obtain ⟨_, _, ⟨T4, L4, k4, n4⟩, -, X4, ⟨Lc4, hQ4, l4, y4, z4⟩, st4⟩ := Jvm.LawKit.callS X3 hx (y := (⟨"com/example/crisp_events/crispevents/eventing/XPathValueIsWhiteSpacePinLaw", "reference", "(I)Z"⟩ : MethodName)) hown (mvT hZ (hw _ (List.mem_of_getElem? (i := 4) rfl))) (mvT hZ (hw _ (List.mem_of_getElem? (i := 5) rfl))) (mvT hZ (hw _ (List.mem_of_getElem? (i := 6) rfl))) (mvT hZ (hw _ (List.mem_of_getElem? (i := 7) rfl))) (by decide) (backOf (W := 1) (rm2 l Z t0 hw [] (p1 &&& (63 : Int32)) h0 n0 Z0) hZ (hw _ (List.mem_of_getElem? (i := 7) rfl)) (hw _ (List.mem_of_getElem? (i := 6) rfl)) (by decide) (by decide)) (g := (mkF m 27 #[.val (.int p0), .val (.int p1), .val (.int (p1 &&& (63 : Int32))), .val (.int (1 : Int32)), .unset] [(.int (p1 &&& (63 : Int32))), (.int (own1_f0 (p1 &&& (63 : Int32))))])) rfl (by rw [hml]; rfl) (argsL := [(.int (p1 &&& (63 : Int32)))]) (rest := [(.int (own1_f0 (p1 &&& (63 : Int32))))]) (lenOf pd_0_0 rfl) rfl (by show 2 * 0 + _ ≤ _; exact Nat.le_of_eq rfl) (hb hby at_27) (fun _ _ => ⟨rfl, e3, (by decide : 0 + 0 ≤ _), (by decide : 0 + 0 ≤ _)⟩)
  dsimp only [Pt.U, Pt.locs, Pt.cells, Pt.slots] at X4 l4 y4 z4 st4 hQ4
  subst l4 y4 z4
  obtain ⟨rfl, Nq4, hh4⟩ := hQ4
  have N4 := Fr.app N3 Nq4
  have e4 : T4.heap = h0 := hh4
  refine own_go (B := T4.setTop (mkF m 30 #[.val (.int p0), .val (.int p1), .val (.int (p1 &&& (63 : Int32))), .val (.int (1 : Int32)), .unset] [(.int (own2_f0 (p1 &&& (63 : Int32)))), (.int (own1_f0 (p1 &&& (63 : Int32))))])) (fun t kt => st4 t kt) ?_
  refine own_go (B := T4.setTop (mkF m 54 #[.val (.int p0), .val (.int p1), .val (.int (p1 &&& (63 : Int32))), .val (.int (1 : Int32)), .val (.int (1 : Int32))] [(.int (1 : Int32))])) (fun t kt => ?_) ?_
  · show Steps p.tables e below (T4.setTop (mkF m 30 #[.val (.int p0), .val (.int p1), .val (.int (p1 &&& (63 : Int32))), .val (.int (1 : Int32)), .unset] [(.int (own2_f0 (p1 &&& (63 : Int32)))), (.int (own1_f0 (p1 &&& (63 : Int32))))])) _
    refine XS.icmpNo X4.here hx rfl (hb hby at_30) rfl (teq (own_eq (p1 &&& (63 : Int32)))).2 ?_
    show Steps p.tables e below (T4.setTop (mkF m 33 #[.val (.int p0), .val (.int p1), .val (.int (p1 &&& (63 : Int32))), .val (.int (1 : Int32)), .unset] [])) _
    refine XS.iconst X4.here hx rfl (hb hby at_33) ?_
    show Steps p.tables e below (T4.setTop (mkF m 34 #[.val (.int p0), .val (.int p1), .val (.int (p1 &&& (63 : Int32))), .val (.int (1 : Int32)), .unset] [(.int (1 : Int32))])) _
    refine XS.goto X4.here hx rfl (pc0 := 34) (pc' := 38) rfl (hb hby at_34) (by decide) (by decide) ?_
    show Steps p.tables e below (T4.setTop (mkF m 38 #[.val (.int p0), .val (.int p1), .val (.int (p1 &&& (63 : Int32))), .val (.int (1 : Int32)), .unset] [(.int (1 : Int32))])) _
    refine XS.istore X4.here hx rfl (hb hby at_38) rfl (l' := #[.val (.int p0), .val (.int p1), .val (.int (p1 &&& (63 : Int32))), .val (.int (1 : Int32)), .val (.int (1 : Int32))]) rfl ?_
    show Steps p.tables e below (T4.setTop (mkF m 40 #[.val (.int p0), .val (.int p1), .val (.int (p1 &&& (63 : Int32))), .val (.int (1 : Int32)), .val (.int (1 : Int32))] [])) _
    refine XS.iloadN X4.here hx rfl (hb hby at_40) rfl ?_
    show Steps p.tables e below (T4.setTop (mkF m 41 #[.val (.int p0), .val (.int p1), .val (.int (p1 &&& (63 : Int32))), .val (.int (1 : Int32)), .val (.int (1 : Int32))] [(.int (1 : Int32))])) _
    refine XS.ifNo X4.here hx rfl (hb hby at_41) rfl ((if0 _ _).trans (feq (by decide)).1) ?_
    show Steps p.tables e below (T4.setTop (mkF m 44 #[.val (.int p0), .val (.int p1), .val (.int (p1 &&& (63 : Int32))), .val (.int (1 : Int32)), .val (.int (1 : Int32))] [])) _
    refine XS.iload X4.here hx rfl (hb hby at_44) rfl ?_
    show Steps p.tables e below (T4.setTop (mkF m 46 #[.val (.int p0), .val (.int p1), .val (.int (p1 &&& (63 : Int32))), .val (.int (1 : Int32)), .val (.int (1 : Int32))] [(.int (1 : Int32))])) _
    refine XS.ifNo X4.here hx rfl (hb hby at_46) rfl ((if0 _ _).trans (feq (by decide)).1) ?_
    show Steps p.tables e below (T4.setTop (mkF m 49 #[.val (.int p0), .val (.int p1), .val (.int (p1 &&& (63 : Int32))), .val (.int (1 : Int32)), .val (.int (1 : Int32))] [])) _
    refine XS.iconst X4.here hx rfl (hb hby at_49) ?_
    show Steps p.tables e below (T4.setTop (mkF m 50 #[.val (.int p0), .val (.int p1), .val (.int (p1 &&& (63 : Int32))), .val (.int (1 : Int32)), .val (.int (1 : Int32))] [(.int (1 : Int32))])) _
    refine XS.goto X4.here hx rfl (pc0 := 50) (pc' := 54) rfl (hb hby at_50) (by decide) (by decide) ?_
    exact kt
  obtain ⟨fs, hr, hrun, hended, hW, hsame⟩ := X4.leave (v := some (.int (1 : Int32))) (fun h => by rw [Bd.returns] at h; cases h)
  refine ⟨_, _, ?_, hrun, hended, _, _, rfl, ?_, ⟨_, rfl⟩, hW, hsame.mono (by decide) (by decide)⟩
  · show Steps p.tables e below (T4.setTop (mkF m 54 #[.val (.int p0), .val (.int p1), .val (.int (p1 &&& (63 : Int32))), .val (.int (1 : Int32)), .val (.int (1 : Int32))] [(.int (1 : Int32))])) _
    exact retN X4 hx (t := .boolean) Bd.returns (by simp) (hb hby at_54) hr
  · show Q0 n0 _ _
    exact ⟨rfl, N4⟩
set_option maxRecDepth 65536 in
set_option maxHeartbeats 40000000 in
theorem comes_1 {Post : Tables → Env → Array Value → State → Outcome → State → Prop} (hpost : ∀ tb e args s v u, (limb_1_1.after args s (.returned v) u = true ∧ limb_1_2.after args s (.returned v) u = true ∧ True) → FrameEnd s (.returned v) u (Jvm.fieldLocs frame_1_writes args s ++ Jvm.arrayLocs frame_1_arrays args s ++ Jvm.staticLocs frame_1_statics s) 0 0 → Post tb e args s (.returned v) u) :
    ArmFor flags0 classFile x code maxLocals ret World_1 tables_1 room_1 Calls_1 rest_1 Pre_1 Post := by
  intro l hfl _ _ p e ha hc hk s m args below hf hA hF happ hP
  obtain ⟨hcalls, hrest, hpre⟩ := hP
  obtain ⟨-, -, -, hnamed, -, -, -, hat⟩ := (Spec.applies_iff hf).mp happ
  obtain ⟨hg, hn⟩ := and_e (Cond.before_iff.mp (show (Jvm.Cond.and given_1 narrow_1).before args s = true from hpre))
  obtain ⟨ga0, gb0⟩ := and_e hg
  obtain ⟨ga1, gb1⟩ := and_e gb0
  obtain ⟨w0, w1, rfl⟩ : ∃ w0 w1 : Value, args = #[w0, w1] := by
    have hs : args.size = 2 := by simpa [Cond.value, given_1] using ga0
    obtain ⟨L⟩ := args
    match L, hs with
    | [w0, w1], _ => exact ⟨w0, w1, rfl⟩
  have hw := fun d (hd : d ∈ tables_1) => atoms_spec (ws := Jvm.Cond.code x code maxLocals ret :: tables_1) hat d (List.mem_cons_of_mem _ hd)
  obtain ⟨i0, ei0⟩ := is_v ga1
  obtain rfl : w0 = (.int i0) := Option.some.inj ei0
  obtain ⟨i1, ei1⟩ := is_v gb1
  obtain rfl : w1 = (.int i1) := Option.some.inj ei1
  obtain ⟨n, o, h1, h2, h3, _, L, rfl, ⟨rfl, N⟩, hq⟩ := rm0 l s _ hw tables_1 i0 i1 s.heap s.heap.size (Nat.le_refl _)  p e ha hc hk s m _ below hf ((Spec.applies_iff_loose hf).mp happ).1 ⟨rfl, State.Warmed39.refl s, rfl⟩ trivial
  refine ⟨n, _, h1, h2, h3, hpost _ _ _ _ _ _ ⟨Cond.after_iff.mpr rfl, Cond.after_iff.mpr (eq_i res_at (Term.int_eval (1)) rfl), trivial⟩ ⟨hq.1, hq.2.1, (hq.2.2.sift fun y hy => Or.inr (N y hy)).mono (by decide) (by decide)⟩⟩
theorem main_1_1 : Claimed_1_1 := comes_1 fun _ _ _ _ _ _ h hF => ⟨h.1, hF⟩
theorem main_1_2 : Claimed_1_2 := comes_1 fun _ _ _ _ _ _ h hF => ⟨h.2.1, hF⟩
end Jvm.Pilot.@@N@@
namespace Jvm.Pilot.@@N@@
open Jvm Jvm.ClassFile Sem Op Lib Jvm.Free Jvm.Stand Jvm.Pilot.@@N@@.Jvm.D
/-! MADE BY PROGRAM (witnessworld.py) out of the Statement's table words and the real class files: 9 classes; the members and pool entries that the words name. The judged class is class 1, her method 2. -/
namespace start1
open Jvm.ClassFile
def u (s : String) : CpInfo := .utf8 (stringToUtf16 s)
/-- a pool by its gaps: so many unusable entries, then the entry; so many at the end -/
def gap : Nat → List CpInfo → List CpInfo
  | 0, r => r
  | n + 1, r => .unusable :: gap n r
def poolList (es : List (Nat × CpInfo)) (last : Nat) : List CpInfo := es.foldr (fun e r => gap e.1 (e.2 :: r)) (gap last [])
def pool (es : List (Nat × CpInfo)) (last : Nat) : Array CpInfo := ⟨poolList es last⟩
def fileOf (pool : Array CpInfo) (this : Nat) (attrs : Array Attribute := #[]) (ms : Array MethodInfo := #[]) (fl : Nat := 33) (sup : Nat := 0) (ifs : Array Nat := #[]) (fds : Array FieldInfo := #[]) : ClassFile where
  minorVersion := 0
  majorVersion := 65
  constantPool := pool
  accessFlags := fl
  thisClass := this
  superClass := sup
  interfaces := ifs
  fields := fds
  methods := ms
  attributes := attrs
def plain (name : String) (sup : Option ClassId) : Class where
  name := name
  kind := .ordinary
  loader := none
  accessFlags := 33
  super := sup
  interfaces := #[]
  cf := none
  fields := #[]
  methods := #[]
  instanceTypes := #[]
  staticTypes := #[]
  resolved := #[]
  callSites := []
  init := .initialized
  statics := none
  mirror := none

def pool0 : Array CpInfo := pool [(5, u "<init>"), (0, u "()V"), (1, .class_ 10), (1, u "java/lang/Object")] 113

def k0m0 : Method := { name := "<init>", desc := "()V", sig := { parameters := [], returnType := none }, accessFlags := 1, code := none }
/-- java/lang/Object -/
def k0 : Class := { plain "java/lang/Object" none with
  accessFlags := 33
  interfaces := #[]
  cf := some (fileOf pool0 8 #[] #[{ accessFlags := 1, nameIndex := 5, descriptorIndex := 6, attributes := #[] }] 33 0 #[] #[])
  fields := #[]
  methods := #[k0m0]
  instanceTypes := #[]
  staticTypes := #[]
  resolved := Array.replicate 124 none
  statics := none }

def pool1 : Array CpInfo := pool [(2, .class_ 4), (1, u "java/lang/Object"), (0, u "<init>"), (0, u "()V"), (0, .class_ 8), (0, u "com/example/crisp_events/crispevents/eventing/XPathValueIsWhiteSpacePinLaw"), (0, .long 4294977024), (1, .methodref 12 13), (0, .class_ 14), (0, .nameAndType 15 16), (0, u "com/example/crisp_events/crispevents/eventing/XPathValue"), (0, u "isWhiteSpace"), (0, u "(I)Z"), (0, .methodref 7 18), (0, .nameAndType 19 16), (0, u "reference"), (0, u "WHITE"), (0, u "J"), (4, u "law"), (0, u "(II)Z")] 2

def k1m0 : Method := { name := "<init>", desc := "()V", sig := { parameters := [], returnType := none }, accessFlags := 2, code := none }
def k1c1 : Code := { maxStack := 4, maxLocals := 1, code := method_2_code, exceptionTable := #[], attributes := #[] }
def k1m1 : Method := { name := "reference", desc := "(I)Z", sig := { parameters := [.int], returnType := some .boolean }, accessFlags := 10, code := some k1c1 }
def k1c2 : Code := { maxStack := 2, maxLocals := 5, code := code, exceptionTable := #[], attributes := #[] }
def k1m2 : Method := { name := "law", desc := "(II)Z", sig := { parameters := [.int, .int], returnType := some .boolean }, accessFlags := 9, code := some k1c2 }
/-- com/example/crisp_events/crispevents/eventing/XPathValueIsWhiteSpacePinLaw -/
def k1 : Class := { plain "com/example/crisp_events/crispevents/eventing/XPathValueIsWhiteSpacePinLaw" (some 0) with
  accessFlags := 49
  interfaces := #[]
  cf := some (fileOf pool1 7 #[] #[{ accessFlags := 2, nameIndex := 5, descriptorIndex := 6, attributes := #[] }, { accessFlags := 10, nameIndex := 19, descriptorIndex := 16, attributes := #[] }, { accessFlags := 9, nameIndex := 26, descriptorIndex := 27, attributes := #[] }] 49 2 #[] #[{ accessFlags := 26, nameIndex := 20, descriptorIndex := 21, attributes := #[] }])
  fields := #[{ name := "WHITE", type := .long, accessFlags := 26, slot := 0, constantValue := 0 }]
  methods := #[k1m0, k1m1, k1m2]
  instanceTypes := #[]
  staticTypes := #[.long]
  resolved := Array.replicate 30 none
  statics := none }

def pool2 : Array CpInfo := pool [(2, .class_ 4), (1, u "java/lang/Object"), (0, u "<init>"), (0, u "()V"), (20, .class_ 28), (0, u "com/example/crisp_events/crispevents/eventing/XPathValue$NodeSet"), (8, .class_ 39), (1, u "com/example/crisp_events/crispevents/eventing/XPathValue"), (81, .class_ 122), (0, u "com/example/crisp_events/crispevents/eventing/XPathValue$WrongType"), (19, u "isWhiteSpace"), (0, u "(I)Z"), (44, u "DOCUMENT_ORDER"), (0, u "Ljava/util/Comparator;"), (37, .class_ 229), (1, u "com/example/crisp_events/crispevents/eventing/XPathValue$Comparison"), (60, u "REFERENCE_BYTES"), (0, u "I"), (2, u "NODE_SET_BYTES"), (1, u "SET_ENTRY_BYTES")] 56

def k2m0 : Method := { name := "<init>", desc := "()V", sig := { parameters := [], returnType := none }, accessFlags := 2, code := none }
def k2c1 : Code := { maxStack := 2, maxLocals := 1, code := prog_97_method_10_code, exceptionTable := #[], attributes := #[] }
def k2m1 : Method := { name := "isWhiteSpace", desc := "(I)Z", sig := { parameters := [.int], returnType := some .boolean }, accessFlags := 8, code := some k2c1 }
/-- com/example/crisp_events/crispevents/eventing/XPathValue -/
def k2 : Class := { plain "com/example/crisp_events/crispevents/eventing/XPathValue" (some 0) with
  accessFlags := 48
  interfaces := #[]
  cf := some (fileOf pool2 37 #[.nestMembers #[227, 121, 27]] #[{ accessFlags := 2, nameIndex := 5, descriptorIndex := 6, attributes := #[] }, { accessFlags := 8, nameIndex := 142, descriptorIndex := 143, attributes := #[] }] 48 2 #[] #[{ accessFlags := 24, nameIndex := 290, descriptorIndex := 291, attributes := #[] }, { accessFlags := 26, nameIndex := 294, descriptorIndex := 291, attributes := #[] }, { accessFlags := 26, nameIndex := 296, descriptorIndex := 291, attributes := #[] }, { accessFlags := 26, nameIndex := 188, descriptorIndex := 189, attributes := #[] }])
  fields := #[{ name := "REFERENCE_BYTES", type := .int, accessFlags := 24, slot := 0, constantValue := 0 }, { name := "NODE_SET_BYTES", type := .int, accessFlags := 26, slot := 1, constantValue := 0 }, { name := "SET_ENTRY_BYTES", type := .int, accessFlags := 26, slot := 2, constantValue := 0 }, { name := "DOCUMENT_ORDER", type := (.object "java/util/Comparator"), accessFlags := 26, slot := 3, constantValue := 0 }]
  methods := #[k2m0, k2m1]
  instanceTypes := #[]
  staticTypes := #[.int, .int, .int, (.object "java/util/Comparator")]
  resolved := Array.replicate 353 none
  statics := none }

def pool3 : Array CpInfo := pool [(1, u "java/lang/Cloneable"), (0, .class_ 1), (0, u "java/lang/Object"), (0, .class_ 3)] 3

/-- java/lang/Cloneable -/
def k3 : Class := { plain "java/lang/Cloneable" (some 0) with
  accessFlags := 1537
  interfaces := #[]
  cf := some (fileOf pool3 2 #[] #[] 1537 4 #[] #[])
  fields := #[]
  methods := #[]
  instanceTypes := #[]
  staticTypes := #[]
  resolved := Array.replicate 8 none
  statics := none }

def pool4 : Array CpInfo := pool [(1, u "java/io/Serializable"), (0, .class_ 1), (0, u "java/lang/Object"), (0, .class_ 3)] 3

/-- java/io/Serializable -/
def k4 : Class := { plain "java/io/Serializable" (some 0) with
  accessFlags := 1537
  interfaces := #[]
  cf := some (fileOf pool4 2 #[] #[] 1537 4 #[] #[])
  fields := #[]
  methods := #[]
  instanceTypes := #[]
  staticTypes := #[]
  resolved := Array.replicate 8 none
  statics := none }

/-- the primitive byte -/
def k5 : Class := { plain "byte" none with kind := .primitive 'B', accessFlags := 0x411 }
/-- [B -/
def k6 : Class := { plain "[B" (some 0) with kind := .array 5 .byte, interfaces := #[3, 4], accessFlags := 1041 }

/-- the primitive int -/
def k7 : Class := { plain "int" none with kind := .primitive 'I', accessFlags := 0x411 }
/-- [I -/
def k8 : Class := { plain "[I" (some 0) with kind := .array 7 .int, interfaces := #[3, 4], accessFlags := 1041 }

def heap : Heap := #[]
def classes : Array Class := #[k0, k1, k2, k3, k4, k5, k6, k7, k8]
def interned : List (Array UInt16 × Addr) := []
def slotsUsed : Nat := 0
def theMethod : MethodId := ⟨1, 2⟩
def args0 : Array Value := #[.int 9, .int 32]
def aboutOver (below : List Frame) : State where
  vm := { classes := classes, interned := interned.toArray }
  heap := heap
  slotsUsed := slotsUsed
  threads := #[{ frames := .invoking theMethod args0 :: below }]
def below0 : List Frame := [.native { method := ⟨0, 0⟩, args := #[] }]
def about1 : State := aboutOver below0
def p0 : Program := .bare "" "" ""
def e0 : Env := launch0.env 0 0 0
theorem w_frames : about1.frames = Frame.invoking theMethod args0 :: below0 := rfl
set_option maxRecDepth 65536 in
theorem w_args : argsFit about1.vm theMethod args0 = true := by decide +kernel
set_option maxRecDepth 65536 in
theorem w_heap : heapFits about1 = true := by decide +kernel
set_option maxRecDepth 65536 in
theorem w_runnable : about1.curStatus? = some .runnable := by decide +kernel
set_option maxRecDepth 65536 in
theorem w_alone : about1.alone = true := by decide +kernel
set_option maxRecDepth 65536 in
theorem w_named : about1.methodNamed? x = some theMethod := by decide +kernel
set_option maxRecDepth 65536 in
theorem w_hears : about1.hears theMethod below0 = true := by decide +kernel
set_option maxRecDepth 65536 in
theorem w_ripe : about1.ripe theMethod args0 below0 = true := by decide +kernel
theorem w_running : about1.status = .running := rfl
set_option maxRecDepth 65536 in
theorem w_room : about1.hasRoom e0.platform room_1 = true :=
  launch0.hasRoom_least _ room_1 (by decide +kernel) (by decide +kernel) (by decide +kernel) (by decide +kernel) (by decide +kernel) (by decide +kernel)
theorem allAtoms_all (ts : List Jvm.Cond) (a : Array Jvm.Value) (st : Jvm.State) : (allAtoms ts).before a st = ts.all (fun c => c.before a st) := by
  induction ts with
  | nil => rfl
  | cons c t ih =>
    show (Jvm.Cond.and c (allAtoms t)).before a st = _
    rw [Jvm.Cond.before_and, ih, List.all_cons]
def words1 : List Jvm.Cond := Jvm.Cond.code x code maxLocals ret :: tables_1
/-- a 'code' word, met by the world's own term for the bytes: nothing is compared byte by byte -/
theorem code_word {y : MethodName} {bytes : ByteArray} {mx : Nat} {rt : Option FieldType} {a : Array Value} {s : State} {m : MethodId} {meth : Method} {c : Code} (h1 : s.methodNamed? y = some m) (h2 : s.vm.method? m = some meth) (h3 : meth.code = some c) (h4 : c.code = bytes)
    (h5 : (c.maxLocals == mx && c.exceptionTable.isEmpty && decide (c.maxStack ≤ mostOperands) && decide (meth.sig.returnType = rt) && !meth.locks && decide (parseMethodDescriptor y.desc = some meth.sig)) = true) : (Jvm.Cond.code y bytes mx rt).before a s = true := by
  simp only [Bool.and_eq_true, beq_iff_eq, Bool.not_eq_true', decide_eq_true_eq] at h5
  obtain ⟨⟨⟨⟨⟨g1, g2⟩, g3⟩, g4⟩, g5⟩, g6⟩ := h5
  simp [Cond.before, Cond.holds, Cond.value, h1, h2, h3, h4, g1, g2, g3, g4, g5, g6]
def isCode : Jvm.Cond → Bool
  | .code _ _ _ _ => true
  | _ => false
theorem all_split {L : List Jvm.Cond} {P : Jvm.Cond → Bool} (h1 : L.all (fun c => isCode c || P c) = true) (h2 : ∀ c ∈ L.filter isCode, P c = true) : L.all P = true := by
  refine List.all_eq_true.mpr fun c hc => ?_
  have h := List.all_eq_true.mp h1 c hc
  rcases Bool.eq_false_or_eq_true (isCode c) with hi | hi
  · exact h2 c (List.mem_filter.mpr ⟨hc, hi⟩)
  · simpa [hi] using h
set_option maxRecDepth 65536 in
theorem w_c0 : (Jvm.Cond.code x code maxLocals ret).before args0 about1 = true := code_word (m := ⟨1, 2⟩) (meth := k1m2) (c := k1c2) (by decide +kernel) rfl rfl rfl (by decide +kernel)
set_option maxRecDepth 65536 in
theorem w_c1 : (Jvm.Cond.code ({ cls := "com/example/crisp_events/crispevents/eventing/XPathValue", name := "isWhiteSpace", desc := "(I)Z" } : Jvm.MethodName) prog_97_method_10_code (1 : Nat) (Option.some Jvm.ClassFile.FieldType.boolean)).before args0 about1 = true := code_word (m := ⟨2, 1⟩) (meth := k2m1) (c := k2c1) (by decide +kernel) rfl rfl rfl (by decide +kernel)
set_option maxRecDepth 65536 in
theorem w_c2 : (Jvm.Cond.code ({ cls := "com/example/crisp_events/crispevents/eventing/XPathValueIsWhiteSpacePinLaw", name := "reference", desc := "(I)Z" } : Jvm.MethodName) method_2_code (1 : Nat) (Option.some Jvm.ClassFile.FieldType.boolean)).before args0 about1 = true := code_word (m := ⟨1, 1⟩) (meth := k1m1) (c := k1c1) (by decide +kernel) rfl rfl rfl (by decide +kernel)
def codes1 : List Jvm.Cond := [Jvm.Cond.code x code maxLocals ret, Jvm.Cond.code ({ cls := "com/example/crisp_events/crispevents/eventing/XPathValue", name := "isWhiteSpace", desc := "(I)Z" } : Jvm.MethodName) prog_97_method_10_code (1 : Nat) (Option.some Jvm.ClassFile.FieldType.boolean), Jvm.Cond.code ({ cls := "com/example/crisp_events/crispevents/eventing/XPathValueIsWhiteSpacePinLaw", name := "reference", desc := "(I)Z" } : Jvm.MethodName) method_2_code (1 : Nat) (Option.some Jvm.ClassFile.FieldType.boolean)]
set_option maxRecDepth 65536 in
theorem codes_eq : words1.filter isCode = codes1 := rfl
theorem w_codes : ∀ c ∈ words1.filter isCode, c.before args0 about1 = true := by
  rw [codes_eq]
  intro c hc
  simp only [codes1, List.mem_cons, List.not_mem_nil, or_false] at hc
  rcases hc with rfl | rfl | rfl
  · exact w_c0
  · exact w_c1
  · exact w_c2
set_option maxRecDepth 65536 in
theorem w_t1 : words1.all (fun c => isCode c || c.before args0 about1) = true := by decide +kernel
theorem w_tables : (allAtoms (Jvm.Cond.code x code maxLocals ret :: tables_1)).before args0 about1 = true := by
  rw [allAtoms_all]
  show words1.all (fun c => c.before args0 about1) = true
  refine all_split ?_ w_codes
  rw [w_t1]
set_option maxRecDepth 65536 in
theorem w_case : (Jvm.Cond.and given_1 narrow_1).before args0 about1 = true := by decide +kernel
theorem w_applies : (headSpec (Jvm.Cond.code x code maxLocals ret :: tables_1) room_1).applies x e0.platform about1 = true :=
  (Spec.applies_iff w_frames).mpr ⟨w_running, w_runnable, w_alone, w_named, w_hears, w_ripe, w_room, w_tables⟩
theorem atStart : AtStart classFile x code maxLocals ret World_1 tables_1 room_1 Calls_1 rest_1 Pre_1 launch0 p0 e0 about1 theMethod args0 below0 :=
  ⟨lists_1, trivial, launch0.admits_env _ _ _, launch0.least_env, fairChoices_fair.cas, fairChoices_fair.clock, w_frames, w_args, w_heap, w_applies, trivial, trivial, w_case⟩
end start1
theorem witness_1 : WitnessClaimed_1 := ⟨start1.p0, start1.e0, start1.about1, start1.theMethod, start1.args0, start1.below0, start1.atStart⟩
end Jvm.Pilot.@@N@@
