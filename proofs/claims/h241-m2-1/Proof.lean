import JvmDerived
import JvmDerived.Pilot.@@N@@Statement
import JvmDerived.Pilot.@@N@@Code
set_option linter.unusedVariables false
set_option linter.unusedSimpArgs false
namespace Jvm.RoadKit
open Sem ClassFile Op Lib Jvm.Stand Jvm.Free Jvm.LawKit
section New
variable {p : Program} {l : Launch} {e : Env} {R : Room} {s : State} {m : MethodId} {args : Array Value} {below : List Frame} {meth : Method} {c : Code} {T : State} {locs : List Loc} {cells slots : Nat}
theorem retI (X : Stand p l e R s m args below meth c T locs cells slots) (hx : p.tables.exec = Jvm.exec) {pc : Nat} {Ls : Array Slot} {z : Int32} {rest : List Value} (hret : meth.sig.returnType = some .int) (hd : decode c.code pc = .ok (.ireturn, 1)) {fs : List Frame}
    (hl : ∀ (f : JFrame) (acts : List Action), f.method = m → f.locked = none → f.entered = [] → (doReturn e (T.setTop f) acts (some (.int z))).1 = T.setFrames fs) : Steps p.tables e below (T.setTop (mkF m pc Ls (.int z :: rest))) (T.setFrames fs) := by
  have hm' : T.vm.method? m = some meth := X.method'
  have hn : narrow .int (.int z) = .int z := rfl
  show Steps p.tables e below (T.setTop { method := m, pc := pc, locals := Ls, stack := _ :: rest, locked := none }) _
  jvm_step X.here [X.here.top, hx, hd, hm', hret, hn]
  first | (intro acts; rw [hl _ acts rfl rfl rfl]) | rw [hl _ _ rfl rfl rfl]
  exact Steps.refl _
end New
end Jvm.RoadKit
namespace Jvm.Pilot.@@N@@
open Jvm Jvm.ClassFile Sem Op Lib Jvm.Free Jvm.Stand Jvm.LawKit Jvm.RoadKit Bundle Jvm.Pilot.@@N@@.Jvm.D

theorem own_go {tb : Tables} {e : Env} {below : List Frame} {A B : State} {Φ : State → Outcome → Prop} (st : ∀ t, Steps tb e below B t → Steps tb e below A t) (h : ∃ s₂ o, Steps tb e below B s₂ ∧ Φ s₂ o) : ∃ s₂ o, Steps tb e below A s₂ ∧ Φ s₂ o := by
  obtain ⟨t, o, h1, h2⟩ := h
  exact ⟨t, o, st t h1, h2⟩
theorem own_ifc {P Q : Prop} [Decidable P] [Decidable Q] {a b c d : Int32} (h : P ↔ Q) (h1 : a = c) (h2 : b = d) : (if P then a else b) = (if Q then c else d) := by
  subst h1 h2
  by_cases p : P
  · rw [if_pos p, if_pos (h.1 p)]
  · rw [if_neg p, if_neg (fun q => p (h.2 q))]
theorem d1_0 : decode jdk_29_method_69_code 0 = .ok (.iload_n 0, 1) := by decide +kernel
theorem d1_1 : decode jdk_29_method_69_code 1 = .ok (.iload_n 1, 1) := by decide +kernel
theorem d1_2 : decode jdk_29_method_69_code 2 = .ok (.if_icmp .gt 7, 3) := by decide +kernel
theorem d1_5 : decode jdk_29_method_69_code 5 = .ok (.iload_n 0, 1) := by decide +kernel
theorem d1_6 : decode jdk_29_method_69_code 6 = .ok (.goto 4, 3) := by decide +kernel
theorem d1_9 : decode jdk_29_method_69_code 9 = .ok (.iload_n 1, 1) := by decide +kernel
theorem d1_10 : decode jdk_29_method_69_code 10 = .ok (.ireturn, 1) := by decide +kernel
def own1_f0 (p0 : Int32) (p1 : Int32) : Int32 := (if p1 < p0 then p1 else p0)
theorem own1_e0 (p0 : Int32) (p1 : Int32) : (own1_f0 p0 p1) = (if p1 < p0 then p1 else p0) := rfl
set_option maxRecDepth 65536 in
set_option maxHeartbeats 40000000 in
theorem own1_b0 {p : Program} {l : Launch} {e : Env} {R : Room} {s : State} {m : MethodId} {args : Array Value} {below : List Frame} {meth : Method} {c : Code} {T0 : State} {locs : List Loc} {cells slots : Nat} {Z : State} {t0 : Array Value} {h0 : Heap} (p0 : Int32) (p1 : Int32) (X0 : Stand p l e R s m args below meth c T0 locs cells slots) (hx : p.tables.exec = Jvm.exec) (hZ : Z.Warmed39 s.vm) (hw : ∀ d ∈ tables_1, d.before t0 Z = true) (hby : c.code = jdk_29_method_69_code) (hown : s.vm.findClass "java/lang/Math" = some m.cls) (e0 : T0.heap = h0)  (hret : meth.sig.returnType = some .int) {fs : List Frame} (hr : ∀ (f : JFrame) (acts : List Action), f.method = m → f.locked = none → f.entered = [] → (doReturn e (T0.setTop f) acts (some (.int (own1_f0 p0 p1)))).1 = T0.setFrames fs) : Steps p.tables e below (T0.setTop (mkF m 0 #[.val (.int p0), .val (.int p1)] [])) (T0.setFrames fs) := by
  rw [own1_e0] at hr
  show Steps p.tables e below (T0.setTop (mkF m 0 #[.val (.int p0), .val (.int p1)] [])) _
  refine XS.iloadN X0.here hx rfl (hb hby d1_0) rfl ?_
  show Steps p.tables e below (T0.setTop (mkF m 1 #[.val (.int p0), .val (.int p1)] [(.int p0)])) _
  refine XS.iloadN X0.here hx rfl (hb hby d1_1) rfl ?_
  by_cases hc2 : p1 < p0
  · rw [if_pos hc2] at hr
    show Steps p.tables e below (T0.setTop (mkF m 2 #[.val (.int p0), .val (.int p1)] [(.int p1), (.int p0)])) _
    refine XS.icmpYes X0.here hx rfl (pc0 := 2) (pc' := 9) rfl (hb hby d1_2) rfl (tlt hc2).2.2.1 (by decide) (by decide) ?_
    show Steps p.tables e below (T0.setTop (mkF m 9 #[.val (.int p0), .val (.int p1)] [])) _
    refine XS.iloadN X0.here hx rfl (hb hby d1_9) rfl ?_
    show Steps p.tables e below (T0.setTop (mkF m 10 #[.val (.int p0), .val (.int p1)] [(.int p1)])) _
    exact retI X0 hx hret (hb hby d1_10) hr
  · rw [if_neg hc2] at hr
    show Steps p.tables e below (T0.setTop (mkF m 2 #[.val (.int p0), .val (.int p1)] [(.int p1), (.int p0)])) _
    refine XS.icmpNo X0.here hx rfl (hb hby d1_2) rfl (flt hc2).2.2.1 ?_
    show Steps p.tables e below (T0.setTop (mkF m 5 #[.val (.int p0), .val (.int p1)] [])) _
    refine XS.iloadN X0.here hx rfl (hb hby d1_5) rfl ?_
    show Steps p.tables e below (T0.setTop (mkF m 6 #[.val (.int p0), .val (.int p1)] [(.int p0)])) _
    refine XS.goto X0.here hx rfl (pc0 := 6) (pc' := 10) rfl (hb hby d1_6) (by decide) (by decide) ?_
    show Steps p.tables e below (T0.setTop (mkF m 10 #[.val (.int p0), .val (.int p1)] [(.int p0)])) _
    exact retI X0 hx hret (hb hby d1_10) hr
theorem ef_1 (m : MethodId) (p0 : Int32) (p1 : Int32) : entryFrame m #[(.int p0), (.int p1)] 2 = mkF m 0 #[.val (.int p0), .val (.int p1)] [] := by first | (simp [entryFrame, mkF, argsToLocals, Value.category]; done) | rfl

def Q1 (p0 : Int32) (p1 : Int32) (h0 : Heap) (n0 : Nat) (v : Option Value) (h : Heap) (L : List Loc) : Prop := v = some (.int (own1_f0 p0 p1)) ∧ Fr n0 L ∧ h = h0
set_option maxRecDepth 65536 in
set_option maxHeartbeats 40000000 in
theorem rm1 (l : Launch) (Z : State) (t0 : Array Value) (hw : ∀ d ∈ tables_1, d.before t0 Z = true) (ws : List Jvm.Cond) (p0 : Int32) (p1 : Int32) (h0 : Heap) (n0 : Nat) (Z0 : n0 ≤ h0.size)  :
    MetFree l (⟨"java/lang/Math", "min", "(II)I"⟩ : MethodName) (head1 (Jvm.Cond.code (⟨"java/lang/Math", "min", "(II)I"⟩ : MethodName) jdk_29_method_69_code 2 (some .int) :: ws) ({ frames := 0, cells := 0, slots := 0, locals := 0 } : Room)) (fun a U => a = #[(.int p0), (.int p1)] ∧ Z.Warmed39 U.vm ∧ U.heap = h0) (fun _ _ _ _ _ => True) (fun _ U o U' => ∃ v L, o = .returned v ∧ Q1 p0 p1 h0 n0 v U'.heap L ∧ FrameEnd U o U' L ({ frames := 0, cells := 0, slots := 0, locals := 0 } : Room).cells ({ frames := 0, cells := 0, slots := 0, locals := 0 } : Room).slots) := by
  refine MetFree.of_bodySF (Jvm.Free.JP.mathPlain rfl (by decide +kernel)) hisR ?_
  intro p e s m args below meth c s₁ Bd hml0 hP hK
  obtain ⟨rfl, hZ, hh⟩ := hP
  have hx := Bd.exec
  have hby := Bd.bytes
  have hml : c.maxLocals = 2 := hml0
  have hown : s.vm.findClass "java/lang/Math" = some m.cls := findClass_of_methodNamed Bd.named
  have hnm := (name_of_methodNamed Bd.named Bd.method).1
  have X0 : Stand p l e ({ frames := 0, cells := 0, slots := 0, locals := 0 } : Room) s m #[(.int p0), (.int p1)] below meth c s₁ [] 0 0 := Stand.of_body Bd
  have e0 : s₁.heap = h0 := by rw [← hh, Bd.state]; rfl
  have N0 := Fr.nil n0
  have pre0 : ∀ t, Steps p.tables e below (s₁.setTop (mkF m 0 #[.val (.int p0), .val (.int p1)] [])) t → Steps p.tables e below (s₁.setTop (entryFrame m #[(.int p0), (.int p1)] 2)) t := fun t k => castTop (ef_1 m p0 p1) k
  obtain ⟨fs, hr, hrun, hended, hW, hsame⟩ := X0.leave (v := some (.int (own1_f0 p0 p1))) (fun h => by rw [Bd.returns] at h; cases h)
  refine ⟨_, _, pre0 _ ?_, hrun, hended, _, _, rfl, ?_, ⟨_, rfl⟩, hW, hsame.mono (by decide) (by decide)⟩
  · exact own1_b0 p0 p1 X0 hx hZ hw hby hown e0  Bd.returns hr
  · show Q1 p0 p1 h0 n0 _ s₁.heap _
    rw [e0]
    exact ⟨rfl, N0, rfl⟩
theorem d7_0 : decode jdk_29_method_65_code 0 = .ok (.iload_n 0, 1) := by decide +kernel
theorem d7_1 : decode jdk_29_method_65_code 1 = .ok (.iload_n 1, 1) := by decide +kernel
theorem d7_2 : decode jdk_29_method_65_code 2 = .ok (.if_icmp .lt 7, 3) := by decide +kernel
theorem d7_5 : decode jdk_29_method_65_code 5 = .ok (.iload_n 0, 1) := by decide +kernel
theorem d7_6 : decode jdk_29_method_65_code 6 = .ok (.goto 4, 3) := by decide +kernel
theorem d7_9 : decode jdk_29_method_65_code 9 = .ok (.iload_n 1, 1) := by decide +kernel
theorem d7_10 : decode jdk_29_method_65_code 10 = .ok (.ireturn, 1) := by decide +kernel
def own7_f0 (p0 : Int32) (p1 : Int32) : Int32 := (if p0 < p1 then p1 else p0)
theorem own7_e0 (p0 : Int32) (p1 : Int32) : (own7_f0 p0 p1) = (if p0 < p1 then p1 else p0) := rfl
set_option maxRecDepth 65536 in
set_option maxHeartbeats 40000000 in
theorem own7_b0 {p : Program} {l : Launch} {e : Env} {R : Room} {s : State} {m : MethodId} {args : Array Value} {below : List Frame} {meth : Method} {c : Code} {T0 : State} {locs : List Loc} {cells slots : Nat} {Z : State} {t0 : Array Value} {h0 : Heap} (p0 : Int32) (p1 : Int32) (X0 : Stand p l e R s m args below meth c T0 locs cells slots) (hx : p.tables.exec = Jvm.exec) (hZ : Z.Warmed39 s.vm) (hw : ∀ d ∈ tables_1, d.before t0 Z = true) (hby : c.code = jdk_29_method_65_code) (hown : s.vm.findClass "java/lang/Math" = some m.cls) (e0 : T0.heap = h0)  (hret : meth.sig.returnType = some .int) {fs : List Frame} (hr : ∀ (f : JFrame) (acts : List Action), f.method = m → f.locked = none → f.entered = [] → (doReturn e (T0.setTop f) acts (some (.int (own7_f0 p0 p1)))).1 = T0.setFrames fs) : Steps p.tables e below (T0.setTop (mkF m 0 #[.val (.int p0), .val (.int p1)] [])) (T0.setFrames fs) := by
  rw [own7_e0] at hr
  show Steps p.tables e below (T0.setTop (mkF m 0 #[.val (.int p0), .val (.int p1)] [])) _
  refine XS.iloadN X0.here hx rfl (hb hby d7_0) rfl ?_
  show Steps p.tables e below (T0.setTop (mkF m 1 #[.val (.int p0), .val (.int p1)] [(.int p0)])) _
  refine XS.iloadN X0.here hx rfl (hb hby d7_1) rfl ?_
  by_cases hc2 : p0 < p1
  · rw [if_pos hc2] at hr
    show Steps p.tables e below (T0.setTop (mkF m 2 #[.val (.int p0), .val (.int p1)] [(.int p1), (.int p0)])) _
    refine XS.icmpYes X0.here hx rfl (pc0 := 2) (pc' := 9) rfl (hb hby d7_2) rfl (tlt hc2).1 (by decide) (by decide) ?_
    show Steps p.tables e below (T0.setTop (mkF m 9 #[.val (.int p0), .val (.int p1)] [])) _
    refine XS.iloadN X0.here hx rfl (hb hby d7_9) rfl ?_
    show Steps p.tables e below (T0.setTop (mkF m 10 #[.val (.int p0), .val (.int p1)] [(.int p1)])) _
    exact retI X0 hx hret (hb hby d7_10) hr
  · rw [if_neg hc2] at hr
    show Steps p.tables e below (T0.setTop (mkF m 2 #[.val (.int p0), .val (.int p1)] [(.int p1), (.int p0)])) _
    refine XS.icmpNo X0.here hx rfl (hb hby d7_2) rfl (flt hc2).1 ?_
    show Steps p.tables e below (T0.setTop (mkF m 5 #[.val (.int p0), .val (.int p1)] [])) _
    refine XS.iloadN X0.here hx rfl (hb hby d7_5) rfl ?_
    show Steps p.tables e below (T0.setTop (mkF m 6 #[.val (.int p0), .val (.int p1)] [(.int p0)])) _
    refine XS.goto X0.here hx rfl (pc0 := 6) (pc' := 10) rfl (hb hby d7_6) (by decide) (by decide) ?_
    show Steps p.tables e below (T0.setTop (mkF m 10 #[.val (.int p0), .val (.int p1)] [(.int p0)])) _
    exact retI X0 hx hret (hb hby d7_10) hr
theorem ef_7 (m : MethodId) (p0 : Int32) (p1 : Int32) : entryFrame m #[(.int p0), (.int p1)] 2 = mkF m 0 #[.val (.int p0), .val (.int p1)] [] := by first | (simp [entryFrame, mkF, argsToLocals, Value.category]; done) | rfl

def Q7 (p0 : Int32) (p1 : Int32) (h0 : Heap) (n0 : Nat) (v : Option Value) (h : Heap) (L : List Loc) : Prop := v = some (.int (own7_f0 p0 p1)) ∧ Fr n0 L ∧ h = h0
set_option maxRecDepth 65536 in
set_option maxHeartbeats 40000000 in
theorem rm7 (l : Launch) (Z : State) (t0 : Array Value) (hw : ∀ d ∈ tables_1, d.before t0 Z = true) (ws : List Jvm.Cond) (p0 : Int32) (p1 : Int32) (h0 : Heap) (n0 : Nat) (Z0 : n0 ≤ h0.size)  :
    MetFree l (⟨"java/lang/Math", "max", "(II)I"⟩ : MethodName) (head1 (Jvm.Cond.code (⟨"java/lang/Math", "max", "(II)I"⟩ : MethodName) jdk_29_method_65_code 2 (some .int) :: ws) ({ frames := 0, cells := 0, slots := 0, locals := 0 } : Room)) (fun a U => a = #[(.int p0), (.int p1)] ∧ Z.Warmed39 U.vm ∧ U.heap = h0) (fun _ _ _ _ _ => True) (fun _ U o U' => ∃ v L, o = .returned v ∧ Q7 p0 p1 h0 n0 v U'.heap L ∧ FrameEnd U o U' L ({ frames := 0, cells := 0, slots := 0, locals := 0 } : Room).cells ({ frames := 0, cells := 0, slots := 0, locals := 0 } : Room).slots) := by
  refine MetFree.of_bodySF (Jvm.Free.JP.mathPlain rfl (by decide +kernel)) hisR ?_
  intro p e s m args below meth c s₁ Bd hml0 hP hK
  obtain ⟨rfl, hZ, hh⟩ := hP
  have hx := Bd.exec
  have hby := Bd.bytes
  have hml : c.maxLocals = 2 := hml0
  have hown : s.vm.findClass "java/lang/Math" = some m.cls := findClass_of_methodNamed Bd.named
  have hnm := (name_of_methodNamed Bd.named Bd.method).1
  have X0 : Stand p l e ({ frames := 0, cells := 0, slots := 0, locals := 0 } : Room) s m #[(.int p0), (.int p1)] below meth c s₁ [] 0 0 := Stand.of_body Bd
  have e0 : s₁.heap = h0 := by rw [← hh, Bd.state]; rfl
  have N0 := Fr.nil n0
  have pre0 : ∀ t, Steps p.tables e below (s₁.setTop (mkF m 0 #[.val (.int p0), .val (.int p1)] [])) t → Steps p.tables e below (s₁.setTop (entryFrame m #[(.int p0), (.int p1)] 2)) t := fun t k => castTop (ef_7 m p0 p1) k
  obtain ⟨fs, hr, hrun, hended, hW, hsame⟩ := X0.leave (v := some (.int (own7_f0 p0 p1))) (fun h => by rw [Bd.returns] at h; cases h)
  refine ⟨_, _, pre0 _ ?_, hrun, hended, _, _, rfl, ?_, ⟨_, rfl⟩, hW, hsame.mono (by decide) (by decide)⟩
  · exact own7_b0 p0 p1 X0 hx hZ hw hby hown e0  Bd.returns hr
  · show Q7 p0 p1 h0 n0 _ s₁.heap _
    rw [e0]
    exact ⟨rfl, N0, rfl⟩
theorem d3_0 : decode jdk_30_method_1_code 0 = .ok (.aload_n 0, 1) := by decide +kernel
theorem d3_1 : decode jdk_30_method_1_code 1 = .ok (.invokespecial 1, 3) := by decide +kernel
theorem d3_4 : decode jdk_30_method_1_code 4 = .ok (.return_, 1) := by decide +kernel
theorem ef_3 (m : MethodId) (a0 : Addr) : entryFrame m #[(.ref a0)] 1 = mkF m 0 #[.val (.ref a0)] [] := by first | (simp [entryFrame, mkF, argsToLocals, Value.category]; done) | rfl
theorem pn_3 : plainName "java/lang/Record" = true := by first | (simp [plainName, overriddenIn]; done) | decide +kernel
def Q3 (h0 : Heap) (n0 : Nat) (v : Option Value) (h : Heap) (L : List Loc) : Prop := v = none ∧ Fr n0 L ∧ h = h0
set_option maxRecDepth 65536 in
set_option maxHeartbeats 40000000 in
theorem rm3 (l : Launch) (Z : State) (t0 : Array Value) (hw : ∀ d ∈ tables_1, d.before t0 Z = true) (ws : List Jvm.Cond) (a0 : Addr) (h0 : Heap) (n0 : Nat) (Z0 : n0 ≤ h0.size)  :
    MetFree l (⟨"java/lang/Record", "<init>", "()V"⟩ : MethodName) (head1 (Jvm.Cond.code (⟨"java/lang/Record", "<init>", "()V"⟩ : MethodName) jdk_30_method_1_code 1 none :: ws) ({ frames := 1, cells := 0, slots := 0, locals := 12 } : Room)) (fun a U => a = #[(.ref a0)] ∧ Z.Warmed39 U.vm ∧ U.heap = h0) (fun _ _ _ _ _ => True) (fun _ U o U' => ∃ v L, o = .returned v ∧ Q3 h0 n0 v U'.heap L ∧ FrameEnd U o U' L ({ frames := 1, cells := 0, slots := 0, locals := 12 } : Room).cells ({ frames := 1, cells := 0, slots := 0, locals := 12 } : Room).slots) := by
  refine MetFree.of_bodySF (plainFor_of_name pn_3) hisR ?_
  intro p e s m args below meth c s₁ Bd hml0 hP hK
  obtain ⟨rfl, hZ, hh⟩ := hP
  have hx := Bd.exec
  have hby := Bd.bytes
  have hml : c.maxLocals = 1 := hml0
  have hown : s.vm.findClass "java/lang/Record" = some m.cls := findClass_of_methodNamed Bd.named
  have hnm := (name_of_methodNamed Bd.named Bd.method).1
  have X0 : Stand p l e ({ frames := 1, cells := 0, slots := 0, locals := 12 } : Room) s m #[(.ref a0)] below meth c s₁ [] 0 0 := Stand.of_body Bd
  have e0 : s₁.heap = h0 := by rw [← hh, Bd.state]; rfl
  have N0 := Fr.nil n0
  have pre0 : ∀ t, Steps p.tables e below (s₁.setTop (mkF m 0 #[.val (.ref a0)] [])) t → Steps p.tables e below (s₁.setTop (entryFrame m #[(.ref a0)] 1)) t := fun t k => castTop (ef_3 m a0) k
  refine own_go pre0 ?_
  refine own_go (B := s₁.setTop (mkF m 1 #[.val (.ref a0)] [(.ref a0)])) (fun t kt => ?_) ?_
  · show Steps p.tables e below (s₁.setTop (mkF m 0 #[.val (.ref a0)] [])) _
    refine XS.aloadN X0.here hx rfl (hb hby d3_0) rfl rfl ?_
    exact kt
  obtain ⟨T1, X1, e1, st1⟩ := initO X0 hx hZ hown (hw _ (List.mem_of_getElem? (i := 16) rfl)) (hw _ (List.mem_of_getElem? (i := 17) rfl)) (hw _ (List.mem_of_getElem? (i := 18) rfl)) e0 (g := (mkF m 1 #[.val (.ref a0)] [(.ref a0)])) rfl (by rw [hml]; rfl) rfl (hb hby d3_1) (by decide) (W := 0) (by show 2 * 0 + _ ≤ _; exact Nat.le_of_eq rfl) (by decide)
  refine own_go (B := T1.setTop (mkF m 4 #[.val (.ref a0)] [])) (fun t kt => st1 t kt) ?_
  obtain ⟨fs, hr, hrun, hended, hW, hsame⟩ := X1.leave (v := none) (fun _ => rfl)
  refine ⟨_, _, ?_, hrun, hended, _, _, rfl, ?_, ⟨_, rfl⟩, hW, hsame.mono (by decide) (by decide)⟩
  · show Steps p.tables e below (T1.setTop (mkF m 4 #[.val (.ref a0)] [])) _
    exact X1.returnOut hx Bd.returns (hb hby d3_4) hr
  · show Q3 h0 n0 _ T1.heap _
    rw [e1]
    exact ⟨rfl, N0, rfl⟩
theorem d5_0 : decode prog_26_method_14_code 0 = .ok (.iload_n 1, 1) := by decide +kernel
theorem d5_1 : decode prog_26_method_14_code 1 = .ok (.ifCond .lt 8, 3) := by decide +kernel
theorem d5_4 : decode prog_26_method_14_code 4 = .ok (.iload_n 1, 1) := by decide +kernel
theorem d5_5 : decode prog_26_method_14_code 5 = .ok (.iload_n 0, 1) := by decide +kernel
theorem d5_6 : decode prog_26_method_14_code 6 = .ok (.if_icmp .le 5, 3) := by decide +kernel
theorem d5_11 : decode prog_26_method_14_code 11 = .ok (.lconst 1, 1) := by decide +kernel
theorem d5_12 : decode prog_26_method_14_code 12 = .ok (.lstore_n 2, 1) := by decide +kernel
theorem d5_13 : decode prog_26_method_14_code 13 = .ok (.iconst 1, 1) := by decide +kernel
theorem d5_14 : decode prog_26_method_14_code 14 = .ok (.istore 4, 2) := by decide +kernel
theorem d5_16 : decode prog_26_method_14_code 16 = .ok (.iload 4, 2) := by decide +kernel
theorem d5_18 : decode prog_26_method_14_code 18 = .ok (.iload_n 1, 1) := by decide +kernel
theorem d5_19 : decode prog_26_method_14_code 19 = .ok (.if_icmp .gt 35, 3) := by decide +kernel
theorem d5_22 : decode prog_26_method_14_code 22 = .ok (.lload_n 2, 1) := by decide +kernel
theorem d5_23 : decode prog_26_method_14_code 23 = .ok (.iload_n 0, 1) := by decide +kernel
theorem d5_24 : decode prog_26_method_14_code 24 = .ok (.iload_n 1, 1) := by decide +kernel
theorem d5_25 : decode prog_26_method_14_code 25 = .ok (.isub, 1) := by decide +kernel
theorem d5_26 : decode prog_26_method_14_code 26 = .ok (.iload 4, 2) := by decide +kernel
theorem d5_28 : decode prog_26_method_14_code 28 = .ok (.iadd, 1) := by decide +kernel
theorem d5_29 : decode prog_26_method_14_code 29 = .ok (.i2l, 1) := by decide +kernel
theorem d5_30 : decode prog_26_method_14_code 30 = .ok (.lmul, 1) := by decide +kernel
theorem d5_31 : decode prog_26_method_14_code 31 = .ok (.iload 4, 2) := by decide +kernel
theorem d5_33 : decode prog_26_method_14_code 33 = .ok (.i2l, 1) := by decide +kernel
theorem d5_34 : decode prog_26_method_14_code 34 = .ok (.ldiv, 1) := by decide +kernel
theorem d5_35 : decode prog_26_method_14_code 35 = .ok (.lstore_n 2, 1) := by decide +kernel
theorem d5_36 : decode prog_26_method_14_code 36 = .ok (.lload_n 2, 1) := by decide +kernel
theorem d5_37 : decode prog_26_method_14_code 37 = .ok (.ldc2_w 20, 3) := by decide +kernel
theorem d5_40 : decode prog_26_method_14_code 40 = .ok (.lcmp, 1) := by decide +kernel
theorem d5_41 : decode prog_26_method_14_code 41 = .ok (.ifCond .le 7, 3) := by decide +kernel
theorem d5_44 : decode prog_26_method_14_code 44 = .ok (.ldc2_w 127, 3) := by decide +kernel
theorem d5_47 : decode prog_26_method_14_code 47 = .ok (.lreturn, 1) := by decide +kernel
theorem d5_48 : decode prog_26_method_14_code 48 = .ok (.iinc 4 1, 3) := by decide +kernel
theorem d5_51 : decode prog_26_method_14_code 51 = .ok (.goto (-35), 3) := by decide +kernel
theorem d5_54 : decode prog_26_method_14_code 54 = .ok (.lload_n 2, 1) := by decide +kernel
theorem d5_55 : decode prog_26_method_14_code 55 = .ok (.lreturn, 1) := by decide +kernel
def own_ch (p0 p1 : Int32) : Nat → Int64 → Int32 → Int64
  | 0, r, _ => r
  | k + 1, r, i => if (0 : Int32) < (lcmpW ((r * (((p0 - p1) + i).toInt64)) / (i.toInt64)) (64 : Int64)) then (65 : Int64) else own_ch p0 p1 k ((r * (((p0 - p1) + i).toInt64)) / (i.toInt64)) (i + (1 : Int32))
theorem own_chs (p0 p1 : Int32) (k : Nat) (r : Int64) (i : Int32) : own_ch p0 p1 (k + 1) r i = (if (0 : Int32) < (lcmpW ((r * (((p0 - p1) + i).toInt64)) / (i.toInt64)) (64 : Int64)) then (65 : Int64) else own_ch p0 p1 k ((r * (((p0 - p1) + i).toInt64)) / (i.toInt64)) (i + (1 : Int32))) := rfl
set_option maxRecDepth 65536 in
set_option maxHeartbeats 40000000 in
theorem own5_loop {p : Program} {l : Launch} {e : Env} {R : Room} {s : State} {m : MethodId} {args : Array Value} {below : List Frame} {meth : Method} {c : Code} {T0 : State} {locs : List Loc} {cells slots : Nat} {Z : State} {t0 : Array Value} {h0 : Heap} (p0 : Int32) (p1 : Int32) (X0 : Stand p l e R s m args below meth c T0 locs cells slots) (hx : p.tables.exec = Jvm.exec) (hZ : Z.Warmed39 s.vm) (hw : ∀ d ∈ tables_1, d.before t0 Z = true) (hby : c.code = prog_26_method_14_code) (hown : s.vm.findClass "com/example/hazy_hash/hazyhash/TableLayout" = some m.cls) (e0 : T0.heap = h0) (hp1 : p1.toInt ≤ 64) (hret : meth.sig.returnType = some .long) {fs : List Frame} :
    ∀ (k : Nat) (r : Int64) (i : Int32), i.toInt + k = p1.toInt + 1 → 1 ≤ i.toInt → (hr : ∀ (f : JFrame) (acts : List Action), f.method = m → f.locked = none → f.entered = [] → (doReturn e (T0.setTop f) acts (some (.long (own_ch p0 p1 k r i)))).1 = T0.setFrames fs) → Steps p.tables e below (T0.setTop (mkF m 16 #[.val (.int p0), .val (.int p1), .val (.long r), .second, .val (.int i)] [])) (T0.setFrames fs) := by
  intro k
  induction k with
  | zero =>
    intro r i hi h0i hr
    have hc19 : p1 < i := by rw [Int32.lt_iff_toInt_lt]; omega
    show Steps p.tables e below (T0.setTop (mkF m 16 #[.val (.int p0), .val (.int p1), .val (.long r), .second, .val (.int i)] [])) _
    refine XS.iload X0.here hx rfl (hb hby d5_16) rfl ?_
    show Steps p.tables e below (T0.setTop (mkF m 18 #[.val (.int p0), .val (.int p1), .val (.long r), .second, .val (.int i)] [(.int i)])) _
    refine XS.iloadN X0.here hx rfl (hb hby d5_18) rfl ?_
    show Steps p.tables e below (T0.setTop (mkF m 19 #[.val (.int p0), .val (.int p1), .val (.long r), .second, .val (.int i)] [(.int p1), (.int i)])) _
    refine XS.icmpYes X0.here hx rfl (pc0 := 19) (pc' := 54) rfl (hb hby d5_19) rfl (tlt hc19).2.2.1 (by decide) (by decide) ?_
    show Steps p.tables e below (T0.setTop (mkF m 54 #[.val (.int p0), .val (.int p1), .val (.long r), .second, .val (.int i)] [])) _
    refine XS.lloadN X0.here hx rfl (hb hby d5_54) rfl ?_
    show Steps p.tables e below (T0.setTop (mkF m 55 #[.val (.int p0), .val (.int p1), .val (.long r), .second, .val (.int i)] [(.long r)])) _
    exact Jvm.Stand.lreturnOut X0 hx hret (hb hby d5_55) hr
  | succ k ih =>
    intro r i hi h0i hr
    have hc19 : ¬ (p1 < i) := by rw [Int32.lt_iff_toInt_lt]; omega
    have hnz34 : (i.toInt64) ≠ (0 : Int64) := fun q => by
      have q2 := congrArg Int64.toInt q
      rw [c_i2l, show (0 : Int64).toInt = 0 from by decide] at q2
      omega
    rw [own_chs] at hr
    by_cases hc41 : (0 : Int32) < (lcmpW ((r * (((p0 - p1) + i).toInt64)) / (i.toInt64)) (64 : Int64))
    · rw [if_pos hc41] at hr
      show Steps p.tables e below (T0.setTop (mkF m 16 #[.val (.int p0), .val (.int p1), .val (.long r), .second, .val (.int i)] [])) _
      refine XS.iload X0.here hx rfl (hb hby d5_16) rfl ?_
      show Steps p.tables e below (T0.setTop (mkF m 18 #[.val (.int p0), .val (.int p1), .val (.long r), .second, .val (.int i)] [(.int i)])) _
      refine XS.iloadN X0.here hx rfl (hb hby d5_18) rfl ?_
      show Steps p.tables e below (T0.setTop (mkF m 19 #[.val (.int p0), .val (.int p1), .val (.long r), .second, .val (.int i)] [(.int p1), (.int i)])) _
      refine XS.icmpNo X0.here hx rfl (hb hby d5_19) rfl (flt hc19).2.2.1 ?_
      show Steps p.tables e below (T0.setTop (mkF m 22 #[.val (.int p0), .val (.int p1), .val (.long r), .second, .val (.int i)] [])) _
      refine XS.lloadN X0.here hx rfl (hb hby d5_22) rfl ?_
      show Steps p.tables e below (T0.setTop (mkF m 23 #[.val (.int p0), .val (.int p1), .val (.long r), .second, .val (.int i)] [(.long r)])) _
      refine XS.iloadN X0.here hx rfl (hb hby d5_23) rfl ?_
      show Steps p.tables e below (T0.setTop (mkF m 24 #[.val (.int p0), .val (.int p1), .val (.long r), .second, .val (.int i)] [(.int p0), (.long r)])) _
      refine XS.iloadN X0.here hx rfl (hb hby d5_24) rfl ?_
      show Steps p.tables e below (T0.setTop (mkF m 25 #[.val (.int p0), .val (.int p1), .val (.long r), .second, .val (.int i)] [(.int p1), (.int p0), (.long r)])) _
      refine XS.isub X0.here hx rfl (hb hby d5_25) rfl ?_
      show Steps p.tables e below (T0.setTop (mkF m 26 #[.val (.int p0), .val (.int p1), .val (.long r), .second, .val (.int i)] [(.int (p0 - p1)), (.long r)])) _
      refine XS.iload X0.here hx rfl (hb hby d5_26) rfl ?_
      show Steps p.tables e below (T0.setTop (mkF m 28 #[.val (.int p0), .val (.int p1), .val (.long r), .second, .val (.int i)] [(.int i), (.int (p0 - p1)), (.long r)])) _
      refine XS.iadd X0.here hx rfl (hb hby d5_28) rfl ?_
      show Steps p.tables e below (T0.setTop (mkF m 29 #[.val (.int p0), .val (.int p1), .val (.long r), .second, .val (.int i)] [(.int ((p0 - p1) + i)), (.long r)])) _
      refine XS.i2l X0.here hx rfl (hb hby d5_29) rfl ?_
      show Steps p.tables e below (T0.setTop (mkF m 30 #[.val (.int p0), .val (.int p1), .val (.long r), .second, .val (.int i)] [(.long (((p0 - p1) + i).toInt64)), (.long r)])) _
      refine XS.lmul X0.here hx rfl (hb hby d5_30) rfl ?_
      show Steps p.tables e below (T0.setTop (mkF m 31 #[.val (.int p0), .val (.int p1), .val (.long r), .second, .val (.int i)] [(.long (r * (((p0 - p1) + i).toInt64)))])) _
      refine XS.iload X0.here hx rfl (hb hby d5_31) rfl ?_
      show Steps p.tables e below (T0.setTop (mkF m 33 #[.val (.int p0), .val (.int p1), .val (.long r), .second, .val (.int i)] [(.int i), (.long (r * (((p0 - p1) + i).toInt64)))])) _
      refine XS.i2l X0.here hx rfl (hb hby d5_33) rfl ?_
      show Steps p.tables e below (T0.setTop (mkF m 34 #[.val (.int p0), .val (.int p1), .val (.long r), .second, .val (.int i)] [(.long (i.toInt64)), (.long (r * (((p0 - p1) + i).toInt64)))])) _
      refine XS.ldiv X0.here hx rfl (hb hby d5_34) rfl hnz34 ?_
      show Steps p.tables e below (T0.setTop (mkF m 35 #[.val (.int p0), .val (.int p1), .val (.long r), .second, .val (.int i)] [(.long ((r * (((p0 - p1) + i).toInt64)) / (i.toInt64)))])) _
      refine XS.lstoreN X0.here hx rfl (hb hby d5_35) rfl (l' := #[.val (.int p0), .val (.int p1), .val (.long ((r * (((p0 - p1) + i).toInt64)) / (i.toInt64))), .second, .val (.int i)]) rfl ?_
      show Steps p.tables e below (T0.setTop (mkF m 36 #[.val (.int p0), .val (.int p1), .val (.long ((r * (((p0 - p1) + i).toInt64)) / (i.toInt64))), .second, .val (.int i)] [])) _
      refine XS.lloadN X0.here hx rfl (hb hby d5_36) rfl ?_
      show Steps p.tables e below (T0.setTop (mkF m 37 #[.val (.int p0), .val (.int p1), .val (.long ((r * (((p0 - p1) + i).toInt64)) / (i.toInt64))), .second, .val (.int i)] [(.long ((r * (((p0 - p1) + i).toInt64)) / (i.toInt64)))])) _
      refine X0.ldc2Long hx hown (mvT hZ (hw _ (List.mem_of_getElem? (i := 19) rfl))) (g := (mkF m 37 #[.val (.int p0), .val (.int p1), .val (.long ((r * (((p0 - p1) + i).toInt64)) / (i.toInt64))), .second, .val (.int i)] [(.long ((r * (((p0 - p1) + i).toInt64)) / (i.toInt64)))])) rfl (hb hby d5_37) _ ?_
      show Steps p.tables e below (T0.setTop (mkF m 40 #[.val (.int p0), .val (.int p1), .val (.long ((r * (((p0 - p1) + i).toInt64)) / (i.toInt64))), .second, .val (.int i)] [(.long (64 : Int64)), (.long ((r * (((p0 - p1) + i).toInt64)) / (i.toInt64)))])) _
      refine XS.lcmp X0.here hx rfl (hb hby d5_40) rfl ?_
      show Steps p.tables e below (T0.setTop (mkF m 41 #[.val (.int p0), .val (.int p1), .val (.long ((r * (((p0 - p1) + i).toInt64)) / (i.toInt64))), .second, .val (.int i)] [(.int (lcmpW ((r * (((p0 - p1) + i).toInt64)) / (i.toInt64)) (64 : Int64)))])) _
      refine XS.ifNo X0.here hx rfl (hb hby d5_41) rfl ((if0 _ _).trans (tlt hc41).2.2.2) ?_
      show Steps p.tables e below (T0.setTop (mkF m 44 #[.val (.int p0), .val (.int p1), .val (.long ((r * (((p0 - p1) + i).toInt64)) / (i.toInt64))), .second, .val (.int i)] [])) _
      refine X0.ldc2Long hx hown (mvT hZ (hw _ (List.mem_of_getElem? (i := 38) rfl))) (g := (mkF m 44 #[.val (.int p0), .val (.int p1), .val (.long ((r * (((p0 - p1) + i).toInt64)) / (i.toInt64))), .second, .val (.int i)] [])) rfl (hb hby d5_44) _ ?_
      show Steps p.tables e below (T0.setTop (mkF m 47 #[.val (.int p0), .val (.int p1), .val (.long ((r * (((p0 - p1) + i).toInt64)) / (i.toInt64))), .second, .val (.int i)] [(.long (65 : Int64))])) _
      exact Jvm.Stand.lreturnOut X0 hx hret (hb hby d5_47) hr
    · rw [if_neg hc41] at hr
      show Steps p.tables e below (T0.setTop (mkF m 16 #[.val (.int p0), .val (.int p1), .val (.long r), .second, .val (.int i)] [])) _
      refine XS.iload X0.here hx rfl (hb hby d5_16) rfl ?_
      show Steps p.tables e below (T0.setTop (mkF m 18 #[.val (.int p0), .val (.int p1), .val (.long r), .second, .val (.int i)] [(.int i)])) _
      refine XS.iloadN X0.here hx rfl (hb hby d5_18) rfl ?_
      show Steps p.tables e below (T0.setTop (mkF m 19 #[.val (.int p0), .val (.int p1), .val (.long r), .second, .val (.int i)] [(.int p1), (.int i)])) _
      refine XS.icmpNo X0.here hx rfl (hb hby d5_19) rfl (flt hc19).2.2.1 ?_
      show Steps p.tables e below (T0.setTop (mkF m 22 #[.val (.int p0), .val (.int p1), .val (.long r), .second, .val (.int i)] [])) _
      refine XS.lloadN X0.here hx rfl (hb hby d5_22) rfl ?_
      show Steps p.tables e below (T0.setTop (mkF m 23 #[.val (.int p0), .val (.int p1), .val (.long r), .second, .val (.int i)] [(.long r)])) _
      refine XS.iloadN X0.here hx rfl (hb hby d5_23) rfl ?_
      show Steps p.tables e below (T0.setTop (mkF m 24 #[.val (.int p0), .val (.int p1), .val (.long r), .second, .val (.int i)] [(.int p0), (.long r)])) _
      refine XS.iloadN X0.here hx rfl (hb hby d5_24) rfl ?_
      show Steps p.tables e below (T0.setTop (mkF m 25 #[.val (.int p0), .val (.int p1), .val (.long r), .second, .val (.int i)] [(.int p1), (.int p0), (.long r)])) _
      refine XS.isub X0.here hx rfl (hb hby d5_25) rfl ?_
      show Steps p.tables e below (T0.setTop (mkF m 26 #[.val (.int p0), .val (.int p1), .val (.long r), .second, .val (.int i)] [(.int (p0 - p1)), (.long r)])) _
      refine XS.iload X0.here hx rfl (hb hby d5_26) rfl ?_
      show Steps p.tables e below (T0.setTop (mkF m 28 #[.val (.int p0), .val (.int p1), .val (.long r), .second, .val (.int i)] [(.int i), (.int (p0 - p1)), (.long r)])) _
      refine XS.iadd X0.here hx rfl (hb hby d5_28) rfl ?_
      show Steps p.tables e below (T0.setTop (mkF m 29 #[.val (.int p0), .val (.int p1), .val (.long r), .second, .val (.int i)] [(.int ((p0 - p1) + i)), (.long r)])) _
      refine XS.i2l X0.here hx rfl (hb hby d5_29) rfl ?_
      show Steps p.tables e below (T0.setTop (mkF m 30 #[.val (.int p0), .val (.int p1), .val (.long r), .second, .val (.int i)] [(.long (((p0 - p1) + i).toInt64)), (.long r)])) _
      refine XS.lmul X0.here hx rfl (hb hby d5_30) rfl ?_
      show Steps p.tables e below (T0.setTop (mkF m 31 #[.val (.int p0), .val (.int p1), .val (.long r), .second, .val (.int i)] [(.long (r * (((p0 - p1) + i).toInt64)))])) _
      refine XS.iload X0.here hx rfl (hb hby d5_31) rfl ?_
      show Steps p.tables e below (T0.setTop (mkF m 33 #[.val (.int p0), .val (.int p1), .val (.long r), .second, .val (.int i)] [(.int i), (.long (r * (((p0 - p1) + i).toInt64)))])) _
      refine XS.i2l X0.here hx rfl (hb hby d5_33) rfl ?_
      show Steps p.tables e below (T0.setTop (mkF m 34 #[.val (.int p0), .val (.int p1), .val (.long r), .second, .val (.int i)] [(.long (i.toInt64)), (.long (r * (((p0 - p1) + i).toInt64)))])) _
      refine XS.ldiv X0.here hx rfl (hb hby d5_34) rfl hnz34 ?_
      show Steps p.tables e below (T0.setTop (mkF m 35 #[.val (.int p0), .val (.int p1), .val (.long r), .second, .val (.int i)] [(.long ((r * (((p0 - p1) + i).toInt64)) / (i.toInt64)))])) _
      refine XS.lstoreN X0.here hx rfl (hb hby d5_35) rfl (l' := #[.val (.int p0), .val (.int p1), .val (.long ((r * (((p0 - p1) + i).toInt64)) / (i.toInt64))), .second, .val (.int i)]) rfl ?_
      show Steps p.tables e below (T0.setTop (mkF m 36 #[.val (.int p0), .val (.int p1), .val (.long ((r * (((p0 - p1) + i).toInt64)) / (i.toInt64))), .second, .val (.int i)] [])) _
      refine XS.lloadN X0.here hx rfl (hb hby d5_36) rfl ?_
      show Steps p.tables e below (T0.setTop (mkF m 37 #[.val (.int p0), .val (.int p1), .val (.long ((r * (((p0 - p1) + i).toInt64)) / (i.toInt64))), .second, .val (.int i)] [(.long ((r * (((p0 - p1) + i).toInt64)) / (i.toInt64)))])) _
      refine X0.ldc2Long hx hown (mvT hZ (hw _ (List.mem_of_getElem? (i := 19) rfl))) (g := (mkF m 37 #[.val (.int p0), .val (.int p1), .val (.long ((r * (((p0 - p1) + i).toInt64)) / (i.toInt64))), .second, .val (.int i)] [(.long ((r * (((p0 - p1) + i).toInt64)) / (i.toInt64)))])) rfl (hb hby d5_37) _ ?_
      show Steps p.tables e below (T0.setTop (mkF m 40 #[.val (.int p0), .val (.int p1), .val (.long ((r * (((p0 - p1) + i).toInt64)) / (i.toInt64))), .second, .val (.int i)] [(.long (64 : Int64)), (.long ((r * (((p0 - p1) + i).toInt64)) / (i.toInt64)))])) _
      refine XS.lcmp X0.here hx rfl (hb hby d5_40) rfl ?_
      show Steps p.tables e below (T0.setTop (mkF m 41 #[.val (.int p0), .val (.int p1), .val (.long ((r * (((p0 - p1) + i).toInt64)) / (i.toInt64))), .second, .val (.int i)] [(.int (lcmpW ((r * (((p0 - p1) + i).toInt64)) / (i.toInt64)) (64 : Int64)))])) _
      refine XS.ifYes X0.here hx rfl (pc0 := 41) (pc' := 48) rfl (hb hby d5_41) rfl ((if0 _ _).trans (flt hc41).2.2.2) (by decide) (by decide) ?_
      show Steps p.tables e below (T0.setTop (mkF m 48 #[.val (.int p0), .val (.int p1), .val (.long ((r * (((p0 - p1) + i).toInt64)) / (i.toInt64))), .second, .val (.int i)] [])) _
      refine XS.iinc X0.here hx rfl (hb hby d5_48) rfl (l' := #[.val (.int p0), .val (.int p1), .val (.long ((r * (((p0 - p1) + i).toInt64)) / (i.toInt64))), .second, .val (.int (i + (1 : Int32)))]) rfl ?_
      show Steps p.tables e below (T0.setTop (mkF m 51 #[.val (.int p0), .val (.int p1), .val (.long ((r * (((p0 - p1) + i).toInt64)) / (i.toInt64))), .second, .val (.int (i + (1 : Int32)))] [])) _
      refine XS.goto X0.here hx rfl (pc0 := 51) (pc' := 16) rfl (hb hby d5_51) (by decide) (by decide) ?_
      have c1 := c_iadd i (1 : Int32)
      have c2 := rng32 (i + (1 : Int32))
      have c3 : (1 : Int32).toInt = 1 := by decide
      exact ih _ (i + (1 : Int32)) (by omega) (by omega) hr
theorem ef_5 (m : MethodId) (p0 : Int32) (p1 : Int32) : entryFrame m #[(.int p0), (.int p1)] 5 = mkF m 0 #[.val (.int p0), .val (.int p1), .unset, .unset, .unset] [] := by first | (simp [entryFrame, mkF, argsToLocals, Value.category]; done) | rfl
theorem pn_5 : plainName "com/example/hazy_hash/hazyhash/TableLayout" = true := by first | (simp [plainName, overriddenIn]; done) | decide +kernel
def Q5 (p0 p1 : Int32) (h0 : Heap) (n0 : Nat) (v : Option Value) (h : Heap) (L : List Loc) : Prop := v = some (.long (own_ch p0 p1 p1.toInt.toNat (1 : Int64) (1 : Int32))) ∧ Fr n0 L ∧ h = h0
set_option maxRecDepth 65536 in
set_option maxHeartbeats 40000000 in
theorem rm5 (l : Launch) (Z : State) (t0 : Array Value) (hw : ∀ d ∈ tables_1, d.before t0 Z = true) (ws : List Jvm.Cond) (p0 : Int32) (p1 : Int32) (h0 : Heap) (n0 : Nat) (Z0 : n0 ≤ h0.size) (hp1 : p1.toInt ≤ 64) (hc1 : ¬ (p1 < (0 : Int32))) (hc6 : ¬ (p0 < p1)) :
    MetFree l (⟨"com/example/hazy_hash/hazyhash/TableLayout", "choices", "(II)J"⟩ : MethodName) (head1 (Jvm.Cond.code (⟨"com/example/hazy_hash/hazyhash/TableLayout", "choices", "(II)J"⟩ : MethodName) prog_26_method_14_code 5 (some .long) :: ws) ({ frames := 0, cells := 0, slots := 0, locals := 0 } : Room)) (fun a U => a = #[(.int p0), (.int p1)] ∧ Z.Warmed39 U.vm ∧ U.heap = h0) (fun _ _ _ _ _ => True) (fun _ U o U' => ∃ v L, o = .returned v ∧ Q5 p0 p1 h0 n0 v U'.heap L ∧ FrameEnd U o U' L ({ frames := 0, cells := 0, slots := 0, locals := 0 } : Room).cells ({ frames := 0, cells := 0, slots := 0, locals := 0 } : Room).slots) := by
  refine MetFree.of_bodySF (plainFor_of_name pn_5) hisR ?_
  intro p e s m args below meth c s₁ Bd hml0 hP hK
  obtain ⟨rfl, hZ, hh⟩ := hP
  have hx := Bd.exec
  have hby := Bd.bytes
  have hml : c.maxLocals = 5 := hml0
  have hown : s.vm.findClass "com/example/hazy_hash/hazyhash/TableLayout" = some m.cls := findClass_of_methodNamed Bd.named
  have hnm := (name_of_methodNamed Bd.named Bd.method).1
  have X0 : Stand p l e ({ frames := 0, cells := 0, slots := 0, locals := 0 } : Room) s m #[(.int p0), (.int p1)] below meth c s₁ [] 0 0 := Stand.of_body Bd
  have e0 : s₁.heap = h0 := by rw [← hh, Bd.state]; rfl
  have N0 := Fr.nil n0
  have pre0 : ∀ t, Steps p.tables e below (s₁.setTop (mkF m 0 #[.val (.int p0), .val (.int p1), .unset, .unset, .unset] [])) t → Steps p.tables e below (s₁.setTop (entryFrame m #[(.int p0), (.int p1)] 5)) t := fun t k => castTop (ef_5 m p0 p1) k
  have hz : 0 ≤ p1.toInt := by rw [Int32.lt_iff_toInt_lt, show (0 : Int32).toInt = 0 from by decide] at hc1; omega
  obtain ⟨fs, hr, hrun, hended, hW, hsame⟩ := X0.leave (v := some (.long (own_ch p0 p1 p1.toInt.toNat (1 : Int64) (1 : Int32)))) (fun h => by rw [Bd.returns] at h; cases h)
  refine ⟨_, _, pre0 _ ?_, hrun, hended, _, _, rfl, ?_, ⟨_, rfl⟩, hW, hsame.mono (by decide) (by decide)⟩
  · show Steps p.tables e below (s₁.setTop (mkF m 0 #[.val (.int p0), .val (.int p1), .unset, .unset, .unset] [])) _
    refine XS.iloadN X0.here hx rfl (hb hby d5_0) rfl ?_
    show Steps p.tables e below (s₁.setTop (mkF m 1 #[.val (.int p0), .val (.int p1), .unset, .unset, .unset] [(.int p1)])) _
    refine XS.ifNo X0.here hx rfl (hb hby d5_1) rfl ((if0 _ _).trans (flt hc1).1) ?_
    show Steps p.tables e below (s₁.setTop (mkF m 4 #[.val (.int p0), .val (.int p1), .unset, .unset, .unset] [])) _
    refine XS.iloadN X0.here hx rfl (hb hby d5_4) rfl ?_
    show Steps p.tables e below (s₁.setTop (mkF m 5 #[.val (.int p0), .val (.int p1), .unset, .unset, .unset] [(.int p1)])) _
    refine XS.iloadN X0.here hx rfl (hb hby d5_5) rfl ?_
    show Steps p.tables e below (s₁.setTop (mkF m 6 #[.val (.int p0), .val (.int p1), .unset, .unset, .unset] [(.int p0), (.int p1)])) _
    refine XS.icmpYes X0.here hx rfl (pc0 := 6) (pc' := 11) rfl (hb hby d5_6) rfl (flt hc6).2.2.2 (by decide) (by decide) ?_
    show Steps p.tables e below (s₁.setTop (mkF m 11 #[.val (.int p0), .val (.int p1), .unset, .unset, .unset] [])) _
    refine XS.lconst X0.here hx rfl (hb hby d5_11) ?_
    show Steps p.tables e below (s₁.setTop (mkF m 12 #[.val (.int p0), .val (.int p1), .unset, .unset, .unset] [(.long (1 : Int64))])) _
    refine XS.lstoreN X0.here hx rfl (hb hby d5_12) rfl (l' := #[.val (.int p0), .val (.int p1), .val (.long (1 : Int64)), .second, .unset]) rfl ?_
    show Steps p.tables e below (s₁.setTop (mkF m 13 #[.val (.int p0), .val (.int p1), .val (.long (1 : Int64)), .second, .unset] [])) _
    refine XS.iconst X0.here hx rfl (hb hby d5_13) ?_
    show Steps p.tables e below (s₁.setTop (mkF m 14 #[.val (.int p0), .val (.int p1), .val (.long (1 : Int64)), .second, .unset] [(.int (1 : Int32))])) _
    refine XS.istore X0.here hx rfl (hb hby d5_14) rfl (l' := #[.val (.int p0), .val (.int p1), .val (.long (1 : Int64)), .second, .val (.int (1 : Int32))]) rfl ?_
    exact own5_loop p0 p1 X0 hx hZ hw hby hown e0 hp1 Bd.returns p1.toInt.toNat (1 : Int64) (1 : Int32) (by rw [show (1 : Int32).toInt = 1 from by decide]; omega) (by decide) hr
  · show Q5 p0 p1 h0 n0 _ s₁.heap _
    rw [e0]
    exact ⟨rfl, N0, rfl⟩
theorem pd_2_0 : parseMethodDescriptor "()V" = some ⟨[], none⟩ := by decide +kernel
theorem pd_2_1 : parseMethodDescriptor "(II)J" = some ⟨[.int, .int], some .long⟩ := by decide +kernel
theorem d2_0 : decode prog_26_method_1_code 0 = .ok (.aload_n 0, 1) := by decide +kernel
theorem d2_1 : decode prog_26_method_1_code 1 = .ok (.invokespecial 5, 3) := by decide +kernel
theorem d2_4 : decode prog_26_method_1_code 4 = .ok (.iload_n 1, 1) := by decide +kernel
theorem d2_5 : decode prog_26_method_1_code 5 = .ok (.iconst 1, 1) := by decide +kernel
theorem d2_6 : decode prog_26_method_1_code 6 = .ok (.if_icmp .lt 9, 3) := by decide +kernel
theorem d2_9 : decode prog_26_method_1_code 9 = .ok (.iload_n 1, 1) := by decide +kernel
theorem d2_10 : decode prog_26_method_1_code 10 = .ok (.bipush 64, 2) := by decide +kernel
theorem d2_12 : decode prog_26_method_1_code 12 = .ok (.if_icmp .le 17, 3) := by decide +kernel
theorem d2_29 : decode prog_26_method_1_code 29 = .ok (.iload_n 2, 1) := by decide +kernel
theorem d2_30 : decode prog_26_method_1_code 30 = .ok (.ifCond .lt 15, 3) := by decide +kernel
theorem d2_33 : decode prog_26_method_1_code 33 = .ok (.iload_n 1, 1) := by decide +kernel
theorem d2_34 : decode prog_26_method_1_code 34 = .ok (.i2l, 1) := by decide +kernel
theorem d2_35 : decode prog_26_method_1_code 35 = .ok (.iload_n 2, 1) := by decide +kernel
theorem d2_36 : decode prog_26_method_1_code 36 = .ok (.i2l, 1) := by decide +kernel
theorem d2_37 : decode prog_26_method_1_code 37 = .ok (.lmul, 1) := by decide +kernel
theorem d2_38 : decode prog_26_method_1_code 38 = .ok (.ldc2_w 20, 3) := by decide +kernel
theorem d2_41 : decode prog_26_method_1_code 41 = .ok (.lcmp, 1) := by decide +kernel
theorem d2_42 : decode prog_26_method_1_code 42 = .ok (.ifCond .le 18, 3) := by decide +kernel
theorem d2_60 : decode prog_26_method_1_code 60 = .ok (.iload_n 3, 1) := by decide +kernel
theorem d2_61 : decode prog_26_method_1_code 61 = .ok (.iconst 1, 1) := by decide +kernel
theorem d2_62 : decode prog_26_method_1_code 62 = .ok (.if_icmp .lt 8, 3) := by decide +kernel
theorem d2_65 : decode prog_26_method_1_code 65 = .ok (.iload_n 3, 1) := by decide +kernel
theorem d2_66 : decode prog_26_method_1_code 66 = .ok (.iload_n 1, 1) := by decide +kernel
theorem d2_67 : decode prog_26_method_1_code 67 = .ok (.if_icmp .le 18, 3) := by decide +kernel
theorem d2_85 : decode prog_26_method_1_code 85 = .ok (.iload_n 3, 1) := by decide +kernel
theorem d2_86 : decode prog_26_method_1_code 86 = .ok (.i2l, 1) := by decide +kernel
theorem d2_87 : decode prog_26_method_1_code 87 = .ok (.iload_n 2, 1) := by decide +kernel
theorem d2_88 : decode prog_26_method_1_code 88 = .ok (.i2l, 1) := by decide +kernel
theorem d2_89 : decode prog_26_method_1_code 89 = .ok (.lmul, 1) := by decide +kernel
theorem d2_90 : decode prog_26_method_1_code 90 = .ok (.ldc2_w 28, 3) := by decide +kernel
theorem d2_93 : decode prog_26_method_1_code 93 = .ok (.lcmp, 1) := by decide +kernel
theorem d2_94 : decode prog_26_method_1_code 94 = .ok (.ifCond .le 21, 3) := by decide +kernel
theorem d2_115 : decode prog_26_method_1_code 115 = .ok (.iload_n 1, 1) := by decide +kernel
theorem d2_116 : decode prog_26_method_1_code 116 = .ok (.iload_n 3, 1) := by decide +kernel
theorem d2_117 : decode prog_26_method_1_code 117 = .ok (.invokestatic 33, 3) := by decide +kernel
theorem d2_120 : decode prog_26_method_1_code 120 = .ok (.ldc2_w 20, 3) := by decide +kernel
theorem d2_123 : decode prog_26_method_1_code 123 = .ok (.lcmp, 1) := by decide +kernel
theorem d2_124 : decode prog_26_method_1_code 124 = .ok (.ifCond .le 18, 3) := by decide +kernel
theorem d2_142 : decode prog_26_method_1_code 142 = .ok (.iload_n 2, 1) := by decide +kernel
theorem d2_143 : decode prog_26_method_1_code 143 = .ok (.ifCond .ne 18, 3) := by decide +kernel
theorem d2_146 : decode prog_26_method_1_code 146 = .ok (.iload_n 1, 1) := by decide +kernel
theorem d2_147 : decode prog_26_method_1_code 147 = .ok (.iconst 1, 1) := by decide +kernel
theorem d2_148 : decode prog_26_method_1_code 148 = .ok (.if_icmp .eq 13, 3) := by decide +kernel
theorem d2_161 : decode prog_26_method_1_code 161 = .ok (.aload_n 0, 1) := by decide +kernel
theorem d2_162 : decode prog_26_method_1_code 162 = .ok (.iload_n 1, 1) := by decide +kernel
theorem d2_163 : decode prog_26_method_1_code 163 = .ok (.putfield 40, 3) := by decide +kernel
theorem d2_166 : decode prog_26_method_1_code 166 = .ok (.aload_n 0, 1) := by decide +kernel
theorem d2_167 : decode prog_26_method_1_code 167 = .ok (.iload_n 2, 1) := by decide +kernel
theorem d2_168 : decode prog_26_method_1_code 168 = .ok (.putfield 44, 3) := by decide +kernel
theorem d2_171 : decode prog_26_method_1_code 171 = .ok (.aload_n 0, 1) := by decide +kernel
theorem d2_172 : decode prog_26_method_1_code 172 = .ok (.iload_n 3, 1) := by decide +kernel
theorem d2_173 : decode prog_26_method_1_code 173 = .ok (.putfield 47, 3) := by decide +kernel
theorem d2_176 : decode prog_26_method_1_code 176 = .ok (.return_, 1) := by decide +kernel
theorem ef_2 (m : MethodId) (a0 : Addr) (p1 : Int32) (p2 : Int32) (p3 : Int32) : entryFrame m #[(.ref a0), (.int p1), (.int p2), (.int p3)] 4 = mkF m 0 #[.val (.ref a0), .val (.int p1), .val (.int p2), .val (.int p3)] [] := by first | (simp [entryFrame, mkF, argsToLocals, Value.category]; done) | rfl
theorem pn_2 : plainName "com/example/hazy_hash/hazyhash/TableLayout" = true := by first | (simp [plainName, overriddenIn]; done) | decide +kernel
def Q2 (Z : State) (a0 : Addr) (p1 p2 p3 : Int32) (h0 : Heap) (n0 : Nat) (v : Option Value) (h : Heap) (L : List Loc) : Prop := v = none ∧ Fr n0 L ∧ Keep h0 h [a0] ∧ Exa Z h a0 "com/example/hazy_hash/hazyhash/TableLayout" ∧ Fld Z h a0 "com/example/hazy_hash/hazyhash/TableLayout" "blocks" "I" (.int p1) ∧ Fld Z h a0 "com/example/hazy_hash/hazyhash/TableLayout" "blockBits" "I" (.int p2) ∧ Fld Z h a0 "com/example/hazy_hash/hazyhash/TableLayout" "chosen" "I" (.int p3)
set_option maxRecDepth 65536 in
set_option maxHeartbeats 40000000 in
theorem rm2 (l : Launch) (Z : State) (t0 : Array Value) (hw : ∀ d ∈ tables_1, d.before t0 Z = true) (ws : List Jvm.Cond) (a0 : Addr) (p1 : Int32) (p2 : Int32) (p3 : Int32) (h0 : Heap) (n0 : Nat) (Z0 : n0 ≤ h0.size) (ga : n0 ≤ a0) (E_a0 : Exa Z h0 a0 "com/example/hazy_hash/hazyhash/TableLayout") (F_blocks : Fld Z h0 a0 "com/example/hazy_hash/hazyhash/TableLayout" "blocks" "I" (.int (0 : Int32))) (F_blockBits : Fld Z h0 a0 "com/example/hazy_hash/hazyhash/TableLayout" "blockBits" "I" (.int (0 : Int32))) (F_chosen : Fld Z h0 a0 "com/example/hazy_hash/hazyhash/TableLayout" "chosen" "I" (.int (0 : Int32))) (h6 : ¬ (p1 < (1 : Int32))) (h12 : ¬ ((64 : Int32) < p1)) (h30 : ¬ (p2 < (0 : Int32))) (h42 : ¬ ((0 : Int32) < (lcmpW ((p1.toInt64) * (p2.toInt64)) (64 : Int64)))) (h62 : ¬ (p3 < (1 : Int32))) (h67 : ¬ (p1 < p3)) (h94 : ¬ ((0 : Int32) < (lcmpW ((p3.toInt64) * (p2.toInt64)) (32 : Int64)))) (h64 : p3.toInt ≤ 64) (h3n : ¬ (p3 < (0 : Int32))) (h124 : ¬ ((0 : Int32) < (lcmpW (own_ch p1 p3 p3.toInt.toNat (1 : Int64) (1 : Int32)) (64 : Int64)))) (hone : p2 = (0 : Int32) → p1 = (1 : Int32)) :
    MetFree l (⟨"com/example/hazy_hash/hazyhash/TableLayout", "<init>", "(III)V"⟩ : MethodName) (head1 (Jvm.Cond.code (⟨"com/example/hazy_hash/hazyhash/TableLayout", "<init>", "(III)V"⟩ : MethodName) prog_26_method_1_code 4 none :: ws) ({ frames := 2, cells := 0, slots := 0, locals := 24 } : Room)) (fun a U => a = #[(.ref a0), (.int p1), (.int p2), (.int p3)] ∧ Z.Warmed39 U.vm ∧ U.heap = h0) (fun _ _ _ _ _ => True) (fun _ U o U' => ∃ v L, o = .returned v ∧ Q2 Z a0 p1 p2 p3 h0 n0 v U'.heap L ∧ FrameEnd U o U' L ({ frames := 2, cells := 0, slots := 0, locals := 24 } : Room).cells ({ frames := 2, cells := 0, slots := 0, locals := 24 } : Room).slots) := by
  refine MetFree.of_bodySF (plainFor_of_name pn_2) hisR ?_
  intro p e s m args below meth c s₁ Bd hml0 hP hK
  obtain ⟨rfl, hZ, hh⟩ := hP
  have hx := Bd.exec
  have hby := Bd.bytes
  have hml : c.maxLocals = 4 := hml0
  have hown : s.vm.findClass "com/example/hazy_hash/hazyhash/TableLayout" = some m.cls := findClass_of_methodNamed Bd.named
  have hnm := (name_of_methodNamed Bd.named Bd.method).1
  have X0 : Stand p l e ({ frames := 2, cells := 0, slots := 0, locals := 24 } : Room) s m #[(.ref a0), (.int p1), (.int p2), (.int p3)] below meth c s₁ [] 0 0 := Stand.of_body Bd
  have e0 : s₁.heap = h0 := by rw [← hh, Bd.state]; rfl
  have N0 := Fr.nil n0
  have pre0 : ∀ t, Steps p.tables e below (s₁.setTop (mkF m 0 #[.val (.ref a0), .val (.int p1), .val (.int p2), .val (.int p3)] [])) t → Steps p.tables e below (s₁.setTop (entryFrame m #[(.ref a0), (.int p1), (.int p2), (.int p3)] 4)) t := fun t k => castTop (ef_2 m a0 p1 p2 p3) k
  have K0 : Keep h0 h0 [a0] := Keep.refl _ _
  refine own_go pre0 ?_
  refine own_go (B := s₁.setTop (mkF m 1 #[.val (.ref a0), .val (.int p1), .val (.int p2), .val (.int p3)] [(.ref a0)])) (fun t kt => ?_) ?_
  · show Steps p.tables e below (s₁.setTop (mkF m 0 #[.val (.ref a0), .val (.int p1), .val (.int p2), .val (.int p3)] [])) _
    refine XS.aloadN X0.here hx rfl (hb hby d2_0) rfl rfl ?_
    exact kt
  obtain ⟨_, _, ⟨T1, L1, k1, n1⟩, -, X1, ⟨Lc1, hQ1, l1, y1, z1⟩, st1⟩ := X0.specialBack hx (y := (⟨"java/lang/Record", "<init>", "()V"⟩ : MethodName)) rfl hown (mvT hZ (hw _ (List.mem_of_getElem? (i := 11) rfl))) (mvT hZ (hw _ (List.mem_of_getElem? (i := 12) rfl))) (mvT hZ (hw _ (List.mem_of_getElem? (i := 15) rfl))) (by decide) (backOf (W := 0) (rm3 l Z t0 hw [] a0 h0 n0 Z0) hZ (hw _ (List.mem_of_getElem? (i := 15) rfl)) (hw _ (List.mem_of_getElem? (i := 14) rfl)) (by decide) (by decide)) (g := (mkF m 1 #[.val (.ref a0), .val (.int p1), .val (.int p2), .val (.int p3)] [(.ref a0)])) rfl (by rw [hml]; rfl) (Steps.refl _) (a := a0) (argsL := []) (rest := []) (lenOf pd_2_0 rfl) rfl (by show 2 * 0 + _ ≤ _; exact Nat.le_of_eq rfl) (hb hby d2_1) (fun _ _ => ⟨rfl, e0, (by decide : 0 + 0 ≤ _), (by decide : 0 + 0 ≤ _)⟩)
  dsimp only [Pt.U, Pt.locs, Pt.cells, Pt.slots] at X1 l1 y1 z1 st1 hQ1
  subst l1 y1 z1
  obtain ⟨rfl, Nq1, hh1⟩ := hQ1
  have N1 := Fr.app N0 Nq1
  have e1 : T1.heap = h0 := hh1
  refine own_go (B := T1.setTop (mkF m 4 #[.val (.ref a0), .val (.int p1), .val (.int p2), .val (.int p3)] [])) (fun t kt => st1.trans kt) ?_
  refine own_go (B := T1.setTop (mkF m 117 #[.val (.ref a0), .val (.int p1), .val (.int p2), .val (.int p3)] [(.int p3), (.int p1)])) (fun t kt => ?_) ?_
  · show Steps p.tables e below (T1.setTop (mkF m 4 #[.val (.ref a0), .val (.int p1), .val (.int p2), .val (.int p3)] [])) _
    refine XS.iloadN X1.here hx rfl (hb hby d2_4) rfl ?_
    show Steps p.tables e below (T1.setTop (mkF m 5 #[.val (.ref a0), .val (.int p1), .val (.int p2), .val (.int p3)] [(.int p1)])) _
    refine XS.iconst X1.here hx rfl (hb hby d2_5) ?_
    show Steps p.tables e below (T1.setTop (mkF m 6 #[.val (.ref a0), .val (.int p1), .val (.int p2), .val (.int p3)] [(.int (1 : Int32)), (.int p1)])) _
    refine XS.icmpNo X1.here hx rfl (hb hby d2_6) rfl (flt h6).1 ?_
    show Steps p.tables e below (T1.setTop (mkF m 9 #[.val (.ref a0), .val (.int p1), .val (.int p2), .val (.int p3)] [])) _
    refine XS.iloadN X1.here hx rfl (hb hby d2_9) rfl ?_
    show Steps p.tables e below (T1.setTop (mkF m 10 #[.val (.ref a0), .val (.int p1), .val (.int p2), .val (.int p3)] [(.int p1)])) _
    refine XS.bipush X1.here hx rfl (hb hby d2_10) ?_
    show Steps p.tables e below (T1.setTop (mkF m 12 #[.val (.ref a0), .val (.int p1), .val (.int p2), .val (.int p3)] [(.int (64 : Int32)), (.int p1)])) _
    refine XS.icmpYes X1.here hx rfl (pc0 := 12) (pc' := 29) rfl (hb hby d2_12) rfl (flt h12).2.2.2 (by decide) (by decide) ?_
    show Steps p.tables e below (T1.setTop (mkF m 29 #[.val (.ref a0), .val (.int p1), .val (.int p2), .val (.int p3)] [])) _
    refine XS.iloadN X1.here hx rfl (hb hby d2_29) rfl ?_
    show Steps p.tables e below (T1.setTop (mkF m 30 #[.val (.ref a0), .val (.int p1), .val (.int p2), .val (.int p3)] [(.int p2)])) _
    refine XS.ifNo X1.here hx rfl (hb hby d2_30) rfl ((if0 _ _).trans (flt h30).1) ?_
    show Steps p.tables e below (T1.setTop (mkF m 33 #[.val (.ref a0), .val (.int p1), .val (.int p2), .val (.int p3)] [])) _
    refine XS.iloadN X1.here hx rfl (hb hby d2_33) rfl ?_
    show Steps p.tables e below (T1.setTop (mkF m 34 #[.val (.ref a0), .val (.int p1), .val (.int p2), .val (.int p3)] [(.int p1)])) _
    refine XS.i2l X1.here hx rfl (hb hby d2_34) rfl ?_
    show Steps p.tables e below (T1.setTop (mkF m 35 #[.val (.ref a0), .val (.int p1), .val (.int p2), .val (.int p3)] [(.long (p1.toInt64))])) _
    refine XS.iloadN X1.here hx rfl (hb hby d2_35) rfl ?_
    show Steps p.tables e below (T1.setTop (mkF m 36 #[.val (.ref a0), .val (.int p1), .val (.int p2), .val (.int p3)] [(.int p2), (.long (p1.toInt64))])) _
    refine XS.i2l X1.here hx rfl (hb hby d2_36) rfl ?_
    show Steps p.tables e below (T1.setTop (mkF m 37 #[.val (.ref a0), .val (.int p1), .val (.int p2), .val (.int p3)] [(.long (p2.toInt64)), (.long (p1.toInt64))])) _
    refine XS.lmul X1.here hx rfl (hb hby d2_37) rfl ?_
    show Steps p.tables e below (T1.setTop (mkF m 38 #[.val (.ref a0), .val (.int p1), .val (.int p2), .val (.int p3)] [(.long ((p1.toInt64) * (p2.toInt64)))])) _
    refine X1.ldc2Long hx hown (mvT hZ (hw _ (List.mem_of_getElem? (i := 19) rfl))) (g := (mkF m 38 #[.val (.ref a0), .val (.int p1), .val (.int p2), .val (.int p3)] [(.long ((p1.toInt64) * (p2.toInt64)))])) rfl (hb hby d2_38) _ ?_
    show Steps p.tables e below (T1.setTop (mkF m 41 #[.val (.ref a0), .val (.int p1), .val (.int p2), .val (.int p3)] [(.long (64 : Int64)), (.long ((p1.toInt64) * (p2.toInt64)))])) _
    refine XS.lcmp X1.here hx rfl (hb hby d2_41) rfl ?_
    show Steps p.tables e below (T1.setTop (mkF m 42 #[.val (.ref a0), .val (.int p1), .val (.int p2), .val (.int p3)] [(.int (lcmpW ((p1.toInt64) * (p2.toInt64)) (64 : Int64)))])) _
    refine XS.ifYes X1.here hx rfl (pc0 := 42) (pc' := 60) rfl (hb hby d2_42) rfl ((if0 _ _).trans (flt h42).2.2.2) (by decide) (by decide) ?_
    show Steps p.tables e below (T1.setTop (mkF m 60 #[.val (.ref a0), .val (.int p1), .val (.int p2), .val (.int p3)] [])) _
    refine XS.iloadN X1.here hx rfl (hb hby d2_60) rfl ?_
    show Steps p.tables e below (T1.setTop (mkF m 61 #[.val (.ref a0), .val (.int p1), .val (.int p2), .val (.int p3)] [(.int p3)])) _
    refine XS.iconst X1.here hx rfl (hb hby d2_61) ?_
    show Steps p.tables e below (T1.setTop (mkF m 62 #[.val (.ref a0), .val (.int p1), .val (.int p2), .val (.int p3)] [(.int (1 : Int32)), (.int p3)])) _
    refine XS.icmpNo X1.here hx rfl (hb hby d2_62) rfl (flt h62).1 ?_
    show Steps p.tables e below (T1.setTop (mkF m 65 #[.val (.ref a0), .val (.int p1), .val (.int p2), .val (.int p3)] [])) _
    refine XS.iloadN X1.here hx rfl (hb hby d2_65) rfl ?_
    show Steps p.tables e below (T1.setTop (mkF m 66 #[.val (.ref a0), .val (.int p1), .val (.int p2), .val (.int p3)] [(.int p3)])) _
    refine XS.iloadN X1.here hx rfl (hb hby d2_66) rfl ?_
    show Steps p.tables e below (T1.setTop (mkF m 67 #[.val (.ref a0), .val (.int p1), .val (.int p2), .val (.int p3)] [(.int p1), (.int p3)])) _
    refine XS.icmpYes X1.here hx rfl (pc0 := 67) (pc' := 85) rfl (hb hby d2_67) rfl (flt h67).2.2.2 (by decide) (by decide) ?_
    show Steps p.tables e below (T1.setTop (mkF m 85 #[.val (.ref a0), .val (.int p1), .val (.int p2), .val (.int p3)] [])) _
    refine XS.iloadN X1.here hx rfl (hb hby d2_85) rfl ?_
    show Steps p.tables e below (T1.setTop (mkF m 86 #[.val (.ref a0), .val (.int p1), .val (.int p2), .val (.int p3)] [(.int p3)])) _
    refine XS.i2l X1.here hx rfl (hb hby d2_86) rfl ?_
    show Steps p.tables e below (T1.setTop (mkF m 87 #[.val (.ref a0), .val (.int p1), .val (.int p2), .val (.int p3)] [(.long (p3.toInt64))])) _
    refine XS.iloadN X1.here hx rfl (hb hby d2_87) rfl ?_
    show Steps p.tables e below (T1.setTop (mkF m 88 #[.val (.ref a0), .val (.int p1), .val (.int p2), .val (.int p3)] [(.int p2), (.long (p3.toInt64))])) _
    refine XS.i2l X1.here hx rfl (hb hby d2_88) rfl ?_
    show Steps p.tables e below (T1.setTop (mkF m 89 #[.val (.ref a0), .val (.int p1), .val (.int p2), .val (.int p3)] [(.long (p2.toInt64)), (.long (p3.toInt64))])) _
    refine XS.lmul X1.here hx rfl (hb hby d2_89) rfl ?_
    show Steps p.tables e below (T1.setTop (mkF m 90 #[.val (.ref a0), .val (.int p1), .val (.int p2), .val (.int p3)] [(.long ((p3.toInt64) * (p2.toInt64)))])) _
    refine X1.ldc2Long hx hown (mvT hZ (hw _ (List.mem_of_getElem? (i := 20) rfl))) (g := (mkF m 90 #[.val (.ref a0), .val (.int p1), .val (.int p2), .val (.int p3)] [(.long ((p3.toInt64) * (p2.toInt64)))])) rfl (hb hby d2_90) _ ?_
    show Steps p.tables e below (T1.setTop (mkF m 93 #[.val (.ref a0), .val (.int p1), .val (.int p2), .val (.int p3)] [(.long (32 : Int64)), (.long ((p3.toInt64) * (p2.toInt64)))])) _
    refine XS.lcmp X1.here hx rfl (hb hby d2_93) rfl ?_
    show Steps p.tables e below (T1.setTop (mkF m 94 #[.val (.ref a0), .val (.int p1), .val (.int p2), .val (.int p3)] [(.int (lcmpW ((p3.toInt64) * (p2.toInt64)) (32 : Int64)))])) _
    refine XS.ifYes X1.here hx rfl (pc0 := 94) (pc' := 115) rfl (hb hby d2_94) rfl ((if0 _ _).trans (flt h94).2.2.2) (by decide) (by decide) ?_
    show Steps p.tables e below (T1.setTop (mkF m 115 #[.val (.ref a0), .val (.int p1), .val (.int p2), .val (.int p3)] [])) _
    refine XS.iloadN X1.here hx rfl (hb hby d2_115) rfl ?_
    show Steps p.tables e below (T1.setTop (mkF m 116 #[.val (.ref a0), .val (.int p1), .val (.int p2), .val (.int p3)] [(.int p1)])) _
    refine XS.iloadN X1.here hx rfl (hb hby d2_116) rfl ?_
    exact kt
  obtain ⟨_, _, ⟨T2, L2, k2, n2⟩, -, X2, ⟨Lc2, hQ2, l2, y2, z2⟩, st2⟩ := Jvm.LawKit.callS X1 hx (y := (⟨"com/example/hazy_hash/hazyhash/TableLayout", "choices", "(II)J"⟩ : MethodName)) hown (mvT hZ (hw _ (List.mem_of_getElem? (i := 21) rfl))) (mvT hZ (hw _ (List.mem_of_getElem? (i := 22) rfl))) (mvT hZ (hw _ (List.mem_of_getElem? (i := 7) rfl))) (mvT hZ (hw _ (List.mem_of_getElem? (i := 23) rfl))) (by decide) (backOf (W := 0) (rm5 l Z t0 hw [] p1 p3 h0 n0 Z0 h64 h3n h67) hZ (hw _ (List.mem_of_getElem? (i := 23) rfl)) (hw _ (List.mem_of_getElem? (i := 7) rfl)) (by decide) (by decide)) (g := (mkF m 117 #[.val (.ref a0), .val (.int p1), .val (.int p2), .val (.int p3)] [(.int p3), (.int p1)])) rfl (by rw [hml]; rfl) (argsL := [(.int p1), (.int p3)]) (rest := []) (lenOf pd_2_1 rfl) rfl (by show 2 * 0 + _ ≤ _; exact Nat.le_of_eq rfl) (hb hby d2_117) (fun _ _ => ⟨rfl, e1, (by decide : 0 + 0 ≤ _), (by decide : 0 + 0 ≤ _)⟩)
  dsimp only [Pt.U, Pt.locs, Pt.cells, Pt.slots] at X2 l2 y2 z2 st2 hQ2
  subst l2 y2 z2
  obtain ⟨rfl, Nq2, hh2⟩ := hQ2
  have N2 := Fr.app N1 Nq2
  have e2 : T2.heap = h0 := hh2
  refine own_go (B := T2.setTop (mkF m 120 #[.val (.ref a0), .val (.int p1), .val (.int p2), .val (.int p3)] [(.long (own_ch p1 p3 p3.toInt.toNat (1 : Int64) (1 : Int32)))])) (fun t kt => st2 t kt) ?_
  refine own_go (B := T2.setTop (mkF m 143 #[.val (.ref a0), .val (.int p1), .val (.int p2), .val (.int p3)] [(.int p2)])) (fun t kt => ?_) ?_
  · show Steps p.tables e below (T2.setTop (mkF m 120 #[.val (.ref a0), .val (.int p1), .val (.int p2), .val (.int p3)] [(.long (own_ch p1 p3 p3.toInt.toNat (1 : Int64) (1 : Int32)))])) _
    refine X2.ldc2Long hx hown (mvT hZ (hw _ (List.mem_of_getElem? (i := 19) rfl))) (g := (mkF m 120 #[.val (.ref a0), .val (.int p1), .val (.int p2), .val (.int p3)] [(.long (own_ch p1 p3 p3.toInt.toNat (1 : Int64) (1 : Int32)))])) rfl (hb hby d2_120) _ ?_
    show Steps p.tables e below (T2.setTop (mkF m 123 #[.val (.ref a0), .val (.int p1), .val (.int p2), .val (.int p3)] [(.long (64 : Int64)), (.long (own_ch p1 p3 p3.toInt.toNat (1 : Int64) (1 : Int32)))])) _
    refine XS.lcmp X2.here hx rfl (hb hby d2_123) rfl ?_
    show Steps p.tables e below (T2.setTop (mkF m 124 #[.val (.ref a0), .val (.int p1), .val (.int p2), .val (.int p3)] [(.int (lcmpW (own_ch p1 p3 p3.toInt.toNat (1 : Int64) (1 : Int32)) (64 : Int64)))])) _
    refine XS.ifYes X2.here hx rfl (pc0 := 124) (pc' := 142) rfl (hb hby d2_124) rfl ((if0 _ _).trans (flt h124).2.2.2) (by decide) (by decide) ?_
    show Steps p.tables e below (T2.setTop (mkF m 142 #[.val (.ref a0), .val (.int p1), .val (.int p2), .val (.int p3)] [])) _
    refine XS.iloadN X2.here hx rfl (hb hby d2_142) rfl ?_
    exact kt
  by_cases hz : p2 = (0 : Int32)
  · refine own_go (B := T2.setTop (mkF m 163 #[.val (.ref a0), .val (.int p1), .val (.int p2), .val (.int p3)] [(.int p1), (.ref a0)])) (fun t kt => ?_) ?_
    · show Steps p.tables e below (T2.setTop (mkF m 143 #[.val (.ref a0), .val (.int p1), .val (.int p2), .val (.int p3)] [(.int p2)])) _
      refine XS.ifNo X2.here hx rfl (hb hby d2_143) rfl ((if0 _ _).trans (teq hz).2) ?_
      show Steps p.tables e below (T2.setTop (mkF m 146 #[.val (.ref a0), .val (.int p1), .val (.int p2), .val (.int p3)] [])) _
      refine XS.iloadN X2.here hx rfl (hb hby d2_146) rfl ?_
      show Steps p.tables e below (T2.setTop (mkF m 147 #[.val (.ref a0), .val (.int p1), .val (.int p2), .val (.int p3)] [(.int p1)])) _
      refine XS.iconst X2.here hx rfl (hb hby d2_147) ?_
      show Steps p.tables e below (T2.setTop (mkF m 148 #[.val (.ref a0), .val (.int p1), .val (.int p2), .val (.int p3)] [(.int (1 : Int32)), (.int p1)])) _
      refine XS.icmpYes X2.here hx rfl (pc0 := 148) (pc' := 161) rfl (hb hby d2_148) rfl (teq (hone hz)).1 (by decide) (by decide) ?_
      show Steps p.tables e below (T2.setTop (mkF m 161 #[.val (.ref a0), .val (.int p1), .val (.int p2), .val (.int p3)] [])) _
      refine XS.aloadN X2.here hx rfl (hb hby d2_161) rfl rfl ?_
      show Steps p.tables e below (T2.setTop (mkF m 162 #[.val (.ref a0), .val (.int p1), .val (.int p2), .val (.int p3)] [(.ref a0)])) _
      refine XS.iloadN X2.here hx rfl (hb hby d2_162) rfl ?_
      exact kt
    obtain ⟨T3, h3, X3, e3, W3, st3⟩ := putF X2 hx hZ hown (host := "") (Or.inl (hw _ (List.mem_of_getElem? (i := 24) rfl))) Via.refl e2 F_blocks E_a0 (Or.inr ⟨(hw _ (List.mem_of_getElem? (i := 25) rfl)), rfl, hnm⟩) (hw _ (List.mem_of_getElem? (i := 6) rfl)) (ty := .int) (by decide) rfl rfl (g := (mkF m 163 #[.val (.ref a0), .val (.int p1), .val (.int p2), .val (.int p3)] [(.int p1), (.ref a0)])) rfl rfl (hb hby d2_163)
    have F_blocks_a0_3 : Fld Z h3 a0 "com/example/hazy_hash/hazyhash/TableLayout" "blocks" "I" (.int p1) := F_blocks.same W3
    have E_a0_3 := E_a0.wr W3
    have F_blockBits_a0_3 := F_blockBits.other W3 (Or.inr (slot_ne (Or.inr (hw _ (List.mem_of_getElem? (i := 27) rfl))) (Or.inr (hw _ (List.mem_of_getElem? (i := 25) rfl))) (by decide) (t := .int) (t' := .int) (by decide) (by decide)))
    have F_chosen_a0_3 := F_chosen.other W3 (Or.inr (slot_ne (Or.inr (hw _ (List.mem_of_getElem? (i := 29) rfl))) (Or.inr (hw _ (List.mem_of_getElem? (i := 25) rfl))) (by decide) (t := .int) (t' := .int) (by decide) (by decide)))
    have Z3 : n0 ≤ h3.size := Nat.le_trans Z0 (Keep.of_wr W3).1
    have K3 := K0.wr W3 (Or.inl (by simp))
    have N3 := Fr.snoc X3 N2 ga
    refine own_go (B := T3.setTop (mkF m 166 #[.val (.ref a0), .val (.int p1), .val (.int p2), .val (.int p3)] [])) (fun t kt => st3 t kt) ?_
    refine own_go (B := T3.setTop (mkF m 168 #[.val (.ref a0), .val (.int p1), .val (.int p2), .val (.int p3)] [(.int p2), (.ref a0)])) (fun t kt => ?_) ?_
    · show Steps p.tables e below (T3.setTop (mkF m 166 #[.val (.ref a0), .val (.int p1), .val (.int p2), .val (.int p3)] [])) _
      refine XS.aloadN X3.here hx rfl (hb hby d2_166) rfl rfl ?_
      show Steps p.tables e below (T3.setTop (mkF m 167 #[.val (.ref a0), .val (.int p1), .val (.int p2), .val (.int p3)] [(.ref a0)])) _
      refine XS.iloadN X3.here hx rfl (hb hby d2_167) rfl ?_
      exact kt
    obtain ⟨T4, h4, X4, e4, W4, st4⟩ := putF X3 hx hZ hown (host := "") (Or.inl (hw _ (List.mem_of_getElem? (i := 26) rfl))) Via.refl e3 F_blockBits_a0_3 E_a0_3 (Or.inr ⟨(hw _ (List.mem_of_getElem? (i := 27) rfl)), rfl, hnm⟩) (hw _ (List.mem_of_getElem? (i := 6) rfl)) (ty := .int) (by decide) rfl rfl (g := (mkF m 168 #[.val (.ref a0), .val (.int p1), .val (.int p2), .val (.int p3)] [(.int p2), (.ref a0)])) rfl rfl (hb hby d2_168)
    have F_blockBits_a0_4 : Fld Z h4 a0 "com/example/hazy_hash/hazyhash/TableLayout" "blockBits" "I" (.int p2) := F_blockBits_a0_3.same W4
    have E_a0_4 := E_a0_3.wr W4
    have F_blocks_a0_4 := F_blocks_a0_3.other W4 (Or.inr (slot_ne (Or.inr (hw _ (List.mem_of_getElem? (i := 25) rfl))) (Or.inr (hw _ (List.mem_of_getElem? (i := 27) rfl))) (by decide) (t := .int) (t' := .int) (by decide) (by decide)))
    have F_chosen_a0_4 := F_chosen_a0_3.other W4 (Or.inr (slot_ne (Or.inr (hw _ (List.mem_of_getElem? (i := 29) rfl))) (Or.inr (hw _ (List.mem_of_getElem? (i := 27) rfl))) (by decide) (t := .int) (t' := .int) (by decide) (by decide)))
    have Z4 : n0 ≤ h4.size := Nat.le_trans Z3 (Keep.of_wr W4).1
    have K4 := K3.wr W4 (Or.inl (by simp))
    have N4 := Fr.snoc X4 N3 ga
    refine own_go (B := T4.setTop (mkF m 171 #[.val (.ref a0), .val (.int p1), .val (.int p2), .val (.int p3)] [])) (fun t kt => st4 t kt) ?_
    refine own_go (B := T4.setTop (mkF m 173 #[.val (.ref a0), .val (.int p1), .val (.int p2), .val (.int p3)] [(.int p3), (.ref a0)])) (fun t kt => ?_) ?_
    · show Steps p.tables e below (T4.setTop (mkF m 171 #[.val (.ref a0), .val (.int p1), .val (.int p2), .val (.int p3)] [])) _
      refine XS.aloadN X4.here hx rfl (hb hby d2_171) rfl rfl ?_
      show Steps p.tables e below (T4.setTop (mkF m 172 #[.val (.ref a0), .val (.int p1), .val (.int p2), .val (.int p3)] [(.ref a0)])) _
      refine XS.iloadN X4.here hx rfl (hb hby d2_172) rfl ?_
      exact kt
    obtain ⟨T5, h5, X5, e5, W5, st5⟩ := putF X4 hx hZ hown (host := "") (Or.inl (hw _ (List.mem_of_getElem? (i := 28) rfl))) Via.refl e4 F_chosen_a0_4 E_a0_4 (Or.inr ⟨(hw _ (List.mem_of_getElem? (i := 29) rfl)), rfl, hnm⟩) (hw _ (List.mem_of_getElem? (i := 6) rfl)) (ty := .int) (by decide) rfl rfl (g := (mkF m 173 #[.val (.ref a0), .val (.int p1), .val (.int p2), .val (.int p3)] [(.int p3), (.ref a0)])) rfl rfl (hb hby d2_173)
    have F_chosen_a0_5 : Fld Z h5 a0 "com/example/hazy_hash/hazyhash/TableLayout" "chosen" "I" (.int p3) := F_chosen_a0_4.same W5
    have E_a0_5 := E_a0_4.wr W5
    have F_blocks_a0_5 := F_blocks_a0_4.other W5 (Or.inr (slot_ne (Or.inr (hw _ (List.mem_of_getElem? (i := 25) rfl))) (Or.inr (hw _ (List.mem_of_getElem? (i := 29) rfl))) (by decide) (t := .int) (t' := .int) (by decide) (by decide)))
    have F_blockBits_a0_5 := F_blockBits_a0_4.other W5 (Or.inr (slot_ne (Or.inr (hw _ (List.mem_of_getElem? (i := 27) rfl))) (Or.inr (hw _ (List.mem_of_getElem? (i := 29) rfl))) (by decide) (t := .int) (t' := .int) (by decide) (by decide)))
    have Z5 : n0 ≤ h5.size := Nat.le_trans Z4 (Keep.of_wr W5).1
    have K5 := K4.wr W5 (Or.inl (by simp))
    have N5 := Fr.snoc X5 N4 ga
    refine own_go (B := T5.setTop (mkF m 176 #[.val (.ref a0), .val (.int p1), .val (.int p2), .val (.int p3)] [])) (fun t kt => st5 t kt) ?_
    obtain ⟨fs, hr, hrun, hended, hW, hsame⟩ := X5.leave (v := none) (fun _ => rfl)
    refine ⟨_, _, ?_, hrun, hended, _, _, rfl, ?_, ⟨_, rfl⟩, hW, hsame.mono (by decide) (by decide)⟩
    · show Steps p.tables e below (T5.setTop (mkF m 176 #[.val (.ref a0), .val (.int p1), .val (.int p2), .val (.int p3)] [])) _
      exact X5.returnOut hx Bd.returns (hb hby d2_176) hr
    · show Q2 Z a0 p1 p2 p3 h0 n0 _ T5.heap _
      rw [e5]
      exact ⟨rfl, N5, K5, E_a0_5, F_blocks_a0_5, F_blockBits_a0_5, F_chosen_a0_5⟩
  · refine own_go (B := T2.setTop (mkF m 163 #[.val (.ref a0), .val (.int p1), .val (.int p2), .val (.int p3)] [(.int p1), (.ref a0)])) (fun t kt => ?_) ?_
    · show Steps p.tables e below (T2.setTop (mkF m 143 #[.val (.ref a0), .val (.int p1), .val (.int p2), .val (.int p3)] [(.int p2)])) _
      refine XS.ifYes X2.here hx rfl (pc0 := 143) (pc' := 161) rfl (hb hby d2_143) rfl ((if0 _ _).trans (feq hz).2) (by decide) (by decide) ?_
      show Steps p.tables e below (T2.setTop (mkF m 161 #[.val (.ref a0), .val (.int p1), .val (.int p2), .val (.int p3)] [])) _
      refine XS.aloadN X2.here hx rfl (hb hby d2_161) rfl rfl ?_
      show Steps p.tables e below (T2.setTop (mkF m 162 #[.val (.ref a0), .val (.int p1), .val (.int p2), .val (.int p3)] [(.ref a0)])) _
      refine XS.iloadN X2.here hx rfl (hb hby d2_162) rfl ?_
      exact kt
    obtain ⟨T6, h6, X6, e6, W6, st6⟩ := putF X2 hx hZ hown (host := "") (Or.inl (hw _ (List.mem_of_getElem? (i := 24) rfl))) Via.refl e2 F_blocks E_a0 (Or.inr ⟨(hw _ (List.mem_of_getElem? (i := 25) rfl)), rfl, hnm⟩) (hw _ (List.mem_of_getElem? (i := 6) rfl)) (ty := .int) (by decide) rfl rfl (g := (mkF m 163 #[.val (.ref a0), .val (.int p1), .val (.int p2), .val (.int p3)] [(.int p1), (.ref a0)])) rfl rfl (hb hby d2_163)
    have F_blocks_a0_6 : Fld Z h6 a0 "com/example/hazy_hash/hazyhash/TableLayout" "blocks" "I" (.int p1) := F_blocks.same W6
    have E_a0_6 := E_a0.wr W6
    have F_blockBits_a0_6 := F_blockBits.other W6 (Or.inr (slot_ne (Or.inr (hw _ (List.mem_of_getElem? (i := 27) rfl))) (Or.inr (hw _ (List.mem_of_getElem? (i := 25) rfl))) (by decide) (t := .int) (t' := .int) (by decide) (by decide)))
    have F_chosen_a0_6 := F_chosen.other W6 (Or.inr (slot_ne (Or.inr (hw _ (List.mem_of_getElem? (i := 29) rfl))) (Or.inr (hw _ (List.mem_of_getElem? (i := 25) rfl))) (by decide) (t := .int) (t' := .int) (by decide) (by decide)))
    have Z6 : n0 ≤ h6.size := Nat.le_trans Z0 (Keep.of_wr W6).1
    have K6 := K0.wr W6 (Or.inl (by simp))
    have N6 := Fr.snoc X6 N2 ga
    refine own_go (B := T6.setTop (mkF m 166 #[.val (.ref a0), .val (.int p1), .val (.int p2), .val (.int p3)] [])) (fun t kt => st6 t kt) ?_
    refine own_go (B := T6.setTop (mkF m 168 #[.val (.ref a0), .val (.int p1), .val (.int p2), .val (.int p3)] [(.int p2), (.ref a0)])) (fun t kt => ?_) ?_
    · show Steps p.tables e below (T6.setTop (mkF m 166 #[.val (.ref a0), .val (.int p1), .val (.int p2), .val (.int p3)] [])) _
      refine XS.aloadN X6.here hx rfl (hb hby d2_166) rfl rfl ?_
      show Steps p.tables e below (T6.setTop (mkF m 167 #[.val (.ref a0), .val (.int p1), .val (.int p2), .val (.int p3)] [(.ref a0)])) _
      refine XS.iloadN X6.here hx rfl (hb hby d2_167) rfl ?_
      exact kt
    obtain ⟨T7, h7, X7, e7, W7, st7⟩ := putF X6 hx hZ hown (host := "") (Or.inl (hw _ (List.mem_of_getElem? (i := 26) rfl))) Via.refl e6 F_blockBits_a0_6 E_a0_6 (Or.inr ⟨(hw _ (List.mem_of_getElem? (i := 27) rfl)), rfl, hnm⟩) (hw _ (List.mem_of_getElem? (i := 6) rfl)) (ty := .int) (by decide) rfl rfl (g := (mkF m 168 #[.val (.ref a0), .val (.int p1), .val (.int p2), .val (.int p3)] [(.int p2), (.ref a0)])) rfl rfl (hb hby d2_168)
    have F_blockBits_a0_7 : Fld Z h7 a0 "com/example/hazy_hash/hazyhash/TableLayout" "blockBits" "I" (.int p2) := F_blockBits_a0_6.same W7
    have E_a0_7 := E_a0_6.wr W7
    have F_blocks_a0_7 := F_blocks_a0_6.other W7 (Or.inr (slot_ne (Or.inr (hw _ (List.mem_of_getElem? (i := 25) rfl))) (Or.inr (hw _ (List.mem_of_getElem? (i := 27) rfl))) (by decide) (t := .int) (t' := .int) (by decide) (by decide)))
    have F_chosen_a0_7 := F_chosen_a0_6.other W7 (Or.inr (slot_ne (Or.inr (hw _ (List.mem_of_getElem? (i := 29) rfl))) (Or.inr (hw _ (List.mem_of_getElem? (i := 27) rfl))) (by decide) (t := .int) (t' := .int) (by decide) (by decide)))
    have Z7 : n0 ≤ h7.size := Nat.le_trans Z6 (Keep.of_wr W7).1
    have K7 := K6.wr W7 (Or.inl (by simp))
    have N7 := Fr.snoc X7 N6 ga
    refine own_go (B := T7.setTop (mkF m 171 #[.val (.ref a0), .val (.int p1), .val (.int p2), .val (.int p3)] [])) (fun t kt => st7 t kt) ?_
    refine own_go (B := T7.setTop (mkF m 173 #[.val (.ref a0), .val (.int p1), .val (.int p2), .val (.int p3)] [(.int p3), (.ref a0)])) (fun t kt => ?_) ?_
    · show Steps p.tables e below (T7.setTop (mkF m 171 #[.val (.ref a0), .val (.int p1), .val (.int p2), .val (.int p3)] [])) _
      refine XS.aloadN X7.here hx rfl (hb hby d2_171) rfl rfl ?_
      show Steps p.tables e below (T7.setTop (mkF m 172 #[.val (.ref a0), .val (.int p1), .val (.int p2), .val (.int p3)] [(.ref a0)])) _
      refine XS.iloadN X7.here hx rfl (hb hby d2_172) rfl ?_
      exact kt
    obtain ⟨T8, h8, X8, e8, W8, st8⟩ := putF X7 hx hZ hown (host := "") (Or.inl (hw _ (List.mem_of_getElem? (i := 28) rfl))) Via.refl e7 F_chosen_a0_7 E_a0_7 (Or.inr ⟨(hw _ (List.mem_of_getElem? (i := 29) rfl)), rfl, hnm⟩) (hw _ (List.mem_of_getElem? (i := 6) rfl)) (ty := .int) (by decide) rfl rfl (g := (mkF m 173 #[.val (.ref a0), .val (.int p1), .val (.int p2), .val (.int p3)] [(.int p3), (.ref a0)])) rfl rfl (hb hby d2_173)
    have F_chosen_a0_8 : Fld Z h8 a0 "com/example/hazy_hash/hazyhash/TableLayout" "chosen" "I" (.int p3) := F_chosen_a0_7.same W8
    have E_a0_8 := E_a0_7.wr W8
    have F_blocks_a0_8 := F_blocks_a0_7.other W8 (Or.inr (slot_ne (Or.inr (hw _ (List.mem_of_getElem? (i := 25) rfl))) (Or.inr (hw _ (List.mem_of_getElem? (i := 29) rfl))) (by decide) (t := .int) (t' := .int) (by decide) (by decide)))
    have F_blockBits_a0_8 := F_blockBits_a0_7.other W8 (Or.inr (slot_ne (Or.inr (hw _ (List.mem_of_getElem? (i := 27) rfl))) (Or.inr (hw _ (List.mem_of_getElem? (i := 29) rfl))) (by decide) (t := .int) (t' := .int) (by decide) (by decide)))
    have Z8 : n0 ≤ h8.size := Nat.le_trans Z7 (Keep.of_wr W8).1
    have K8 := K7.wr W8 (Or.inl (by simp))
    have N8 := Fr.snoc X8 N7 ga
    refine own_go (B := T8.setTop (mkF m 176 #[.val (.ref a0), .val (.int p1), .val (.int p2), .val (.int p3)] [])) (fun t kt => st8 t kt) ?_
    obtain ⟨fs, hr, hrun, hended, hW, hsame⟩ := X8.leave (v := none) (fun _ => rfl)
    refine ⟨_, _, ?_, hrun, hended, _, _, rfl, ?_, ⟨_, rfl⟩, hW, hsame.mono (by decide) (by decide)⟩
    · show Steps p.tables e below (T8.setTop (mkF m 176 #[.val (.ref a0), .val (.int p1), .val (.int p2), .val (.int p3)] [])) _
      exact X8.returnOut hx Bd.returns (hb hby d2_176) hr
    · show Q2 Z a0 p1 p2 p3 h0 n0 _ T8.heap _
      rw [e8]
      exact ⟨rfl, N8, K8, E_a0_8, F_blocks_a0_8, F_blockBits_a0_8, F_chosen_a0_8⟩
theorem d6_0 : decode prog_26_method_7_code 0 = .ok (.aload_n 0, 1) := by decide +kernel
theorem d6_1 : decode prog_26_method_7_code 1 = .ok (.getfield 44, 3) := by decide +kernel
theorem d6_4 : decode prog_26_method_7_code 4 = .ok (.ifCond .eq 16, 3) := by decide +kernel
theorem d6_7 : decode prog_26_method_7_code 7 = .ok (.aload_n 0, 1) := by decide +kernel
theorem d6_8 : decode prog_26_method_7_code 8 = .ok (.getfield 40, 3) := by decide +kernel
theorem d6_11 : decode prog_26_method_7_code 11 = .ok (.aload_n 0, 1) := by decide +kernel
theorem d6_12 : decode prog_26_method_7_code 12 = .ok (.getfield 47, 3) := by decide +kernel
theorem d6_15 : decode prog_26_method_7_code 15 = .ok (.isub, 1) := by decide +kernel
theorem d6_16 : decode prog_26_method_7_code 16 = .ok (.iload_n 1, 1) := by decide +kernel
theorem d6_17 : decode prog_26_method_7_code 17 = .ok (.if_icmp .lt 7, 3) := by decide +kernel
theorem d6_20 : decode prog_26_method_7_code 20 = .ok (.iconst 1, 1) := by decide +kernel
theorem d6_21 : decode prog_26_method_7_code 21 = .ok (.goto 4, 3) := by decide +kernel
theorem d6_24 : decode prog_26_method_7_code 24 = .ok (.iconst 0, 1) := by decide +kernel
theorem d6_25 : decode prog_26_method_7_code 25 = .ok (.ireturn, 1) := by decide +kernel
theorem ef_6 (m : MethodId) (a0 : Addr) (p1 : Int32) : entryFrame m #[(.ref a0), (.int p1)] 2 = mkF m 0 #[.val (.ref a0), .val (.int p1)] [] := by first | (simp [entryFrame, mkF, argsToLocals, Value.category]; done) | rfl
theorem pn_6 : plainName "com/example/hazy_hash/hazyhash/TableLayout" = true := by first | (simp [plainName, overriddenIn]; done) | decide +kernel
def Q6 (bk bb ch p1 : Int32) (h0 : Heap) (n0 : Nat) (v : Option Value) (h : Heap) (L : List Loc) : Prop := v = some (.int (if bb = (0 : Int32) then (1 : Int32) else (if (bk - ch) < p1 then (0 : Int32) else (1 : Int32)))) ∧ Fr n0 L ∧ h = h0
set_option maxRecDepth 65536 in
set_option maxHeartbeats 40000000 in
theorem rm6 (l : Launch) (Z : State) (t0 : Array Value) (hw : ∀ d ∈ tables_1, d.before t0 Z = true) (ws : List Jvm.Cond) (a0 : Addr) (p1 : Int32) (bk : Int32) (bb : Int32) (ch : Int32) (h0 : Heap) (n0 : Nat) (Z0 : n0 ≤ h0.size) (Fb : Fld Z h0 a0 "com/example/hazy_hash/hazyhash/TableLayout" "blocks" "I" (.int bk)) (Fi : Fld Z h0 a0 "com/example/hazy_hash/hazyhash/TableLayout" "blockBits" "I" (.int bb)) (Fc : Fld Z h0 a0 "com/example/hazy_hash/hazyhash/TableLayout" "chosen" "I" (.int ch)) :
    MetFree l (⟨"com/example/hazy_hash/hazyhash/TableLayout", "isCompleteFor", "(I)Z"⟩ : MethodName) (head1 (Jvm.Cond.code (⟨"com/example/hazy_hash/hazyhash/TableLayout", "isCompleteFor", "(I)Z"⟩ : MethodName) prog_26_method_7_code 2 (some .boolean) :: ws) ({ frames := 0, cells := 0, slots := 0, locals := 0 } : Room)) (fun a U => a = #[(.ref a0), (.int p1)] ∧ Z.Warmed39 U.vm ∧ U.heap = h0) (fun _ _ _ _ _ => True) (fun _ U o U' => ∃ v L, o = .returned v ∧ Q6 bk bb ch p1 h0 n0 v U'.heap L ∧ FrameEnd U o U' L ({ frames := 0, cells := 0, slots := 0, locals := 0 } : Room).cells ({ frames := 0, cells := 0, slots := 0, locals := 0 } : Room).slots) := by
  refine MetFree.of_bodySF (plainFor_of_name pn_6) hisR ?_
  intro p e s m args below meth c s₁ Bd hml0 hP hK
  obtain ⟨rfl, hZ, hh⟩ := hP
  have hx := Bd.exec
  have hby := Bd.bytes
  have hml : c.maxLocals = 2 := hml0
  have hown : s.vm.findClass "com/example/hazy_hash/hazyhash/TableLayout" = some m.cls := findClass_of_methodNamed Bd.named
  have hnm := (name_of_methodNamed Bd.named Bd.method).1
  have X0 : Stand p l e ({ frames := 0, cells := 0, slots := 0, locals := 0 } : Room) s m #[(.ref a0), (.int p1)] below meth c s₁ [] 0 0 := Stand.of_body Bd
  have e0 : s₁.heap = h0 := by rw [← hh, Bd.state]; rfl
  have N0 := Fr.nil n0
  have pre0 : ∀ t, Steps p.tables e below (s₁.setTop (mkF m 0 #[.val (.ref a0), .val (.int p1)] [])) t → Steps p.tables e below (s₁.setTop (entryFrame m #[(.ref a0), (.int p1)] 2)) t := fun t k => castTop (ef_6 m a0 p1) k
  refine own_go pre0 ?_
  refine own_go (B := s₁.setTop (mkF m 1 #[.val (.ref a0), .val (.int p1)] [(.ref a0)])) (fun t kt => ?_) ?_
  · show Steps p.tables e below (s₁.setTop (mkF m 0 #[.val (.ref a0), .val (.int p1)] [])) _
    refine XS.aloadN X0.here hx rfl (hb hby d6_0) rfl rfl ?_
    exact kt
  obtain ⟨T1, X1, e1, st1⟩ := getF X0 hx hZ hown (host := "") (Or.inl (hw _ (List.mem_of_getElem? (i := 26) rfl))) Via.refl e0 Fi (g := (mkF m 1 #[.val (.ref a0), .val (.int p1)] [(.ref a0)])) rfl rfl (hb hby d6_1)
  refine own_go (B := T1.setTop (mkF m 4 #[.val (.ref a0), .val (.int p1)] [(.int bb)])) (fun t kt => st1 t kt) ?_
  by_cases hb0 : bb = (0 : Int32)
  · refine own_go (B := T1.setTop (mkF m 25 #[.val (.ref a0), .val (.int p1)] [(.int (1 : Int32))])) (fun t kt => ?_) ?_
    · show Steps p.tables e below (T1.setTop (mkF m 4 #[.val (.ref a0), .val (.int p1)] [(.int bb)])) _
      refine XS.ifYes X1.here hx rfl (pc0 := 4) (pc' := 20) rfl (hb hby d6_4) rfl ((if0 _ _).trans (teq hb0).1) (by decide) (by decide) ?_
      show Steps p.tables e below (T1.setTop (mkF m 20 #[.val (.ref a0), .val (.int p1)] [])) _
      refine XS.iconst X1.here hx rfl (hb hby d6_20) ?_
      show Steps p.tables e below (T1.setTop (mkF m 21 #[.val (.ref a0), .val (.int p1)] [(.int (1 : Int32))])) _
      refine XS.goto X1.here hx rfl (pc0 := 21) (pc' := 25) rfl (hb hby d6_21) (by decide) (by decide) ?_
      exact kt
    obtain ⟨fs, hr, hrun, hended, hW, hsame⟩ := X1.leave (v := some (.int (1 : Int32))) (fun h => by rw [Bd.returns] at h; cases h)
    refine ⟨_, _, ?_, hrun, hended, _, _, rfl, ?_, ⟨_, rfl⟩, hW, hsame.mono (by decide) (by decide)⟩
    · show Steps p.tables e below (T1.setTop (mkF m 25 #[.val (.ref a0), .val (.int p1)] [(.int (1 : Int32))])) _
      exact retN X1 hx (t := .boolean) Bd.returns (by simp) (hb hby d6_25) hr
    · show Q6 bk bb ch p1 h0 n0 _ T1.heap _
      rw [e1]
      exact ⟨by rw [if_pos hb0], N0, rfl⟩
  · refine own_go (B := T1.setTop (mkF m 8 #[.val (.ref a0), .val (.int p1)] [(.ref a0)])) (fun t kt => ?_) ?_
    · show Steps p.tables e below (T1.setTop (mkF m 4 #[.val (.ref a0), .val (.int p1)] [(.int bb)])) _
      refine XS.ifNo X1.here hx rfl (hb hby d6_4) rfl ((if0 _ _).trans (feq hb0).1) ?_
      show Steps p.tables e below (T1.setTop (mkF m 7 #[.val (.ref a0), .val (.int p1)] [])) _
      refine XS.aloadN X1.here hx rfl (hb hby d6_7) rfl rfl ?_
      exact kt
    obtain ⟨T2, X2, e2, st2⟩ := getF X1 hx hZ hown (host := "") (Or.inl (hw _ (List.mem_of_getElem? (i := 24) rfl))) Via.refl e1 Fb (g := (mkF m 8 #[.val (.ref a0), .val (.int p1)] [(.ref a0)])) rfl rfl (hb hby d6_8)
    refine own_go (B := T2.setTop (mkF m 11 #[.val (.ref a0), .val (.int p1)] [(.int bk)])) (fun t kt => st2 t kt) ?_
    refine own_go (B := T2.setTop (mkF m 12 #[.val (.ref a0), .val (.int p1)] [(.ref a0), (.int bk)])) (fun t kt => ?_) ?_
    · show Steps p.tables e below (T2.setTop (mkF m 11 #[.val (.ref a0), .val (.int p1)] [(.int bk)])) _
      refine XS.aloadN X2.here hx rfl (hb hby d6_11) rfl rfl ?_
      exact kt
    obtain ⟨T3, X3, e3, st3⟩ := getF X2 hx hZ hown (host := "") (Or.inl (hw _ (List.mem_of_getElem? (i := 28) rfl))) Via.refl e2 Fc (g := (mkF m 12 #[.val (.ref a0), .val (.int p1)] [(.ref a0), (.int bk)])) rfl rfl (hb hby d6_12)
    refine own_go (B := T3.setTop (mkF m 15 #[.val (.ref a0), .val (.int p1)] [(.int ch), (.int bk)])) (fun t kt => st3 t kt) ?_
    refine own_go (B := T3.setTop (mkF m 17 #[.val (.ref a0), .val (.int p1)] [(.int p1), (.int (bk - ch))])) (fun t kt => ?_) ?_
    · show Steps p.tables e below (T3.setTop (mkF m 15 #[.val (.ref a0), .val (.int p1)] [(.int ch), (.int bk)])) _
      refine XS.isub X3.here hx rfl (hb hby d6_15) rfl ?_
      show Steps p.tables e below (T3.setTop (mkF m 16 #[.val (.ref a0), .val (.int p1)] [(.int (bk - ch))])) _
      refine XS.iloadN X3.here hx rfl (hb hby d6_16) rfl ?_
      exact kt
    by_cases hlt : (bk - ch) < p1
    · refine own_go (B := T3.setTop (mkF m 25 #[.val (.ref a0), .val (.int p1)] [(.int (0 : Int32))])) (fun t kt => ?_) ?_
      · show Steps p.tables e below (T3.setTop (mkF m 17 #[.val (.ref a0), .val (.int p1)] [(.int p1), (.int (bk - ch))])) _
        refine XS.icmpYes X3.here hx rfl (pc0 := 17) (pc' := 24) rfl (hb hby d6_17) rfl (tlt hlt).1 (by decide) (by decide) ?_
        show Steps p.tables e below (T3.setTop (mkF m 24 #[.val (.ref a0), .val (.int p1)] [])) _
        refine XS.iconst X3.here hx rfl (hb hby d6_24) ?_
        exact kt
      obtain ⟨fs, hr, hrun, hended, hW, hsame⟩ := X3.leave (v := some (.int (0 : Int32))) (fun h => by rw [Bd.returns] at h; cases h)
      refine ⟨_, _, ?_, hrun, hended, _, _, rfl, ?_, ⟨_, rfl⟩, hW, hsame.mono (by decide) (by decide)⟩
      · show Steps p.tables e below (T3.setTop (mkF m 25 #[.val (.ref a0), .val (.int p1)] [(.int (0 : Int32))])) _
        exact retN X3 hx (t := .boolean) Bd.returns (by simp) (hb hby d6_25) hr
      · show Q6 bk bb ch p1 h0 n0 _ T3.heap _
        rw [e3]
        exact ⟨by rw [if_neg hb0, if_pos hlt], N0, rfl⟩
    · refine own_go (B := T3.setTop (mkF m 25 #[.val (.ref a0), .val (.int p1)] [(.int (1 : Int32))])) (fun t kt => ?_) ?_
      · show Steps p.tables e below (T3.setTop (mkF m 17 #[.val (.ref a0), .val (.int p1)] [(.int p1), (.int (bk - ch))])) _
        refine XS.icmpNo X3.here hx rfl (hb hby d6_17) rfl (flt hlt).1 ?_
        show Steps p.tables e below (T3.setTop (mkF m 20 #[.val (.ref a0), .val (.int p1)] [])) _
        refine XS.iconst X3.here hx rfl (hb hby d6_20) ?_
        show Steps p.tables e below (T3.setTop (mkF m 21 #[.val (.ref a0), .val (.int p1)] [(.int (1 : Int32))])) _
        refine XS.goto X3.here hx rfl (pc0 := 21) (pc' := 25) rfl (hb hby d6_21) (by decide) (by decide) ?_
        exact kt
      obtain ⟨fs, hr, hrun, hended, hW, hsame⟩ := X3.leave (v := some (.int (1 : Int32))) (fun h => by rw [Bd.returns] at h; cases h)
      refine ⟨_, _, ?_, hrun, hended, _, _, rfl, ?_, ⟨_, rfl⟩, hW, hsame.mono (by decide) (by decide)⟩
      · show Steps p.tables e below (T3.setTop (mkF m 25 #[.val (.ref a0), .val (.int p1)] [(.int (1 : Int32))])) _
        exact retN X3 hx (t := .boolean) Bd.returns (by simp) (hb hby d6_25) hr
      · show Q6 bk bb ch p1 h0 n0 _ T3.heap _
        rw [e3]
        exact ⟨by rw [if_neg hb0, if_neg hlt], N0, rfl⟩
theorem own_of (x : Int32) (n : Nat) (hn : n < 2147483648) (h : x.toInt = n) : x = Int32.ofNat n := by
  apply Int32.toInt_inj.mp
  rw [Int32.toInt_ofNat_of_lt (by omega), h]
theorem own_nz86 (p1 : Int32) : ((1 : Int32) + ((p1 &&& (2147483647 : Int32)) % (7 : Int32))) ≠ (0 : Int32) := by
  have m1 := c_mask p1 (2147483647 : Int32) 31 (by decide) (by decide)
  have t31 : ((2 ^ 31 : Nat) : Int) = 2147483648 := by decide
  rw [t31] at m1
  have h := (c_irem (p1 &&& (2147483647 : Int32)) (7 : Int32) 7 (by decide)).1 (by omega)
  have a := c_iadd (1 : Int32) ((p1 &&& (2147483647 : Int32)) % (7 : Int32))
  have r := rng32 ((1 : Int32) + ((p1 &&& (2147483647 : Int32)) % (7 : Int32)))
  have z1 : (1 : Int32).toInt = 1 := by decide
  intro q
  have q2 := congrArg Int32.toInt q
  rw [show (0 : Int32).toInt = 0 from by decide] at q2
  omega
set_option maxRecDepth 65536 in
theorem own_tab0 : ∀ j : Fin 64, ¬ ((0 : Int32) < (lcmpW (own_ch (Int32.ofNat (j.1 + 1)) (1 : Int32) (1 : Int32).toInt.toNat (1 : Int64) (1 : Int32)) (64 : Int64))) := by decide +kernel
set_option maxRecDepth 65536 in
theorem own_tab1 : ∀ j : Fin 32, ¬ ((0 : Int32) < (lcmpW (own_ch (Int32.ofNat (j.1 + 1)) (Int32.ofNat (j.1 + 1)) (Int32.ofNat (j.1 + 1)).toInt.toNat (1 : Int64) (1 : Int32)) (64 : Int64))) := by decide +kernel
set_option maxRecDepth 65536 in
theorem own_tab2 : ∀ j : Fin 32, ¬ ((0 : Int32) < (lcmpW (own_ch (Int32.ofNat (j.1 + 2)) (Int32.ofNat (j.1 + 1)) (Int32.ofNat (j.1 + 1)).toInt.toNat (1 : Int64) (1 : Int32)) (64 : Int64))) := by decide +kernel
set_option maxRecDepth 65536 in
theorem own_tab3 : ∀ i : Fin 7, ∀ j : Fin 7, j.1 ≤ i.1 → ¬ ((0 : Int32) < (lcmpW (own_ch (Int32.ofNat (i.1 + 1)) (Int32.ofNat (j.1 + 1)) (Int32.ofNat (j.1 + 1)).toInt.toNat (1 : Int64) (1 : Int32)) (64 : Int64))) := by decide +kernel
theorem own_good (p1 p2 md : Int32) {Bk Ch : Int32}
    (hBk : Bk = (if md = (0 : Int32) then ((1 : Int32) + (p1 &&& (63 : Int32))) else (if md = (1 : Int32) then ((1 : Int32) + (p1 &&& (31 : Int32))) else (if md = (2 : Int32) then ((2 : Int32) + (p1 &&& (31 : Int32))) else ((1 : Int32) + ((p1 &&& (2147483647 : Int32)) % (7 : Int32)))))))
    (hCh : Ch = (if md = (0 : Int32) then (1 : Int32) else (if md = (1 : Int32) then ((1 : Int32) + (p1 &&& (31 : Int32))) else (if md = (2 : Int32) then (((2 : Int32) + (p1 &&& (31 : Int32))) - (1 : Int32)) else ((1 : Int32) + ((p2 &&& (2147483647 : Int32)) % ((1 : Int32) + ((p1 &&& (2147483647 : Int32)) % (7 : Int32))))))))) :
    1 ≤ Bk.toInt ∧ Bk.toInt ≤ 64 ∧ 1 ≤ Ch.toInt ∧ Ch.toInt ≤ Bk.toInt ∧ Ch.toInt ≤ 32 ∧ ¬ ((0 : Int32) < (lcmpW (own_ch Bk Ch Ch.toInt.toNat (1 : Int64) (1 : Int32)) (64 : Int64))) := by
  have z1 : (1 : Int32).toInt = 1 := by decide
  have z2 : (2 : Int32).toInt = 2 := by decide
  by_cases h0 : md = (0 : Int32)
  · rw [if_pos h0] at hBk hCh
    have m := c_mask p1 (63 : Int32) 6 (by decide) (by decide)
    rw [show ((2 ^ 6 : Nat) : Int) = 64 from by decide] at m
    have a := c_iadd (1 : Int32) (p1 &&& (63 : Int32))
    rw [← hBk] at a
    have r := rng32 Bk
    subst hCh
    obtain ⟨j, hj, e⟩ : ∃ j : Nat, j < 64 ∧ Bk.toInt = ((j + 1 : Nat) : Int) := ⟨(Bk.toInt - 1).toNat, by omega, by omega⟩
    have q := own_of Bk (j + 1) (by omega) e
    refine ⟨by omega, by omega, by omega, by omega, by omega, ?_⟩
    rw [q]
    exact own_tab0 ⟨j, hj⟩
  · rw [if_neg h0] at hBk hCh
    by_cases h1 : md = (1 : Int32)
    · rw [if_pos h1] at hBk hCh
      have m := c_mask p1 (31 : Int32) 5 (by decide) (by decide)
      rw [show ((2 ^ 5 : Nat) : Int) = 32 from by decide] at m
      have a := c_iadd (1 : Int32) (p1 &&& (31 : Int32))
      rw [← hBk] at a hCh
      have r := rng32 Bk
      subst hCh
      obtain ⟨j, hj, e⟩ : ∃ j : Nat, j < 32 ∧ Ch.toInt = ((j + 1 : Nat) : Int) := ⟨(Ch.toInt - 1).toNat, by omega, by omega⟩
      have q := own_of Ch (j + 1) (by omega) e
      refine ⟨by omega, by omega, by omega, by omega, by omega, ?_⟩
      rw [q]
      exact own_tab1 ⟨j, hj⟩
    · rw [if_neg h1] at hBk hCh
      by_cases h2 : md = (2 : Int32)
      · rw [if_pos h2] at hBk hCh
        have m := c_mask p1 (31 : Int32) 5 (by decide) (by decide)
        rw [show ((2 ^ 5 : Nat) : Int) = 32 from by decide] at m
        have a := c_iadd (2 : Int32) (p1 &&& (31 : Int32))
        rw [← hBk] at a hCh
        have r := rng32 Bk
        have a2 := c_isub Bk (1 : Int32)
        rw [← hCh] at a2
        have r2 := rng32 Ch
        obtain ⟨j, hj, e, e2⟩ : ∃ j : Nat, j < 32 ∧ Ch.toInt = ((j + 1 : Nat) : Int) ∧ Bk.toInt = ((j + 2 : Nat) : Int) := ⟨(Ch.toInt - 1).toNat, by omega, by omega, by omega⟩
        have q := own_of Ch (j + 1) (by omega) e
        have q2 := own_of Bk (j + 2) (by omega) e2
        refine ⟨by omega, by omega, by omega, by omega, by omega, ?_⟩
        rw [q, q2]
        exact own_tab2 ⟨j, hj⟩
      · rw [if_neg h2] at hBk hCh
        have m := c_mask p1 (2147483647 : Int32) 31 (by decide) (by decide)
        have m2 := c_mask p2 (2147483647 : Int32) 31 (by decide) (by decide)
        have t31 : ((2 ^ 31 : Nat) : Int) = 2147483648 := by decide
        rw [t31] at m m2
        have h := (c_irem (p1 &&& (2147483647 : Int32)) (7 : Int32) 7 (by decide)).1 (by omega)
        have a := c_iadd (1 : Int32) ((p1 &&& (2147483647 : Int32)) % (7 : Int32))
        rw [← hBk] at a hCh
        have r := rng32 Bk
        have hb : 1 ≤ Bk.toInt ∧ Bk.toInt ≤ 7 := by omega
        have h3 := (c_iremV (p2 &&& (2147483647 : Int32)) Bk).1 (by omega) (by omega)
        have a2 := c_iadd (1 : Int32) ((p2 &&& (2147483647 : Int32)) % Bk)
        rw [← hCh] at a2
        have r2 := rng32 Ch
        obtain ⟨h3a, h3b, -⟩ := h3
        obtain ⟨i, hi, e⟩ : ∃ i : Nat, i < 7 ∧ Bk.toInt = ((i + 1 : Nat) : Int) := ⟨(Bk.toInt - 1).toNat, by omega, by omega⟩
        obtain ⟨j, hj, e2⟩ : ∃ j : Nat, j < 7 ∧ Ch.toInt = ((j + 1 : Nat) : Int) := ⟨(Ch.toInt - 1).toNat, by omega, by omega⟩
        have q := own_of Bk (i + 1) (by omega) e
        have q2 := own_of Ch (j + 1) (by omega) e2
        have hji : j ≤ i := by omega
        refine ⟨by omega, by omega, by omega, by omega, by omega, ?_⟩
        rw [q, q2]
        exact own_tab3 ⟨i, hi⟩ ⟨j, hj⟩ hji
theorem own_mx {Bk Ch mx mi : Int32} (v1 : 1 ≤ Bk.toInt) (v2 : Bk.toInt ≤ 64) (v3 : 1 ≤ Ch.toInt) (v4 : Ch.toInt ≤ Bk.toInt) (v5 : Ch.toInt ≤ 32) (hmx : mx = own1_f0 ((64 : Int32) / Bk) ((32 : Int32) / Ch)) (hmi : mi = (if Bk = (1 : Int32) then (0 : Int32) else (1 : Int32))) (hlt : ¬ mx < mi) :
    (0 ≤ mi.toInt ∧ mi.toInt ≤ mx.toInt ∧ mx.toInt ≤ 64) ∧ mx.toInt * Bk.toInt ≤ 64 ∧ mx.toInt * Ch.toInt ≤ 32 := by
  rw [own1_e0] at hmx
  have z0 : (0 : Int32).toInt = 0 := by decide
  have z1 : (1 : Int32).toInt = 1 := by decide
  have nb : Bk ≠ -1 := fun q => by rw [q] at v1; exact absurd v1 (by decide)
  have nc : Ch ≠ -1 := fun q => by rw [q] at v3; exact absurd v3 (by decide)
  have d1 := (c_idiv (64 : Int32) Bk Bk.toInt rfl nb).1 (by decide)
  have d2 := (c_idiv (32 : Int32) Ch Ch.toInt rfl nc).1 (by decide)
  rw [show (64 : Int32).toInt = 64 from by decide] at d1
  rw [show (32 : Int32).toInt = 32 from by decide] at d2
  have hm : mx.toInt ≤ 64 / Bk.toInt ∧ mx.toInt ≤ 32 / Ch.toInt := by
    rw [hmx]
    split
    · rename_i h; rw [Int32.lt_iff_toInt_lt] at h; omega
    · rename_i h; rw [Int32.lt_iff_toInt_lt] at h; omega
  have e1 := (Int.le_ediv_iff_mul_le (by omega : 0 < Bk.toInt)).1 hm.1
  have e2 := (Int.le_ediv_iff_mul_le (by omega : 0 < Ch.toInt)).1 hm.2
  have hmi2 : mi.toInt = 0 ∨ mi.toInt = 1 := by
    rw [hmi]
    split
    · exact Or.inl z0
    · exact Or.inr z1
  rw [Int32.lt_iff_toInt_lt] at hlt
  have hq : mx.toInt ≤ 64 := Int.le_trans hm.1 (Int.ediv_le_self _ (by decide))
  exact ⟨⟨by omega, by omega, hq⟩, e1, e2⟩
theorem own_nz140 {mx mi : Int32} (h : 0 ≤ mi.toInt ∧ mi.toInt ≤ mx.toInt ∧ mx.toInt ≤ 64) : ((mx - mi) + (1 : Int32)) ≠ (0 : Int32) := by
  have a := c_isub mx mi
  have b := rng32 (mx - mi)
  have c := c_iadd (mx - mi) (1 : Int32)
  have z1 : (1 : Int32).toInt = 1 := by decide
  intro q
  have q2 := congrArg Int32.toInt q
  rw [show (0 : Int32).toInt = 0 from by decide] at q2
  omega
theorem own_bb {Bk Ch mx mi bb : Int32} (v1 : 1 ≤ Bk.toInt) (v2 : Bk.toInt ≤ 64) (v3 : 1 ≤ Ch.toInt) (v4 : Ch.toInt ≤ Bk.toInt) (v5 : Ch.toInt ≤ 32) (hmx : mx = own1_f0 ((64 : Int32) / Bk) ((32 : Int32) / Ch)) (hmi : mi = (if Bk = (1 : Int32) then (0 : Int32) else (1 : Int32))) (hlt : ¬ mx < mi) (p3 : Int32) (hbb : bb = (mi + ((p3 &&& (2147483647 : Int32)) % ((mx - mi) + (1 : Int32))))) :
    ¬ (bb < (0 : Int32)) ∧ ¬ ((0 : Int32) < (lcmpW ((Bk.toInt64) * (bb.toInt64)) (64 : Int64))) ∧ ¬ ((0 : Int32) < (lcmpW ((Ch.toInt64) * (bb.toInt64)) (32 : Int64))) ∧ (bb = (0 : Int32) → Bk = (1 : Int32)) ∧ True := by
  obtain ⟨⟨w1, w2, w3⟩, w4, w5⟩ := own_mx v1 v2 v3 v4 v5 hmx hmi hlt
  have z0 : (0 : Int32).toInt = 0 := by decide
  have z1 : (1 : Int32).toInt = 1 := by decide
  have m := c_mask p3 (2147483647 : Int32) 31 (by decide) (by decide)
  rw [show ((2 ^ 31 : Nat) : Int) = 2147483648 from by decide] at m
  have a := c_isub mx mi
  have b := rng32 (mx - mi)
  have c := c_iadd (mx - mi) (1 : Int32)
  have c2 := rng32 ((mx - mi) + (1 : Int32))
  have ed : ((mx - mi) + (1 : Int32)).toInt = mx.toInt - mi.toInt + 1 := by omega
  obtain ⟨h3a, h3b, -⟩ := (c_iremV (p3 &&& (2147483647 : Int32)) ((mx - mi) + (1 : Int32))).1 (by omega) (by omega)
  have f := c_iadd mi ((p3 &&& (2147483647 : Int32)) % ((mx - mi) + (1 : Int32)))
  rw [← hbb] at f
  have g := rng32 bb
  have hb : mi.toInt ≤ bb.toInt ∧ bb.toInt ≤ mx.toInt := by omega
  have p1 : bb.toInt * Bk.toInt ≤ 64 := Int.le_trans (Int.mul_le_mul_of_nonneg_right hb.2 (by omega)) w4
  have p2 : bb.toInt * Ch.toInt ≤ 32 := Int.le_trans (Int.mul_le_mul_of_nonneg_right hb.2 (by omega)) w5
  have p1' : 0 ≤ bb.toInt * Bk.toInt := Int.mul_nonneg (by omega) (by omega)
  have p2' : 0 ≤ bb.toInt * Ch.toInt := Int.mul_nonneg (by omega) (by omega)
  have l1 := c_lmul Bk.toInt64 bb.toInt64
  have l2 := c_lmul Ch.toInt64 bb.toInt64
  rw [c_i2l, c_i2l] at l1 l2
  rw [Int.mul_comm Bk.toInt bb.toInt] at l1
  rw [Int.mul_comm Ch.toInt bb.toInt] at l2
  have r1 := rng64 (Bk.toInt64 * bb.toInt64)
  have r2 := rng64 (Ch.toInt64 * bb.toInt64)
  have k1 : (64 : Int64).toInt = 64 := by decide
  have k2 : (32 : Int64).toInt = 32 := by decide
  generalize bb.toInt * Bk.toInt = P at *
  generalize bb.toInt * Ch.toInt = Q at *
  refine ⟨?_, ?_, ?_, ?_, trivial⟩
  · rw [Int32.lt_iff_toInt_lt]; omega
  · rw [lw_gt, Int64.lt_iff_toInt_lt]; omega
  · rw [lw_gt, Int64.lt_iff_toInt_lt]; omega
  · intro q
    by_cases h : Bk = (1 : Int32)
    · exact h
    · rw [if_neg h] at hmi
      rw [q, z0] at hb
      rw [hmi, z1] at hb
      omega
theorem own_init {Bk Ch : Int32} (v1 : 1 ≤ Bk.toInt) (v2 : Bk.toInt ≤ 64) (v3 : 1 ≤ Ch.toInt) (v4 : Ch.toInt ≤ Bk.toInt) : ¬ (Bk < (1 : Int32)) ∧ ¬ ((64 : Int32) < Bk) ∧ ¬ (Ch < (1 : Int32)) ∧ ¬ (Bk < Ch) ∧ ¬ (Ch < (0 : Int32)) := by
  have z0 : (0 : Int32).toInt = 0 := by decide
  have z1 : (1 : Int32).toInt = 1 := by decide
  have z64 : (64 : Int32).toInt = 64 := by decide
  simp only [Int32.lt_iff_toInt_lt, z0, z1, z64]
  omega
theorem own_last {Bk Ch : Int32} (v1 : 1 ≤ Bk.toInt) (v2 : Bk.toInt ≤ 64) (v3 : 1 ≤ Ch.toInt) (v4 : Ch.toInt ≤ Bk.toInt) (kk bb : Int32) {ex : Int32} (hex : ex = (if bb = (0 : Int32) then (1 : Int32) else (if (Bk - (own1_f0 (own7_f0 kk (0 : Int32)) Bk)) < Ch then (0 : Int32) else (1 : Int32)))) :
    (if bb = (0 : Int32) then (1 : Int32) else (if (Bk - Ch) < kk then (0 : Int32) else (1 : Int32))) = ex := by
  rw [hex]
  by_cases hb : bb = (0 : Int32)
  · rw [if_pos hb, if_pos hb]
  · rw [if_neg hb, if_neg hb]
    refine own_ifc ?_ rfl rfl
    have z0 : (0 : Int32).toInt = 0 := by decide
    have hM : (own7_f0 kk (0 : Int32)).toInt = (if kk.toInt < 0 then 0 else kk.toInt) := by
      rw [own7_e0]
      by_cases h : kk < (0 : Int32)
      · rw [if_pos h]; rw [Int32.lt_iff_toInt_lt, z0] at h; rw [if_pos h, z0]
      · rw [if_neg h]; rw [Int32.lt_iff_toInt_lt, z0] at h; rw [if_neg h]
    have hm : (own1_f0 (own7_f0 kk (0 : Int32)) Bk).toInt = (if Bk.toInt < (own7_f0 kk (0 : Int32)).toInt then Bk.toInt else (own7_f0 kk (0 : Int32)).toInt) := by
      rw [own1_e0]
      by_cases h : Bk < (own7_f0 kk (0 : Int32))
      · rw [if_pos h]; rw [Int32.lt_iff_toInt_lt] at h; rw [if_pos h]
      · rw [if_neg h]; rw [Int32.lt_iff_toInt_lt] at h; rw [if_neg h]
    have a := c_isub Bk Ch
    have b := rng32 (Bk - Ch)
    have c := c_isub Bk (own1_f0 (own7_f0 kk (0 : Int32)) Bk)
    have d := rng32 (Bk - (own1_f0 (own7_f0 kk (0 : Int32)) Bk))
    rw [Int32.lt_iff_toInt_lt, Int32.lt_iff_toInt_lt]
    generalize (Bk - (own1_f0 (own7_f0 kk (0 : Int32)) Bk)).toInt = U at *
    generalize (own1_f0 (own7_f0 kk (0 : Int32)) Bk).toInt = W at *
    generalize (own7_f0 kk (0 : Int32)).toInt = V at *
    split at hM <;> split at hm <;> omega

theorem pd_0_0 : parseMethodDescriptor "(II)I" = some ⟨[.int, .int], some .int⟩ := by decide +kernel
theorem pd_0_1 : parseMethodDescriptor "(III)V" = some ⟨[.int, .int, .int], none⟩ := by decide +kernel
theorem pd_0_2 : parseMethodDescriptor "(I)Z" = some ⟨[.int], some .boolean⟩ := by decide +kernel
theorem ef_0 (m : MethodId) (p0 : Int32) (p1 : Int32) (p2 : Int32) (p3 : Int32) (p4 : Int32) : entryFrame m #[(.int p0), (.int p1), (.int p2), (.int p3), (.int p4)] maxLocals = mkF m 0 #[.val (.int p0), .val (.int p1), .val (.int p2), .val (.int p3), .val (.int p4), .unset, .unset, .unset, .unset, .unset, .unset, .unset, .unset, .unset, .unset, .unset, .unset] [] := by first | (simp [entryFrame, mkF, argsToLocals, Value.category, maxLocals]; done) | rfl
theorem pn_0 : plainName "com/example/hazy_hash/hazyhash/TableLayoutIsCompleteForPinLaw" = true := by first | (simp [plainName, overriddenIn]; done) | decide +kernel
def Q0 (n0 : Nat) (v : Option Value) (L : List Loc) : Prop := v = some (.int (1 : Int32)) ∧ Fr n0 L
set_option maxRecDepth 65536 in
set_option maxHeartbeats 40000000 in
theorem rm0 (l : Launch) (Z : State) (t0 : Array Value) (hw : ∀ d ∈ tables_1, d.before t0 Z = true) (ws : List Jvm.Cond) (p0 : Int32) (p1 : Int32) (p2 : Int32) (p3 : Int32) (p4 : Int32) (h0 : Heap) (n0 : Nat) (Z0 : n0 ≤ h0.size)  :
    MetFree l x (head1 (Jvm.Cond.code x code maxLocals ret :: ws) room_1) (fun a U => a = #[(.int p0), (.int p1), (.int p2), (.int p3), (.int p4)] ∧ Z.Warmed39 U.vm ∧ U.heap = h0) (fun _ _ _ _ _ => True) (fun _ U o U' => ∃ v L, o = .returned v ∧ Q0 n0 v L ∧ FrameEnd U o U' L room_1.cells room_1.slots) := by
  refine MetFree.of_bodySF (plainFor_of_name pn_0) hisR ?_
  intro p e s m args below meth c s₁ Bd hml0 hP hK
  obtain ⟨rfl, hZ, hh⟩ := hP
  have hx := Bd.exec
  have hby := Bd.bytes
  have hml : c.maxLocals = 17 := hml0
  have hown : s.vm.findClass "com/example/hazy_hash/hazyhash/TableLayoutIsCompleteForPinLaw" = some m.cls := findClass_of_methodNamed Bd.named
  have hnm := (name_of_methodNamed Bd.named Bd.method).1
  have X0 : Stand p l e room_1 s m #[(.int p0), (.int p1), (.int p2), (.int p3), (.int p4)] below meth c s₁ [] 0 0 := Stand.of_body Bd
  have e0 : s₁.heap = h0 := by rw [← hh, Bd.state]; rfl
  have N0 := Fr.nil n0
  have pre0 : ∀ t, Steps p.tables e below (s₁.setTop (mkF m 0 #[.val (.int p0), .val (.int p1), .val (.int p2), .val (.int p3), .val (.int p4), .unset, .unset, .unset, .unset, .unset, .unset, .unset, .unset, .unset, .unset, .unset, .unset] [])) t → Steps p.tables e below (s₁.setTop (entryFrame m #[(.int p0), (.int p1), (.int p2), (.int p3), (.int p4)] maxLocals)) t := fun t k => castTop (ef_0 m p0 p1 p2 p3 p4) k
  refine own_go pre0 ?_
  refine own_go (B := s₁.setTop (mkF m 5 #[.val (.int p0), .val (.int p1), .val (.int p2), .val (.int p3), .val (.int p4), .val (.int (p0 &&& (3 : Int32))), .unset, .unset, .unset, .unset, .unset, .unset, .unset, .unset, .unset, .unset, .unset] [])) (fun t kt => ?_) ?_
  · show Steps p.tables e below (s₁.setTop (mkF m 0 #[.val (.int p0), .val (.int p1), .val (.int p2), .val (.int p3), .val (.int p4), .unset, .unset, .unset, .unset, .unset, .unset, .unset, .unset, .unset, .unset, .unset, .unset] [])) _
    refine XS.iloadN X0.here hx rfl (hb hby at_0) rfl ?_
    show Steps p.tables e below (s₁.setTop (mkF m 1 #[.val (.int p0), .val (.int p1), .val (.int p2), .val (.int p3), .val (.int p4), .unset, .unset, .unset, .unset, .unset, .unset, .unset, .unset, .unset, .unset, .unset, .unset] [(.int p0)])) _
    refine XS.iconst X0.here hx rfl (hb hby at_1) ?_
    show Steps p.tables e below (s₁.setTop (mkF m 2 #[.val (.int p0), .val (.int p1), .val (.int p2), .val (.int p3), .val (.int p4), .unset, .unset, .unset, .unset, .unset, .unset, .unset, .unset, .unset, .unset, .unset, .unset] [(.int (3 : Int32)), (.int p0)])) _
    refine XS.iand X0.here hx rfl (hb hby at_2) rfl ?_
    show Steps p.tables e below (s₁.setTop (mkF m 3 #[.val (.int p0), .val (.int p1), .val (.int p2), .val (.int p3), .val (.int p4), .unset, .unset, .unset, .unset, .unset, .unset, .unset, .unset, .unset, .unset, .unset, .unset] [(.int (p0 &&& (3 : Int32)))])) _
    refine XS.istore X0.here hx rfl (hb hby at_3) rfl (l' := #[.val (.int p0), .val (.int p1), .val (.int p2), .val (.int p3), .val (.int p4), .val (.int (p0 &&& (3 : Int32))), .unset, .unset, .unset, .unset, .unset, .unset, .unset, .unset, .unset, .unset, .unset]) rfl ?_
    exact kt
  generalize (p0 &&& (3 : Int32)) = md
  have hnz86 : ((1 : Int32) + ((p1 &&& (2147483647 : Int32)) % (7 : Int32))) ≠ (0 : Int32) := own_nz86 p1
  obtain ⟨Bk, hBk⟩ : ∃ z : Int32, z = (if md = (0 : Int32) then ((1 : Int32) + (p1 &&& (63 : Int32))) else (if md = (1 : Int32) then ((1 : Int32) + (p1 &&& (31 : Int32))) else (if md = (2 : Int32) then ((2 : Int32) + (p1 &&& (31 : Int32))) else ((1 : Int32) + ((p1 &&& (2147483647 : Int32)) % (7 : Int32)))))) := ⟨_, rfl⟩
  obtain ⟨Ch, hCh⟩ : ∃ z : Int32, z = (if md = (0 : Int32) then (1 : Int32) else (if md = (1 : Int32) then ((1 : Int32) + (p1 &&& (31 : Int32))) else (if md = (2 : Int32) then (((2 : Int32) + (p1 &&& (31 : Int32))) - (1 : Int32)) else ((1 : Int32) + ((p2 &&& (2147483647 : Int32)) % ((1 : Int32) + ((p1 &&& (2147483647 : Int32)) % (7 : Int32)))))))) := ⟨_, rfl⟩
  refine own_go (B := s₁.setTop (mkF m 90 #[.val (.int p0), .val (.int p1), .val (.int p2), .val (.int p3), .val (.int p4), .val (.int md), .val (.int Bk), .val (.int Ch), .unset, .unset, .unset, .unset, .unset, .unset, .unset, .unset, .unset] [])) (fun t kt => ?_) ?_
  · show Steps p.tables e below (s₁.setTop (mkF m 5 #[.val (.int p0), .val (.int p1), .val (.int p2), .val (.int p3), .val (.int p4), .val (.int md), .unset, .unset, .unset, .unset, .unset, .unset, .unset, .unset, .unset, .unset, .unset] [])) _
    refine XS.iload X0.here hx rfl (hb hby at_5) rfl ?_
    by_cases hc7 : md = (0 : Int32)
    · show Steps p.tables e below (s₁.setTop (mkF m 7 #[.val (.int p0), .val (.int p1), .val (.int p2), .val (.int p3), .val (.int p4), .val (.int md), .unset, .unset, .unset, .unset, .unset, .unset, .unset, .unset, .unset, .unset, .unset] [(.int md)])) _
      refine XS.ifNo X0.here hx rfl (hb hby at_7) rfl ((if0 _ _).trans (teq hc7).2) ?_
      show Steps p.tables e below (s₁.setTop (mkF m 10 #[.val (.int p0), .val (.int p1), .val (.int p2), .val (.int p3), .val (.int p4), .val (.int md), .unset, .unset, .unset, .unset, .unset, .unset, .unset, .unset, .unset, .unset, .unset] [])) _
      refine XS.iconst X0.here hx rfl (hb hby at_10) ?_
      show Steps p.tables e below (s₁.setTop (mkF m 11 #[.val (.int p0), .val (.int p1), .val (.int p2), .val (.int p3), .val (.int p4), .val (.int md), .unset, .unset, .unset, .unset, .unset, .unset, .unset, .unset, .unset, .unset, .unset] [(.int (1 : Int32))])) _
      refine XS.iloadN X0.here hx rfl (hb hby at_11) rfl ?_
      show Steps p.tables e below (s₁.setTop (mkF m 12 #[.val (.int p0), .val (.int p1), .val (.int p2), .val (.int p3), .val (.int p4), .val (.int md), .unset, .unset, .unset, .unset, .unset, .unset, .unset, .unset, .unset, .unset, .unset] [(.int p1), (.int (1 : Int32))])) _
      refine XS.bipush X0.here hx rfl (hb hby at_12) ?_
      show Steps p.tables e below (s₁.setTop (mkF m 14 #[.val (.int p0), .val (.int p1), .val (.int p2), .val (.int p3), .val (.int p4), .val (.int md), .unset, .unset, .unset, .unset, .unset, .unset, .unset, .unset, .unset, .unset, .unset] [(.int (63 : Int32)), (.int p1), (.int (1 : Int32))])) _
      refine XS.iand X0.here hx rfl (hb hby at_14) rfl ?_
      show Steps p.tables e below (s₁.setTop (mkF m 15 #[.val (.int p0), .val (.int p1), .val (.int p2), .val (.int p3), .val (.int p4), .val (.int md), .unset, .unset, .unset, .unset, .unset, .unset, .unset, .unset, .unset, .unset, .unset] [(.int (p1 &&& (63 : Int32))), (.int (1 : Int32))])) _
      refine XS.iadd X0.here hx rfl (hb hby at_15) rfl ?_
      show Steps p.tables e below (s₁.setTop (mkF m 16 #[.val (.int p0), .val (.int p1), .val (.int p2), .val (.int p3), .val (.int p4), .val (.int md), .unset, .unset, .unset, .unset, .unset, .unset, .unset, .unset, .unset, .unset, .unset] [(.int ((1 : Int32) + (p1 &&& (63 : Int32))))])) _
      refine XS.istore X0.here hx rfl (hb hby at_16) rfl (l' := #[.val (.int p0), .val (.int p1), .val (.int p2), .val (.int p3), .val (.int p4), .val (.int md), .val (.int ((1 : Int32) + (p1 &&& (63 : Int32)))), .unset, .unset, .unset, .unset, .unset, .unset, .unset, .unset, .unset, .unset]) rfl ?_
      show Steps p.tables e below (s₁.setTop (mkF m 18 #[.val (.int p0), .val (.int p1), .val (.int p2), .val (.int p3), .val (.int p4), .val (.int md), .val (.int ((1 : Int32) + (p1 &&& (63 : Int32)))), .unset, .unset, .unset, .unset, .unset, .unset, .unset, .unset, .unset, .unset] [])) _
      refine XS.iconst X0.here hx rfl (hb hby at_18) ?_
      show Steps p.tables e below (s₁.setTop (mkF m 19 #[.val (.int p0), .val (.int p1), .val (.int p2), .val (.int p3), .val (.int p4), .val (.int md), .val (.int ((1 : Int32) + (p1 &&& (63 : Int32)))), .unset, .unset, .unset, .unset, .unset, .unset, .unset, .unset, .unset, .unset] [(.int (1 : Int32))])) _
      refine XS.istore X0.here hx rfl (hb hby at_19) rfl (l' := #[.val (.int p0), .val (.int p1), .val (.int p2), .val (.int p3), .val (.int p4), .val (.int md), .val (.int ((1 : Int32) + (p1 &&& (63 : Int32)))), .val (.int (1 : Int32)), .unset, .unset, .unset, .unset, .unset, .unset, .unset, .unset, .unset]) rfl ?_
      show Steps p.tables e below (s₁.setTop (mkF m 21 #[.val (.int p0), .val (.int p1), .val (.int p2), .val (.int p3), .val (.int p4), .val (.int md), .val (.int ((1 : Int32) + (p1 &&& (63 : Int32)))), .val (.int (1 : Int32)), .unset, .unset, .unset, .unset, .unset, .unset, .unset, .unset, .unset] [])) _
      refine XS.goto X0.here hx rfl (pc0 := 21) (pc' := 90) rfl (hb hby at_21) (by decide) (by decide) ?_
      rw [show Bk = ((1 : Int32) + (p1 &&& (63 : Int32))) from by rw [hBk, if_pos hc7]] at kt
      rw [show Ch = (1 : Int32) from by rw [hCh, if_pos hc7]] at kt
      exact kt
    · show Steps p.tables e below (s₁.setTop (mkF m 7 #[.val (.int p0), .val (.int p1), .val (.int p2), .val (.int p3), .val (.int p4), .val (.int md), .unset, .unset, .unset, .unset, .unset, .unset, .unset, .unset, .unset, .unset, .unset] [(.int md)])) _
      refine XS.ifYes X0.here hx rfl (pc0 := 7) (pc' := 24) rfl (hb hby at_7) rfl ((if0 _ _).trans (feq hc7).2) (by decide) (by decide) ?_
      show Steps p.tables e below (s₁.setTop (mkF m 24 #[.val (.int p0), .val (.int p1), .val (.int p2), .val (.int p3), .val (.int p4), .val (.int md), .unset, .unset, .unset, .unset, .unset, .unset, .unset, .unset, .unset, .unset, .unset] [])) _
      refine XS.iload X0.here hx rfl (hb hby at_24) rfl ?_
      show Steps p.tables e below (s₁.setTop (mkF m 26 #[.val (.int p0), .val (.int p1), .val (.int p2), .val (.int p3), .val (.int p4), .val (.int md), .unset, .unset, .unset, .unset, .unset, .unset, .unset, .unset, .unset, .unset, .unset] [(.int md)])) _
      refine XS.iconst X0.here hx rfl (hb hby at_26) ?_
      by_cases hc27 : md = (1 : Int32)
      · show Steps p.tables e below (s₁.setTop (mkF m 27 #[.val (.int p0), .val (.int p1), .val (.int p2), .val (.int p3), .val (.int p4), .val (.int md), .unset, .unset, .unset, .unset, .unset, .unset, .unset, .unset, .unset, .unset, .unset] [(.int (1 : Int32)), (.int md)])) _
        refine XS.icmpNo X0.here hx rfl (hb hby at_27) rfl (teq hc27).2 ?_
        show Steps p.tables e below (s₁.setTop (mkF m 30 #[.val (.int p0), .val (.int p1), .val (.int p2), .val (.int p3), .val (.int p4), .val (.int md), .unset, .unset, .unset, .unset, .unset, .unset, .unset, .unset, .unset, .unset, .unset] [])) _
        refine XS.iconst X0.here hx rfl (hb hby at_30) ?_
        show Steps p.tables e below (s₁.setTop (mkF m 31 #[.val (.int p0), .val (.int p1), .val (.int p2), .val (.int p3), .val (.int p4), .val (.int md), .unset, .unset, .unset, .unset, .unset, .unset, .unset, .unset, .unset, .unset, .unset] [(.int (1 : Int32))])) _
        refine XS.iloadN X0.here hx rfl (hb hby at_31) rfl ?_
        show Steps p.tables e below (s₁.setTop (mkF m 32 #[.val (.int p0), .val (.int p1), .val (.int p2), .val (.int p3), .val (.int p4), .val (.int md), .unset, .unset, .unset, .unset, .unset, .unset, .unset, .unset, .unset, .unset, .unset] [(.int p1), (.int (1 : Int32))])) _
        refine XS.bipush X0.here hx rfl (hb hby at_32) ?_
        show Steps p.tables e below (s₁.setTop (mkF m 34 #[.val (.int p0), .val (.int p1), .val (.int p2), .val (.int p3), .val (.int p4), .val (.int md), .unset, .unset, .unset, .unset, .unset, .unset, .unset, .unset, .unset, .unset, .unset] [(.int (31 : Int32)), (.int p1), (.int (1 : Int32))])) _
        refine XS.iand X0.here hx rfl (hb hby at_34) rfl ?_
        show Steps p.tables e below (s₁.setTop (mkF m 35 #[.val (.int p0), .val (.int p1), .val (.int p2), .val (.int p3), .val (.int p4), .val (.int md), .unset, .unset, .unset, .unset, .unset, .unset, .unset, .unset, .unset, .unset, .unset] [(.int (p1 &&& (31 : Int32))), (.int (1 : Int32))])) _
        refine XS.iadd X0.here hx rfl (hb hby at_35) rfl ?_
        show Steps p.tables e below (s₁.setTop (mkF m 36 #[.val (.int p0), .val (.int p1), .val (.int p2), .val (.int p3), .val (.int p4), .val (.int md), .unset, .unset, .unset, .unset, .unset, .unset, .unset, .unset, .unset, .unset, .unset] [(.int ((1 : Int32) + (p1 &&& (31 : Int32))))])) _
        refine XS.istore X0.here hx rfl (hb hby at_36) rfl (l' := #[.val (.int p0), .val (.int p1), .val (.int p2), .val (.int p3), .val (.int p4), .val (.int md), .val (.int ((1 : Int32) + (p1 &&& (31 : Int32)))), .unset, .unset, .unset, .unset, .unset, .unset, .unset, .unset, .unset, .unset]) rfl ?_
        show Steps p.tables e below (s₁.setTop (mkF m 38 #[.val (.int p0), .val (.int p1), .val (.int p2), .val (.int p3), .val (.int p4), .val (.int md), .val (.int ((1 : Int32) + (p1 &&& (31 : Int32)))), .unset, .unset, .unset, .unset, .unset, .unset, .unset, .unset, .unset, .unset] [])) _
        refine XS.iload X0.here hx rfl (hb hby at_38) rfl ?_
        show Steps p.tables e below (s₁.setTop (mkF m 40 #[.val (.int p0), .val (.int p1), .val (.int p2), .val (.int p3), .val (.int p4), .val (.int md), .val (.int ((1 : Int32) + (p1 &&& (31 : Int32)))), .unset, .unset, .unset, .unset, .unset, .unset, .unset, .unset, .unset, .unset] [(.int ((1 : Int32) + (p1 &&& (31 : Int32))))])) _
        refine XS.istore X0.here hx rfl (hb hby at_40) rfl (l' := #[.val (.int p0), .val (.int p1), .val (.int p2), .val (.int p3), .val (.int p4), .val (.int md), .val (.int ((1 : Int32) + (p1 &&& (31 : Int32)))), .val (.int ((1 : Int32) + (p1 &&& (31 : Int32)))), .unset, .unset, .unset, .unset, .unset, .unset, .unset, .unset, .unset]) rfl ?_
        show Steps p.tables e below (s₁.setTop (mkF m 42 #[.val (.int p0), .val (.int p1), .val (.int p2), .val (.int p3), .val (.int p4), .val (.int md), .val (.int ((1 : Int32) + (p1 &&& (31 : Int32)))), .val (.int ((1 : Int32) + (p1 &&& (31 : Int32)))), .unset, .unset, .unset, .unset, .unset, .unset, .unset, .unset, .unset] [])) _
        refine XS.goto X0.here hx rfl (pc0 := 42) (pc' := 90) rfl (hb hby at_42) (by decide) (by decide) ?_
        rw [show Bk = ((1 : Int32) + (p1 &&& (31 : Int32))) from by rw [hBk, if_neg hc7, if_pos hc27]] at kt
        rw [show Ch = ((1 : Int32) + (p1 &&& (31 : Int32))) from by rw [hCh, if_neg hc7, if_pos hc27]] at kt
        exact kt
      · show Steps p.tables e below (s₁.setTop (mkF m 27 #[.val (.int p0), .val (.int p1), .val (.int p2), .val (.int p3), .val (.int p4), .val (.int md), .unset, .unset, .unset, .unset, .unset, .unset, .unset, .unset, .unset, .unset, .unset] [(.int (1 : Int32)), (.int md)])) _
        refine XS.icmpYes X0.here hx rfl (pc0 := 27) (pc' := 45) rfl (hb hby at_27) rfl (feq hc27).2 (by decide) (by decide) ?_
        show Steps p.tables e below (s₁.setTop (mkF m 45 #[.val (.int p0), .val (.int p1), .val (.int p2), .val (.int p3), .val (.int p4), .val (.int md), .unset, .unset, .unset, .unset, .unset, .unset, .unset, .unset, .unset, .unset, .unset] [])) _
        refine XS.iload X0.here hx rfl (hb hby at_45) rfl ?_
        show Steps p.tables e below (s₁.setTop (mkF m 47 #[.val (.int p0), .val (.int p1), .val (.int p2), .val (.int p3), .val (.int p4), .val (.int md), .unset, .unset, .unset, .unset, .unset, .unset, .unset, .unset, .unset, .unset, .unset] [(.int md)])) _
        refine XS.iconst X0.here hx rfl (hb hby at_47) ?_
        by_cases hc48 : md = (2 : Int32)
        · show Steps p.tables e below (s₁.setTop (mkF m 48 #[.val (.int p0), .val (.int p1), .val (.int p2), .val (.int p3), .val (.int p4), .val (.int md), .unset, .unset, .unset, .unset, .unset, .unset, .unset, .unset, .unset, .unset, .unset] [(.int (2 : Int32)), (.int md)])) _
          refine XS.icmpNo X0.here hx rfl (hb hby at_48) rfl (teq hc48).2 ?_
          show Steps p.tables e below (s₁.setTop (mkF m 51 #[.val (.int p0), .val (.int p1), .val (.int p2), .val (.int p3), .val (.int p4), .val (.int md), .unset, .unset, .unset, .unset, .unset, .unset, .unset, .unset, .unset, .unset, .unset] [])) _
          refine XS.iconst X0.here hx rfl (hb hby at_51) ?_
          show Steps p.tables e below (s₁.setTop (mkF m 52 #[.val (.int p0), .val (.int p1), .val (.int p2), .val (.int p3), .val (.int p4), .val (.int md), .unset, .unset, .unset, .unset, .unset, .unset, .unset, .unset, .unset, .unset, .unset] [(.int (2 : Int32))])) _
          refine XS.iloadN X0.here hx rfl (hb hby at_52) rfl ?_
          show Steps p.tables e below (s₁.setTop (mkF m 53 #[.val (.int p0), .val (.int p1), .val (.int p2), .val (.int p3), .val (.int p4), .val (.int md), .unset, .unset, .unset, .unset, .unset, .unset, .unset, .unset, .unset, .unset, .unset] [(.int p1), (.int (2 : Int32))])) _
          refine XS.bipush X0.here hx rfl (hb hby at_53) ?_
          show Steps p.tables e below (s₁.setTop (mkF m 55 #[.val (.int p0), .val (.int p1), .val (.int p2), .val (.int p3), .val (.int p4), .val (.int md), .unset, .unset, .unset, .unset, .unset, .unset, .unset, .unset, .unset, .unset, .unset] [(.int (31 : Int32)), (.int p1), (.int (2 : Int32))])) _
          refine XS.iand X0.here hx rfl (hb hby at_55) rfl ?_
          show Steps p.tables e below (s₁.setTop (mkF m 56 #[.val (.int p0), .val (.int p1), .val (.int p2), .val (.int p3), .val (.int p4), .val (.int md), .unset, .unset, .unset, .unset, .unset, .unset, .unset, .unset, .unset, .unset, .unset] [(.int (p1 &&& (31 : Int32))), (.int (2 : Int32))])) _
          refine XS.iadd X0.here hx rfl (hb hby at_56) rfl ?_
          show Steps p.tables e below (s₁.setTop (mkF m 57 #[.val (.int p0), .val (.int p1), .val (.int p2), .val (.int p3), .val (.int p4), .val (.int md), .unset, .unset, .unset, .unset, .unset, .unset, .unset, .unset, .unset, .unset, .unset] [(.int ((2 : Int32) + (p1 &&& (31 : Int32))))])) _
          refine XS.istore X0.here hx rfl (hb hby at_57) rfl (l' := #[.val (.int p0), .val (.int p1), .val (.int p2), .val (.int p3), .val (.int p4), .val (.int md), .val (.int ((2 : Int32) + (p1 &&& (31 : Int32)))), .unset, .unset, .unset, .unset, .unset, .unset, .unset, .unset, .unset, .unset]) rfl ?_
          show Steps p.tables e below (s₁.setTop (mkF m 59 #[.val (.int p0), .val (.int p1), .val (.int p2), .val (.int p3), .val (.int p4), .val (.int md), .val (.int ((2 : Int32) + (p1 &&& (31 : Int32)))), .unset, .unset, .unset, .unset, .unset, .unset, .unset, .unset, .unset, .unset] [])) _
          refine XS.iload X0.here hx rfl (hb hby at_59) rfl ?_
          show Steps p.tables e below (s₁.setTop (mkF m 61 #[.val (.int p0), .val (.int p1), .val (.int p2), .val (.int p3), .val (.int p4), .val (.int md), .val (.int ((2 : Int32) + (p1 &&& (31 : Int32)))), .unset, .unset, .unset, .unset, .unset, .unset, .unset, .unset, .unset, .unset] [(.int ((2 : Int32) + (p1 &&& (31 : Int32))))])) _
          refine XS.iconst X0.here hx rfl (hb hby at_61) ?_
          show Steps p.tables e below (s₁.setTop (mkF m 62 #[.val (.int p0), .val (.int p1), .val (.int p2), .val (.int p3), .val (.int p4), .val (.int md), .val (.int ((2 : Int32) + (p1 &&& (31 : Int32)))), .unset, .unset, .unset, .unset, .unset, .unset, .unset, .unset, .unset, .unset] [(.int (1 : Int32)), (.int ((2 : Int32) + (p1 &&& (31 : Int32))))])) _
          refine XS.isub X0.here hx rfl (hb hby at_62) rfl ?_
          show Steps p.tables e below (s₁.setTop (mkF m 63 #[.val (.int p0), .val (.int p1), .val (.int p2), .val (.int p3), .val (.int p4), .val (.int md), .val (.int ((2 : Int32) + (p1 &&& (31 : Int32)))), .unset, .unset, .unset, .unset, .unset, .unset, .unset, .unset, .unset, .unset] [(.int (((2 : Int32) + (p1 &&& (31 : Int32))) - (1 : Int32)))])) _
          refine XS.istore X0.here hx rfl (hb hby at_63) rfl (l' := #[.val (.int p0), .val (.int p1), .val (.int p2), .val (.int p3), .val (.int p4), .val (.int md), .val (.int ((2 : Int32) + (p1 &&& (31 : Int32)))), .val (.int (((2 : Int32) + (p1 &&& (31 : Int32))) - (1 : Int32))), .unset, .unset, .unset, .unset, .unset, .unset, .unset, .unset, .unset]) rfl ?_
          show Steps p.tables e below (s₁.setTop (mkF m 65 #[.val (.int p0), .val (.int p1), .val (.int p2), .val (.int p3), .val (.int p4), .val (.int md), .val (.int ((2 : Int32) + (p1 &&& (31 : Int32)))), .val (.int (((2 : Int32) + (p1 &&& (31 : Int32))) - (1 : Int32))), .unset, .unset, .unset, .unset, .unset, .unset, .unset, .unset, .unset] [])) _
          refine XS.goto X0.here hx rfl (pc0 := 65) (pc' := 90) rfl (hb hby at_65) (by decide) (by decide) ?_
          rw [show Bk = ((2 : Int32) + (p1 &&& (31 : Int32))) from by rw [hBk, if_neg hc7, if_neg hc27, if_pos hc48]] at kt
          rw [show Ch = (((2 : Int32) + (p1 &&& (31 : Int32))) - (1 : Int32)) from by rw [hCh, if_neg hc7, if_neg hc27, if_pos hc48]] at kt
          exact kt
        · show Steps p.tables e below (s₁.setTop (mkF m 48 #[.val (.int p0), .val (.int p1), .val (.int p2), .val (.int p3), .val (.int p4), .val (.int md), .unset, .unset, .unset, .unset, .unset, .unset, .unset, .unset, .unset, .unset, .unset] [(.int (2 : Int32)), (.int md)])) _
          refine XS.icmpYes X0.here hx rfl (pc0 := 48) (pc' := 68) rfl (hb hby at_48) rfl (feq hc48).2 (by decide) (by decide) ?_
          show Steps p.tables e below (s₁.setTop (mkF m 68 #[.val (.int p0), .val (.int p1), .val (.int p2), .val (.int p3), .val (.int p4), .val (.int md), .unset, .unset, .unset, .unset, .unset, .unset, .unset, .unset, .unset, .unset, .unset] [])) _
          refine XS.iconst X0.here hx rfl (hb hby at_68) ?_
          show Steps p.tables e below (s₁.setTop (mkF m 69 #[.val (.int p0), .val (.int p1), .val (.int p2), .val (.int p3), .val (.int p4), .val (.int md), .unset, .unset, .unset, .unset, .unset, .unset, .unset, .unset, .unset, .unset, .unset] [(.int (1 : Int32))])) _
          refine XS.iloadN X0.here hx rfl (hb hby at_69) rfl ?_
          show Steps p.tables e below (s₁.setTop (mkF m 70 #[.val (.int p0), .val (.int p1), .val (.int p2), .val (.int p3), .val (.int p4), .val (.int md), .unset, .unset, .unset, .unset, .unset, .unset, .unset, .unset, .unset, .unset, .unset] [(.int p1), (.int (1 : Int32))])) _
          refine X0.ldcInt hx hown (mvT hZ (hw _ (List.mem_of_getElem? (i := 4) rfl))) (g := (mkF m 70 #[.val (.int p0), .val (.int p1), .val (.int p2), .val (.int p3), .val (.int p4), .val (.int md), .unset, .unset, .unset, .unset, .unset, .unset, .unset, .unset, .unset, .unset, .unset] [(.int p1), (.int (1 : Int32))])) rfl (hb hby at_70) _ ?_
          show Steps p.tables e below (s₁.setTop (mkF m 72 #[.val (.int p0), .val (.int p1), .val (.int p2), .val (.int p3), .val (.int p4), .val (.int md), .unset, .unset, .unset, .unset, .unset, .unset, .unset, .unset, .unset, .unset, .unset] [(.int (2147483647 : Int32)), (.int p1), (.int (1 : Int32))])) _
          refine XS.iand X0.here hx rfl (hb hby at_72) rfl ?_
          show Steps p.tables e below (s₁.setTop (mkF m 73 #[.val (.int p0), .val (.int p1), .val (.int p2), .val (.int p3), .val (.int p4), .val (.int md), .unset, .unset, .unset, .unset, .unset, .unset, .unset, .unset, .unset, .unset, .unset] [(.int (p1 &&& (2147483647 : Int32))), (.int (1 : Int32))])) _
          refine XS.bipush X0.here hx rfl (hb hby at_73) ?_
          show Steps p.tables e below (s₁.setTop (mkF m 75 #[.val (.int p0), .val (.int p1), .val (.int p2), .val (.int p3), .val (.int p4), .val (.int md), .unset, .unset, .unset, .unset, .unset, .unset, .unset, .unset, .unset, .unset, .unset] [(.int (7 : Int32)), (.int (p1 &&& (2147483647 : Int32))), (.int (1 : Int32))])) _
          refine Jvm.RoadKit.iremM (g := (mkF m 75 #[.val (.int p0), .val (.int p1), .val (.int p2), .val (.int p3), .val (.int p4), .val (.int md), .unset, .unset, .unset, .unset, .unset, .unset, .unset, .unset, .unset, .unset, .unset] [(.int (7 : Int32)), (.int (p1 &&& (2147483647 : Int32))), (.int (1 : Int32))])) X0 hx rfl (hb hby at_75) rfl (by decide) ?_
          show Steps p.tables e below (s₁.setTop (mkF m 76 #[.val (.int p0), .val (.int p1), .val (.int p2), .val (.int p3), .val (.int p4), .val (.int md), .unset, .unset, .unset, .unset, .unset, .unset, .unset, .unset, .unset, .unset, .unset] [(.int ((p1 &&& (2147483647 : Int32)) % (7 : Int32))), (.int (1 : Int32))])) _
          refine XS.iadd X0.here hx rfl (hb hby at_76) rfl ?_
          show Steps p.tables e below (s₁.setTop (mkF m 77 #[.val (.int p0), .val (.int p1), .val (.int p2), .val (.int p3), .val (.int p4), .val (.int md), .unset, .unset, .unset, .unset, .unset, .unset, .unset, .unset, .unset, .unset, .unset] [(.int ((1 : Int32) + ((p1 &&& (2147483647 : Int32)) % (7 : Int32))))])) _
          refine XS.istore X0.here hx rfl (hb hby at_77) rfl (l' := #[.val (.int p0), .val (.int p1), .val (.int p2), .val (.int p3), .val (.int p4), .val (.int md), .val (.int ((1 : Int32) + ((p1 &&& (2147483647 : Int32)) % (7 : Int32)))), .unset, .unset, .unset, .unset, .unset, .unset, .unset, .unset, .unset, .unset]) rfl ?_
          show Steps p.tables e below (s₁.setTop (mkF m 79 #[.val (.int p0), .val (.int p1), .val (.int p2), .val (.int p3), .val (.int p4), .val (.int md), .val (.int ((1 : Int32) + ((p1 &&& (2147483647 : Int32)) % (7 : Int32)))), .unset, .unset, .unset, .unset, .unset, .unset, .unset, .unset, .unset, .unset] [])) _
          refine XS.iconst X0.here hx rfl (hb hby at_79) ?_
          show Steps p.tables e below (s₁.setTop (mkF m 80 #[.val (.int p0), .val (.int p1), .val (.int p2), .val (.int p3), .val (.int p4), .val (.int md), .val (.int ((1 : Int32) + ((p1 &&& (2147483647 : Int32)) % (7 : Int32)))), .unset, .unset, .unset, .unset, .unset, .unset, .unset, .unset, .unset, .unset] [(.int (1 : Int32))])) _
          refine XS.iloadN X0.here hx rfl (hb hby at_80) rfl ?_
          show Steps p.tables e below (s₁.setTop (mkF m 81 #[.val (.int p0), .val (.int p1), .val (.int p2), .val (.int p3), .val (.int p4), .val (.int md), .val (.int ((1 : Int32) + ((p1 &&& (2147483647 : Int32)) % (7 : Int32)))), .unset, .unset, .unset, .unset, .unset, .unset, .unset, .unset, .unset, .unset] [(.int p2), (.int (1 : Int32))])) _
          refine X0.ldcInt hx hown (mvT hZ (hw _ (List.mem_of_getElem? (i := 4) rfl))) (g := (mkF m 81 #[.val (.int p0), .val (.int p1), .val (.int p2), .val (.int p3), .val (.int p4), .val (.int md), .val (.int ((1 : Int32) + ((p1 &&& (2147483647 : Int32)) % (7 : Int32)))), .unset, .unset, .unset, .unset, .unset, .unset, .unset, .unset, .unset, .unset] [(.int p2), (.int (1 : Int32))])) rfl (hb hby at_81) _ ?_
          show Steps p.tables e below (s₁.setTop (mkF m 83 #[.val (.int p0), .val (.int p1), .val (.int p2), .val (.int p3), .val (.int p4), .val (.int md), .val (.int ((1 : Int32) + ((p1 &&& (2147483647 : Int32)) % (7 : Int32)))), .unset, .unset, .unset, .unset, .unset, .unset, .unset, .unset, .unset, .unset] [(.int (2147483647 : Int32)), (.int p2), (.int (1 : Int32))])) _
          refine XS.iand X0.here hx rfl (hb hby at_83) rfl ?_
          show Steps p.tables e below (s₁.setTop (mkF m 84 #[.val (.int p0), .val (.int p1), .val (.int p2), .val (.int p3), .val (.int p4), .val (.int md), .val (.int ((1 : Int32) + ((p1 &&& (2147483647 : Int32)) % (7 : Int32)))), .unset, .unset, .unset, .unset, .unset, .unset, .unset, .unset, .unset, .unset] [(.int (p2 &&& (2147483647 : Int32))), (.int (1 : Int32))])) _
          refine XS.iload X0.here hx rfl (hb hby at_84) rfl ?_
          show Steps p.tables e below (s₁.setTop (mkF m 86 #[.val (.int p0), .val (.int p1), .val (.int p2), .val (.int p3), .val (.int p4), .val (.int md), .val (.int ((1 : Int32) + ((p1 &&& (2147483647 : Int32)) % (7 : Int32)))), .unset, .unset, .unset, .unset, .unset, .unset, .unset, .unset, .unset, .unset] [(.int ((1 : Int32) + ((p1 &&& (2147483647 : Int32)) % (7 : Int32)))), (.int (p2 &&& (2147483647 : Int32))), (.int (1 : Int32))])) _
          refine Jvm.RoadKit.iremM (g := (mkF m 86 #[.val (.int p0), .val (.int p1), .val (.int p2), .val (.int p3), .val (.int p4), .val (.int md), .val (.int ((1 : Int32) + ((p1 &&& (2147483647 : Int32)) % (7 : Int32)))), .unset, .unset, .unset, .unset, .unset, .unset, .unset, .unset, .unset, .unset] [(.int ((1 : Int32) + ((p1 &&& (2147483647 : Int32)) % (7 : Int32)))), (.int (p2 &&& (2147483647 : Int32))), (.int (1 : Int32))])) X0 hx rfl (hb hby at_86) rfl hnz86 ?_
          show Steps p.tables e below (s₁.setTop (mkF m 87 #[.val (.int p0), .val (.int p1), .val (.int p2), .val (.int p3), .val (.int p4), .val (.int md), .val (.int ((1 : Int32) + ((p1 &&& (2147483647 : Int32)) % (7 : Int32)))), .unset, .unset, .unset, .unset, .unset, .unset, .unset, .unset, .unset, .unset] [(.int ((p2 &&& (2147483647 : Int32)) % ((1 : Int32) + ((p1 &&& (2147483647 : Int32)) % (7 : Int32))))), (.int (1 : Int32))])) _
          refine XS.iadd X0.here hx rfl (hb hby at_87) rfl ?_
          show Steps p.tables e below (s₁.setTop (mkF m 88 #[.val (.int p0), .val (.int p1), .val (.int p2), .val (.int p3), .val (.int p4), .val (.int md), .val (.int ((1 : Int32) + ((p1 &&& (2147483647 : Int32)) % (7 : Int32)))), .unset, .unset, .unset, .unset, .unset, .unset, .unset, .unset, .unset, .unset] [(.int ((1 : Int32) + ((p2 &&& (2147483647 : Int32)) % ((1 : Int32) + ((p1 &&& (2147483647 : Int32)) % (7 : Int32))))))])) _
          refine XS.istore X0.here hx rfl (hb hby at_88) rfl (l' := #[.val (.int p0), .val (.int p1), .val (.int p2), .val (.int p3), .val (.int p4), .val (.int md), .val (.int ((1 : Int32) + ((p1 &&& (2147483647 : Int32)) % (7 : Int32)))), .val (.int ((1 : Int32) + ((p2 &&& (2147483647 : Int32)) % ((1 : Int32) + ((p1 &&& (2147483647 : Int32)) % (7 : Int32)))))), .unset, .unset, .unset, .unset, .unset, .unset, .unset, .unset, .unset]) rfl ?_
          rw [show Bk = ((1 : Int32) + ((p1 &&& (2147483647 : Int32)) % (7 : Int32))) from by rw [hBk, if_neg hc7, if_neg hc27, if_neg hc48]] at kt
          rw [show Ch = ((1 : Int32) + ((p2 &&& (2147483647 : Int32)) % ((1 : Int32) + ((p1 &&& (2147483647 : Int32)) % (7 : Int32))))) from by rw [hCh, if_neg hc7, if_neg hc27, if_neg hc48]] at kt
          exact kt
  have gd := own_good p1 p2 md hBk hCh
  obtain ⟨v1, v2, v3, v4, v5, v6⟩ := gd
  have hnz94 : Bk ≠ (0 : Int32) := fun q => by rw [q] at v1; exact absurd v1 (by decide)
  have hnz99 : Ch ≠ (0 : Int32) := fun q => by rw [q] at v3; exact absurd v3 (by decide)
  refine own_go (B := s₁.setTop (mkF m 100 #[.val (.int p0), .val (.int p1), .val (.int p2), .val (.int p3), .val (.int p4), .val (.int md), .val (.int Bk), .val (.int Ch), .unset, .unset, .unset, .unset, .unset, .unset, .unset, .unset, .unset] [(.int ((32 : Int32) / Ch)), (.int ((64 : Int32) / Bk))])) (fun t kt => ?_) ?_
  · show Steps p.tables e below (s₁.setTop (mkF m 90 #[.val (.int p0), .val (.int p1), .val (.int p2), .val (.int p3), .val (.int p4), .val (.int md), .val (.int Bk), .val (.int Ch), .unset, .unset, .unset, .unset, .unset, .unset, .unset, .unset, .unset] [])) _
    refine XS.bipush X0.here hx rfl (hb hby at_90) ?_
    show Steps p.tables e below (s₁.setTop (mkF m 92 #[.val (.int p0), .val (.int p1), .val (.int p2), .val (.int p3), .val (.int p4), .val (.int md), .val (.int Bk), .val (.int Ch), .unset, .unset, .unset, .unset, .unset, .unset, .unset, .unset, .unset] [(.int (64 : Int32))])) _
    refine XS.iload X0.here hx rfl (hb hby at_92) rfl ?_
    show Steps p.tables e below (s₁.setTop (mkF m 94 #[.val (.int p0), .val (.int p1), .val (.int p2), .val (.int p3), .val (.int p4), .val (.int md), .val (.int Bk), .val (.int Ch), .unset, .unset, .unset, .unset, .unset, .unset, .unset, .unset, .unset] [(.int Bk), (.int (64 : Int32))])) _
    refine XS.idiv X0.here hx rfl (hb hby at_94) rfl hnz94 ?_
    show Steps p.tables e below (s₁.setTop (mkF m 95 #[.val (.int p0), .val (.int p1), .val (.int p2), .val (.int p3), .val (.int p4), .val (.int md), .val (.int Bk), .val (.int Ch), .unset, .unset, .unset, .unset, .unset, .unset, .unset, .unset, .unset] [(.int ((64 : Int32) / Bk))])) _
    refine XS.bipush X0.here hx rfl (hb hby at_95) ?_
    show Steps p.tables e below (s₁.setTop (mkF m 97 #[.val (.int p0), .val (.int p1), .val (.int p2), .val (.int p3), .val (.int p4), .val (.int md), .val (.int Bk), .val (.int Ch), .unset, .unset, .unset, .unset, .unset, .unset, .unset, .unset, .unset] [(.int (32 : Int32)), (.int ((64 : Int32) / Bk))])) _
    refine XS.iload X0.here hx rfl (hb hby at_97) rfl ?_
    show Steps p.tables e below (s₁.setTop (mkF m 99 #[.val (.int p0), .val (.int p1), .val (.int p2), .val (.int p3), .val (.int p4), .val (.int md), .val (.int Bk), .val (.int Ch), .unset, .unset, .unset, .unset, .unset, .unset, .unset, .unset, .unset] [(.int Ch), (.int (32 : Int32)), (.int ((64 : Int32) / Bk))])) _
    refine XS.idiv X0.here hx rfl (hb hby at_99) rfl hnz99 ?_
    exact kt
  obtain ⟨_, _, ⟨T1, L1, k1, n1⟩, -, X1, ⟨Lc1, hQ1, l1, y1, z1⟩, st1⟩ := Jvm.LawKit.callS X0 hx (y := (⟨"java/lang/Math", "min", "(II)I"⟩ : MethodName)) hown (mvT hZ (hw _ (List.mem_of_getElem? (i := 0) rfl))) (mvT hZ (hw _ (List.mem_of_getElem? (i := 1) rfl))) (mvT hZ (hw _ (List.mem_of_getElem? (i := 2) rfl))) (mvT hZ (hw _ (List.mem_of_getElem? (i := 3) rfl))) (by decide) (backOf (W := 0) (rm1 l Z t0 hw [] ((64 : Int32) / Bk) ((32 : Int32) / Ch) h0 n0 Z0) hZ (hw _ (List.mem_of_getElem? (i := 3) rfl)) (hw _ (List.mem_of_getElem? (i := 2) rfl)) (by decide) (by decide)) (g := (mkF m 100 #[.val (.int p0), .val (.int p1), .val (.int p2), .val (.int p3), .val (.int p4), .val (.int md), .val (.int Bk), .val (.int Ch), .unset, .unset, .unset, .unset, .unset, .unset, .unset, .unset, .unset] [(.int ((32 : Int32) / Ch)), (.int ((64 : Int32) / Bk))])) rfl (by rw [hml]; rfl) (argsL := [(.int ((64 : Int32) / Bk)), (.int ((32 : Int32) / Ch))]) (rest := []) (lenOf pd_0_0 rfl) rfl (by show 2 * 0 + _ ≤ _; exact Nat.le_of_eq rfl) (hb hby at_100) (fun _ _ => ⟨rfl, e0, (by decide : 0 + 0 ≤ _), (by decide : 0 + 0 ≤ _)⟩)
  dsimp only [Pt.U, Pt.locs, Pt.cells, Pt.slots] at X1 l1 y1 z1 st1 hQ1
  subst l1 y1 z1
  obtain ⟨rfl, Nq1, hh1⟩ := hQ1
  have N1 := Fr.app N0 Nq1
  have e1 : T1.heap = h0 := hh1
  refine own_go (B := T1.setTop (mkF m 103 #[.val (.int p0), .val (.int p1), .val (.int p2), .val (.int p3), .val (.int p4), .val (.int md), .val (.int Bk), .val (.int Ch), .unset, .unset, .unset, .unset, .unset, .unset, .unset, .unset, .unset] [(.int (own1_f0 ((64 : Int32) / Bk) ((32 : Int32) / Ch)))])) (fun t kt => st1 t kt) ?_
  refine own_go (B := T1.setTop (mkF m 105 #[.val (.int p0), .val (.int p1), .val (.int p2), .val (.int p3), .val (.int p4), .val (.int md), .val (.int Bk), .val (.int Ch), .val (.int (own1_f0 ((64 : Int32) / Bk) ((32 : Int32) / Ch))), .unset, .unset, .unset, .unset, .unset, .unset, .unset, .unset] [])) (fun t kt => ?_) ?_
  · show Steps p.tables e below (T1.setTop (mkF m 103 #[.val (.int p0), .val (.int p1), .val (.int p2), .val (.int p3), .val (.int p4), .val (.int md), .val (.int Bk), .val (.int Ch), .unset, .unset, .unset, .unset, .unset, .unset, .unset, .unset, .unset] [(.int (own1_f0 ((64 : Int32) / Bk) ((32 : Int32) / Ch)))])) _
    refine XS.istore X1.here hx rfl (hb hby at_103) rfl (l' := #[.val (.int p0), .val (.int p1), .val (.int p2), .val (.int p3), .val (.int p4), .val (.int md), .val (.int Bk), .val (.int Ch), .val (.int (own1_f0 ((64 : Int32) / Bk) ((32 : Int32) / Ch))), .unset, .unset, .unset, .unset, .unset, .unset, .unset, .unset]) rfl ?_
    exact kt
  obtain ⟨mx, hmx⟩ : ∃ z : Int32, z = (own1_f0 ((64 : Int32) / Bk) ((32 : Int32) / Ch)) := ⟨_, rfl⟩
  rw [← hmx]
  obtain ⟨mi, hmi⟩ : ∃ z : Int32, z = (if Bk = (1 : Int32) then (0 : Int32) else (1 : Int32)) := ⟨_, rfl⟩
  refine own_go (B := T1.setTop (mkF m 116 #[.val (.int p0), .val (.int p1), .val (.int p2), .val (.int p3), .val (.int p4), .val (.int md), .val (.int Bk), .val (.int Ch), .val (.int mx), .unset, .unset, .unset, .unset, .unset, .unset, .unset, .unset] [(.int mi)])) (fun t kt => ?_) ?_
  · show Steps p.tables e below (T1.setTop (mkF m 105 #[.val (.int p0), .val (.int p1), .val (.int p2), .val (.int p3), .val (.int p4), .val (.int md), .val (.int Bk), .val (.int Ch), .val (.int mx), .unset, .unset, .unset, .unset, .unset, .unset, .unset, .unset] [])) _
    refine XS.iload X1.here hx rfl (hb hby at_105) rfl ?_
    show Steps p.tables e below (T1.setTop (mkF m 107 #[.val (.int p0), .val (.int p1), .val (.int p2), .val (.int p3), .val (.int p4), .val (.int md), .val (.int Bk), .val (.int Ch), .val (.int mx), .unset, .unset, .unset, .unset, .unset, .unset, .unset, .unset] [(.int Bk)])) _
    refine XS.iconst X1.here hx rfl (hb hby at_107) ?_
    by_cases hc108 : Bk = (1 : Int32)
    · show Steps p.tables e below (T1.setTop (mkF m 108 #[.val (.int p0), .val (.int p1), .val (.int p2), .val (.int p3), .val (.int p4), .val (.int md), .val (.int Bk), .val (.int Ch), .val (.int mx), .unset, .unset, .unset, .unset, .unset, .unset, .unset, .unset] [(.int (1 : Int32)), (.int Bk)])) _
      refine XS.icmpNo X1.here hx rfl (hb hby at_108) rfl (teq hc108).2 ?_
      show Steps p.tables e below (T1.setTop (mkF m 111 #[.val (.int p0), .val (.int p1), .val (.int p2), .val (.int p3), .val (.int p4), .val (.int md), .val (.int Bk), .val (.int Ch), .val (.int mx), .unset, .unset, .unset, .unset, .unset, .unset, .unset, .unset] [])) _
      refine XS.iconst X1.here hx rfl (hb hby at_111) ?_
      show Steps p.tables e below (T1.setTop (mkF m 112 #[.val (.int p0), .val (.int p1), .val (.int p2), .val (.int p3), .val (.int p4), .val (.int md), .val (.int Bk), .val (.int Ch), .val (.int mx), .unset, .unset, .unset, .unset, .unset, .unset, .unset, .unset] [(.int (0 : Int32))])) _
      refine XS.goto X1.here hx rfl (pc0 := 112) (pc' := 116) rfl (hb hby at_112) (by decide) (by decide) ?_
      rw [show mi = (0 : Int32) from by rw [hmi, if_pos hc108]] at kt
      exact kt
    · show Steps p.tables e below (T1.setTop (mkF m 108 #[.val (.int p0), .val (.int p1), .val (.int p2), .val (.int p3), .val (.int p4), .val (.int md), .val (.int Bk), .val (.int Ch), .val (.int mx), .unset, .unset, .unset, .unset, .unset, .unset, .unset, .unset] [(.int (1 : Int32)), (.int Bk)])) _
      refine XS.icmpYes X1.here hx rfl (pc0 := 108) (pc' := 115) rfl (hb hby at_108) rfl (feq hc108).2 (by decide) (by decide) ?_
      show Steps p.tables e below (T1.setTop (mkF m 115 #[.val (.int p0), .val (.int p1), .val (.int p2), .val (.int p3), .val (.int p4), .val (.int md), .val (.int Bk), .val (.int Ch), .val (.int mx), .unset, .unset, .unset, .unset, .unset, .unset, .unset, .unset] [])) _
      refine XS.iconst X1.here hx rfl (hb hby at_115) ?_
      rw [show mi = (1 : Int32) from by rw [hmi, if_neg hc108]] at kt
      exact kt
  refine own_go (B := T1.setTop (mkF m 122 #[.val (.int p0), .val (.int p1), .val (.int p2), .val (.int p3), .val (.int p4), .val (.int md), .val (.int Bk), .val (.int Ch), .val (.int mx), .val (.int mi), .unset, .unset, .unset, .unset, .unset, .unset, .unset] [(.int mi), (.int mx)])) (fun t kt => ?_) ?_
  · show Steps p.tables e below (T1.setTop (mkF m 116 #[.val (.int p0), .val (.int p1), .val (.int p2), .val (.int p3), .val (.int p4), .val (.int md), .val (.int Bk), .val (.int Ch), .val (.int mx), .unset, .unset, .unset, .unset, .unset, .unset, .unset, .unset] [(.int mi)])) _
    refine XS.istore X1.here hx rfl (hb hby at_116) rfl (l' := #[.val (.int p0), .val (.int p1), .val (.int p2), .val (.int p3), .val (.int p4), .val (.int md), .val (.int Bk), .val (.int Ch), .val (.int mx), .val (.int mi), .unset, .unset, .unset, .unset, .unset, .unset, .unset]) rfl ?_
    show Steps p.tables e below (T1.setTop (mkF m 118 #[.val (.int p0), .val (.int p1), .val (.int p2), .val (.int p3), .val (.int p4), .val (.int md), .val (.int Bk), .val (.int Ch), .val (.int mx), .val (.int mi), .unset, .unset, .unset, .unset, .unset, .unset, .unset] [])) _
    refine XS.iload X1.here hx rfl (hb hby at_118) rfl ?_
    show Steps p.tables e below (T1.setTop (mkF m 120 #[.val (.int p0), .val (.int p1), .val (.int p2), .val (.int p3), .val (.int p4), .val (.int md), .val (.int Bk), .val (.int Ch), .val (.int mx), .val (.int mi), .unset, .unset, .unset, .unset, .unset, .unset, .unset] [(.int mx)])) _
    refine XS.iload X1.here hx rfl (hb hby at_120) rfl ?_
    exact kt
  by_cases hlt : mx < mi
  · refine own_go (B := T1.setTop (mkF m 126 #[.val (.int p0), .val (.int p1), .val (.int p2), .val (.int p3), .val (.int p4), .val (.int md), .val (.int Bk), .val (.int Ch), .val (.int mx), .val (.int mi), .unset, .unset, .unset, .unset, .unset, .unset, .unset] [(.int (1 : Int32))])) (fun t kt => ?_) ?_
    · show Steps p.tables e below (T1.setTop (mkF m 122 #[.val (.int p0), .val (.int p1), .val (.int p2), .val (.int p3), .val (.int p4), .val (.int md), .val (.int Bk), .val (.int Ch), .val (.int mx), .val (.int mi), .unset, .unset, .unset, .unset, .unset, .unset, .unset] [(.int mi), (.int mx)])) _
      refine XS.icmpNo X1.here hx rfl (hb hby at_122) rfl (tlt hlt).2.1 ?_
      show Steps p.tables e below (T1.setTop (mkF m 125 #[.val (.int p0), .val (.int p1), .val (.int p2), .val (.int p3), .val (.int p4), .val (.int md), .val (.int Bk), .val (.int Ch), .val (.int mx), .val (.int mi), .unset, .unset, .unset, .unset, .unset, .unset, .unset] [])) _
      refine XS.iconst X1.here hx rfl (hb hby at_125) ?_
      exact kt
    obtain ⟨fs, hr, hrun, hended, hW, hsame⟩ := X1.leave (v := some (.int (1 : Int32))) (fun h => by rw [Bd.returns] at h; cases h)
    refine ⟨_, _, ?_, hrun, hended, _, _, rfl, ?_, ⟨_, rfl⟩, hW, hsame.mono (by decide) (by decide)⟩
    · show Steps p.tables e below (T1.setTop (mkF m 126 #[.val (.int p0), .val (.int p1), .val (.int p2), .val (.int p3), .val (.int p4), .val (.int md), .val (.int Bk), .val (.int Ch), .val (.int mx), .val (.int mi), .unset, .unset, .unset, .unset, .unset, .unset, .unset] [(.int (1 : Int32))])) _
      exact retN X1 hx (t := .boolean) Bd.returns (by simp) (hb hby at_126) hr
    · show Q0 n0 _ _
      exact ⟨rfl, N1⟩
  · have hmxr := own_mx v1 v2 v3 v4 v5 hmx hmi hlt
    have hnz140 : ((mx - mi) + (1 : Int32)) ≠ (0 : Int32) := own_nz140 hmxr.1
    refine own_go (B := T1.setTop (mkF m 144 #[.val (.int p0), .val (.int p1), .val (.int p2), .val (.int p3), .val (.int p4), .val (.int md), .val (.int Bk), .val (.int Ch), .val (.int mx), .val (.int mi), .val (.int (mi + ((p3 &&& (2147483647 : Int32)) % ((mx - mi) + (1 : Int32))))), .unset, .unset, .unset, .unset, .unset, .unset] [])) (fun t kt => ?_) ?_
    · show Steps p.tables e below (T1.setTop (mkF m 122 #[.val (.int p0), .val (.int p1), .val (.int p2), .val (.int p3), .val (.int p4), .val (.int md), .val (.int Bk), .val (.int Ch), .val (.int mx), .val (.int mi), .unset, .unset, .unset, .unset, .unset, .unset, .unset] [(.int mi), (.int mx)])) _
      refine XS.icmpYes X1.here hx rfl (pc0 := 122) (pc' := 127) rfl (hb hby at_122) rfl (flt hlt).2.1 (by decide) (by decide) ?_
      show Steps p.tables e below (T1.setTop (mkF m 127 #[.val (.int p0), .val (.int p1), .val (.int p2), .val (.int p3), .val (.int p4), .val (.int md), .val (.int Bk), .val (.int Ch), .val (.int mx), .val (.int mi), .unset, .unset, .unset, .unset, .unset, .unset, .unset] [])) _
      refine XS.iload X1.here hx rfl (hb hby at_127) rfl ?_
      show Steps p.tables e below (T1.setTop (mkF m 129 #[.val (.int p0), .val (.int p1), .val (.int p2), .val (.int p3), .val (.int p4), .val (.int md), .val (.int Bk), .val (.int Ch), .val (.int mx), .val (.int mi), .unset, .unset, .unset, .unset, .unset, .unset, .unset] [(.int mi)])) _
      refine XS.iloadN X1.here hx rfl (hb hby at_129) rfl ?_
      show Steps p.tables e below (T1.setTop (mkF m 130 #[.val (.int p0), .val (.int p1), .val (.int p2), .val (.int p3), .val (.int p4), .val (.int md), .val (.int Bk), .val (.int Ch), .val (.int mx), .val (.int mi), .unset, .unset, .unset, .unset, .unset, .unset, .unset] [(.int p3), (.int mi)])) _
      refine X1.ldcInt hx hown (mvT hZ (hw _ (List.mem_of_getElem? (i := 4) rfl))) (g := (mkF m 130 #[.val (.int p0), .val (.int p1), .val (.int p2), .val (.int p3), .val (.int p4), .val (.int md), .val (.int Bk), .val (.int Ch), .val (.int mx), .val (.int mi), .unset, .unset, .unset, .unset, .unset, .unset, .unset] [(.int p3), (.int mi)])) rfl (hb hby at_130) _ ?_
      show Steps p.tables e below (T1.setTop (mkF m 132 #[.val (.int p0), .val (.int p1), .val (.int p2), .val (.int p3), .val (.int p4), .val (.int md), .val (.int Bk), .val (.int Ch), .val (.int mx), .val (.int mi), .unset, .unset, .unset, .unset, .unset, .unset, .unset] [(.int (2147483647 : Int32)), (.int p3), (.int mi)])) _
      refine XS.iand X1.here hx rfl (hb hby at_132) rfl ?_
      show Steps p.tables e below (T1.setTop (mkF m 133 #[.val (.int p0), .val (.int p1), .val (.int p2), .val (.int p3), .val (.int p4), .val (.int md), .val (.int Bk), .val (.int Ch), .val (.int mx), .val (.int mi), .unset, .unset, .unset, .unset, .unset, .unset, .unset] [(.int (p3 &&& (2147483647 : Int32))), (.int mi)])) _
      refine XS.iload X1.here hx rfl (hb hby at_133) rfl ?_
      show Steps p.tables e below (T1.setTop (mkF m 135 #[.val (.int p0), .val (.int p1), .val (.int p2), .val (.int p3), .val (.int p4), .val (.int md), .val (.int Bk), .val (.int Ch), .val (.int mx), .val (.int mi), .unset, .unset, .unset, .unset, .unset, .unset, .unset] [(.int mx), (.int (p3 &&& (2147483647 : Int32))), (.int mi)])) _
      refine XS.iload X1.here hx rfl (hb hby at_135) rfl ?_
      show Steps p.tables e below (T1.setTop (mkF m 137 #[.val (.int p0), .val (.int p1), .val (.int p2), .val (.int p3), .val (.int p4), .val (.int md), .val (.int Bk), .val (.int Ch), .val (.int mx), .val (.int mi), .unset, .unset, .unset, .unset, .unset, .unset, .unset] [(.int mi), (.int mx), (.int (p3 &&& (2147483647 : Int32))), (.int mi)])) _
      refine XS.isub X1.here hx rfl (hb hby at_137) rfl ?_
      show Steps p.tables e below (T1.setTop (mkF m 138 #[.val (.int p0), .val (.int p1), .val (.int p2), .val (.int p3), .val (.int p4), .val (.int md), .val (.int Bk), .val (.int Ch), .val (.int mx), .val (.int mi), .unset, .unset, .unset, .unset, .unset, .unset, .unset] [(.int (mx - mi)), (.int (p3 &&& (2147483647 : Int32))), (.int mi)])) _
      refine XS.iconst X1.here hx rfl (hb hby at_138) ?_
      show Steps p.tables e below (T1.setTop (mkF m 139 #[.val (.int p0), .val (.int p1), .val (.int p2), .val (.int p3), .val (.int p4), .val (.int md), .val (.int Bk), .val (.int Ch), .val (.int mx), .val (.int mi), .unset, .unset, .unset, .unset, .unset, .unset, .unset] [(.int (1 : Int32)), (.int (mx - mi)), (.int (p3 &&& (2147483647 : Int32))), (.int mi)])) _
      refine XS.iadd X1.here hx rfl (hb hby at_139) rfl ?_
      show Steps p.tables e below (T1.setTop (mkF m 140 #[.val (.int p0), .val (.int p1), .val (.int p2), .val (.int p3), .val (.int p4), .val (.int md), .val (.int Bk), .val (.int Ch), .val (.int mx), .val (.int mi), .unset, .unset, .unset, .unset, .unset, .unset, .unset] [(.int ((mx - mi) + (1 : Int32))), (.int (p3 &&& (2147483647 : Int32))), (.int mi)])) _
      refine Jvm.RoadKit.iremM (g := (mkF m 140 #[.val (.int p0), .val (.int p1), .val (.int p2), .val (.int p3), .val (.int p4), .val (.int md), .val (.int Bk), .val (.int Ch), .val (.int mx), .val (.int mi), .unset, .unset, .unset, .unset, .unset, .unset, .unset] [(.int ((mx - mi) + (1 : Int32))), (.int (p3 &&& (2147483647 : Int32))), (.int mi)])) X1 hx rfl (hb hby at_140) rfl hnz140 ?_
      show Steps p.tables e below (T1.setTop (mkF m 141 #[.val (.int p0), .val (.int p1), .val (.int p2), .val (.int p3), .val (.int p4), .val (.int md), .val (.int Bk), .val (.int Ch), .val (.int mx), .val (.int mi), .unset, .unset, .unset, .unset, .unset, .unset, .unset] [(.int ((p3 &&& (2147483647 : Int32)) % ((mx - mi) + (1 : Int32)))), (.int mi)])) _
      refine XS.iadd X1.here hx rfl (hb hby at_141) rfl ?_
      show Steps p.tables e below (T1.setTop (mkF m 142 #[.val (.int p0), .val (.int p1), .val (.int p2), .val (.int p3), .val (.int p4), .val (.int md), .val (.int Bk), .val (.int Ch), .val (.int mx), .val (.int mi), .unset, .unset, .unset, .unset, .unset, .unset, .unset] [(.int (mi + ((p3 &&& (2147483647 : Int32)) % ((mx - mi) + (1 : Int32)))))])) _
      refine XS.istore X1.here hx rfl (hb hby at_142) rfl (l' := #[.val (.int p0), .val (.int p1), .val (.int p2), .val (.int p3), .val (.int p4), .val (.int md), .val (.int Bk), .val (.int Ch), .val (.int mx), .val (.int mi), .val (.int (mi + ((p3 &&& (2147483647 : Int32)) % ((mx - mi) + (1 : Int32))))), .unset, .unset, .unset, .unset, .unset, .unset]) rfl ?_
      exact kt
    obtain ⟨bb, hbb⟩ : ∃ z : Int32, z = (mi + ((p3 &&& (2147483647 : Int32)) % ((mx - mi) + (1 : Int32)))) := ⟨_, rfl⟩
    rw [← hbb]
    obtain ⟨u1, u2, u3, u4, u5⟩ := own_bb v1 v2 v3 v4 v5 hmx hmi hlt p3 hbb
    obtain ⟨kk, hkk⟩ : ∃ z : Int32, z = (if (((p0.toUInt32 >>> ((2 : Int32) &&& 31).toUInt32).toInt32) &&& (1 : Int32)) = (0 : Int32) then (((Bk - Ch) - (2 : Int32)) + (p4 &&& (3 : Int32))) else p4) := ⟨_, rfl⟩
    refine own_go (B := T1.setTop (mkF m 169 #[.val (.int p0), .val (.int p1), .val (.int p2), .val (.int p3), .val (.int p4), .val (.int md), .val (.int Bk), .val (.int Ch), .val (.int mx), .val (.int mi), .val (.int bb), .unset, .unset, .unset, .unset, .unset, .unset] [(.int kk)])) (fun t kt => ?_) ?_
    · show Steps p.tables e below (T1.setTop (mkF m 144 #[.val (.int p0), .val (.int p1), .val (.int p2), .val (.int p3), .val (.int p4), .val (.int md), .val (.int Bk), .val (.int Ch), .val (.int mx), .val (.int mi), .val (.int bb), .unset, .unset, .unset, .unset, .unset, .unset] [])) _
      refine XS.iloadN X1.here hx rfl (hb hby at_144) rfl ?_
      show Steps p.tables e below (T1.setTop (mkF m 145 #[.val (.int p0), .val (.int p1), .val (.int p2), .val (.int p3), .val (.int p4), .val (.int md), .val (.int Bk), .val (.int Ch), .val (.int mx), .val (.int mi), .val (.int bb), .unset, .unset, .unset, .unset, .unset, .unset] [(.int p0)])) _
      refine XS.iconst X1.here hx rfl (hb hby at_145) ?_
      show Steps p.tables e below (T1.setTop (mkF m 146 #[.val (.int p0), .val (.int p1), .val (.int p2), .val (.int p3), .val (.int p4), .val (.int md), .val (.int Bk), .val (.int Ch), .val (.int mx), .val (.int mi), .val (.int bb), .unset, .unset, .unset, .unset, .unset, .unset] [(.int (2 : Int32)), (.int p0)])) _
      refine XS.iushr X1.here hx rfl (hb hby at_146) rfl ?_
      show Steps p.tables e below (T1.setTop (mkF m 147 #[.val (.int p0), .val (.int p1), .val (.int p2), .val (.int p3), .val (.int p4), .val (.int md), .val (.int Bk), .val (.int Ch), .val (.int mx), .val (.int mi), .val (.int bb), .unset, .unset, .unset, .unset, .unset, .unset] [(.int ((p0.toUInt32 >>> ((2 : Int32) &&& 31).toUInt32).toInt32))])) _
      refine XS.iconst X1.here hx rfl (hb hby at_147) ?_
      show Steps p.tables e below (T1.setTop (mkF m 148 #[.val (.int p0), .val (.int p1), .val (.int p2), .val (.int p3), .val (.int p4), .val (.int md), .val (.int Bk), .val (.int Ch), .val (.int mx), .val (.int mi), .val (.int bb), .unset, .unset, .unset, .unset, .unset, .unset] [(.int (1 : Int32)), (.int ((p0.toUInt32 >>> ((2 : Int32) &&& 31).toUInt32).toInt32))])) _
      refine XS.iand X1.here hx rfl (hb hby at_148) rfl ?_
      by_cases hc149 : (((p0.toUInt32 >>> ((2 : Int32) &&& 31).toUInt32).toInt32) &&& (1 : Int32)) = (0 : Int32)
      · show Steps p.tables e below (T1.setTop (mkF m 149 #[.val (.int p0), .val (.int p1), .val (.int p2), .val (.int p3), .val (.int p4), .val (.int md), .val (.int Bk), .val (.int Ch), .val (.int mx), .val (.int mi), .val (.int bb), .unset, .unset, .unset, .unset, .unset, .unset] [(.int (((p0.toUInt32 >>> ((2 : Int32) &&& 31).toUInt32).toInt32) &&& (1 : Int32)))])) _
        refine XS.ifYes X1.here hx rfl (pc0 := 149) (pc' := 157) rfl (hb hby at_149) rfl ((if0 _ _).trans (teq hc149).1) (by decide) (by decide) ?_
        show Steps p.tables e below (T1.setTop (mkF m 157 #[.val (.int p0), .val (.int p1), .val (.int p2), .val (.int p3), .val (.int p4), .val (.int md), .val (.int Bk), .val (.int Ch), .val (.int mx), .val (.int mi), .val (.int bb), .unset, .unset, .unset, .unset, .unset, .unset] [])) _
        refine XS.iload X1.here hx rfl (hb hby at_157) rfl ?_
        show Steps p.tables e below (T1.setTop (mkF m 159 #[.val (.int p0), .val (.int p1), .val (.int p2), .val (.int p3), .val (.int p4), .val (.int md), .val (.int Bk), .val (.int Ch), .val (.int mx), .val (.int mi), .val (.int bb), .unset, .unset, .unset, .unset, .unset, .unset] [(.int Bk)])) _
        refine XS.iload X1.here hx rfl (hb hby at_159) rfl ?_
        show Steps p.tables e below (T1.setTop (mkF m 161 #[.val (.int p0), .val (.int p1), .val (.int p2), .val (.int p3), .val (.int p4), .val (.int md), .val (.int Bk), .val (.int Ch), .val (.int mx), .val (.int mi), .val (.int bb), .unset, .unset, .unset, .unset, .unset, .unset] [(.int Ch), (.int Bk)])) _
        refine XS.isub X1.here hx rfl (hb hby at_161) rfl ?_
        show Steps p.tables e below (T1.setTop (mkF m 162 #[.val (.int p0), .val (.int p1), .val (.int p2), .val (.int p3), .val (.int p4), .val (.int md), .val (.int Bk), .val (.int Ch), .val (.int mx), .val (.int mi), .val (.int bb), .unset, .unset, .unset, .unset, .unset, .unset] [(.int (Bk - Ch))])) _
        refine XS.iconst X1.here hx rfl (hb hby at_162) ?_
        show Steps p.tables e below (T1.setTop (mkF m 163 #[.val (.int p0), .val (.int p1), .val (.int p2), .val (.int p3), .val (.int p4), .val (.int md), .val (.int Bk), .val (.int Ch), .val (.int mx), .val (.int mi), .val (.int bb), .unset, .unset, .unset, .unset, .unset, .unset] [(.int (2 : Int32)), (.int (Bk - Ch))])) _
        refine XS.isub X1.here hx rfl (hb hby at_163) rfl ?_
        show Steps p.tables e below (T1.setTop (mkF m 164 #[.val (.int p0), .val (.int p1), .val (.int p2), .val (.int p3), .val (.int p4), .val (.int md), .val (.int Bk), .val (.int Ch), .val (.int mx), .val (.int mi), .val (.int bb), .unset, .unset, .unset, .unset, .unset, .unset] [(.int ((Bk - Ch) - (2 : Int32)))])) _
        refine XS.iload X1.here hx rfl (hb hby at_164) rfl ?_
        show Steps p.tables e below (T1.setTop (mkF m 166 #[.val (.int p0), .val (.int p1), .val (.int p2), .val (.int p3), .val (.int p4), .val (.int md), .val (.int Bk), .val (.int Ch), .val (.int mx), .val (.int mi), .val (.int bb), .unset, .unset, .unset, .unset, .unset, .unset] [(.int p4), (.int ((Bk - Ch) - (2 : Int32)))])) _
        refine XS.iconst X1.here hx rfl (hb hby at_166) ?_
        show Steps p.tables e below (T1.setTop (mkF m 167 #[.val (.int p0), .val (.int p1), .val (.int p2), .val (.int p3), .val (.int p4), .val (.int md), .val (.int Bk), .val (.int Ch), .val (.int mx), .val (.int mi), .val (.int bb), .unset, .unset, .unset, .unset, .unset, .unset] [(.int (3 : Int32)), (.int p4), (.int ((Bk - Ch) - (2 : Int32)))])) _
        refine XS.iand X1.here hx rfl (hb hby at_167) rfl ?_
        show Steps p.tables e below (T1.setTop (mkF m 168 #[.val (.int p0), .val (.int p1), .val (.int p2), .val (.int p3), .val (.int p4), .val (.int md), .val (.int Bk), .val (.int Ch), .val (.int mx), .val (.int mi), .val (.int bb), .unset, .unset, .unset, .unset, .unset, .unset] [(.int (p4 &&& (3 : Int32))), (.int ((Bk - Ch) - (2 : Int32)))])) _
        refine XS.iadd X1.here hx rfl (hb hby at_168) rfl ?_
        rw [show kk = (((Bk - Ch) - (2 : Int32)) + (p4 &&& (3 : Int32))) from by rw [hkk, if_pos hc149]] at kt
        exact kt
      · show Steps p.tables e below (T1.setTop (mkF m 149 #[.val (.int p0), .val (.int p1), .val (.int p2), .val (.int p3), .val (.int p4), .val (.int md), .val (.int Bk), .val (.int Ch), .val (.int mx), .val (.int mi), .val (.int bb), .unset, .unset, .unset, .unset, .unset, .unset] [(.int (((p0.toUInt32 >>> ((2 : Int32) &&& 31).toUInt32).toInt32) &&& (1 : Int32)))])) _
        refine XS.ifNo X1.here hx rfl (hb hby at_149) rfl ((if0 _ _).trans (feq hc149).1) ?_
        show Steps p.tables e below (T1.setTop (mkF m 152 #[.val (.int p0), .val (.int p1), .val (.int p2), .val (.int p3), .val (.int p4), .val (.int md), .val (.int Bk), .val (.int Ch), .val (.int mx), .val (.int mi), .val (.int bb), .unset, .unset, .unset, .unset, .unset, .unset] [])) _
        refine XS.iload X1.here hx rfl (hb hby at_152) rfl ?_
        show Steps p.tables e below (T1.setTop (mkF m 154 #[.val (.int p0), .val (.int p1), .val (.int p2), .val (.int p3), .val (.int p4), .val (.int md), .val (.int Bk), .val (.int Ch), .val (.int mx), .val (.int mi), .val (.int bb), .unset, .unset, .unset, .unset, .unset, .unset] [(.int p4)])) _
        refine XS.goto X1.here hx rfl (pc0 := 154) (pc' := 169) rfl (hb hby at_154) (by decide) (by decide) ?_
        rw [show kk = p4 from by rw [hkk, if_neg hc149]] at kt
        exact kt
    refine own_go (B := T1.setTop (mkF m 171 #[.val (.int p0), .val (.int p1), .val (.int p2), .val (.int p3), .val (.int p4), .val (.int md), .val (.int Bk), .val (.int Ch), .val (.int mx), .val (.int mi), .val (.int bb), .val (.int kk), .unset, .unset, .unset, .unset, .unset] [])) (fun t kt => ?_) ?_
    · show Steps p.tables e below (T1.setTop (mkF m 169 #[.val (.int p0), .val (.int p1), .val (.int p2), .val (.int p3), .val (.int p4), .val (.int md), .val (.int Bk), .val (.int Ch), .val (.int mx), .val (.int mi), .val (.int bb), .unset, .unset, .unset, .unset, .unset, .unset] [(.int kk)])) _
      refine XS.istore X1.here hx rfl (hb hby at_169) rfl (l' := #[.val (.int p0), .val (.int p1), .val (.int p2), .val (.int p3), .val (.int p4), .val (.int md), .val (.int Bk), .val (.int Ch), .val (.int mx), .val (.int mi), .val (.int bb), .val (.int kk), .unset, .unset, .unset, .unset, .unset]) rfl ?_
      exact kt
    obtain ⟨T2, h2, X2, e2, E2, A2, D2, -, st2⟩ := newO X1 hx hZ hown (hw _ (List.mem_of_getElem? (i := 5) rfl)) (hw _ (List.mem_of_getElem? (i := 6) rfl)) (hw _ (List.mem_of_getElem? (i := 7) rfl)) e1 (g := (mkF m 171 #[.val (.int p0), .val (.int p1), .val (.int p2), .val (.int p3), .val (.int p4), .val (.int md), .val (.int Bk), .val (.int Ch), .val (.int mx), .val (.int mi), .val (.int bb), .val (.int kk), .unset, .unset, .unset, .unset, .unset] [])) rfl (hb hby at_171) (by decide) (by decide)
    obtain ⟨b2, g2⟩ : ∃ z, z = h0.size := ⟨_, rfl⟩
    rw [← g2] at A2 D2 st2
    have g_b2 : n0 ≤ b2 := Nat.le_trans Z0 (Nat.le_of_eq g2.symm)
    have Z2 : n0 ≤ h2.size := Nat.le_trans Z0 E2.1
    have E_b2 := A2
    have F_blocks_b2 : Fld Z h2 b2 "com/example/hazy_hash/hazyhash/TableLayout" "blocks" "I" (.int (0 : Int32)) := D2 (Or.inr (hw _ (List.mem_of_getElem? (i := 25) rfl))) (ty := .int) (by decide)
    have F_blockBits_b2 : Fld Z h2 b2 "com/example/hazy_hash/hazyhash/TableLayout" "blockBits" "I" (.int (0 : Int32)) := D2 (Or.inr (hw _ (List.mem_of_getElem? (i := 27) rfl))) (ty := .int) (by decide)
    have F_chosen_b2 : Fld Z h2 b2 "com/example/hazy_hash/hazyhash/TableLayout" "chosen" "I" (.int (0 : Int32)) := D2 (Or.inr (hw _ (List.mem_of_getElem? (i := 29) rfl))) (ty := .int) (by decide)
    refine own_go (B := T2.setTop (mkF m 174 #[.val (.int p0), .val (.int p1), .val (.int p2), .val (.int p3), .val (.int p4), .val (.int md), .val (.int Bk), .val (.int Ch), .val (.int mx), .val (.int mi), .val (.int bb), .val (.int kk), .unset, .unset, .unset, .unset, .unset] [(.ref b2)])) (fun t kt => st2 t kt) ?_
    refine own_go (B := T2.setTop (mkF m 181 #[.val (.int p0), .val (.int p1), .val (.int p2), .val (.int p3), .val (.int p4), .val (.int md), .val (.int Bk), .val (.int Ch), .val (.int mx), .val (.int mi), .val (.int bb), .val (.int kk), .unset, .unset, .unset, .unset, .unset] [(.int Ch), (.int bb), (.int Bk), (.ref b2), (.ref b2)])) (fun t kt => ?_) ?_
    · show Steps p.tables e below (T2.setTop (mkF m 174 #[.val (.int p0), .val (.int p1), .val (.int p2), .val (.int p3), .val (.int p4), .val (.int md), .val (.int Bk), .val (.int Ch), .val (.int mx), .val (.int mi), .val (.int bb), .val (.int kk), .unset, .unset, .unset, .unset, .unset] [(.ref b2)])) _
      refine XS.dup X2.here hx rfl (hb hby at_174) rfl rfl ?_
      show Steps p.tables e below (T2.setTop (mkF m 175 #[.val (.int p0), .val (.int p1), .val (.int p2), .val (.int p3), .val (.int p4), .val (.int md), .val (.int Bk), .val (.int Ch), .val (.int mx), .val (.int mi), .val (.int bb), .val (.int kk), .unset, .unset, .unset, .unset, .unset] [(.ref b2), (.ref b2)])) _
      refine XS.iload X2.here hx rfl (hb hby at_175) rfl ?_
      show Steps p.tables e below (T2.setTop (mkF m 177 #[.val (.int p0), .val (.int p1), .val (.int p2), .val (.int p3), .val (.int p4), .val (.int md), .val (.int Bk), .val (.int Ch), .val (.int mx), .val (.int mi), .val (.int bb), .val (.int kk), .unset, .unset, .unset, .unset, .unset] [(.int Bk), (.ref b2), (.ref b2)])) _
      refine XS.iload X2.here hx rfl (hb hby at_177) rfl ?_
      show Steps p.tables e below (T2.setTop (mkF m 179 #[.val (.int p0), .val (.int p1), .val (.int p2), .val (.int p3), .val (.int p4), .val (.int md), .val (.int Bk), .val (.int Ch), .val (.int mx), .val (.int mi), .val (.int bb), .val (.int kk), .unset, .unset, .unset, .unset, .unset] [(.int bb), (.int Bk), (.ref b2), (.ref b2)])) _
      refine XS.iload X2.here hx rfl (hb hby at_179) rfl ?_
      exact kt
    obtain ⟨w1, w2, w3, w4, w5⟩ := own_init v1 v2 v3 v4
    obtain ⟨_, _, ⟨T3, L3, k3, n3⟩, -, X3, ⟨Lc3, hQ3, l3, y3, z3⟩, st3⟩ := X2.specialBack hx (y := (⟨"com/example/hazy_hash/hazyhash/TableLayout", "<init>", "(III)V"⟩ : MethodName)) rfl hown (mvT hZ (hw _ (List.mem_of_getElem? (i := 8) rfl))) (mvT hZ (hw _ (List.mem_of_getElem? (i := 9) rfl))) (mvT hZ (hw _ (List.mem_of_getElem? (i := 10) rfl))) (by decide) (backOf (W := 1) (rm2 l Z t0 hw [] b2 Bk bb Ch h2 n0 Z2 g_b2 E_b2 F_blocks_b2 F_blockBits_b2 F_chosen_b2 w1 w2 u1 u2 w3 w4 u3 (by omega) w5 v6 u4) hZ (hw _ (List.mem_of_getElem? (i := 10) rfl)) (hw _ (List.mem_of_getElem? (i := 7) rfl)) (by decide) (by decide)) (g := (mkF m 181 #[.val (.int p0), .val (.int p1), .val (.int p2), .val (.int p3), .val (.int p4), .val (.int md), .val (.int Bk), .val (.int Ch), .val (.int mx), .val (.int mi), .val (.int bb), .val (.int kk), .unset, .unset, .unset, .unset, .unset] [(.int Ch), (.int bb), (.int Bk), (.ref b2), (.ref b2)])) rfl (by rw [hml]; rfl) (Steps.refl _) (a := b2) (argsL := [(.int Bk), (.int bb), (.int Ch)]) (rest := [(.ref b2)]) (lenOf pd_0_1 rfl) rfl (by show 2 * 0 + _ ≤ _; exact Nat.le_of_eq rfl) (hb hby at_181) (fun _ _ => ⟨rfl, e2, (by decide : 1 + 0 ≤ _), (by decide : 3 + 0 ≤ _)⟩)
    dsimp only [Pt.U, Pt.locs, Pt.cells, Pt.slots] at X3 l3 y3 z3 st3 hQ3
    subst l3 y3 z3
    obtain ⟨rfl, Nq3, Kc3, Ec3, Fb3, Fi3, Fc3⟩ := hQ3
    have N3 := Fr.app N1 Nq3
    obtain ⟨h3, e3⟩ : ∃ z, T3.heap = z := ⟨_, rfl⟩
    rw [e3] at Kc3 Ec3 Fb3 Fi3 Fc3
    have Z3 : n0 ≤ h3.size := Nat.le_trans Z2 Kc3.1
    refine own_go (B := T3.setTop (mkF m 184 #[.val (.int p0), .val (.int p1), .val (.int p2), .val (.int p3), .val (.int p4), .val (.int md), .val (.int Bk), .val (.int Ch), .val (.int mx), .val (.int mi), .val (.int bb), .val (.int kk), .unset, .unset, .unset, .unset, .unset] [(.ref b2)])) (fun t kt => st3.trans kt) ?_
    refine own_go (B := T3.setTop (mkF m 190 #[.val (.int p0), .val (.int p1), .val (.int p2), .val (.int p3), .val (.int p4), .val (.int md), .val (.int Bk), .val (.int Ch), .val (.int mx), .val (.int mi), .val (.int bb), .val (.int kk), .val (.ref b2), .unset, .unset, .unset, .unset] [(.int kk), (.ref b2)])) (fun t kt => ?_) ?_
    · show Steps p.tables e below (T3.setTop (mkF m 184 #[.val (.int p0), .val (.int p1), .val (.int p2), .val (.int p3), .val (.int p4), .val (.int md), .val (.int Bk), .val (.int Ch), .val (.int mx), .val (.int mi), .val (.int bb), .val (.int kk), .unset, .unset, .unset, .unset, .unset] [(.ref b2)])) _
      refine XS.astore X3.here hx rfl (hb hby at_184) rfl rfl (l' := #[.val (.int p0), .val (.int p1), .val (.int p2), .val (.int p3), .val (.int p4), .val (.int md), .val (.int Bk), .val (.int Ch), .val (.int mx), .val (.int mi), .val (.int bb), .val (.int kk), .val (.ref b2), .unset, .unset, .unset, .unset]) rfl ?_
      show Steps p.tables e below (T3.setTop (mkF m 186 #[.val (.int p0), .val (.int p1), .val (.int p2), .val (.int p3), .val (.int p4), .val (.int md), .val (.int Bk), .val (.int Ch), .val (.int mx), .val (.int mi), .val (.int bb), .val (.int kk), .val (.ref b2), .unset, .unset, .unset, .unset] [])) _
      refine XS.aload X3.here hx rfl (hb hby at_186) rfl rfl ?_
      show Steps p.tables e below (T3.setTop (mkF m 188 #[.val (.int p0), .val (.int p1), .val (.int p2), .val (.int p3), .val (.int p4), .val (.int md), .val (.int Bk), .val (.int Ch), .val (.int mx), .val (.int mi), .val (.int bb), .val (.int kk), .val (.ref b2), .unset, .unset, .unset, .unset] [(.ref b2)])) _
      refine XS.iload X3.here hx rfl (hb hby at_188) rfl ?_
      exact kt
    obtain ⟨cq4, kq4, qa4, qb4, qc4⟩ := isOf hZ e3 Ec3
    obtain ⟨_, _, ⟨T4, L4, k4, n4⟩, -, X4, ⟨Lc4, hQ4, l4, y4, z4⟩, st4⟩ := X3.virtualBack hx (y := (⟨"com/example/hazy_hash/hazyhash/TableLayout", "isCompleteFor", "(I)Z"⟩ : MethodName)) (z := (⟨"com/example/hazy_hash/hazyhash/TableLayout", "isCompleteFor", "(I)Z"⟩ : MethodName)) hown (mvT hZ (hw _ (List.mem_of_getElem? (i := 30) rfl))) (mvT hZ (hw _ (List.mem_of_getElem? (i := 31) rfl))) (notFace_of_selects (args := #[]) (mvT hZ (hw _ (List.mem_of_getElem? (i := 33) rfl)))) (mvT hZ (hw _ (List.mem_of_getElem? (i := 33) rfl))) (mvT hZ (hw _ (List.mem_of_getElem? (i := 32) rfl))) (by decide) (backOf (W := 0) (rm6 l Z t0 hw [] b2 kk Bk bb Ch h3 n0 Z3 Fb3 Fi3 Fc3) hZ (hw _ (List.mem_of_getElem? (i := 34) rfl)) (hw _ (List.mem_of_getElem? (i := 7) rfl)) (by decide) (by decide)) qa4 qc4 (g := (mkF m 190 #[.val (.int p0), .val (.int p1), .val (.int p2), .val (.int p3), .val (.int p4), .val (.int md), .val (.int Bk), .val (.int Ch), .val (.int mx), .val (.int mi), .val (.int bb), .val (.int kk), .val (.ref b2), .unset, .unset, .unset, .unset] [(.int kk), (.ref b2)])) rfl (by rw [hml]; rfl) (Steps.refl _) (argsL := [(.int kk)]) (rest := []) (lenOf pd_0_2 rfl) rfl (by show 2 * 0 + _ ≤ _; exact Nat.le_of_eq rfl) (hb hby at_190) (fun _ _ => ⟨rfl, e3, (by decide : 1 + 0 ≤ _), (by decide : 3 + 0 ≤ _)⟩)
    dsimp only [Pt.U, Pt.locs, Pt.cells, Pt.slots] at X4 l4 y4 z4 st4 hQ4
    subst l4 y4 z4
    obtain ⟨rfl, Nq4, hh4⟩ := hQ4
    have N4 := Fr.app N3 Nq4
    have e4 : T4.heap = h3 := hh4
    refine own_go (B := T4.setTop (mkF m 193 #[.val (.int p0), .val (.int p1), .val (.int p2), .val (.int p3), .val (.int p4), .val (.int md), .val (.int Bk), .val (.int Ch), .val (.int mx), .val (.int mi), .val (.int bb), .val (.int kk), .val (.ref b2), .unset, .unset, .unset, .unset] [(.int (if bb = (0 : Int32) then (1 : Int32) else (if (Bk - Ch) < kk then (0 : Int32) else (1 : Int32))))])) (fun t kt => st4.trans kt) ?_
    refine own_go (B := T4.setTop (mkF m 198 #[.val (.int p0), .val (.int p1), .val (.int p2), .val (.int p3), .val (.int p4), .val (.int md), .val (.int Bk), .val (.int Ch), .val (.int mx), .val (.int mi), .val (.int bb), .val (.int kk), .val (.ref b2), .val (.int (if bb = (0 : Int32) then (1 : Int32) else (if (Bk - Ch) < kk then (0 : Int32) else (1 : Int32)))), .unset, .unset, .unset] [(.int (0 : Int32)), (.int kk)])) (fun t kt => ?_) ?_
    · show Steps p.tables e below (T4.setTop (mkF m 193 #[.val (.int p0), .val (.int p1), .val (.int p2), .val (.int p3), .val (.int p4), .val (.int md), .val (.int Bk), .val (.int Ch), .val (.int mx), .val (.int mi), .val (.int bb), .val (.int kk), .val (.ref b2), .unset, .unset, .unset, .unset] [(.int (if bb = (0 : Int32) then (1 : Int32) else (if (Bk - Ch) < kk then (0 : Int32) else (1 : Int32))))])) _
      refine XS.istore X4.here hx rfl (hb hby at_193) rfl (l' := #[.val (.int p0), .val (.int p1), .val (.int p2), .val (.int p3), .val (.int p4), .val (.int md), .val (.int Bk), .val (.int Ch), .val (.int mx), .val (.int mi), .val (.int bb), .val (.int kk), .val (.ref b2), .val (.int (if bb = (0 : Int32) then (1 : Int32) else (if (Bk - Ch) < kk then (0 : Int32) else (1 : Int32)))), .unset, .unset, .unset]) rfl ?_
      show Steps p.tables e below (T4.setTop (mkF m 195 #[.val (.int p0), .val (.int p1), .val (.int p2), .val (.int p3), .val (.int p4), .val (.int md), .val (.int Bk), .val (.int Ch), .val (.int mx), .val (.int mi), .val (.int bb), .val (.int kk), .val (.ref b2), .val (.int (if bb = (0 : Int32) then (1 : Int32) else (if (Bk - Ch) < kk then (0 : Int32) else (1 : Int32)))), .unset, .unset, .unset] [])) _
      refine XS.iload X4.here hx rfl (hb hby at_195) rfl ?_
      show Steps p.tables e below (T4.setTop (mkF m 197 #[.val (.int p0), .val (.int p1), .val (.int p2), .val (.int p3), .val (.int p4), .val (.int md), .val (.int Bk), .val (.int Ch), .val (.int mx), .val (.int mi), .val (.int bb), .val (.int kk), .val (.ref b2), .val (.int (if bb = (0 : Int32) then (1 : Int32) else (if (Bk - Ch) < kk then (0 : Int32) else (1 : Int32)))), .unset, .unset, .unset] [(.int kk)])) _
      refine XS.iconst X4.here hx rfl (hb hby at_197) ?_
      exact kt
    obtain ⟨_, _, ⟨T5, L5, k5, n5⟩, -, X5, ⟨Lc5, hQ5, l5, y5, z5⟩, st5⟩ := Jvm.LawKit.callS X4 hx (y := (⟨"java/lang/Math", "max", "(II)I"⟩ : MethodName)) hown (mvT hZ (hw _ (List.mem_of_getElem? (i := 35) rfl))) (mvT hZ (hw _ (List.mem_of_getElem? (i := 36) rfl))) (mvT hZ (hw _ (List.mem_of_getElem? (i := 2) rfl))) (mvT hZ (hw _ (List.mem_of_getElem? (i := 37) rfl))) (by decide) (backOf (W := 0) (rm7 l Z t0 hw [] kk (0 : Int32) h3 n0 Z3) hZ (hw _ (List.mem_of_getElem? (i := 37) rfl)) (hw _ (List.mem_of_getElem? (i := 2) rfl)) (by decide) (by decide)) (g := (mkF m 198 #[.val (.int p0), .val (.int p1), .val (.int p2), .val (.int p3), .val (.int p4), .val (.int md), .val (.int Bk), .val (.int Ch), .val (.int mx), .val (.int mi), .val (.int bb), .val (.int kk), .val (.ref b2), .val (.int (if bb = (0 : Int32) then (1 : Int32) else (if (Bk - Ch) < kk then (0 : Int32) else (1 : Int32)))), .unset, .unset, .unset] [(.int (0 : Int32)), (.int kk)])) rfl (by rw [hml]; rfl) (argsL := [(.int kk), (.int (0 : Int32))]) (rest := []) (lenOf pd_0_0 rfl) rfl (by show 2 * 0 + _ ≤ _; exact Nat.le_of_eq rfl) (hb hby at_198) (fun _ _ => ⟨rfl, e4, (by decide : 1 + 0 ≤ _), (by decide : 3 + 0 ≤ _)⟩)
    dsimp only [Pt.U, Pt.locs, Pt.cells, Pt.slots] at X5 l5 y5 z5 st5 hQ5
    subst l5 y5 z5
    obtain ⟨rfl, Nq5, hh5⟩ := hQ5
    have N5 := Fr.app N4 Nq5
    have e5 : T5.heap = h3 := hh5
    refine own_go (B := T5.setTop (mkF m 201 #[.val (.int p0), .val (.int p1), .val (.int p2), .val (.int p3), .val (.int p4), .val (.int md), .val (.int Bk), .val (.int Ch), .val (.int mx), .val (.int mi), .val (.int bb), .val (.int kk), .val (.ref b2), .val (.int (if bb = (0 : Int32) then (1 : Int32) else (if (Bk - Ch) < kk then (0 : Int32) else (1 : Int32)))), .unset, .unset, .unset] [(.int (own7_f0 kk (0 : Int32)))])) (fun t kt => st5 t kt) ?_
    refine own_go (B := T5.setTop (mkF m 203 #[.val (.int p0), .val (.int p1), .val (.int p2), .val (.int p3), .val (.int p4), .val (.int md), .val (.int Bk), .val (.int Ch), .val (.int mx), .val (.int mi), .val (.int bb), .val (.int kk), .val (.ref b2), .val (.int (if bb = (0 : Int32) then (1 : Int32) else (if (Bk - Ch) < kk then (0 : Int32) else (1 : Int32)))), .unset, .unset, .unset] [(.int Bk), (.int (own7_f0 kk (0 : Int32)))])) (fun t kt => ?_) ?_
    · show Steps p.tables e below (T5.setTop (mkF m 201 #[.val (.int p0), .val (.int p1), .val (.int p2), .val (.int p3), .val (.int p4), .val (.int md), .val (.int Bk), .val (.int Ch), .val (.int mx), .val (.int mi), .val (.int bb), .val (.int kk), .val (.ref b2), .val (.int (if bb = (0 : Int32) then (1 : Int32) else (if (Bk - Ch) < kk then (0 : Int32) else (1 : Int32)))), .unset, .unset, .unset] [(.int (own7_f0 kk (0 : Int32)))])) _
      refine XS.iload X5.here hx rfl (hb hby at_201) rfl ?_
      exact kt
    obtain ⟨_, _, ⟨T6, L6, k6, n6⟩, -, X6, ⟨Lc6, hQ6, l6, y6, z6⟩, st6⟩ := Jvm.LawKit.callS X5 hx (y := (⟨"java/lang/Math", "min", "(II)I"⟩ : MethodName)) hown (mvT hZ (hw _ (List.mem_of_getElem? (i := 0) rfl))) (mvT hZ (hw _ (List.mem_of_getElem? (i := 1) rfl))) (mvT hZ (hw _ (List.mem_of_getElem? (i := 2) rfl))) (mvT hZ (hw _ (List.mem_of_getElem? (i := 3) rfl))) (by decide) (backOf (W := 0) (rm1 l Z t0 hw [] (own7_f0 kk (0 : Int32)) Bk h3 n0 Z3) hZ (hw _ (List.mem_of_getElem? (i := 3) rfl)) (hw _ (List.mem_of_getElem? (i := 2) rfl)) (by decide) (by decide)) (g := (mkF m 203 #[.val (.int p0), .val (.int p1), .val (.int p2), .val (.int p3), .val (.int p4), .val (.int md), .val (.int Bk), .val (.int Ch), .val (.int mx), .val (.int mi), .val (.int bb), .val (.int kk), .val (.ref b2), .val (.int (if bb = (0 : Int32) then (1 : Int32) else (if (Bk - Ch) < kk then (0 : Int32) else (1 : Int32)))), .unset, .unset, .unset] [(.int Bk), (.int (own7_f0 kk (0 : Int32)))])) rfl (by rw [hml]; rfl) (argsL := [(.int (own7_f0 kk (0 : Int32))), (.int Bk)]) (rest := []) (lenOf pd_0_0 rfl) rfl (by show 2 * 0 + _ ≤ _; exact Nat.le_of_eq rfl) (hb hby at_203) (fun _ _ => ⟨rfl, e5, (by decide : 1 + 0 ≤ _), (by decide : 3 + 0 ≤ _)⟩)
    dsimp only [Pt.U, Pt.locs, Pt.cells, Pt.slots] at X6 l6 y6 z6 st6 hQ6
    subst l6 y6 z6
    obtain ⟨rfl, Nq6, hh6⟩ := hQ6
    have N6 := Fr.app N5 Nq6
    have e6 : T6.heap = h3 := hh6
    refine own_go (B := T6.setTop (mkF m 206 #[.val (.int p0), .val (.int p1), .val (.int p2), .val (.int p3), .val (.int p4), .val (.int md), .val (.int Bk), .val (.int Ch), .val (.int mx), .val (.int mi), .val (.int bb), .val (.int kk), .val (.ref b2), .val (.int (if bb = (0 : Int32) then (1 : Int32) else (if (Bk - Ch) < kk then (0 : Int32) else (1 : Int32)))), .unset, .unset, .unset] [(.int (own1_f0 (own7_f0 kk (0 : Int32)) Bk))])) (fun t kt => st6 t kt) ?_
    refine own_go (B := T6.setTop (mkF m 215 #[.val (.int p0), .val (.int p1), .val (.int p2), .val (.int p3), .val (.int p4), .val (.int md), .val (.int Bk), .val (.int Ch), .val (.int mx), .val (.int mi), .val (.int bb), .val (.int kk), .val (.ref b2), .val (.int (if bb = (0 : Int32) then (1 : Int32) else (if (Bk - Ch) < kk then (0 : Int32) else (1 : Int32)))), .val (.int (own1_f0 (own7_f0 kk (0 : Int32)) Bk)), .val (.int (Bk - (own1_f0 (own7_f0 kk (0 : Int32)) Bk))), .unset] [])) (fun t kt => ?_) ?_
    · show Steps p.tables e below (T6.setTop (mkF m 206 #[.val (.int p0), .val (.int p1), .val (.int p2), .val (.int p3), .val (.int p4), .val (.int md), .val (.int Bk), .val (.int Ch), .val (.int mx), .val (.int mi), .val (.int bb), .val (.int kk), .val (.ref b2), .val (.int (if bb = (0 : Int32) then (1 : Int32) else (if (Bk - Ch) < kk then (0 : Int32) else (1 : Int32)))), .unset, .unset, .unset] [(.int (own1_f0 (own7_f0 kk (0 : Int32)) Bk))])) _
      refine XS.istore X6.here hx rfl (hb hby at_206) rfl (l' := #[.val (.int p0), .val (.int p1), .val (.int p2), .val (.int p3), .val (.int p4), .val (.int md), .val (.int Bk), .val (.int Ch), .val (.int mx), .val (.int mi), .val (.int bb), .val (.int kk), .val (.ref b2), .val (.int (if bb = (0 : Int32) then (1 : Int32) else (if (Bk - Ch) < kk then (0 : Int32) else (1 : Int32)))), .val (.int (own1_f0 (own7_f0 kk (0 : Int32)) Bk)), .unset, .unset]) rfl ?_
      show Steps p.tables e below (T6.setTop (mkF m 208 #[.val (.int p0), .val (.int p1), .val (.int p2), .val (.int p3), .val (.int p4), .val (.int md), .val (.int Bk), .val (.int Ch), .val (.int mx), .val (.int mi), .val (.int bb), .val (.int kk), .val (.ref b2), .val (.int (if bb = (0 : Int32) then (1 : Int32) else (if (Bk - Ch) < kk then (0 : Int32) else (1 : Int32)))), .val (.int (own1_f0 (own7_f0 kk (0 : Int32)) Bk)), .unset, .unset] [])) _
      refine XS.iload X6.here hx rfl (hb hby at_208) rfl ?_
      show Steps p.tables e below (T6.setTop (mkF m 210 #[.val (.int p0), .val (.int p1), .val (.int p2), .val (.int p3), .val (.int p4), .val (.int md), .val (.int Bk), .val (.int Ch), .val (.int mx), .val (.int mi), .val (.int bb), .val (.int kk), .val (.ref b2), .val (.int (if bb = (0 : Int32) then (1 : Int32) else (if (Bk - Ch) < kk then (0 : Int32) else (1 : Int32)))), .val (.int (own1_f0 (own7_f0 kk (0 : Int32)) Bk)), .unset, .unset] [(.int Bk)])) _
      refine XS.iload X6.here hx rfl (hb hby at_210) rfl ?_
      show Steps p.tables e below (T6.setTop (mkF m 212 #[.val (.int p0), .val (.int p1), .val (.int p2), .val (.int p3), .val (.int p4), .val (.int md), .val (.int Bk), .val (.int Ch), .val (.int mx), .val (.int mi), .val (.int bb), .val (.int kk), .val (.ref b2), .val (.int (if bb = (0 : Int32) then (1 : Int32) else (if (Bk - Ch) < kk then (0 : Int32) else (1 : Int32)))), .val (.int (own1_f0 (own7_f0 kk (0 : Int32)) Bk)), .unset, .unset] [(.int (own1_f0 (own7_f0 kk (0 : Int32)) Bk)), (.int Bk)])) _
      refine XS.isub X6.here hx rfl (hb hby at_212) rfl ?_
      show Steps p.tables e below (T6.setTop (mkF m 213 #[.val (.int p0), .val (.int p1), .val (.int p2), .val (.int p3), .val (.int p4), .val (.int md), .val (.int Bk), .val (.int Ch), .val (.int mx), .val (.int mi), .val (.int bb), .val (.int kk), .val (.ref b2), .val (.int (if bb = (0 : Int32) then (1 : Int32) else (if (Bk - Ch) < kk then (0 : Int32) else (1 : Int32)))), .val (.int (own1_f0 (own7_f0 kk (0 : Int32)) Bk)), .unset, .unset] [(.int (Bk - (own1_f0 (own7_f0 kk (0 : Int32)) Bk)))])) _
      refine XS.istore X6.here hx rfl (hb hby at_213) rfl (l' := #[.val (.int p0), .val (.int p1), .val (.int p2), .val (.int p3), .val (.int p4), .val (.int md), .val (.int Bk), .val (.int Ch), .val (.int mx), .val (.int mi), .val (.int bb), .val (.int kk), .val (.ref b2), .val (.int (if bb = (0 : Int32) then (1 : Int32) else (if (Bk - Ch) < kk then (0 : Int32) else (1 : Int32)))), .val (.int (own1_f0 (own7_f0 kk (0 : Int32)) Bk)), .val (.int (Bk - (own1_f0 (own7_f0 kk (0 : Int32)) Bk))), .unset]) rfl ?_
      exact kt
    obtain ⟨ex, hex⟩ : ∃ z : Int32, z = (if bb = (0 : Int32) then (1 : Int32) else (if (Bk - (own1_f0 (own7_f0 kk (0 : Int32)) Bk)) < Ch then (0 : Int32) else (1 : Int32))) := ⟨_, rfl⟩
    refine own_go (B := T6.setTop (mkF m 232 #[.val (.int p0), .val (.int p1), .val (.int p2), .val (.int p3), .val (.int p4), .val (.int md), .val (.int Bk), .val (.int Ch), .val (.int mx), .val (.int mi), .val (.int bb), .val (.int kk), .val (.ref b2), .val (.int (if bb = (0 : Int32) then (1 : Int32) else (if (Bk - Ch) < kk then (0 : Int32) else (1 : Int32)))), .val (.int (own1_f0 (own7_f0 kk (0 : Int32)) Bk)), .val (.int (Bk - (own1_f0 (own7_f0 kk (0 : Int32)) Bk))), .unset] [(.int ex)])) (fun t kt => ?_) ?_
    · show Steps p.tables e below (T6.setTop (mkF m 215 #[.val (.int p0), .val (.int p1), .val (.int p2), .val (.int p3), .val (.int p4), .val (.int md), .val (.int Bk), .val (.int Ch), .val (.int mx), .val (.int mi), .val (.int bb), .val (.int kk), .val (.ref b2), .val (.int (if bb = (0 : Int32) then (1 : Int32) else (if (Bk - Ch) < kk then (0 : Int32) else (1 : Int32)))), .val (.int (own1_f0 (own7_f0 kk (0 : Int32)) Bk)), .val (.int (Bk - (own1_f0 (own7_f0 kk (0 : Int32)) Bk))), .unset] [])) _
      refine XS.iload X6.here hx rfl (hb hby at_215) rfl ?_
      by_cases hc217 : bb = (0 : Int32)
      · show Steps p.tables e below (T6.setTop (mkF m 217 #[.val (.int p0), .val (.int p1), .val (.int p2), .val (.int p3), .val (.int p4), .val (.int md), .val (.int Bk), .val (.int Ch), .val (.int mx), .val (.int mi), .val (.int bb), .val (.int kk), .val (.ref b2), .val (.int (if bb = (0 : Int32) then (1 : Int32) else (if (Bk - Ch) < kk then (0 : Int32) else (1 : Int32)))), .val (.int (own1_f0 (own7_f0 kk (0 : Int32)) Bk)), .val (.int (Bk - (own1_f0 (own7_f0 kk (0 : Int32)) Bk))), .unset] [(.int bb)])) _
        refine XS.ifYes X6.here hx rfl (pc0 := 217) (pc' := 227) rfl (hb hby at_217) rfl ((if0 _ _).trans (teq hc217).1) (by decide) (by decide) ?_
        show Steps p.tables e below (T6.setTop (mkF m 227 #[.val (.int p0), .val (.int p1), .val (.int p2), .val (.int p3), .val (.int p4), .val (.int md), .val (.int Bk), .val (.int Ch), .val (.int mx), .val (.int mi), .val (.int bb), .val (.int kk), .val (.ref b2), .val (.int (if bb = (0 : Int32) then (1 : Int32) else (if (Bk - Ch) < kk then (0 : Int32) else (1 : Int32)))), .val (.int (own1_f0 (own7_f0 kk (0 : Int32)) Bk)), .val (.int (Bk - (own1_f0 (own7_f0 kk (0 : Int32)) Bk))), .unset] [])) _
        refine XS.iconst X6.here hx rfl (hb hby at_227) ?_
        show Steps p.tables e below (T6.setTop (mkF m 228 #[.val (.int p0), .val (.int p1), .val (.int p2), .val (.int p3), .val (.int p4), .val (.int md), .val (.int Bk), .val (.int Ch), .val (.int mx), .val (.int mi), .val (.int bb), .val (.int kk), .val (.ref b2), .val (.int (if bb = (0 : Int32) then (1 : Int32) else (if (Bk - Ch) < kk then (0 : Int32) else (1 : Int32)))), .val (.int (own1_f0 (own7_f0 kk (0 : Int32)) Bk)), .val (.int (Bk - (own1_f0 (own7_f0 kk (0 : Int32)) Bk))), .unset] [(.int (1 : Int32))])) _
        refine XS.goto X6.here hx rfl (pc0 := 228) (pc' := 232) rfl (hb hby at_228) (by decide) (by decide) ?_
        rw [show ex = (1 : Int32) from by rw [hex, if_pos hc217]] at kt
        exact kt
      · show Steps p.tables e below (T6.setTop (mkF m 217 #[.val (.int p0), .val (.int p1), .val (.int p2), .val (.int p3), .val (.int p4), .val (.int md), .val (.int Bk), .val (.int Ch), .val (.int mx), .val (.int mi), .val (.int bb), .val (.int kk), .val (.ref b2), .val (.int (if bb = (0 : Int32) then (1 : Int32) else (if (Bk - Ch) < kk then (0 : Int32) else (1 : Int32)))), .val (.int (own1_f0 (own7_f0 kk (0 : Int32)) Bk)), .val (.int (Bk - (own1_f0 (own7_f0 kk (0 : Int32)) Bk))), .unset] [(.int bb)])) _
        refine XS.ifNo X6.here hx rfl (hb hby at_217) rfl ((if0 _ _).trans (feq hc217).1) ?_
        show Steps p.tables e below (T6.setTop (mkF m 220 #[.val (.int p0), .val (.int p1), .val (.int p2), .val (.int p3), .val (.int p4), .val (.int md), .val (.int Bk), .val (.int Ch), .val (.int mx), .val (.int mi), .val (.int bb), .val (.int kk), .val (.ref b2), .val (.int (if bb = (0 : Int32) then (1 : Int32) else (if (Bk - Ch) < kk then (0 : Int32) else (1 : Int32)))), .val (.int (own1_f0 (own7_f0 kk (0 : Int32)) Bk)), .val (.int (Bk - (own1_f0 (own7_f0 kk (0 : Int32)) Bk))), .unset] [])) _
        refine XS.iload X6.here hx rfl (hb hby at_220) rfl ?_
        show Steps p.tables e below (T6.setTop (mkF m 222 #[.val (.int p0), .val (.int p1), .val (.int p2), .val (.int p3), .val (.int p4), .val (.int md), .val (.int Bk), .val (.int Ch), .val (.int mx), .val (.int mi), .val (.int bb), .val (.int kk), .val (.ref b2), .val (.int (if bb = (0 : Int32) then (1 : Int32) else (if (Bk - Ch) < kk then (0 : Int32) else (1 : Int32)))), .val (.int (own1_f0 (own7_f0 kk (0 : Int32)) Bk)), .val (.int (Bk - (own1_f0 (own7_f0 kk (0 : Int32)) Bk))), .unset] [(.int (Bk - (own1_f0 (own7_f0 kk (0 : Int32)) Bk)))])) _
        refine XS.iload X6.here hx rfl (hb hby at_222) rfl ?_
        by_cases hc224 : (Bk - (own1_f0 (own7_f0 kk (0 : Int32)) Bk)) < Ch
        · show Steps p.tables e below (T6.setTop (mkF m 224 #[.val (.int p0), .val (.int p1), .val (.int p2), .val (.int p3), .val (.int p4), .val (.int md), .val (.int Bk), .val (.int Ch), .val (.int mx), .val (.int mi), .val (.int bb), .val (.int kk), .val (.ref b2), .val (.int (if bb = (0 : Int32) then (1 : Int32) else (if (Bk - Ch) < kk then (0 : Int32) else (1 : Int32)))), .val (.int (own1_f0 (own7_f0 kk (0 : Int32)) Bk)), .val (.int (Bk - (own1_f0 (own7_f0 kk (0 : Int32)) Bk))), .unset] [(.int Ch), (.int (Bk - (own1_f0 (own7_f0 kk (0 : Int32)) Bk)))])) _
          refine XS.icmpYes X6.here hx rfl (pc0 := 224) (pc' := 231) rfl (hb hby at_224) rfl (tlt hc224).1 (by decide) (by decide) ?_
          show Steps p.tables e below (T6.setTop (mkF m 231 #[.val (.int p0), .val (.int p1), .val (.int p2), .val (.int p3), .val (.int p4), .val (.int md), .val (.int Bk), .val (.int Ch), .val (.int mx), .val (.int mi), .val (.int bb), .val (.int kk), .val (.ref b2), .val (.int (if bb = (0 : Int32) then (1 : Int32) else (if (Bk - Ch) < kk then (0 : Int32) else (1 : Int32)))), .val (.int (own1_f0 (own7_f0 kk (0 : Int32)) Bk)), .val (.int (Bk - (own1_f0 (own7_f0 kk (0 : Int32)) Bk))), .unset] [])) _
          refine XS.iconst X6.here hx rfl (hb hby at_231) ?_
          rw [show ex = (0 : Int32) from by rw [hex, if_neg hc217, if_pos hc224]] at kt
          exact kt
        · show Steps p.tables e below (T6.setTop (mkF m 224 #[.val (.int p0), .val (.int p1), .val (.int p2), .val (.int p3), .val (.int p4), .val (.int md), .val (.int Bk), .val (.int Ch), .val (.int mx), .val (.int mi), .val (.int bb), .val (.int kk), .val (.ref b2), .val (.int (if bb = (0 : Int32) then (1 : Int32) else (if (Bk - Ch) < kk then (0 : Int32) else (1 : Int32)))), .val (.int (own1_f0 (own7_f0 kk (0 : Int32)) Bk)), .val (.int (Bk - (own1_f0 (own7_f0 kk (0 : Int32)) Bk))), .unset] [(.int Ch), (.int (Bk - (own1_f0 (own7_f0 kk (0 : Int32)) Bk)))])) _
          refine XS.icmpNo X6.here hx rfl (hb hby at_224) rfl (flt hc224).1 ?_
          show Steps p.tables e below (T6.setTop (mkF m 227 #[.val (.int p0), .val (.int p1), .val (.int p2), .val (.int p3), .val (.int p4), .val (.int md), .val (.int Bk), .val (.int Ch), .val (.int mx), .val (.int mi), .val (.int bb), .val (.int kk), .val (.ref b2), .val (.int (if bb = (0 : Int32) then (1 : Int32) else (if (Bk - Ch) < kk then (0 : Int32) else (1 : Int32)))), .val (.int (own1_f0 (own7_f0 kk (0 : Int32)) Bk)), .val (.int (Bk - (own1_f0 (own7_f0 kk (0 : Int32)) Bk))), .unset] [])) _
          refine XS.iconst X6.here hx rfl (hb hby at_227) ?_
          show Steps p.tables e below (T6.setTop (mkF m 228 #[.val (.int p0), .val (.int p1), .val (.int p2), .val (.int p3), .val (.int p4), .val (.int md), .val (.int Bk), .val (.int Ch), .val (.int mx), .val (.int mi), .val (.int bb), .val (.int kk), .val (.ref b2), .val (.int (if bb = (0 : Int32) then (1 : Int32) else (if (Bk - Ch) < kk then (0 : Int32) else (1 : Int32)))), .val (.int (own1_f0 (own7_f0 kk (0 : Int32)) Bk)), .val (.int (Bk - (own1_f0 (own7_f0 kk (0 : Int32)) Bk))), .unset] [(.int (1 : Int32))])) _
          refine XS.goto X6.here hx rfl (pc0 := 228) (pc' := 232) rfl (hb hby at_228) (by decide) (by decide) ?_
          rw [show ex = (1 : Int32) from by rw [hex, if_neg hc217, if_neg hc224]] at kt
          exact kt
    refine own_go (B := T6.setTop (mkF m 246 #[.val (.int p0), .val (.int p1), .val (.int p2), .val (.int p3), .val (.int p4), .val (.int md), .val (.int Bk), .val (.int Ch), .val (.int mx), .val (.int mi), .val (.int bb), .val (.int kk), .val (.ref b2), .val (.int (if bb = (0 : Int32) then (1 : Int32) else (if (Bk - Ch) < kk then (0 : Int32) else (1 : Int32)))), .val (.int (own1_f0 (own7_f0 kk (0 : Int32)) Bk)), .val (.int (Bk - (own1_f0 (own7_f0 kk (0 : Int32)) Bk))), .val (.int ex)] [(.int (1 : Int32))])) (fun t kt => ?_) ?_
    · show Steps p.tables e below (T6.setTop (mkF m 232 #[.val (.int p0), .val (.int p1), .val (.int p2), .val (.int p3), .val (.int p4), .val (.int md), .val (.int Bk), .val (.int Ch), .val (.int mx), .val (.int mi), .val (.int bb), .val (.int kk), .val (.ref b2), .val (.int (if bb = (0 : Int32) then (1 : Int32) else (if (Bk - Ch) < kk then (0 : Int32) else (1 : Int32)))), .val (.int (own1_f0 (own7_f0 kk (0 : Int32)) Bk)), .val (.int (Bk - (own1_f0 (own7_f0 kk (0 : Int32)) Bk))), .unset] [(.int ex)])) _
      refine XS.istore X6.here hx rfl (hb hby at_232) rfl (l' := #[.val (.int p0), .val (.int p1), .val (.int p2), .val (.int p3), .val (.int p4), .val (.int md), .val (.int Bk), .val (.int Ch), .val (.int mx), .val (.int mi), .val (.int bb), .val (.int kk), .val (.ref b2), .val (.int (if bb = (0 : Int32) then (1 : Int32) else (if (Bk - Ch) < kk then (0 : Int32) else (1 : Int32)))), .val (.int (own1_f0 (own7_f0 kk (0 : Int32)) Bk)), .val (.int (Bk - (own1_f0 (own7_f0 kk (0 : Int32)) Bk))), .val (.int ex)]) rfl ?_
      show Steps p.tables e below (T6.setTop (mkF m 234 #[.val (.int p0), .val (.int p1), .val (.int p2), .val (.int p3), .val (.int p4), .val (.int md), .val (.int Bk), .val (.int Ch), .val (.int mx), .val (.int mi), .val (.int bb), .val (.int kk), .val (.ref b2), .val (.int (if bb = (0 : Int32) then (1 : Int32) else (if (Bk - Ch) < kk then (0 : Int32) else (1 : Int32)))), .val (.int (own1_f0 (own7_f0 kk (0 : Int32)) Bk)), .val (.int (Bk - (own1_f0 (own7_f0 kk (0 : Int32)) Bk))), .val (.int ex)] [])) _
      refine XS.iload X6.here hx rfl (hb hby at_234) rfl ?_
      show Steps p.tables e below (T6.setTop (mkF m 236 #[.val (.int p0), .val (.int p1), .val (.int p2), .val (.int p3), .val (.int p4), .val (.int md), .val (.int Bk), .val (.int Ch), .val (.int mx), .val (.int mi), .val (.int bb), .val (.int kk), .val (.ref b2), .val (.int (if bb = (0 : Int32) then (1 : Int32) else (if (Bk - Ch) < kk then (0 : Int32) else (1 : Int32)))), .val (.int (own1_f0 (own7_f0 kk (0 : Int32)) Bk)), .val (.int (Bk - (own1_f0 (own7_f0 kk (0 : Int32)) Bk))), .val (.int ex)] [(.int (if bb = (0 : Int32) then (1 : Int32) else (if (Bk - Ch) < kk then (0 : Int32) else (1 : Int32))))])) _
      refine XS.iload X6.here hx rfl (hb hby at_236) rfl ?_
      show Steps p.tables e below (T6.setTop (mkF m 238 #[.val (.int p0), .val (.int p1), .val (.int p2), .val (.int p3), .val (.int p4), .val (.int md), .val (.int Bk), .val (.int Ch), .val (.int mx), .val (.int mi), .val (.int bb), .val (.int kk), .val (.ref b2), .val (.int (if bb = (0 : Int32) then (1 : Int32) else (if (Bk - Ch) < kk then (0 : Int32) else (1 : Int32)))), .val (.int (own1_f0 (own7_f0 kk (0 : Int32)) Bk)), .val (.int (Bk - (own1_f0 (own7_f0 kk (0 : Int32)) Bk))), .val (.int ex)] [(.int ex), (.int (if bb = (0 : Int32) then (1 : Int32) else (if (Bk - Ch) < kk then (0 : Int32) else (1 : Int32))))])) _
      refine XS.icmpNo X6.here hx rfl (hb hby at_238) rfl (teq (own_last v1 v2 v3 v4 kk bb hex)).2 ?_
      show Steps p.tables e below (T6.setTop (mkF m 241 #[.val (.int p0), .val (.int p1), .val (.int p2), .val (.int p3), .val (.int p4), .val (.int md), .val (.int Bk), .val (.int Ch), .val (.int mx), .val (.int mi), .val (.int bb), .val (.int kk), .val (.ref b2), .val (.int (if bb = (0 : Int32) then (1 : Int32) else (if (Bk - Ch) < kk then (0 : Int32) else (1 : Int32)))), .val (.int (own1_f0 (own7_f0 kk (0 : Int32)) Bk)), .val (.int (Bk - (own1_f0 (own7_f0 kk (0 : Int32)) Bk))), .val (.int ex)] [])) _
      refine XS.iconst X6.here hx rfl (hb hby at_241) ?_
      show Steps p.tables e below (T6.setTop (mkF m 242 #[.val (.int p0), .val (.int p1), .val (.int p2), .val (.int p3), .val (.int p4), .val (.int md), .val (.int Bk), .val (.int Ch), .val (.int mx), .val (.int mi), .val (.int bb), .val (.int kk), .val (.ref b2), .val (.int (if bb = (0 : Int32) then (1 : Int32) else (if (Bk - Ch) < kk then (0 : Int32) else (1 : Int32)))), .val (.int (own1_f0 (own7_f0 kk (0 : Int32)) Bk)), .val (.int (Bk - (own1_f0 (own7_f0 kk (0 : Int32)) Bk))), .val (.int ex)] [(.int (1 : Int32))])) _
      refine XS.goto X6.here hx rfl (pc0 := 242) (pc' := 246) rfl (hb hby at_242) (by decide) (by decide) ?_
      exact kt
    obtain ⟨fs, hr, hrun, hended, hW, hsame⟩ := X6.leave (v := some (.int (1 : Int32))) (fun h => by rw [Bd.returns] at h; cases h)
    refine ⟨_, _, ?_, hrun, hended, _, _, rfl, ?_, ⟨_, rfl⟩, hW, hsame.mono (by decide) (by decide)⟩
    · show Steps p.tables e below (T6.setTop (mkF m 246 #[.val (.int p0), .val (.int p1), .val (.int p2), .val (.int p3), .val (.int p4), .val (.int md), .val (.int Bk), .val (.int Ch), .val (.int mx), .val (.int mi), .val (.int bb), .val (.int kk), .val (.ref b2), .val (.int (if bb = (0 : Int32) then (1 : Int32) else (if (Bk - Ch) < kk then (0 : Int32) else (1 : Int32)))), .val (.int (own1_f0 (own7_f0 kk (0 : Int32)) Bk)), .val (.int (Bk - (own1_f0 (own7_f0 kk (0 : Int32)) Bk))), .val (.int ex)] [(.int (1 : Int32))])) _
      exact retN X6 hx (t := .boolean) Bd.returns (by simp) (hb hby at_246) hr
    · show Q0 n0 _ _
      exact ⟨rfl, N6⟩
set_option maxRecDepth 65536 in
set_option maxHeartbeats 40000000 in
theorem comes_1 {Post : Tables → Env → Array Value → State → Outcome → State → Prop} (hpost : ∀ tb e args s v u, (limb_1_1.after args s (.returned v) u = true ∧ limb_1_2.after args s (.returned v) u = true ∧ True) → FrameEnd s (.returned v) u (Jvm.fieldLocs frame_1_writes args s ++ Jvm.arrayLocs frame_1_arrays args s ++ Jvm.staticLocs frame_1_statics s) 16 128 → Post tb e args s (.returned v) u) :
    ArmFor flags0 classFile x code maxLocals ret World_1 tables_1 room_1 Calls_1 rest_1 Pre_1 Post := by
  intro l hfl _ _ p e ha hc hk s m args below hf hA hF happ hP
  obtain ⟨hcalls, hrest, hpre⟩ := hP
  obtain ⟨-, -, -, hnamed, -, -, -, hat⟩ := (Spec.applies_iff hf).mp happ
  obtain ⟨hg, hn⟩ := and_e (Cond.before_iff.mp (show (Jvm.Cond.and given_1 narrow_1).before args s = true from hpre))
  obtain ⟨ga0, gb0⟩ := and_e hg
  obtain ⟨ga1, gb1⟩ := and_e gb0
  obtain ⟨ga2, gb2⟩ := and_e gb1
  obtain ⟨ga3, gb3⟩ := and_e gb2
  obtain ⟨ga4, gb4⟩ := and_e gb3
  obtain ⟨w0, w1, w2, w3, w4, rfl⟩ : ∃ w0 w1 w2 w3 w4 : Value, args = #[w0, w1, w2, w3, w4] := by
    have hs : args.size = 5 := by simpa [Cond.value, given_1] using ga0
    obtain ⟨L⟩ := args
    match L, hs with
    | [w0, w1, w2, w3, w4], _ => exact ⟨w0, w1, w2, w3, w4, rfl⟩
  have hw := fun d (hd : d ∈ tables_1) => atoms_spec (ws := Jvm.Cond.code x code maxLocals ret :: tables_1) hat d (List.mem_cons_of_mem _ hd)
  obtain ⟨i0, ei0⟩ := is_v ga1
  obtain rfl : w0 = (.int i0) := Option.some.inj ei0
  obtain ⟨i1, ei1⟩ := is_v ga2
  obtain rfl : w1 = (.int i1) := Option.some.inj ei1
  obtain ⟨i2, ei2⟩ := is_v ga3
  obtain rfl : w2 = (.int i2) := Option.some.inj ei2
  obtain ⟨i3, ei3⟩ := is_v ga4
  obtain rfl : w3 = (.int i3) := Option.some.inj ei3
  obtain ⟨i4, ei4⟩ := is_v gb4
  obtain rfl : w4 = (.int i4) := Option.some.inj ei4
  obtain ⟨n, o, h1, h2, h3, _, L, rfl, ⟨rfl, N⟩, hq⟩ := rm0 l s _ hw tables_1 i0 i1 i2 i3 i4 s.heap s.heap.size (Nat.le_refl _)  p e ha hc hk s m _ below hf ((Spec.applies_iff_loose hf).mp happ).1 ⟨rfl, State.Warmed39.refl s, rfl⟩ trivial
  refine ⟨n, _, h1, h2, h3, hpost _ _ _ _ _ _ ⟨Cond.after_iff.mpr rfl, Cond.after_iff.mpr (eq_i res_at (Term.int_eval (1)) rfl), trivial⟩ ⟨hq.1, hq.2.1, (hq.2.2.sift fun y hy => Or.inr (N y hy)).mono (by decide) (by decide)⟩⟩
theorem main_1_1 : Claimed_1_1 := comes_1 fun _ _ _ _ _ _ h hF => ⟨h.1, hF⟩
theorem main_1_2 : Claimed_1_2 := comes_1 fun _ _ _ _ _ _ h hF => ⟨h.2.1, hF⟩
end Jvm.Pilot.@@N@@
namespace Jvm.Pilot.@@N@@
open Jvm Jvm.ClassFile Sem Op Lib Jvm.Free Jvm.Stand Jvm.Pilot.@@N@@.Jvm.D
/-! MADE BY PROGRAM (witnessworld.py) out of the Statement's table words and the real class files: 11 classes; the members and pool entries that the words name. The judged class is class 1, her method 1. -/
namespace start1
open Jvm.ClassFile
def u (s : String) : CpInfo := .utf8 (stringToUtf16 s)
/-- a pool by its gaps: so many unusable entries, then the entry; so many at the end -/
def gap : Nat → List CpInfo → List CpInfo
  | 0, r => r
  | n + 1, r => .unusable :: gap n r
def poolList (es : List (Nat × CpInfo)) (last : Nat) : List CpInfo := es.foldr (fun e r => gap e.1 (e.2 :: r)) (gap last [])
def pool (es : List (Nat × CpInfo)) (last : Nat) : Array CpInfo := ⟨poolList es last⟩
def fileOf (pool : Array CpInfo) (this : Nat) (attrs : Array Attribute := #[]) (ms : Array MethodInfo := #[]) (fl : Nat := 33) (sup : Nat := 0) (ifs : Array Nat := #[]) (fds : Array FieldInfo := #[]) : ClassFile where
  minorVersion := 0
  majorVersion := 65
  constantPool := pool
  accessFlags := fl
  thisClass := this
  superClass := sup
  interfaces := ifs
  fields := fds
  methods := ms
  attributes := attrs
def plain (name : String) (sup : Option ClassId) : Class where
  name := name
  kind := .ordinary
  loader := none
  accessFlags := 33
  super := sup
  interfaces := #[]
  cf := none
  fields := #[]
  methods := #[]
  instanceTypes := #[]
  staticTypes := #[]
  resolved := #[]
  callSites := []
  init := .initialized
  statics := none
  mirror := none

def pool0 : Array CpInfo := pool [(5, u "<init>"), (0, u "()V"), (1, .class_ 10), (1, u "java/lang/Object")] 113

def k0c0 : Code := { maxStack := 0, maxLocals := 1, code := object_method_1_code, exceptionTable := #[], attributes := #[] }
def k0m0 : Method := { name := "<init>", desc := "()V", sig := { parameters := [], returnType := none }, accessFlags := 1, code := some k0c0 }
/-- java/lang/Object -/
def k0 : Class := { plain "java/lang/Object" none with
  accessFlags := 33
  interfaces := #[]
  cf := some (fileOf pool0 8 #[] #[{ accessFlags := 1, nameIndex := 5, descriptorIndex := 6, attributes := #[] }] 33 0 #[] #[])
  fields := #[]
  methods := #[k0m0]
  instanceTypes := #[]
  staticTypes := #[]
  resolved := Array.replicate 124 none
  statics := none }

def pool1 : Array CpInfo := pool [(2, .class_ 4), (1, u "java/lang/Object"), (0, u "<init>"), (0, u "()V"), (0, .integer 2147483647), (0, .methodref 9 10), (0, .class_ 11), (0, .nameAndType 12 13), (0, u "java/lang/Math"), (0, u "min"), (0, u "(II)I"), (0, .class_ 15), (0, u "com/example/hazy_hash/hazyhash/TableLayout"), (0, .methodref 14 17), (0, .nameAndType 5 18), (0, u "(III)V"), (0, .methodref 14 20), (0, .nameAndType 21 22), (0, u "isCompleteFor"), (0, u "(I)Z"), (0, .methodref 9 24), (0, .nameAndType 25 13), (0, u "max"), (0, .class_ 27), (0, u "com/example/hazy_hash/hazyhash/TableLayoutIsCompleteForPinLaw"), (2, u "law"), (0, u "(IIIII)Z")] 3

def k1m0 : Method := { name := "<init>", desc := "()V", sig := { parameters := [], returnType := none }, accessFlags := 1, code := none }
def k1c1 : Code := { maxStack := 5, maxLocals := 17, code := code, exceptionTable := #[], attributes := #[] }
def k1m1 : Method := { name := "law", desc := "(IIIII)Z", sig := { parameters := [.int, .int, .int, .int, .int], returnType := some .boolean }, accessFlags := 9, code := some k1c1 }
/-- com/example/hazy_hash/hazyhash/TableLayoutIsCompleteForPinLaw -/
def k1 : Class := { plain "com/example/hazy_hash/hazyhash/TableLayoutIsCompleteForPinLaw" (some 0) with
  accessFlags := 49
  interfaces := #[]
  cf := some (fileOf pool1 26 #[] #[{ accessFlags := 1, nameIndex := 5, descriptorIndex := 6, attributes := #[] }, { accessFlags := 9, nameIndex := 30, descriptorIndex := 31, attributes := #[] }] 49 2 #[] #[])
  fields := #[]
  methods := #[k1m0, k1m1]
  instanceTypes := #[]
  staticTypes := #[]
  resolved := Array.replicate 35 none
  statics := none }

def pool2 : Array CpInfo := pool [(1, .class_ 2), (0, u "java/lang/Math"), (1, .class_ 6), (1, u "java/lang/Object"), (0, u "<init>"), (0, u "()V"), (89, .class_ 100), (1, u "java/lang/Math$RandomNumberGeneratorHolder"), (71, u "negativeZeroFloatBits"), (0, u "J"), (2, u "negativeZeroDoubleBits"), (21, u "max"), (2, u "min"), (43, u "$assertionsDisabled"), (0, u "Z"), (88, u "(II)I"), (2, u "twoToTheDoubleScaleDown"), (0, u "D"), (4, u "twoToTheDoubleScaleUp"), (9, u "E"), (3, u "PI"), (2, u "TAU"), (2, u "DEGREES_TO_RADIANS"), (0, u "RADIANS_TO_DEGREES")] 94

def k2m0 : Method := { name := "<init>", desc := "()V", sig := { parameters := [], returnType := none }, accessFlags := 2, code := none }
def k2c1 : Code := { maxStack := 2, maxLocals := 2, code := jdk_29_method_65_code, exceptionTable := #[], attributes := #[] }
def k2m1 : Method := { name := "max", desc := "(II)I", sig := { parameters := [.int, .int], returnType := some .int }, accessFlags := 9, code := some k2c1 }
def k2c2 : Code := { maxStack := 2, maxLocals := 2, code := jdk_29_method_69_code, exceptionTable := #[], attributes := #[] }
def k2m2 : Method := { name := "min", desc := "(II)I", sig := { parameters := [.int, .int], returnType := some .int }, accessFlags := 9, code := some k2c2 }
/-- java/lang/Math -/
def k2 : Class := { plain "java/lang/Math" (some 0) with
  accessFlags := 49
  interfaces := #[]
  cf := some (fileOf pool2 1 #[.nestMembers #[98]] #[{ accessFlags := 2, nameIndex := 7, descriptorIndex := 8, attributes := #[] }, { accessFlags := 9, nameIndex := 198, descriptorIndex := 335, attributes := #[] }, { accessFlags := 9, nameIndex := 201, descriptorIndex := 335, attributes := #[] }] 49 4 #[] #[{ accessFlags := 25, nameIndex := 354, descriptorIndex := 339, attributes := #[] }, { accessFlags := 25, nameIndex := 358, descriptorIndex := 339, attributes := #[] }, { accessFlags := 25, nameIndex := 361, descriptorIndex := 339, attributes := #[] }, { accessFlags := 26, nameIndex := 364, descriptorIndex := 339, attributes := #[] }, { accessFlags := 26, nameIndex := 365, descriptorIndex := 339, attributes := #[] }, { accessFlags := 26, nameIndex := 172, descriptorIndex := 173, attributes := #[] }, { accessFlags := 26, nameIndex := 176, descriptorIndex := 173, attributes := #[] }, { accessFlags := 8, nameIndex := 344, descriptorIndex := 339, attributes := #[] }, { accessFlags := 8, nameIndex := 338, descriptorIndex := 339, attributes := #[] }, { accessFlags := 4120, nameIndex := 245, descriptorIndex := 246, attributes := #[] }])
  fields := #[{ name := "E", type := .double, accessFlags := 25, slot := 0, constantValue := 0 }, { name := "PI", type := .double, accessFlags := 25, slot := 1, constantValue := 0 }, { name := "TAU", type := .double, accessFlags := 25, slot := 2, constantValue := 0 }, { name := "DEGREES_TO_RADIANS", type := .double, accessFlags := 26, slot := 3, constantValue := 0 }, { name := "RADIANS_TO_DEGREES", type := .double, accessFlags := 26, slot := 4, constantValue := 0 }, { name := "negativeZeroFloatBits", type := .long, accessFlags := 26, slot := 5, constantValue := 0 }, { name := "negativeZeroDoubleBits", type := .long, accessFlags := 26, slot := 6, constantValue := 0 }, { name := "twoToTheDoubleScaleUp", type := .double, accessFlags := 8, slot := 7, constantValue := 0 }, { name := "twoToTheDoubleScaleDown", type := .double, accessFlags := 8, slot := 8, constantValue := 0 }, { name := "$assertionsDisabled", type := .boolean, accessFlags := 4120, slot := 9, constantValue := 0 }]
  methods := #[k2m0, k2m1, k2m2]
  instanceTypes := #[]
  staticTypes := #[.double, .double, .double, .double, .double, .long, .long, .double, .double, .boolean]
  resolved := Array.replicate 460 none
  statics := none }

def pool3 : Array CpInfo := pool [(1, .methodref 2 3), (0, .class_ 4), (0, .nameAndType 5 6), (0, u "java/lang/Object"), (0, u "<init>"), (0, u "()V"), (0, .class_ 8), (0, u "java/lang/Record")] 13

def k3c0 : Code := { maxStack := 1, maxLocals := 1, code := jdk_30_method_1_code, exceptionTable := #[], attributes := #[] }
def k3m0 : Method := { name := "<init>", desc := "()V", sig := { parameters := [], returnType := none }, accessFlags := 4, code := some k3c0 }
/-- java/lang/Record -/
def k3 : Class := { plain "java/lang/Record" (some 0) with
  accessFlags := 1057
  interfaces := #[]
  cf := some (fileOf pool3 7 #[] #[{ accessFlags := 4, nameIndex := 5, descriptorIndex := 6, attributes := #[] }] 1057 2 #[] #[])
  fields := #[]
  methods := #[k3m0]
  instanceTypes := #[]
  staticTypes := #[]
  resolved := Array.replicate 22 none
  statics := none }

def pool4 : Array CpInfo := pool [(5, .methodref 6 7), (0, .class_ 8), (0, .nameAndType 9 10), (0, u "java/lang/Record"), (0, u "<init>"), (0, u "()V"), (9, .long 64), (5, .class_ 27), (0, u "com/example/hazy_hash/hazyhash/TableLayout"), (0, .long 32), (4, .methodref 26 34), (0, .nameAndType 35 36), (0, u "choices"), (0, u "(II)J"), (3, .fieldref 26 41), (0, .nameAndType 42 43), (0, u "blocks"), (0, u "I"), (0, .fieldref 26 45), (0, .nameAndType 46 43), (0, u "blockBits"), (0, .fieldref 26 48), (0, .nameAndType 49 43), (0, u "chosen"), (6, u "(III)V"), (14, u "EVERY_PAIR"), (0, u "Lcom/example/hazy_hash/hazyhash/TableLayout;"), (14, u "isCompleteFor"), (0, u "(I)Z"), (38, .long 65), (13, u "MAX_PREFIX_BITS"), (2, u "MAX_TABLES"), (1, u "DISTANCES_A_STEP")] 61

def k4c0 : Code := { maxStack := 6, maxLocals := 4, code := prog_26_method_1_code, exceptionTable := #[], attributes := #[] }
def k4m0 : Method := { name := "<init>", desc := "(III)V", sig := { parameters := [.int, .int, .int], returnType := none }, accessFlags := 1, code := some k4c0 }
def k4c1 : Code := { maxStack := 2, maxLocals := 2, code := prog_26_method_7_code, exceptionTable := #[], attributes := #[] }
def k4m1 : Method := { name := "isCompleteFor", desc := "(I)Z", sig := { parameters := [.int], returnType := some .boolean }, accessFlags := 1, code := some k4c1 }
def k4c2 : Code := { maxStack := 4, maxLocals := 5, code := prog_26_method_14_code, exceptionTable := #[], attributes := #[] }
def k4m2 : Method := { name := "choices", desc := "(II)J", sig := { parameters := [.int, .int], returnType := some .long }, accessFlags := 10, code := some k4c2 }
/-- com/example/hazy_hash/hazyhash/TableLayout -/
def k4 : Class := { plain "com/example/hazy_hash/hazyhash/TableLayout" (some 3) with
  accessFlags := 49
  interfaces := #[]
  cf := some (fileOf pool4 26 #[] #[{ accessFlags := 1, nameIndex := 9, descriptorIndex := 56, attributes := #[] }, { accessFlags := 1, nameIndex := 87, descriptorIndex := 88, attributes := #[] }, { accessFlags := 10, nameIndex := 35, descriptorIndex := 36, attributes := #[] }] 49 6 #[] #[{ accessFlags := 18, nameIndex := 42, descriptorIndex := 43, attributes := #[] }, { accessFlags := 18, nameIndex := 46, descriptorIndex := 43, attributes := #[] }, { accessFlags := 18, nameIndex := 49, descriptorIndex := 43, attributes := #[] }, { accessFlags := 24, nameIndex := 141, descriptorIndex := 43, attributes := #[] }, { accessFlags := 24, nameIndex := 144, descriptorIndex := 43, attributes := #[] }, { accessFlags := 26, nameIndex := 146, descriptorIndex := 43, attributes := #[] }, { accessFlags := 25, nameIndex := 71, descriptorIndex := 72, attributes := #[] }])
  fields := #[{ name := "blocks", type := .int, accessFlags := 18, slot := 0, constantValue := 0 }, { name := "blockBits", type := .int, accessFlags := 18, slot := 1, constantValue := 0 }, { name := "chosen", type := .int, accessFlags := 18, slot := 2, constantValue := 0 }, { name := "MAX_PREFIX_BITS", type := .int, accessFlags := 24, slot := 0, constantValue := 0 }, { name := "MAX_TABLES", type := .int, accessFlags := 24, slot := 1, constantValue := 0 }, { name := "DISTANCES_A_STEP", type := .int, accessFlags := 26, slot := 2, constantValue := 0 }, { name := "EVERY_PAIR", type := (.object "com/example/hazy_hash/hazyhash/TableLayout"), accessFlags := 25, slot := 3, constantValue := 0 }]
  methods := #[k4m0, k4m1, k4m2]
  instanceTypes := #[.int, .int, .int]
  staticTypes := #[.int, .int, .int, (.object "com/example/hazy_hash/hazyhash/TableLayout")]
  resolved := Array.replicate 208 none
  statics := none }

def pool5 : Array CpInfo := pool [(1, u "java/lang/Cloneable"), (0, .class_ 1), (0, u "java/lang/Object"), (0, .class_ 3)] 3

/-- java/lang/Cloneable -/
def k5 : Class := { plain "java/lang/Cloneable" (some 0) with
  accessFlags := 1537
  interfaces := #[]
  cf := some (fileOf pool5 2 #[] #[] 1537 4 #[] #[])
  fields := #[]
  methods := #[]
  instanceTypes := #[]
  staticTypes := #[]
  resolved := Array.replicate 8 none
  statics := none }

def pool6 : Array CpInfo := pool [(1, u "java/io/Serializable"), (0, .class_ 1), (0, u "java/lang/Object"), (0, .class_ 3)] 3

/-- java/io/Serializable -/
def k6 : Class := { plain "java/io/Serializable" (some 0) with
  accessFlags := 1537
  interfaces := #[]
  cf := some (fileOf pool6 2 #[] #[] 1537 4 #[] #[])
  fields := #[]
  methods := #[]
  instanceTypes := #[]
  staticTypes := #[]
  resolved := Array.replicate 8 none
  statics := none }

/-- the primitive byte -/
def k7 : Class := { plain "byte" none with kind := .primitive 'B', accessFlags := 0x411 }
/-- [B -/
def k8 : Class := { plain "[B" (some 0) with kind := .array 7 .byte, interfaces := #[5, 6], accessFlags := 1041 }

/-- the primitive int -/
def k9 : Class := { plain "int" none with kind := .primitive 'I', accessFlags := 0x411 }
/-- [I -/
def k10 : Class := { plain "[I" (some 0) with kind := .array 9 .int, interfaces := #[5, 6], accessFlags := 1041 }

def heap : Heap := #[]
def classes : Array Class := #[k0, k1, k2, k3, k4, k5, k6, k7, k8, k9, k10]
def interned : List (Array UInt16 × Addr) := []
def slotsUsed : Nat := 0
def theMethod : MethodId := ⟨1, 1⟩
def args0 : Array Value := #[.int 3, .int 4, .int 5, .int 6, .int 7]
def aboutOver (below : List Frame) : State where
  vm := { classes := classes, interned := interned.toArray }
  heap := heap
  slotsUsed := slotsUsed
  threads := #[{ frames := .invoking theMethod args0 :: below }]
def below0 : List Frame := [.native { method := ⟨0, 0⟩, args := #[] }]
def about1 : State := aboutOver below0
def p0 : Program := .bare "" "" ""
def e0 : Env := launch0.env 0 0 0
theorem w_frames : about1.frames = Frame.invoking theMethod args0 :: below0 := rfl
set_option maxRecDepth 65536 in
theorem w_args : argsFit about1.vm theMethod args0 = true := by decide +kernel
set_option maxRecDepth 65536 in
theorem w_heap : heapFits about1 = true := by decide +kernel
set_option maxRecDepth 65536 in
theorem w_runnable : about1.curStatus? = some .runnable := by decide +kernel
set_option maxRecDepth 65536 in
theorem w_alone : about1.alone = true := by decide +kernel
set_option maxRecDepth 65536 in
theorem w_named : about1.methodNamed? x = some theMethod := by decide +kernel
set_option maxRecDepth 65536 in
theorem w_hears : about1.hears theMethod below0 = true := by decide +kernel
set_option maxRecDepth 65536 in
theorem w_ripe : about1.ripe theMethod args0 below0 = true := by decide +kernel
theorem w_running : about1.status = .running := rfl
set_option maxRecDepth 65536 in
theorem w_room : about1.hasRoom e0.platform room_1 = true :=
  launch0.hasRoom_least _ room_1 (by decide +kernel) (by decide +kernel) (by decide +kernel) (by decide +kernel) (by decide +kernel) (by decide +kernel)
theorem allAtoms_all (ts : List Jvm.Cond) (a : Array Jvm.Value) (st : Jvm.State) : (allAtoms ts).before a st = ts.all (fun c => c.before a st) := by
  induction ts with
  | nil => rfl
  | cons c t ih =>
    show (Jvm.Cond.and c (allAtoms t)).before a st = _
    rw [Jvm.Cond.before_and, ih, List.all_cons]
def words1 : List Jvm.Cond := Jvm.Cond.code x code maxLocals ret :: tables_1
/-- a 'code' word, met by the world's own term for the bytes: nothing is compared byte by byte -/
theorem code_word {y : MethodName} {bytes : ByteArray} {mx : Nat} {rt : Option FieldType} {a : Array Value} {s : State} {m : MethodId} {meth : Method} {c : Code} (h1 : s.methodNamed? y = some m) (h2 : s.vm.method? m = some meth) (h3 : meth.code = some c) (h4 : c.code = bytes)
    (h5 : (c.maxLocals == mx && c.exceptionTable.isEmpty && decide (c.maxStack ≤ mostOperands) && decide (meth.sig.returnType = rt) && !meth.locks && decide (parseMethodDescriptor y.desc = some meth.sig)) = true) : (Jvm.Cond.code y bytes mx rt).before a s = true := by
  simp only [Bool.and_eq_true, beq_iff_eq, Bool.not_eq_true', decide_eq_true_eq] at h5
  obtain ⟨⟨⟨⟨⟨g1, g2⟩, g3⟩, g4⟩, g5⟩, g6⟩ := h5
  simp [Cond.before, Cond.holds, Cond.value, h1, h2, h3, h4, g1, g2, g3, g4, g5, g6]
def isCode : Jvm.Cond → Bool
  | .code _ _ _ _ => true
  | _ => false
theorem all_split {L : List Jvm.Cond} {P : Jvm.Cond → Bool} (h1 : L.all (fun c => isCode c || P c) = true) (h2 : ∀ c ∈ L.filter isCode, P c = true) : L.all P = true := by
  refine List.all_eq_true.mpr fun c hc => ?_
  have h := List.all_eq_true.mp h1 c hc
  rcases Bool.eq_false_or_eq_true (isCode c) with hi | hi
  · exact h2 c (List.mem_filter.mpr ⟨hc, hi⟩)
  · simpa [hi] using h
set_option maxRecDepth 65536 in
theorem w_c0 : (Jvm.Cond.code x code maxLocals ret).before args0 about1 = true := code_word (m := ⟨1, 1⟩) (meth := k1m1) (c := k1c1) (by decide +kernel) rfl rfl rfl (by decide +kernel)
set_option maxRecDepth 65536 in
theorem w_c1 : (Jvm.Cond.code ({ cls := "java/lang/Math", name := "min", desc := "(II)I" } : Jvm.MethodName) jdk_29_method_69_code (2 : Nat) (Option.some Jvm.ClassFile.FieldType.int)).before args0 about1 = true := code_word (m := ⟨2, 2⟩) (meth := k2m2) (c := k2c2) (by decide +kernel) rfl rfl rfl (by decide +kernel)
set_option maxRecDepth 65536 in
theorem w_c2 : (Jvm.Cond.code ({ cls := "com/example/hazy_hash/hazyhash/TableLayout", name := "<init>", desc := "(III)V" } : Jvm.MethodName) prog_26_method_1_code (4 : Nat) (Option.none : Option Jvm.ClassFile.FieldType)).before args0 about1 = true := code_word (m := ⟨4, 0⟩) (meth := k4m0) (c := k4c0) (by decide +kernel) rfl rfl rfl (by decide +kernel)
set_option maxRecDepth 65536 in
theorem w_c3 : (Jvm.Cond.code ({ cls := "java/lang/Record", name := "<init>", desc := "()V" } : Jvm.MethodName) jdk_30_method_1_code (1 : Nat) (Option.none : Option Jvm.ClassFile.FieldType)).before args0 about1 = true := code_word (m := ⟨3, 0⟩) (meth := k3m0) (c := k3c0) (by decide +kernel) rfl rfl rfl (by decide +kernel)
set_option maxRecDepth 65536 in
theorem w_c4 : (Jvm.Cond.code ({ cls := "java/lang/Object", name := "<init>", desc := "()V" } : Jvm.MethodName) object_method_1_code (1 : Nat) (Option.none : Option Jvm.ClassFile.FieldType)).before args0 about1 = true := code_word (m := ⟨0, 0⟩) (meth := k0m0) (c := k0c0) (by decide +kernel) rfl rfl rfl (by decide +kernel)
set_option maxRecDepth 65536 in
theorem w_c5 : (Jvm.Cond.code ({ cls := "com/example/hazy_hash/hazyhash/TableLayout", name := "choices", desc := "(II)J" } : Jvm.MethodName) prog_26_method_14_code (5 : Nat) (Option.some Jvm.ClassFile.FieldType.long)).before args0 about1 = true := code_word (m := ⟨4, 2⟩) (meth := k4m2) (c := k4c2) (by decide +kernel) rfl rfl rfl (by decide +kernel)
set_option maxRecDepth 65536 in
theorem w_c6 : (Jvm.Cond.code ({ cls := "com/example/hazy_hash/hazyhash/TableLayout", name := "isCompleteFor", desc := "(I)Z" } : Jvm.MethodName) prog_26_method_7_code (2 : Nat) (Option.some Jvm.ClassFile.FieldType.boolean)).before args0 about1 = true := code_word (m := ⟨4, 1⟩) (meth := k4m1) (c := k4c1) (by decide +kernel) rfl rfl rfl (by decide +kernel)
set_option maxRecDepth 65536 in
theorem w_c7 : (Jvm.Cond.code ({ cls := "java/lang/Math", name := "max", desc := "(II)I" } : Jvm.MethodName) jdk_29_method_65_code (2 : Nat) (Option.some Jvm.ClassFile.FieldType.int)).before args0 about1 = true := code_word (m := ⟨2, 1⟩) (meth := k2m1) (c := k2c1) (by decide +kernel) rfl rfl rfl (by decide +kernel)
def codes1 : List Jvm.Cond := [Jvm.Cond.code x code maxLocals ret, Jvm.Cond.code ({ cls := "java/lang/Math", name := "min", desc := "(II)I" } : Jvm.MethodName) jdk_29_method_69_code (2 : Nat) (Option.some Jvm.ClassFile.FieldType.int), Jvm.Cond.code ({ cls := "com/example/hazy_hash/hazyhash/TableLayout", name := "<init>", desc := "(III)V" } : Jvm.MethodName) prog_26_method_1_code (4 : Nat) (Option.none : Option Jvm.ClassFile.FieldType), Jvm.Cond.code ({ cls := "java/lang/Record", name := "<init>", desc := "()V" } : Jvm.MethodName) jdk_30_method_1_code (1 : Nat) (Option.none : Option Jvm.ClassFile.FieldType), Jvm.Cond.code ({ cls := "java/lang/Object", name := "<init>", desc := "()V" } : Jvm.MethodName) object_method_1_code (1 : Nat) (Option.none : Option Jvm.ClassFile.FieldType), Jvm.Cond.code ({ cls := "com/example/hazy_hash/hazyhash/TableLayout", name := "choices", desc := "(II)J" } : Jvm.MethodName) prog_26_method_14_code (5 : Nat) (Option.some Jvm.ClassFile.FieldType.long), Jvm.Cond.code ({ cls := "com/example/hazy_hash/hazyhash/TableLayout", name := "isCompleteFor", desc := "(I)Z" } : Jvm.MethodName) prog_26_method_7_code (2 : Nat) (Option.some Jvm.ClassFile.FieldType.boolean), Jvm.Cond.code ({ cls := "java/lang/Math", name := "max", desc := "(II)I" } : Jvm.MethodName) jdk_29_method_65_code (2 : Nat) (Option.some Jvm.ClassFile.FieldType.int)]
set_option maxRecDepth 65536 in
theorem codes_eq : words1.filter isCode = codes1 := rfl
theorem w_codes : ∀ c ∈ words1.filter isCode, c.before args0 about1 = true := by
  rw [codes_eq]
  intro c hc
  simp only [codes1, List.mem_cons, List.not_mem_nil, or_false] at hc
  rcases hc with rfl | rfl | rfl | rfl | rfl | rfl | rfl | rfl
  · exact w_c0
  · exact w_c1
  · exact w_c2
  · exact w_c3
  · exact w_c4
  · exact w_c5
  · exact w_c6
  · exact w_c7
set_option maxRecDepth 65536 in
theorem w_t1 : (words1.take 24).all (fun c => isCode c || c.before args0 about1) = true := by decide +kernel
set_option maxRecDepth 65536 in
theorem w_t2 : (words1.drop 24).all (fun c => isCode c || c.before args0 about1) = true := by decide +kernel
theorem w_tables : (allAtoms (Jvm.Cond.code x code maxLocals ret :: tables_1)).before args0 about1 = true := by
  rw [allAtoms_all]
  show words1.all (fun c => c.before args0 about1) = true
  refine all_split ?_ w_codes
  rw [← List.take_append_drop 24 words1, List.all_append, w_t1, w_t2]
  rfl
set_option maxRecDepth 65536 in
theorem w_case : (Jvm.Cond.and given_1 narrow_1).before args0 about1 = true := by decide +kernel
theorem w_applies : (headSpec (Jvm.Cond.code x code maxLocals ret :: tables_1) room_1).applies x e0.platform about1 = true :=
  (Spec.applies_iff w_frames).mpr ⟨w_running, w_runnable, w_alone, w_named, w_hears, w_ripe, w_room, w_tables⟩
theorem atStart : AtStart classFile x code maxLocals ret World_1 tables_1 room_1 Calls_1 rest_1 Pre_1 launch0 p0 e0 about1 theMethod args0 below0 :=
  ⟨lists_1, trivial, launch0.admits_env _ _ _, launch0.least_env, fairChoices_fair.cas, fairChoices_fair.clock, w_frames, w_args, w_heap, w_applies, trivial, trivial, w_case⟩
end start1
theorem witness_1 : WitnessClaimed_1 := ⟨start1.p0, start1.e0, start1.about1, start1.theMethod, start1.args0, start1.below0, start1.atStart⟩
end Jvm.Pilot.@@N@@
