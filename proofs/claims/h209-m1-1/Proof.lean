import JvmDerived
import JvmDerived.Pilot.@@N@@Statement
import JvmDerived.Pilot.@@N@@Code
set_option linter.unusedVariables false
set_option linter.unusedSimpArgs false
namespace Jvm.RoadKit
open Sem ClassFile Op Lib Jvm.Stand Jvm.Free Jvm.LawKit
section New
variable {p : Program} {l : Launch} {e : Env} {R : Room} {s : State} {m : MethodId} {args : Array Value} {below : List Frame} {meth : Method} {c : Code} {T : State} {locs : List Loc} {cells slots : Nat}
theorem retI (X : Stand p l e R s m args below meth c T locs cells slots) (hx : p.tables.exec = Jvm.exec) {pc : Nat} {Ls : Array Slot} {z : Int32} {rest : List Value} (hret : meth.sig.returnType = some .int) (hd : decode c.code pc = .ok (.ireturn, 1)) {fs : List Frame}
    (hl : ∀ (f : JFrame) (acts : List Action), f.method = m → f.locked = none → f.entered = [] → (doReturn e (T.setTop f) acts (some (.int z))).1 = T.setFrames fs) : Steps p.tables e below (T.setTop (mkF m pc Ls (.int z :: rest))) (T.setFrames fs) := by
  have hm' : T.vm.method? m = some meth := X.method'
  have hn : narrow .int (.int z) = .int z := rfl
  show Steps p.tables e below (T.setTop { method := m, pc := pc, locals := Ls, stack := _ :: rest, locked := none }) _
  jvm_step X.here [X.here.top, hx, hd, hm', hret, hn]
  first | (intro acts; rw [hl _ acts rfl rfl rfl]) | rw [hl _ _ rfl rfl rfl]
  exact Steps.refl _
end New
end Jvm.RoadKit
namespace Jvm.Pilot.@@N@@
open Jvm Jvm.ClassFile Sem Op Lib Jvm.Free Jvm.Stand Jvm.LawKit Jvm.RoadKit Bundle Jvm.Pilot.@@N@@.Jvm.D

theorem own_go {tb : Tables} {e : Env} {below : List Frame} {A B : State} {Φ : State → Outcome → Prop} (st : ∀ t, Steps tb e below B t → Steps tb e below A t) (h : ∃ s₂ o, Steps tb e below B s₂ ∧ Φ s₂ o) : ∃ s₂ o, Steps tb e below A s₂ ∧ Φ s₂ o := by
  obtain ⟨t, o, h1, h2⟩ := h
  exact ⟨t, o, st t h1, h2⟩
theorem own_ifc {P Q : Prop} [Decidable P] [Decidable Q] {a b c d : Int32} (h : P ↔ Q) (h1 : a = c) (h2 : b = d) : (if P then a else b) = (if Q then c else d) := by
  subst h1 h2
  by_cases p : P
  · rw [if_pos p, if_pos (h.1 p)]
  · rw [if_neg p, if_neg (fun q => p (h.2 q))]
theorem d2_0 : decode prog_142_method_3_code 0 = .ok (.iload_n 0, 1) := by decide +kernel
theorem d2_1 : decode prog_142_method_3_code 1 = .ok (.bipush 65, 2) := by decide +kernel
theorem d2_3 : decode prog_142_method_3_code 3 = .ok (.if_icmp .lt 9, 3) := by decide +kernel
theorem d2_6 : decode prog_142_method_3_code 6 = .ok (.iload_n 0, 1) := by decide +kernel
theorem d2_7 : decode prog_142_method_3_code 7 = .ok (.bipush 90, 2) := by decide +kernel
theorem d2_9 : decode prog_142_method_3_code 9 = .ok (.if_icmp .le 182, 3) := by decide +kernel
theorem d2_12 : decode prog_142_method_3_code 12 = .ok (.iload_n 0, 1) := by decide +kernel
theorem d2_13 : decode prog_142_method_3_code 13 = .ok (.bipush 95, 2) := by decide +kernel
theorem d2_15 : decode prog_142_method_3_code 15 = .ok (.if_icmp .eq 176, 3) := by decide +kernel
theorem d2_18 : decode prog_142_method_3_code 18 = .ok (.iload_n 0, 1) := by decide +kernel
theorem d2_19 : decode prog_142_method_3_code 19 = .ok (.bipush 97, 2) := by decide +kernel
theorem d2_21 : decode prog_142_method_3_code 21 = .ok (.if_icmp .lt 9, 3) := by decide +kernel
theorem d2_24 : decode prog_142_method_3_code 24 = .ok (.iload_n 0, 1) := by decide +kernel
theorem d2_25 : decode prog_142_method_3_code 25 = .ok (.bipush 122, 2) := by decide +kernel
theorem d2_27 : decode prog_142_method_3_code 27 = .ok (.if_icmp .le 164, 3) := by decide +kernel
theorem d2_30 : decode prog_142_method_3_code 30 = .ok (.iload_n 0, 1) := by decide +kernel
theorem d2_31 : decode prog_142_method_3_code 31 = .ok (.sipush 192, 3) := by decide +kernel
theorem d2_34 : decode prog_142_method_3_code 34 = .ok (.if_icmp .lt 10, 3) := by decide +kernel
theorem d2_37 : decode prog_142_method_3_code 37 = .ok (.iload_n 0, 1) := by decide +kernel
theorem d2_38 : decode prog_142_method_3_code 38 = .ok (.sipush 214, 3) := by decide +kernel
theorem d2_41 : decode prog_142_method_3_code 41 = .ok (.if_icmp .le 150, 3) := by decide +kernel
theorem d2_44 : decode prog_142_method_3_code 44 = .ok (.iload_n 0, 1) := by decide +kernel
theorem d2_45 : decode prog_142_method_3_code 45 = .ok (.sipush 216, 3) := by decide +kernel
theorem d2_48 : decode prog_142_method_3_code 48 = .ok (.if_icmp .lt 10, 3) := by decide +kernel
theorem d2_51 : decode prog_142_method_3_code 51 = .ok (.iload_n 0, 1) := by decide +kernel
theorem d2_52 : decode prog_142_method_3_code 52 = .ok (.sipush 246, 3) := by decide +kernel
theorem d2_55 : decode prog_142_method_3_code 55 = .ok (.if_icmp .le 136, 3) := by decide +kernel
theorem d2_58 : decode prog_142_method_3_code 58 = .ok (.iload_n 0, 1) := by decide +kernel
theorem d2_59 : decode prog_142_method_3_code 59 = .ok (.sipush 248, 3) := by decide +kernel
theorem d2_62 : decode prog_142_method_3_code 62 = .ok (.if_icmp .lt 10, 3) := by decide +kernel
theorem d2_65 : decode prog_142_method_3_code 65 = .ok (.iload_n 0, 1) := by decide +kernel
theorem d2_66 : decode prog_142_method_3_code 66 = .ok (.sipush 767, 3) := by decide +kernel
theorem d2_69 : decode prog_142_method_3_code 69 = .ok (.if_icmp .le 122, 3) := by decide +kernel
theorem d2_72 : decode prog_142_method_3_code 72 = .ok (.iload_n 0, 1) := by decide +kernel
theorem d2_73 : decode prog_142_method_3_code 73 = .ok (.sipush 880, 3) := by decide +kernel
theorem d2_76 : decode prog_142_method_3_code 76 = .ok (.if_icmp .lt 10, 3) := by decide +kernel
theorem d2_79 : decode prog_142_method_3_code 79 = .ok (.iload_n 0, 1) := by decide +kernel
theorem d2_80 : decode prog_142_method_3_code 80 = .ok (.sipush 893, 3) := by decide +kernel
theorem d2_83 : decode prog_142_method_3_code 83 = .ok (.if_icmp .le 108, 3) := by decide +kernel
theorem d2_86 : decode prog_142_method_3_code 86 = .ok (.iload_n 0, 1) := by decide +kernel
theorem d2_87 : decode prog_142_method_3_code 87 = .ok (.sipush 895, 3) := by decide +kernel
theorem d2_90 : decode prog_142_method_3_code 90 = .ok (.if_icmp .lt 10, 3) := by decide +kernel
theorem d2_93 : decode prog_142_method_3_code 93 = .ok (.iload_n 0, 1) := by decide +kernel
theorem d2_94 : decode prog_142_method_3_code 94 = .ok (.sipush 8191, 3) := by decide +kernel
theorem d2_97 : decode prog_142_method_3_code 97 = .ok (.if_icmp .le 94, 3) := by decide +kernel
theorem d2_100 : decode prog_142_method_3_code 100 = .ok (.iload_n 0, 1) := by decide +kernel
theorem d2_101 : decode prog_142_method_3_code 101 = .ok (.sipush 8204, 3) := by decide +kernel
theorem d2_104 : decode prog_142_method_3_code 104 = .ok (.if_icmp .lt 10, 3) := by decide +kernel
theorem d2_107 : decode prog_142_method_3_code 107 = .ok (.iload_n 0, 1) := by decide +kernel
theorem d2_108 : decode prog_142_method_3_code 108 = .ok (.sipush 8205, 3) := by decide +kernel
theorem d2_111 : decode prog_142_method_3_code 111 = .ok (.if_icmp .le 80, 3) := by decide +kernel
theorem d2_114 : decode prog_142_method_3_code 114 = .ok (.iload_n 0, 1) := by decide +kernel
theorem d2_115 : decode prog_142_method_3_code 115 = .ok (.sipush 8304, 3) := by decide +kernel
theorem d2_118 : decode prog_142_method_3_code 118 = .ok (.if_icmp .lt 10, 3) := by decide +kernel
theorem d2_121 : decode prog_142_method_3_code 121 = .ok (.iload_n 0, 1) := by decide +kernel
theorem d2_122 : decode prog_142_method_3_code 122 = .ok (.sipush 8591, 3) := by decide +kernel
theorem d2_125 : decode prog_142_method_3_code 125 = .ok (.if_icmp .le 66, 3) := by decide +kernel
theorem d2_128 : decode prog_142_method_3_code 128 = .ok (.iload_n 0, 1) := by decide +kernel
theorem d2_129 : decode prog_142_method_3_code 129 = .ok (.sipush 11264, 3) := by decide +kernel
theorem d2_132 : decode prog_142_method_3_code 132 = .ok (.if_icmp .lt 10, 3) := by decide +kernel
theorem d2_135 : decode prog_142_method_3_code 135 = .ok (.iload_n 0, 1) := by decide +kernel
theorem d2_136 : decode prog_142_method_3_code 136 = .ok (.sipush 12271, 3) := by decide +kernel
theorem d2_139 : decode prog_142_method_3_code 139 = .ok (.if_icmp .le 52, 3) := by decide +kernel
theorem d2_142 : decode prog_142_method_3_code 142 = .ok (.iload_n 0, 1) := by decide +kernel
theorem d2_143 : decode prog_142_method_3_code 143 = .ok (.sipush 12289, 3) := by decide +kernel
theorem d2_146 : decode prog_142_method_3_code 146 = .ok (.if_icmp .lt 9, 3) := by decide +kernel
theorem d2_149 : decode prog_142_method_3_code 149 = .ok (.iload_n 0, 1) := by decide +kernel
theorem d2_150 : decode prog_142_method_3_code 150 = .ok (.ldc 34, 2) := by decide +kernel
theorem d2_152 : decode prog_142_method_3_code 152 = .ok (.if_icmp .le 39, 3) := by decide +kernel
theorem d2_155 : decode prog_142_method_3_code 155 = .ok (.iload_n 0, 1) := by decide +kernel
theorem d2_156 : decode prog_142_method_3_code 156 = .ok (.ldc 35, 2) := by decide +kernel
theorem d2_158 : decode prog_142_method_3_code 158 = .ok (.if_icmp .lt 9, 3) := by decide +kernel
theorem d2_161 : decode prog_142_method_3_code 161 = .ok (.iload_n 0, 1) := by decide +kernel
theorem d2_162 : decode prog_142_method_3_code 162 = .ok (.ldc 36, 2) := by decide +kernel
theorem d2_164 : decode prog_142_method_3_code 164 = .ok (.if_icmp .le 27, 3) := by decide +kernel
theorem d2_167 : decode prog_142_method_3_code 167 = .ok (.iload_n 0, 1) := by decide +kernel
theorem d2_168 : decode prog_142_method_3_code 168 = .ok (.ldc 37, 2) := by decide +kernel
theorem d2_170 : decode prog_142_method_3_code 170 = .ok (.if_icmp .lt 9, 3) := by decide +kernel
theorem d2_173 : decode prog_142_method_3_code 173 = .ok (.iload_n 0, 1) := by decide +kernel
theorem d2_174 : decode prog_142_method_3_code 174 = .ok (.ldc 38, 2) := by decide +kernel
theorem d2_176 : decode prog_142_method_3_code 176 = .ok (.if_icmp .le 15, 3) := by decide +kernel
theorem d2_179 : decode prog_142_method_3_code 179 = .ok (.iload_n 0, 1) := by decide +kernel
theorem d2_180 : decode prog_142_method_3_code 180 = .ok (.ldc 39, 2) := by decide +kernel
theorem d2_182 : decode prog_142_method_3_code 182 = .ok (.if_icmp .lt 13, 3) := by decide +kernel
theorem d2_185 : decode prog_142_method_3_code 185 = .ok (.iload_n 0, 1) := by decide +kernel
theorem d2_186 : decode prog_142_method_3_code 186 = .ok (.ldc 40, 2) := by decide +kernel
theorem d2_188 : decode prog_142_method_3_code 188 = .ok (.if_icmp .gt 7, 3) := by decide +kernel
theorem d2_191 : decode prog_142_method_3_code 191 = .ok (.iconst 1, 1) := by decide +kernel
theorem d2_192 : decode prog_142_method_3_code 192 = .ok (.goto 4, 3) := by decide +kernel
theorem d2_195 : decode prog_142_method_3_code 195 = .ok (.iconst 0, 1) := by decide +kernel
theorem d2_196 : decode prog_142_method_3_code 196 = .ok (.ireturn, 1) := by decide +kernel
def own2_f191 (p0 : Int32) : Int32 := (1 : Int32)
theorem own2_e191 (p0 : Int32) : (own2_f191 p0) = (1 : Int32) := rfl
set_option maxRecDepth 65536 in
set_option maxHeartbeats 40000000 in
theorem own2_b191 {p : Program} {l : Launch} {e : Env} {R : Room} {s : State} {m : MethodId} {args : Array Value} {below : List Frame} {meth : Method} {c : Code} {T0 : State} {locs : List Loc} {cells slots : Nat} {Z : State} {t0 : Array Value} {h0 : Heap} (p0 : Int32) (X0 : Stand p l e R s m args below meth c T0 locs cells slots) (hx : p.tables.exec = Jvm.exec) (hZ : Z.Warmed39 s.vm) (hw : ∀ d ∈ tables_1, d.before t0 Z = true) (hby : c.code = prog_142_method_3_code) (hown : s.vm.findClass "com/example/crisp_events/crispevents/xml/XmlNames" = some m.cls) (e0 : T0.heap = h0)  (hret : meth.sig.returnType = some .boolean) {fs : List Frame} (hr : ∀ (f : JFrame) (acts : List Action), f.method = m → f.locked = none → f.entered = [] → (doReturn e (T0.setTop f) acts (some (.int (own2_f191 p0)))).1 = T0.setFrames fs) : Steps p.tables e below (T0.setTop (mkF m 191 #[.val (.int p0)] [])) (T0.setFrames fs) := by
  rw [own2_e191] at hr
  show Steps p.tables e below (T0.setTop (mkF m 191 #[.val (.int p0)] [])) _
  refine XS.iconst X0.here hx rfl (hb hby d2_191) ?_
  show Steps p.tables e below (T0.setTop (mkF m 192 #[.val (.int p0)] [(.int (1 : Int32))])) _
  refine XS.goto X0.here hx rfl (pc0 := 192) (pc' := 196) rfl (hb hby d2_192) (by decide) (by decide) ?_
  show Steps p.tables e below (T0.setTop (mkF m 196 #[.val (.int p0)] [(.int (1 : Int32))])) _
  exact retN X0 hx (t := .boolean) hret (by simp) (hb hby d2_196) hr
def own2_f195 (p0 : Int32) : Int32 := (0 : Int32)
theorem own2_e195 (p0 : Int32) : (own2_f195 p0) = (0 : Int32) := rfl
set_option maxRecDepth 65536 in
set_option maxHeartbeats 40000000 in
theorem own2_b195 {p : Program} {l : Launch} {e : Env} {R : Room} {s : State} {m : MethodId} {args : Array Value} {below : List Frame} {meth : Method} {c : Code} {T0 : State} {locs : List Loc} {cells slots : Nat} {Z : State} {t0 : Array Value} {h0 : Heap} (p0 : Int32) (X0 : Stand p l e R s m args below meth c T0 locs cells slots) (hx : p.tables.exec = Jvm.exec) (hZ : Z.Warmed39 s.vm) (hw : ∀ d ∈ tables_1, d.before t0 Z = true) (hby : c.code = prog_142_method_3_code) (hown : s.vm.findClass "com/example/crisp_events/crispevents/xml/XmlNames" = some m.cls) (e0 : T0.heap = h0)  (hret : meth.sig.returnType = some .boolean) {fs : List Frame} (hr : ∀ (f : JFrame) (acts : List Action), f.method = m → f.locked = none → f.entered = [] → (doReturn e (T0.setTop f) acts (some (.int (own2_f195 p0)))).1 = T0.setFrames fs) : Steps p.tables e below (T0.setTop (mkF m 195 #[.val (.int p0)] [])) (T0.setFrames fs) := by
  rw [own2_e195] at hr
  show Steps p.tables e below (T0.setTop (mkF m 195 #[.val (.int p0)] [])) _
  refine XS.iconst X0.here hx rfl (hb hby d2_195) ?_
  show Steps p.tables e below (T0.setTop (mkF m 196 #[.val (.int p0)] [(.int (0 : Int32))])) _
  exact retN X0 hx (t := .boolean) hret (by simp) (hb hby d2_196) hr
def own2_f179 (p0 : Int32) : Int32 := (if p0 < (65536 : Int32) then (own2_f195 p0) else (if (983039 : Int32) < p0 then (own2_f195 p0) else (own2_f191 p0)))
theorem own2_e179 (p0 : Int32) : (own2_f179 p0) = (if p0 < (65536 : Int32) then (own2_f195 p0) else (if (983039 : Int32) < p0 then (own2_f195 p0) else (own2_f191 p0))) := rfl
set_option maxRecDepth 65536 in
set_option maxHeartbeats 40000000 in
theorem own2_b179 {p : Program} {l : Launch} {e : Env} {R : Room} {s : State} {m : MethodId} {args : Array Value} {below : List Frame} {meth : Method} {c : Code} {T0 : State} {locs : List Loc} {cells slots : Nat} {Z : State} {t0 : Array Value} {h0 : Heap} (p0 : Int32) (X0 : Stand p l e R s m args below meth c T0 locs cells slots) (hx : p.tables.exec = Jvm.exec) (hZ : Z.Warmed39 s.vm) (hw : ∀ d ∈ tables_1, d.before t0 Z = true) (hby : c.code = prog_142_method_3_code) (hown : s.vm.findClass "com/example/crisp_events/crispevents/xml/XmlNames" = some m.cls) (e0 : T0.heap = h0)  (hret : meth.sig.returnType = some .boolean) {fs : List Frame} (hr : ∀ (f : JFrame) (acts : List Action), f.method = m → f.locked = none → f.entered = [] → (doReturn e (T0.setTop f) acts (some (.int (own2_f179 p0)))).1 = T0.setFrames fs) : Steps p.tables e below (T0.setTop (mkF m 179 #[.val (.int p0)] [])) (T0.setFrames fs) := by
  rw [own2_e179] at hr
  show Steps p.tables e below (T0.setTop (mkF m 179 #[.val (.int p0)] [])) _
  refine XS.iloadN X0.here hx rfl (hb hby d2_179) rfl ?_
  show Steps p.tables e below (T0.setTop (mkF m 180 #[.val (.int p0)] [(.int p0)])) _
  refine X0.ldcInt hx hown (mvT hZ (hw _ (List.mem_of_getElem? (i := 19) rfl))) (g := (mkF m 180 #[.val (.int p0)] [(.int p0)])) rfl (hb hby d2_180) _ ?_
  by_cases hc182 : p0 < (65536 : Int32)
  · rw [if_pos hc182] at hr
    show Steps p.tables e below (T0.setTop (mkF m 182 #[.val (.int p0)] [(.int (65536 : Int32)), (.int p0)])) _
    refine XS.icmpYes X0.here hx rfl (pc0 := 182) (pc' := 195) rfl (hb hby d2_182) rfl (tlt hc182).1 (by decide) (by decide) ?_
    exact own2_b195 p0 X0 hx hZ hw hby hown e0  hret hr
  · rw [if_neg hc182] at hr
    show Steps p.tables e below (T0.setTop (mkF m 182 #[.val (.int p0)] [(.int (65536 : Int32)), (.int p0)])) _
    refine XS.icmpNo X0.here hx rfl (hb hby d2_182) rfl (flt hc182).1 ?_
    show Steps p.tables e below (T0.setTop (mkF m 185 #[.val (.int p0)] [])) _
    refine XS.iloadN X0.here hx rfl (hb hby d2_185) rfl ?_
    show Steps p.tables e below (T0.setTop (mkF m 186 #[.val (.int p0)] [(.int p0)])) _
    refine X0.ldcInt hx hown (mvT hZ (hw _ (List.mem_of_getElem? (i := 29) rfl))) (g := (mkF m 186 #[.val (.int p0)] [(.int p0)])) rfl (hb hby d2_186) _ ?_
    by_cases hc188 : (983039 : Int32) < p0
    · rw [if_pos hc188] at hr
      show Steps p.tables e below (T0.setTop (mkF m 188 #[.val (.int p0)] [(.int (983039 : Int32)), (.int p0)])) _
      refine XS.icmpYes X0.here hx rfl (pc0 := 188) (pc' := 195) rfl (hb hby d2_188) rfl (tlt hc188).2.2.1 (by decide) (by decide) ?_
      exact own2_b195 p0 X0 hx hZ hw hby hown e0  hret hr
    · rw [if_neg hc188] at hr
      show Steps p.tables e below (T0.setTop (mkF m 188 #[.val (.int p0)] [(.int (983039 : Int32)), (.int p0)])) _
      refine XS.icmpNo X0.here hx rfl (hb hby d2_188) rfl (flt hc188).2.2.1 ?_
      exact own2_b191 p0 X0 hx hZ hw hby hown e0  hret hr
def own2_f167 (p0 : Int32) : Int32 := (if p0 < (65008 : Int32) then (own2_f179 p0) else (if (65533 : Int32) < p0 then (own2_f179 p0) else (own2_f191 p0)))
theorem own2_e167 (p0 : Int32) : (own2_f167 p0) = (if p0 < (65008 : Int32) then (own2_f179 p0) else (if (65533 : Int32) < p0 then (own2_f179 p0) else (own2_f191 p0))) := rfl
set_option maxRecDepth 65536 in
set_option maxHeartbeats 40000000 in
theorem own2_b167 {p : Program} {l : Launch} {e : Env} {R : Room} {s : State} {m : MethodId} {args : Array Value} {below : List Frame} {meth : Method} {c : Code} {T0 : State} {locs : List Loc} {cells slots : Nat} {Z : State} {t0 : Array Value} {h0 : Heap} (p0 : Int32) (X0 : Stand p l e R s m args below meth c T0 locs cells slots) (hx : p.tables.exec = Jvm.exec) (hZ : Z.Warmed39 s.vm) (hw : ∀ d ∈ tables_1, d.before t0 Z = true) (hby : c.code = prog_142_method_3_code) (hown : s.vm.findClass "com/example/crisp_events/crispevents/xml/XmlNames" = some m.cls) (e0 : T0.heap = h0)  (hret : meth.sig.returnType = some .boolean) {fs : List Frame} (hr : ∀ (f : JFrame) (acts : List Action), f.method = m → f.locked = none → f.entered = [] → (doReturn e (T0.setTop f) acts (some (.int (own2_f167 p0)))).1 = T0.setFrames fs) : Steps p.tables e below (T0.setTop (mkF m 167 #[.val (.int p0)] [])) (T0.setFrames fs) := by
  rw [own2_e167] at hr
  show Steps p.tables e below (T0.setTop (mkF m 167 #[.val (.int p0)] [])) _
  refine XS.iloadN X0.here hx rfl (hb hby d2_167) rfl ?_
  show Steps p.tables e below (T0.setTop (mkF m 168 #[.val (.int p0)] [(.int p0)])) _
  refine X0.ldcInt hx hown (mvT hZ (hw _ (List.mem_of_getElem? (i := 18) rfl))) (g := (mkF m 168 #[.val (.int p0)] [(.int p0)])) rfl (hb hby d2_168) _ ?_
  by_cases hc170 : p0 < (65008 : Int32)
  · rw [if_pos hc170] at hr
    show Steps p.tables e below (T0.setTop (mkF m 170 #[.val (.int p0)] [(.int (65008 : Int32)), (.int p0)])) _
    refine XS.icmpYes X0.here hx rfl (pc0 := 170) (pc' := 179) rfl (hb hby d2_170) rfl (tlt hc170).1 (by decide) (by decide) ?_
    exact own2_b179 p0 X0 hx hZ hw hby hown e0  hret hr
  · rw [if_neg hc170] at hr
    show Steps p.tables e below (T0.setTop (mkF m 170 #[.val (.int p0)] [(.int (65008 : Int32)), (.int p0)])) _
    refine XS.icmpNo X0.here hx rfl (hb hby d2_170) rfl (flt hc170).1 ?_
    show Steps p.tables e below (T0.setTop (mkF m 173 #[.val (.int p0)] [])) _
    refine XS.iloadN X0.here hx rfl (hb hby d2_173) rfl ?_
    show Steps p.tables e below (T0.setTop (mkF m 174 #[.val (.int p0)] [(.int p0)])) _
    refine X0.ldcInt hx hown (mvT hZ (hw _ (List.mem_of_getElem? (i := 28) rfl))) (g := (mkF m 174 #[.val (.int p0)] [(.int p0)])) rfl (hb hby d2_174) _ ?_
    by_cases hc176 : (65533 : Int32) < p0
    · rw [if_pos hc176] at hr
      show Steps p.tables e below (T0.setTop (mkF m 176 #[.val (.int p0)] [(.int (65533 : Int32)), (.int p0)])) _
      refine XS.icmpNo X0.here hx rfl (hb hby d2_176) rfl (tlt hc176).2.2.2 ?_
      exact own2_b179 p0 X0 hx hZ hw hby hown e0  hret hr
    · rw [if_neg hc176] at hr
      show Steps p.tables e below (T0.setTop (mkF m 176 #[.val (.int p0)] [(.int (65533 : Int32)), (.int p0)])) _
      refine XS.icmpYes X0.here hx rfl (pc0 := 176) (pc' := 191) rfl (hb hby d2_176) rfl (flt hc176).2.2.2 (by decide) (by decide) ?_
      exact own2_b191 p0 X0 hx hZ hw hby hown e0  hret hr
def own2_f155 (p0 : Int32) : Int32 := (if p0 < (63744 : Int32) then (own2_f167 p0) else (if (64975 : Int32) < p0 then (own2_f167 p0) else (own2_f191 p0)))
theorem own2_e155 (p0 : Int32) : (own2_f155 p0) = (if p0 < (63744 : Int32) then (own2_f167 p0) else (if (64975 : Int32) < p0 then (own2_f167 p0) else (own2_f191 p0))) := rfl
set_option maxRecDepth 65536 in
set_option maxHeartbeats 40000000 in
theorem own2_b155 {p : Program} {l : Launch} {e : Env} {R : Room} {s : State} {m : MethodId} {args : Array Value} {below : List Frame} {meth : Method} {c : Code} {T0 : State} {locs : List Loc} {cells slots : Nat} {Z : State} {t0 : Array Value} {h0 : Heap} (p0 : Int32) (X0 : Stand p l e R s m args below meth c T0 locs cells slots) (hx : p.tables.exec = Jvm.exec) (hZ : Z.Warmed39 s.vm) (hw : ∀ d ∈ tables_1, d.before t0 Z = true) (hby : c.code = prog_142_method_3_code) (hown : s.vm.findClass "com/example/crisp_events/crispevents/xml/XmlNames" = some m.cls) (e0 : T0.heap = h0)  (hret : meth.sig.returnType = some .boolean) {fs : List Frame} (hr : ∀ (f : JFrame) (acts : List Action), f.method = m → f.locked = none → f.entered = [] → (doReturn e (T0.setTop f) acts (some (.int (own2_f155 p0)))).1 = T0.setFrames fs) : Steps p.tables e below (T0.setTop (mkF m 155 #[.val (.int p0)] [])) (T0.setFrames fs) := by
  rw [own2_e155] at hr
  show Steps p.tables e below (T0.setTop (mkF m 155 #[.val (.int p0)] [])) _
  refine XS.iloadN X0.here hx rfl (hb hby d2_155) rfl ?_
  show Steps p.tables e below (T0.setTop (mkF m 156 #[.val (.int p0)] [(.int p0)])) _
  refine X0.ldcInt hx hown (mvT hZ (hw _ (List.mem_of_getElem? (i := 17) rfl))) (g := (mkF m 156 #[.val (.int p0)] [(.int p0)])) rfl (hb hby d2_156) _ ?_
  by_cases hc158 : p0 < (63744 : Int32)
  · rw [if_pos hc158] at hr
    show Steps p.tables e below (T0.setTop (mkF m 158 #[.val (.int p0)] [(.int (63744 : Int32)), (.int p0)])) _
    refine XS.icmpYes X0.here hx rfl (pc0 := 158) (pc' := 167) rfl (hb hby d2_158) rfl (tlt hc158).1 (by decide) (by decide) ?_
    exact own2_b167 p0 X0 hx hZ hw hby hown e0  hret hr
  · rw [if_neg hc158] at hr
    show Steps p.tables e below (T0.setTop (mkF m 158 #[.val (.int p0)] [(.int (63744 : Int32)), (.int p0)])) _
    refine XS.icmpNo X0.here hx rfl (hb hby d2_158) rfl (flt hc158).1 ?_
    show Steps p.tables e below (T0.setTop (mkF m 161 #[.val (.int p0)] [])) _
    refine XS.iloadN X0.here hx rfl (hb hby d2_161) rfl ?_
    show Steps p.tables e below (T0.setTop (mkF m 162 #[.val (.int p0)] [(.int p0)])) _
    refine X0.ldcInt hx hown (mvT hZ (hw _ (List.mem_of_getElem? (i := 27) rfl))) (g := (mkF m 162 #[.val (.int p0)] [(.int p0)])) rfl (hb hby d2_162) _ ?_
    by_cases hc164 : (64975 : Int32) < p0
    · rw [if_pos hc164] at hr
      show Steps p.tables e below (T0.setTop (mkF m 164 #[.val (.int p0)] [(.int (64975 : Int32)), (.int p0)])) _
      refine XS.icmpNo X0.here hx rfl (hb hby d2_164) rfl (tlt hc164).2.2.2 ?_
      exact own2_b167 p0 X0 hx hZ hw hby hown e0  hret hr
    · rw [if_neg hc164] at hr
      show Steps p.tables e below (T0.setTop (mkF m 164 #[.val (.int p0)] [(.int (64975 : Int32)), (.int p0)])) _
      refine XS.icmpYes X0.here hx rfl (pc0 := 164) (pc' := 191) rfl (hb hby d2_164) rfl (flt hc164).2.2.2 (by decide) (by decide) ?_
      exact own2_b191 p0 X0 hx hZ hw hby hown e0  hret hr
def own2_f142 (p0 : Int32) : Int32 := (if p0 < (12289 : Int32) then (own2_f155 p0) else (if (55295 : Int32) < p0 then (own2_f155 p0) else (own2_f191 p0)))
theorem own2_e142 (p0 : Int32) : (own2_f142 p0) = (if p0 < (12289 : Int32) then (own2_f155 p0) else (if (55295 : Int32) < p0 then (own2_f155 p0) else (own2_f191 p0))) := rfl
set_option maxRecDepth 65536 in
set_option maxHeartbeats 40000000 in
theorem own2_b142 {p : Program} {l : Launch} {e : Env} {R : Room} {s : State} {m : MethodId} {args : Array Value} {below : List Frame} {meth : Method} {c : Code} {T0 : State} {locs : List Loc} {cells slots : Nat} {Z : State} {t0 : Array Value} {h0 : Heap} (p0 : Int32) (X0 : Stand p l e R s m args below meth c T0 locs cells slots) (hx : p.tables.exec = Jvm.exec) (hZ : Z.Warmed39 s.vm) (hw : ∀ d ∈ tables_1, d.before t0 Z = true) (hby : c.code = prog_142_method_3_code) (hown : s.vm.findClass "com/example/crisp_events/crispevents/xml/XmlNames" = some m.cls) (e0 : T0.heap = h0)  (hret : meth.sig.returnType = some .boolean) {fs : List Frame} (hr : ∀ (f : JFrame) (acts : List Action), f.method = m → f.locked = none → f.entered = [] → (doReturn e (T0.setTop f) acts (some (.int (own2_f142 p0)))).1 = T0.setFrames fs) : Steps p.tables e below (T0.setTop (mkF m 142 #[.val (.int p0)] [])) (T0.setFrames fs) := by
  rw [own2_e142] at hr
  show Steps p.tables e below (T0.setTop (mkF m 142 #[.val (.int p0)] [])) _
  refine XS.iloadN X0.here hx rfl (hb hby d2_142) rfl ?_
  show Steps p.tables e below (T0.setTop (mkF m 143 #[.val (.int p0)] [(.int p0)])) _
  refine XS.sipush X0.here hx rfl (hb hby d2_143) ?_
  by_cases hc146 : p0 < (12289 : Int32)
  · rw [if_pos hc146] at hr
    show Steps p.tables e below (T0.setTop (mkF m 146 #[.val (.int p0)] [(.int (12289 : Int32)), (.int p0)])) _
    refine XS.icmpYes X0.here hx rfl (pc0 := 146) (pc' := 155) rfl (hb hby d2_146) rfl (tlt hc146).1 (by decide) (by decide) ?_
    exact own2_b155 p0 X0 hx hZ hw hby hown e0  hret hr
  · rw [if_neg hc146] at hr
    show Steps p.tables e below (T0.setTop (mkF m 146 #[.val (.int p0)] [(.int (12289 : Int32)), (.int p0)])) _
    refine XS.icmpNo X0.here hx rfl (hb hby d2_146) rfl (flt hc146).1 ?_
    show Steps p.tables e below (T0.setTop (mkF m 149 #[.val (.int p0)] [])) _
    refine XS.iloadN X0.here hx rfl (hb hby d2_149) rfl ?_
    show Steps p.tables e below (T0.setTop (mkF m 150 #[.val (.int p0)] [(.int p0)])) _
    refine X0.ldcInt hx hown (mvT hZ (hw _ (List.mem_of_getElem? (i := 26) rfl))) (g := (mkF m 150 #[.val (.int p0)] [(.int p0)])) rfl (hb hby d2_150) _ ?_
    by_cases hc152 : (55295 : Int32) < p0
    · rw [if_pos hc152] at hr
      show Steps p.tables e below (T0.setTop (mkF m 152 #[.val (.int p0)] [(.int (55295 : Int32)), (.int p0)])) _
      refine XS.icmpNo X0.here hx rfl (hb hby d2_152) rfl (tlt hc152).2.2.2 ?_
      exact own2_b155 p0 X0 hx hZ hw hby hown e0  hret hr
    · rw [if_neg hc152] at hr
      show Steps p.tables e below (T0.setTop (mkF m 152 #[.val (.int p0)] [(.int (55295 : Int32)), (.int p0)])) _
      refine XS.icmpYes X0.here hx rfl (pc0 := 152) (pc' := 191) rfl (hb hby d2_152) rfl (flt hc152).2.2.2 (by decide) (by decide) ?_
      exact own2_b191 p0 X0 hx hZ hw hby hown e0  hret hr
def own2_f128 (p0 : Int32) : Int32 := (if p0 < (11264 : Int32) then (own2_f142 p0) else (if (12271 : Int32) < p0 then (own2_f142 p0) else (own2_f191 p0)))
theorem own2_e128 (p0 : Int32) : (own2_f128 p0) = (if p0 < (11264 : Int32) then (own2_f142 p0) else (if (12271 : Int32) < p0 then (own2_f142 p0) else (own2_f191 p0))) := rfl
set_option maxRecDepth 65536 in
set_option maxHeartbeats 40000000 in
theorem own2_b128 {p : Program} {l : Launch} {e : Env} {R : Room} {s : State} {m : MethodId} {args : Array Value} {below : List Frame} {meth : Method} {c : Code} {T0 : State} {locs : List Loc} {cells slots : Nat} {Z : State} {t0 : Array Value} {h0 : Heap} (p0 : Int32) (X0 : Stand p l e R s m args below meth c T0 locs cells slots) (hx : p.tables.exec = Jvm.exec) (hZ : Z.Warmed39 s.vm) (hw : ∀ d ∈ tables_1, d.before t0 Z = true) (hby : c.code = prog_142_method_3_code) (hown : s.vm.findClass "com/example/crisp_events/crispevents/xml/XmlNames" = some m.cls) (e0 : T0.heap = h0)  (hret : meth.sig.returnType = some .boolean) {fs : List Frame} (hr : ∀ (f : JFrame) (acts : List Action), f.method = m → f.locked = none → f.entered = [] → (doReturn e (T0.setTop f) acts (some (.int (own2_f128 p0)))).1 = T0.setFrames fs) : Steps p.tables e below (T0.setTop (mkF m 128 #[.val (.int p0)] [])) (T0.setFrames fs) := by
  rw [own2_e128] at hr
  show Steps p.tables e below (T0.setTop (mkF m 128 #[.val (.int p0)] [])) _
  refine XS.iloadN X0.here hx rfl (hb hby d2_128) rfl ?_
  show Steps p.tables e below (T0.setTop (mkF m 129 #[.val (.int p0)] [(.int p0)])) _
  refine XS.sipush X0.here hx rfl (hb hby d2_129) ?_
  by_cases hc132 : p0 < (11264 : Int32)
  · rw [if_pos hc132] at hr
    show Steps p.tables e below (T0.setTop (mkF m 132 #[.val (.int p0)] [(.int (11264 : Int32)), (.int p0)])) _
    refine XS.icmpYes X0.here hx rfl (pc0 := 132) (pc' := 142) rfl (hb hby d2_132) rfl (tlt hc132).1 (by decide) (by decide) ?_
    exact own2_b142 p0 X0 hx hZ hw hby hown e0  hret hr
  · rw [if_neg hc132] at hr
    show Steps p.tables e below (T0.setTop (mkF m 132 #[.val (.int p0)] [(.int (11264 : Int32)), (.int p0)])) _
    refine XS.icmpNo X0.here hx rfl (hb hby d2_132) rfl (flt hc132).1 ?_
    show Steps p.tables e below (T0.setTop (mkF m 135 #[.val (.int p0)] [])) _
    refine XS.iloadN X0.here hx rfl (hb hby d2_135) rfl ?_
    show Steps p.tables e below (T0.setTop (mkF m 136 #[.val (.int p0)] [(.int p0)])) _
    refine XS.sipush X0.here hx rfl (hb hby d2_136) ?_
    by_cases hc139 : (12271 : Int32) < p0
    · rw [if_pos hc139] at hr
      show Steps p.tables e below (T0.setTop (mkF m 139 #[.val (.int p0)] [(.int (12271 : Int32)), (.int p0)])) _
      refine XS.icmpNo X0.here hx rfl (hb hby d2_139) rfl (tlt hc139).2.2.2 ?_
      exact own2_b142 p0 X0 hx hZ hw hby hown e0  hret hr
    · rw [if_neg hc139] at hr
      show Steps p.tables e below (T0.setTop (mkF m 139 #[.val (.int p0)] [(.int (12271 : Int32)), (.int p0)])) _
      refine XS.icmpYes X0.here hx rfl (pc0 := 139) (pc' := 191) rfl (hb hby d2_139) rfl (flt hc139).2.2.2 (by decide) (by decide) ?_
      exact own2_b191 p0 X0 hx hZ hw hby hown e0  hret hr
def own2_f114 (p0 : Int32) : Int32 := (if p0 < (8304 : Int32) then (own2_f128 p0) else (if (8591 : Int32) < p0 then (own2_f128 p0) else (own2_f191 p0)))
theorem own2_e114 (p0 : Int32) : (own2_f114 p0) = (if p0 < (8304 : Int32) then (own2_f128 p0) else (if (8591 : Int32) < p0 then (own2_f128 p0) else (own2_f191 p0))) := rfl
set_option maxRecDepth 65536 in
set_option maxHeartbeats 40000000 in
theorem own2_b114 {p : Program} {l : Launch} {e : Env} {R : Room} {s : State} {m : MethodId} {args : Array Value} {below : List Frame} {meth : Method} {c : Code} {T0 : State} {locs : List Loc} {cells slots : Nat} {Z : State} {t0 : Array Value} {h0 : Heap} (p0 : Int32) (X0 : Stand p l e R s m args below meth c T0 locs cells slots) (hx : p.tables.exec = Jvm.exec) (hZ : Z.Warmed39 s.vm) (hw : ∀ d ∈ tables_1, d.before t0 Z = true) (hby : c.code = prog_142_method_3_code) (hown : s.vm.findClass "com/example/crisp_events/crispevents/xml/XmlNames" = some m.cls) (e0 : T0.heap = h0)  (hret : meth.sig.returnType = some .boolean) {fs : List Frame} (hr : ∀ (f : JFrame) (acts : List Action), f.method = m → f.locked = none → f.entered = [] → (doReturn e (T0.setTop f) acts (some (.int (own2_f114 p0)))).1 = T0.setFrames fs) : Steps p.tables e below (T0.setTop (mkF m 114 #[.val (.int p0)] [])) (T0.setFrames fs) := by
  rw [own2_e114] at hr
  show Steps p.tables e below (T0.setTop (mkF m 114 #[.val (.int p0)] [])) _
  refine XS.iloadN X0.here hx rfl (hb hby d2_114) rfl ?_
  show Steps p.tables e below (T0.setTop (mkF m 115 #[.val (.int p0)] [(.int p0)])) _
  refine XS.sipush X0.here hx rfl (hb hby d2_115) ?_
  by_cases hc118 : p0 < (8304 : Int32)
  · rw [if_pos hc118] at hr
    show Steps p.tables e below (T0.setTop (mkF m 118 #[.val (.int p0)] [(.int (8304 : Int32)), (.int p0)])) _
    refine XS.icmpYes X0.here hx rfl (pc0 := 118) (pc' := 128) rfl (hb hby d2_118) rfl (tlt hc118).1 (by decide) (by decide) ?_
    exact own2_b128 p0 X0 hx hZ hw hby hown e0  hret hr
  · rw [if_neg hc118] at hr
    show Steps p.tables e below (T0.setTop (mkF m 118 #[.val (.int p0)] [(.int (8304 : Int32)), (.int p0)])) _
    refine XS.icmpNo X0.here hx rfl (hb hby d2_118) rfl (flt hc118).1 ?_
    show Steps p.tables e below (T0.setTop (mkF m 121 #[.val (.int p0)] [])) _
    refine XS.iloadN X0.here hx rfl (hb hby d2_121) rfl ?_
    show Steps p.tables e below (T0.setTop (mkF m 122 #[.val (.int p0)] [(.int p0)])) _
    refine XS.sipush X0.here hx rfl (hb hby d2_122) ?_
    by_cases hc125 : (8591 : Int32) < p0
    · rw [if_pos hc125] at hr
      show Steps p.tables e below (T0.setTop (mkF m 125 #[.val (.int p0)] [(.int (8591 : Int32)), (.int p0)])) _
      refine XS.icmpNo X0.here hx rfl (hb hby d2_125) rfl (tlt hc125).2.2.2 ?_
      exact own2_b128 p0 X0 hx hZ hw hby hown e0  hret hr
    · rw [if_neg hc125] at hr
      show Steps p.tables e below (T0.setTop (mkF m 125 #[.val (.int p0)] [(.int (8591 : Int32)), (.int p0)])) _
      refine XS.icmpYes X0.here hx rfl (pc0 := 125) (pc' := 191) rfl (hb hby d2_125) rfl (flt hc125).2.2.2 (by decide) (by decide) ?_
      exact own2_b191 p0 X0 hx hZ hw hby hown e0  hret hr
def own2_f100 (p0 : Int32) : Int32 := (if p0 < (8204 : Int32) then (own2_f114 p0) else (if (8205 : Int32) < p0 then (own2_f114 p0) else (own2_f191 p0)))
theorem own2_e100 (p0 : Int32) : (own2_f100 p0) = (if p0 < (8204 : Int32) then (own2_f114 p0) else (if (8205 : Int32) < p0 then (own2_f114 p0) else (own2_f191 p0))) := rfl
set_option maxRecDepth 65536 in
set_option maxHeartbeats 40000000 in
theorem own2_b100 {p : Program} {l : Launch} {e : Env} {R : Room} {s : State} {m : MethodId} {args : Array Value} {below : List Frame} {meth : Method} {c : Code} {T0 : State} {locs : List Loc} {cells slots : Nat} {Z : State} {t0 : Array Value} {h0 : Heap} (p0 : Int32) (X0 : Stand p l e R s m args below meth c T0 locs cells slots) (hx : p.tables.exec = Jvm.exec) (hZ : Z.Warmed39 s.vm) (hw : ∀ d ∈ tables_1, d.before t0 Z = true) (hby : c.code = prog_142_method_3_code) (hown : s.vm.findClass "com/example/crisp_events/crispevents/xml/XmlNames" = some m.cls) (e0 : T0.heap = h0)  (hret : meth.sig.returnType = some .boolean) {fs : List Frame} (hr : ∀ (f : JFrame) (acts : List Action), f.method = m → f.locked = none → f.entered = [] → (doReturn e (T0.setTop f) acts (some (.int (own2_f100 p0)))).1 = T0.setFrames fs) : Steps p.tables e below (T0.setTop (mkF m 100 #[.val (.int p0)] [])) (T0.setFrames fs) := by
  rw [own2_e100] at hr
  show Steps p.tables e below (T0.setTop (mkF m 100 #[.val (.int p0)] [])) _
  refine XS.iloadN X0.here hx rfl (hb hby d2_100) rfl ?_
  show Steps p.tables e below (T0.setTop (mkF m 101 #[.val (.int p0)] [(.int p0)])) _
  refine XS.sipush X0.here hx rfl (hb hby d2_101) ?_
  by_cases hc104 : p0 < (8204 : Int32)
  · rw [if_pos hc104] at hr
    show Steps p.tables e below (T0.setTop (mkF m 104 #[.val (.int p0)] [(.int (8204 : Int32)), (.int p0)])) _
    refine XS.icmpYes X0.here hx rfl (pc0 := 104) (pc' := 114) rfl (hb hby d2_104) rfl (tlt hc104).1 (by decide) (by decide) ?_
    exact own2_b114 p0 X0 hx hZ hw hby hown e0  hret hr
  · rw [if_neg hc104] at hr
    show Steps p.tables e below (T0.setTop (mkF m 104 #[.val (.int p0)] [(.int (8204 : Int32)), (.int p0)])) _
    refine XS.icmpNo X0.here hx rfl (hb hby d2_104) rfl (flt hc104).1 ?_
    show Steps p.tables e below (T0.setTop (mkF m 107 #[.val (.int p0)] [])) _
    refine XS.iloadN X0.here hx rfl (hb hby d2_107) rfl ?_
    show Steps p.tables e below (T0.setTop (mkF m 108 #[.val (.int p0)] [(.int p0)])) _
    refine XS.sipush X0.here hx rfl (hb hby d2_108) ?_
    by_cases hc111 : (8205 : Int32) < p0
    · rw [if_pos hc111] at hr
      show Steps p.tables e below (T0.setTop (mkF m 111 #[.val (.int p0)] [(.int (8205 : Int32)), (.int p0)])) _
      refine XS.icmpNo X0.here hx rfl (hb hby d2_111) rfl (tlt hc111).2.2.2 ?_
      exact own2_b114 p0 X0 hx hZ hw hby hown e0  hret hr
    · rw [if_neg hc111] at hr
      show Steps p.tables e below (T0.setTop (mkF m 111 #[.val (.int p0)] [(.int (8205 : Int32)), (.int p0)])) _
      refine XS.icmpYes X0.here hx rfl (pc0 := 111) (pc' := 191) rfl (hb hby d2_111) rfl (flt hc111).2.2.2 (by decide) (by decide) ?_
      exact own2_b191 p0 X0 hx hZ hw hby hown e0  hret hr
def own2_f86 (p0 : Int32) : Int32 := (if p0 < (895 : Int32) then (own2_f100 p0) else (if (8191 : Int32) < p0 then (own2_f100 p0) else (own2_f191 p0)))
theorem own2_e86 (p0 : Int32) : (own2_f86 p0) = (if p0 < (895 : Int32) then (own2_f100 p0) else (if (8191 : Int32) < p0 then (own2_f100 p0) else (own2_f191 p0))) := rfl
set_option maxRecDepth 65536 in
set_option maxHeartbeats 40000000 in
theorem own2_b86 {p : Program} {l : Launch} {e : Env} {R : Room} {s : State} {m : MethodId} {args : Array Value} {below : List Frame} {meth : Method} {c : Code} {T0 : State} {locs : List Loc} {cells slots : Nat} {Z : State} {t0 : Array Value} {h0 : Heap} (p0 : Int32) (X0 : Stand p l e R s m args below meth c T0 locs cells slots) (hx : p.tables.exec = Jvm.exec) (hZ : Z.Warmed39 s.vm) (hw : ∀ d ∈ tables_1, d.before t0 Z = true) (hby : c.code = prog_142_method_3_code) (hown : s.vm.findClass "com/example/crisp_events/crispevents/xml/XmlNames" = some m.cls) (e0 : T0.heap = h0)  (hret : meth.sig.returnType = some .boolean) {fs : List Frame} (hr : ∀ (f : JFrame) (acts : List Action), f.method = m → f.locked = none → f.entered = [] → (doReturn e (T0.setTop f) acts (some (.int (own2_f86 p0)))).1 = T0.setFrames fs) : Steps p.tables e below (T0.setTop (mkF m 86 #[.val (.int p0)] [])) (T0.setFrames fs) := by
  rw [own2_e86] at hr
  show Steps p.tables e below (T0.setTop (mkF m 86 #[.val (.int p0)] [])) _
  refine XS.iloadN X0.here hx rfl (hb hby d2_86) rfl ?_
  show Steps p.tables e below (T0.setTop (mkF m 87 #[.val (.int p0)] [(.int p0)])) _
  refine XS.sipush X0.here hx rfl (hb hby d2_87) ?_
  by_cases hc90 : p0 < (895 : Int32)
  · rw [if_pos hc90] at hr
    show Steps p.tables e below (T0.setTop (mkF m 90 #[.val (.int p0)] [(.int (895 : Int32)), (.int p0)])) _
    refine XS.icmpYes X0.here hx rfl (pc0 := 90) (pc' := 100) rfl (hb hby d2_90) rfl (tlt hc90).1 (by decide) (by decide) ?_
    exact own2_b100 p0 X0 hx hZ hw hby hown e0  hret hr
  · rw [if_neg hc90] at hr
    show Steps p.tables e below (T0.setTop (mkF m 90 #[.val (.int p0)] [(.int (895 : Int32)), (.int p0)])) _
    refine XS.icmpNo X0.here hx rfl (hb hby d2_90) rfl (flt hc90).1 ?_
    show Steps p.tables e below (T0.setTop (mkF m 93 #[.val (.int p0)] [])) _
    refine XS.iloadN X0.here hx rfl (hb hby d2_93) rfl ?_
    show Steps p.tables e below (T0.setTop (mkF m 94 #[.val (.int p0)] [(.int p0)])) _
    refine XS.sipush X0.here hx rfl (hb hby d2_94) ?_
    by_cases hc97 : (8191 : Int32) < p0
    · rw [if_pos hc97] at hr
      show Steps p.tables e below (T0.setTop (mkF m 97 #[.val (.int p0)] [(.int (8191 : Int32)), (.int p0)])) _
      refine XS.icmpNo X0.here hx rfl (hb hby d2_97) rfl (tlt hc97).2.2.2 ?_
      exact own2_b100 p0 X0 hx hZ hw hby hown e0  hret hr
    · rw [if_neg hc97] at hr
      show Steps p.tables e below (T0.setTop (mkF m 97 #[.val (.int p0)] [(.int (8191 : Int32)), (.int p0)])) _
      refine XS.icmpYes X0.here hx rfl (pc0 := 97) (pc' := 191) rfl (hb hby d2_97) rfl (flt hc97).2.2.2 (by decide) (by decide) ?_
      exact own2_b191 p0 X0 hx hZ hw hby hown e0  hret hr
def own2_f72 (p0 : Int32) : Int32 := (if p0 < (880 : Int32) then (own2_f86 p0) else (if (893 : Int32) < p0 then (own2_f86 p0) else (own2_f191 p0)))
theorem own2_e72 (p0 : Int32) : (own2_f72 p0) = (if p0 < (880 : Int32) then (own2_f86 p0) else (if (893 : Int32) < p0 then (own2_f86 p0) else (own2_f191 p0))) := rfl
set_option maxRecDepth 65536 in
set_option maxHeartbeats 40000000 in
theorem own2_b72 {p : Program} {l : Launch} {e : Env} {R : Room} {s : State} {m : MethodId} {args : Array Value} {below : List Frame} {meth : Method} {c : Code} {T0 : State} {locs : List Loc} {cells slots : Nat} {Z : State} {t0 : Array Value} {h0 : Heap} (p0 : Int32) (X0 : Stand p l e R s m args below meth c T0 locs cells slots) (hx : p.tables.exec = Jvm.exec) (hZ : Z.Warmed39 s.vm) (hw : ∀ d ∈ tables_1, d.before t0 Z = true) (hby : c.code = prog_142_method_3_code) (hown : s.vm.findClass "com/example/crisp_events/crispevents/xml/XmlNames" = some m.cls) (e0 : T0.heap = h0)  (hret : meth.sig.returnType = some .boolean) {fs : List Frame} (hr : ∀ (f : JFrame) (acts : List Action), f.method = m → f.locked = none → f.entered = [] → (doReturn e (T0.setTop f) acts (some (.int (own2_f72 p0)))).1 = T0.setFrames fs) : Steps p.tables e below (T0.setTop (mkF m 72 #[.val (.int p0)] [])) (T0.setFrames fs) := by
  rw [own2_e72] at hr
  show Steps p.tables e below (T0.setTop (mkF m 72 #[.val (.int p0)] [])) _
  refine XS.iloadN X0.here hx rfl (hb hby d2_72) rfl ?_
  show Steps p.tables e below (T0.setTop (mkF m 73 #[.val (.int p0)] [(.int p0)])) _
  refine XS.sipush X0.here hx rfl (hb hby d2_73) ?_
  by_cases hc76 : p0 < (880 : Int32)
  · rw [if_pos hc76] at hr
    show Steps p.tables e below (T0.setTop (mkF m 76 #[.val (.int p0)] [(.int (880 : Int32)), (.int p0)])) _
    refine XS.icmpYes X0.here hx rfl (pc0 := 76) (pc' := 86) rfl (hb hby d2_76) rfl (tlt hc76).1 (by decide) (by decide) ?_
    exact own2_b86 p0 X0 hx hZ hw hby hown e0  hret hr
  · rw [if_neg hc76] at hr
    show Steps p.tables e below (T0.setTop (mkF m 76 #[.val (.int p0)] [(.int (880 : Int32)), (.int p0)])) _
    refine XS.icmpNo X0.here hx rfl (hb hby d2_76) rfl (flt hc76).1 ?_
    show Steps p.tables e below (T0.setTop (mkF m 79 #[.val (.int p0)] [])) _
    refine XS.iloadN X0.here hx rfl (hb hby d2_79) rfl ?_
    show Steps p.tables e below (T0.setTop (mkF m 80 #[.val (.int p0)] [(.int p0)])) _
    refine XS.sipush X0.here hx rfl (hb hby d2_80) ?_
    by_cases hc83 : (893 : Int32) < p0
    · rw [if_pos hc83] at hr
      show Steps p.tables e below (T0.setTop (mkF m 83 #[.val (.int p0)] [(.int (893 : Int32)), (.int p0)])) _
      refine XS.icmpNo X0.here hx rfl (hb hby d2_83) rfl (tlt hc83).2.2.2 ?_
      exact own2_b86 p0 X0 hx hZ hw hby hown e0  hret hr
    · rw [if_neg hc83] at hr
      show Steps p.tables e below (T0.setTop (mkF m 83 #[.val (.int p0)] [(.int (893 : Int32)), (.int p0)])) _
      refine XS.icmpYes X0.here hx rfl (pc0 := 83) (pc' := 191) rfl (hb hby d2_83) rfl (flt hc83).2.2.2 (by decide) (by decide) ?_
      exact own2_b191 p0 X0 hx hZ hw hby hown e0  hret hr
def own2_f58 (p0 : Int32) : Int32 := (if p0 < (248 : Int32) then (own2_f72 p0) else (if (767 : Int32) < p0 then (own2_f72 p0) else (own2_f191 p0)))
theorem own2_e58 (p0 : Int32) : (own2_f58 p0) = (if p0 < (248 : Int32) then (own2_f72 p0) else (if (767 : Int32) < p0 then (own2_f72 p0) else (own2_f191 p0))) := rfl
set_option maxRecDepth 65536 in
set_option maxHeartbeats 40000000 in
theorem own2_b58 {p : Program} {l : Launch} {e : Env} {R : Room} {s : State} {m : MethodId} {args : Array Value} {below : List Frame} {meth : Method} {c : Code} {T0 : State} {locs : List Loc} {cells slots : Nat} {Z : State} {t0 : Array Value} {h0 : Heap} (p0 : Int32) (X0 : Stand p l e R s m args below meth c T0 locs cells slots) (hx : p.tables.exec = Jvm.exec) (hZ : Z.Warmed39 s.vm) (hw : ∀ d ∈ tables_1, d.before t0 Z = true) (hby : c.code = prog_142_method_3_code) (hown : s.vm.findClass "com/example/crisp_events/crispevents/xml/XmlNames" = some m.cls) (e0 : T0.heap = h0)  (hret : meth.sig.returnType = some .boolean) {fs : List Frame} (hr : ∀ (f : JFrame) (acts : List Action), f.method = m → f.locked = none → f.entered = [] → (doReturn e (T0.setTop f) acts (some (.int (own2_f58 p0)))).1 = T0.setFrames fs) : Steps p.tables e below (T0.setTop (mkF m 58 #[.val (.int p0)] [])) (T0.setFrames fs) := by
  rw [own2_e58] at hr
  show Steps p.tables e below (T0.setTop (mkF m 58 #[.val (.int p0)] [])) _
  refine XS.iloadN X0.here hx rfl (hb hby d2_58) rfl ?_
  show Steps p.tables e below (T0.setTop (mkF m 59 #[.val (.int p0)] [(.int p0)])) _
  refine XS.sipush X0.here hx rfl (hb hby d2_59) ?_
  by_cases hc62 : p0 < (248 : Int32)
  · rw [if_pos hc62] at hr
    show Steps p.tables e below (T0.setTop (mkF m 62 #[.val (.int p0)] [(.int (248 : Int32)), (.int p0)])) _
    refine XS.icmpYes X0.here hx rfl (pc0 := 62) (pc' := 72) rfl (hb hby d2_62) rfl (tlt hc62).1 (by decide) (by decide) ?_
    exact own2_b72 p0 X0 hx hZ hw hby hown e0  hret hr
  · rw [if_neg hc62] at hr
    show Steps p.tables e below (T0.setTop (mkF m 62 #[.val (.int p0)] [(.int (248 : Int32)), (.int p0)])) _
    refine XS.icmpNo X0.here hx rfl (hb hby d2_62) rfl (flt hc62).1 ?_
    show Steps p.tables e below (T0.setTop (mkF m 65 #[.val (.int p0)] [])) _
    refine XS.iloadN X0.here hx rfl (hb hby d2_65) rfl ?_
    show Steps p.tables e below (T0.setTop (mkF m 66 #[.val (.int p0)] [(.int p0)])) _
    refine XS.sipush X0.here hx rfl (hb hby d2_66) ?_
    by_cases hc69 : (767 : Int32) < p0
    · rw [if_pos hc69] at hr
      show Steps p.tables e below (T0.setTop (mkF m 69 #[.val (.int p0)] [(.int (767 : Int32)), (.int p0)])) _
      refine XS.icmpNo X0.here hx rfl (hb hby d2_69) rfl (tlt hc69).2.2.2 ?_
      exact own2_b72 p0 X0 hx hZ hw hby hown e0  hret hr
    · rw [if_neg hc69] at hr
      show Steps p.tables e below (T0.setTop (mkF m 69 #[.val (.int p0)] [(.int (767 : Int32)), (.int p0)])) _
      refine XS.icmpYes X0.here hx rfl (pc0 := 69) (pc' := 191) rfl (hb hby d2_69) rfl (flt hc69).2.2.2 (by decide) (by decide) ?_
      exact own2_b191 p0 X0 hx hZ hw hby hown e0  hret hr
def own2_f44 (p0 : Int32) : Int32 := (if p0 < (216 : Int32) then (own2_f58 p0) else (if (246 : Int32) < p0 then (own2_f58 p0) else (own2_f191 p0)))
theorem own2_e44 (p0 : Int32) : (own2_f44 p0) = (if p0 < (216 : Int32) then (own2_f58 p0) else (if (246 : Int32) < p0 then (own2_f58 p0) else (own2_f191 p0))) := rfl
set_option maxRecDepth 65536 in
set_option maxHeartbeats 40000000 in
theorem own2_b44 {p : Program} {l : Launch} {e : Env} {R : Room} {s : State} {m : MethodId} {args : Array Value} {below : List Frame} {meth : Method} {c : Code} {T0 : State} {locs : List Loc} {cells slots : Nat} {Z : State} {t0 : Array Value} {h0 : Heap} (p0 : Int32) (X0 : Stand p l e R s m args below meth c T0 locs cells slots) (hx : p.tables.exec = Jvm.exec) (hZ : Z.Warmed39 s.vm) (hw : ∀ d ∈ tables_1, d.before t0 Z = true) (hby : c.code = prog_142_method_3_code) (hown : s.vm.findClass "com/example/crisp_events/crispevents/xml/XmlNames" = some m.cls) (e0 : T0.heap = h0)  (hret : meth.sig.returnType = some .boolean) {fs : List Frame} (hr : ∀ (f : JFrame) (acts : List Action), f.method = m → f.locked = none → f.entered = [] → (doReturn e (T0.setTop f) acts (some (.int (own2_f44 p0)))).1 = T0.setFrames fs) : Steps p.tables e below (T0.setTop (mkF m 44 #[.val (.int p0)] [])) (T0.setFrames fs) := by
  rw [own2_e44] at hr
  show Steps p.tables e below (T0.setTop (mkF m 44 #[.val (.int p0)] [])) _
  refine XS.iloadN X0.here hx rfl (hb hby d2_44) rfl ?_
  show Steps p.tables e below (T0.setTop (mkF m 45 #[.val (.int p0)] [(.int p0)])) _
  refine XS.sipush X0.here hx rfl (hb hby d2_45) ?_
  by_cases hc48 : p0 < (216 : Int32)
  · rw [if_pos hc48] at hr
    show Steps p.tables e below (T0.setTop (mkF m 48 #[.val (.int p0)] [(.int (216 : Int32)), (.int p0)])) _
    refine XS.icmpYes X0.here hx rfl (pc0 := 48) (pc' := 58) rfl (hb hby d2_48) rfl (tlt hc48).1 (by decide) (by decide) ?_
    exact own2_b58 p0 X0 hx hZ hw hby hown e0  hret hr
  · rw [if_neg hc48] at hr
    show Steps p.tables e below (T0.setTop (mkF m 48 #[.val (.int p0)] [(.int (216 : Int32)), (.int p0)])) _
    refine XS.icmpNo X0.here hx rfl (hb hby d2_48) rfl (flt hc48).1 ?_
    show Steps p.tables e below (T0.setTop (mkF m 51 #[.val (.int p0)] [])) _
    refine XS.iloadN X0.here hx rfl (hb hby d2_51) rfl ?_
    show Steps p.tables e below (T0.setTop (mkF m 52 #[.val (.int p0)] [(.int p0)])) _
    refine XS.sipush X0.here hx rfl (hb hby d2_52) ?_
    by_cases hc55 : (246 : Int32) < p0
    · rw [if_pos hc55] at hr
      show Steps p.tables e below (T0.setTop (mkF m 55 #[.val (.int p0)] [(.int (246 : Int32)), (.int p0)])) _
      refine XS.icmpNo X0.here hx rfl (hb hby d2_55) rfl (tlt hc55).2.2.2 ?_
      exact own2_b58 p0 X0 hx hZ hw hby hown e0  hret hr
    · rw [if_neg hc55] at hr
      show Steps p.tables e below (T0.setTop (mkF m 55 #[.val (.int p0)] [(.int (246 : Int32)), (.int p0)])) _
      refine XS.icmpYes X0.here hx rfl (pc0 := 55) (pc' := 191) rfl (hb hby d2_55) rfl (flt hc55).2.2.2 (by decide) (by decide) ?_
      exact own2_b191 p0 X0 hx hZ hw hby hown e0  hret hr
def own2_f30 (p0 : Int32) : Int32 := (if p0 < (192 : Int32) then (own2_f44 p0) else (if (214 : Int32) < p0 then (own2_f44 p0) else (own2_f191 p0)))
theorem own2_e30 (p0 : Int32) : (own2_f30 p0) = (if p0 < (192 : Int32) then (own2_f44 p0) else (if (214 : Int32) < p0 then (own2_f44 p0) else (own2_f191 p0))) := rfl
set_option maxRecDepth 65536 in
set_option maxHeartbeats 40000000 in
theorem own2_b30 {p : Program} {l : Launch} {e : Env} {R : Room} {s : State} {m : MethodId} {args : Array Value} {below : List Frame} {meth : Method} {c : Code} {T0 : State} {locs : List Loc} {cells slots : Nat} {Z : State} {t0 : Array Value} {h0 : Heap} (p0 : Int32) (X0 : Stand p l e R s m args below meth c T0 locs cells slots) (hx : p.tables.exec = Jvm.exec) (hZ : Z.Warmed39 s.vm) (hw : ∀ d ∈ tables_1, d.before t0 Z = true) (hby : c.code = prog_142_method_3_code) (hown : s.vm.findClass "com/example/crisp_events/crispevents/xml/XmlNames" = some m.cls) (e0 : T0.heap = h0)  (hret : meth.sig.returnType = some .boolean) {fs : List Frame} (hr : ∀ (f : JFrame) (acts : List Action), f.method = m → f.locked = none → f.entered = [] → (doReturn e (T0.setTop f) acts (some (.int (own2_f30 p0)))).1 = T0.setFrames fs) : Steps p.tables e below (T0.setTop (mkF m 30 #[.val (.int p0)] [])) (T0.setFrames fs) := by
  rw [own2_e30] at hr
  show Steps p.tables e below (T0.setTop (mkF m 30 #[.val (.int p0)] [])) _
  refine XS.iloadN X0.here hx rfl (hb hby d2_30) rfl ?_
  show Steps p.tables e below (T0.setTop (mkF m 31 #[.val (.int p0)] [(.int p0)])) _
  refine XS.sipush X0.here hx rfl (hb hby d2_31) ?_
  by_cases hc34 : p0 < (192 : Int32)
  · rw [if_pos hc34] at hr
    show Steps p.tables e below (T0.setTop (mkF m 34 #[.val (.int p0)] [(.int (192 : Int32)), (.int p0)])) _
    refine XS.icmpYes X0.here hx rfl (pc0 := 34) (pc' := 44) rfl (hb hby d2_34) rfl (tlt hc34).1 (by decide) (by decide) ?_
    exact own2_b44 p0 X0 hx hZ hw hby hown e0  hret hr
  · rw [if_neg hc34] at hr
    show Steps p.tables e below (T0.setTop (mkF m 34 #[.val (.int p0)] [(.int (192 : Int32)), (.int p0)])) _
    refine XS.icmpNo X0.here hx rfl (hb hby d2_34) rfl (flt hc34).1 ?_
    show Steps p.tables e below (T0.setTop (mkF m 37 #[.val (.int p0)] [])) _
    refine XS.iloadN X0.here hx rfl (hb hby d2_37) rfl ?_
    show Steps p.tables e below (T0.setTop (mkF m 38 #[.val (.int p0)] [(.int p0)])) _
    refine XS.sipush X0.here hx rfl (hb hby d2_38) ?_
    by_cases hc41 : (214 : Int32) < p0
    · rw [if_pos hc41] at hr
      show Steps p.tables e below (T0.setTop (mkF m 41 #[.val (.int p0)] [(.int (214 : Int32)), (.int p0)])) _
      refine XS.icmpNo X0.here hx rfl (hb hby d2_41) rfl (tlt hc41).2.2.2 ?_
      exact own2_b44 p0 X0 hx hZ hw hby hown e0  hret hr
    · rw [if_neg hc41] at hr
      show Steps p.tables e below (T0.setTop (mkF m 41 #[.val (.int p0)] [(.int (214 : Int32)), (.int p0)])) _
      refine XS.icmpYes X0.here hx rfl (pc0 := 41) (pc' := 191) rfl (hb hby d2_41) rfl (flt hc41).2.2.2 (by decide) (by decide) ?_
      exact own2_b191 p0 X0 hx hZ hw hby hown e0  hret hr
def own2_f12 (p0 : Int32) : Int32 := (if p0 = (95 : Int32) then (own2_f191 p0) else (if p0 < (97 : Int32) then (own2_f30 p0) else (if (122 : Int32) < p0 then (own2_f30 p0) else (own2_f191 p0))))
theorem own2_e12 (p0 : Int32) : (own2_f12 p0) = (if p0 = (95 : Int32) then (own2_f191 p0) else (if p0 < (97 : Int32) then (own2_f30 p0) else (if (122 : Int32) < p0 then (own2_f30 p0) else (own2_f191 p0)))) := rfl
set_option maxRecDepth 65536 in
set_option maxHeartbeats 40000000 in
theorem own2_b12 {p : Program} {l : Launch} {e : Env} {R : Room} {s : State} {m : MethodId} {args : Array Value} {below : List Frame} {meth : Method} {c : Code} {T0 : State} {locs : List Loc} {cells slots : Nat} {Z : State} {t0 : Array Value} {h0 : Heap} (p0 : Int32) (X0 : Stand p l e R s m args below meth c T0 locs cells slots) (hx : p.tables.exec = Jvm.exec) (hZ : Z.Warmed39 s.vm) (hw : ∀ d ∈ tables_1, d.before t0 Z = true) (hby : c.code = prog_142_method_3_code) (hown : s.vm.findClass "com/example/crisp_events/crispevents/xml/XmlNames" = some m.cls) (e0 : T0.heap = h0)  (hret : meth.sig.returnType = some .boolean) {fs : List Frame} (hr : ∀ (f : JFrame) (acts : List Action), f.method = m → f.locked = none → f.entered = [] → (doReturn e (T0.setTop f) acts (some (.int (own2_f12 p0)))).1 = T0.setFrames fs) : Steps p.tables e below (T0.setTop (mkF m 12 #[.val (.int p0)] [])) (T0.setFrames fs) := by
  rw [own2_e12] at hr
  show Steps p.tables e below (T0.setTop (mkF m 12 #[.val (.int p0)] [])) _
  refine XS.iloadN X0.here hx rfl (hb hby d2_12) rfl ?_
  show Steps p.tables e below (T0.setTop (mkF m 13 #[.val (.int p0)] [(.int p0)])) _
  refine XS.bipush X0.here hx rfl (hb hby d2_13) ?_
  by_cases hc15 : p0 = (95 : Int32)
  · rw [if_pos hc15] at hr
    show Steps p.tables e below (T0.setTop (mkF m 15 #[.val (.int p0)] [(.int (95 : Int32)), (.int p0)])) _
    refine XS.icmpYes X0.here hx rfl (pc0 := 15) (pc' := 191) rfl (hb hby d2_15) rfl (teq hc15).1 (by decide) (by decide) ?_
    exact own2_b191 p0 X0 hx hZ hw hby hown e0  hret hr
  · rw [if_neg hc15] at hr
    show Steps p.tables e below (T0.setTop (mkF m 15 #[.val (.int p0)] [(.int (95 : Int32)), (.int p0)])) _
    refine XS.icmpNo X0.here hx rfl (hb hby d2_15) rfl (feq hc15).1 ?_
    show Steps p.tables e below (T0.setTop (mkF m 18 #[.val (.int p0)] [])) _
    refine XS.iloadN X0.here hx rfl (hb hby d2_18) rfl ?_
    show Steps p.tables e below (T0.setTop (mkF m 19 #[.val (.int p0)] [(.int p0)])) _
    refine XS.bipush X0.here hx rfl (hb hby d2_19) ?_
    by_cases hc21 : p0 < (97 : Int32)
    · rw [if_pos hc21] at hr
      show Steps p.tables e below (T0.setTop (mkF m 21 #[.val (.int p0)] [(.int (97 : Int32)), (.int p0)])) _
      refine XS.icmpYes X0.here hx rfl (pc0 := 21) (pc' := 30) rfl (hb hby d2_21) rfl (tlt hc21).1 (by decide) (by decide) ?_
      exact own2_b30 p0 X0 hx hZ hw hby hown e0  hret hr
    · rw [if_neg hc21] at hr
      show Steps p.tables e below (T0.setTop (mkF m 21 #[.val (.int p0)] [(.int (97 : Int32)), (.int p0)])) _
      refine XS.icmpNo X0.here hx rfl (hb hby d2_21) rfl (flt hc21).1 ?_
      show Steps p.tables e below (T0.setTop (mkF m 24 #[.val (.int p0)] [])) _
      refine XS.iloadN X0.here hx rfl (hb hby d2_24) rfl ?_
      show Steps p.tables e below (T0.setTop (mkF m 25 #[.val (.int p0)] [(.int p0)])) _
      refine XS.bipush X0.here hx rfl (hb hby d2_25) ?_
      by_cases hc27 : (122 : Int32) < p0
      · rw [if_pos hc27] at hr
        show Steps p.tables e below (T0.setTop (mkF m 27 #[.val (.int p0)] [(.int (122 : Int32)), (.int p0)])) _
        refine XS.icmpNo X0.here hx rfl (hb hby d2_27) rfl (tlt hc27).2.2.2 ?_
        exact own2_b30 p0 X0 hx hZ hw hby hown e0  hret hr
      · rw [if_neg hc27] at hr
        show Steps p.tables e below (T0.setTop (mkF m 27 #[.val (.int p0)] [(.int (122 : Int32)), (.int p0)])) _
        refine XS.icmpYes X0.here hx rfl (pc0 := 27) (pc' := 191) rfl (hb hby d2_27) rfl (flt hc27).2.2.2 (by decide) (by decide) ?_
        exact own2_b191 p0 X0 hx hZ hw hby hown e0  hret hr
def own2_f0 (p0 : Int32) : Int32 := (if p0 < (65 : Int32) then (own2_f12 p0) else (if (90 : Int32) < p0 then (own2_f12 p0) else (own2_f191 p0)))
theorem own2_e0 (p0 : Int32) : (own2_f0 p0) = (if p0 < (65 : Int32) then (own2_f12 p0) else (if (90 : Int32) < p0 then (own2_f12 p0) else (own2_f191 p0))) := rfl
set_option maxRecDepth 65536 in
set_option maxHeartbeats 40000000 in
theorem own2_b0 {p : Program} {l : Launch} {e : Env} {R : Room} {s : State} {m : MethodId} {args : Array Value} {below : List Frame} {meth : Method} {c : Code} {T0 : State} {locs : List Loc} {cells slots : Nat} {Z : State} {t0 : Array Value} {h0 : Heap} (p0 : Int32) (X0 : Stand p l e R s m args below meth c T0 locs cells slots) (hx : p.tables.exec = Jvm.exec) (hZ : Z.Warmed39 s.vm) (hw : ∀ d ∈ tables_1, d.before t0 Z = true) (hby : c.code = prog_142_method_3_code) (hown : s.vm.findClass "com/example/crisp_events/crispevents/xml/XmlNames" = some m.cls) (e0 : T0.heap = h0)  (hret : meth.sig.returnType = some .boolean) {fs : List Frame} (hr : ∀ (f : JFrame) (acts : List Action), f.method = m → f.locked = none → f.entered = [] → (doReturn e (T0.setTop f) acts (some (.int (own2_f0 p0)))).1 = T0.setFrames fs) : Steps p.tables e below (T0.setTop (mkF m 0 #[.val (.int p0)] [])) (T0.setFrames fs) := by
  rw [own2_e0] at hr
  show Steps p.tables e below (T0.setTop (mkF m 0 #[.val (.int p0)] [])) _
  refine XS.iloadN X0.here hx rfl (hb hby d2_0) rfl ?_
  show Steps p.tables e below (T0.setTop (mkF m 1 #[.val (.int p0)] [(.int p0)])) _
  refine XS.bipush X0.here hx rfl (hb hby d2_1) ?_
  by_cases hc3 : p0 < (65 : Int32)
  · rw [if_pos hc3] at hr
    show Steps p.tables e below (T0.setTop (mkF m 3 #[.val (.int p0)] [(.int (65 : Int32)), (.int p0)])) _
    refine XS.icmpYes X0.here hx rfl (pc0 := 3) (pc' := 12) rfl (hb hby d2_3) rfl (tlt hc3).1 (by decide) (by decide) ?_
    exact own2_b12 p0 X0 hx hZ hw hby hown e0  hret hr
  · rw [if_neg hc3] at hr
    show Steps p.tables e below (T0.setTop (mkF m 3 #[.val (.int p0)] [(.int (65 : Int32)), (.int p0)])) _
    refine XS.icmpNo X0.here hx rfl (hb hby d2_3) rfl (flt hc3).1 ?_
    show Steps p.tables e below (T0.setTop (mkF m 6 #[.val (.int p0)] [])) _
    refine XS.iloadN X0.here hx rfl (hb hby d2_6) rfl ?_
    show Steps p.tables e below (T0.setTop (mkF m 7 #[.val (.int p0)] [(.int p0)])) _
    refine XS.bipush X0.here hx rfl (hb hby d2_7) ?_
    by_cases hc9 : (90 : Int32) < p0
    · rw [if_pos hc9] at hr
      show Steps p.tables e below (T0.setTop (mkF m 9 #[.val (.int p0)] [(.int (90 : Int32)), (.int p0)])) _
      refine XS.icmpNo X0.here hx rfl (hb hby d2_9) rfl (tlt hc9).2.2.2 ?_
      exact own2_b12 p0 X0 hx hZ hw hby hown e0  hret hr
    · rw [if_neg hc9] at hr
      show Steps p.tables e below (T0.setTop (mkF m 9 #[.val (.int p0)] [(.int (90 : Int32)), (.int p0)])) _
      refine XS.icmpYes X0.here hx rfl (pc0 := 9) (pc' := 191) rfl (hb hby d2_9) rfl (flt hc9).2.2.2 (by decide) (by decide) ?_
      exact own2_b191 p0 X0 hx hZ hw hby hown e0  hret hr
theorem ef_2 (m : MethodId) (p0 : Int32) : entryFrame m #[(.int p0)] 1 = mkF m 0 #[.val (.int p0)] [] := by first | (simp [entryFrame, mkF, argsToLocals, Value.category]; done) | rfl
theorem pn_2 : plainName "com/example/crisp_events/crispevents/xml/XmlNames" = true := by first | (simp [plainName, overriddenIn]; done) | decide +kernel
def Q2 (p0 : Int32) (h0 : Heap) (n0 : Nat) (v : Option Value) (h : Heap) (L : List Loc) : Prop := v = some (.int (own2_f0 p0)) ∧ Fr n0 L ∧ h = h0
set_option maxRecDepth 65536 in
set_option maxHeartbeats 40000000 in
theorem rm2 (l : Launch) (Z : State) (t0 : Array Value) (hw : ∀ d ∈ tables_1, d.before t0 Z = true) (ws : List Jvm.Cond) (p0 : Int32) (h0 : Heap) (n0 : Nat) (Z0 : n0 ≤ h0.size)  :
    MetFree l (⟨"com/example/crisp_events/crispevents/xml/XmlNames", "isNameStart", "(I)Z"⟩ : MethodName) (head1 (Jvm.Cond.code (⟨"com/example/crisp_events/crispevents/xml/XmlNames", "isNameStart", "(I)Z"⟩ : MethodName) prog_142_method_3_code 1 (some .boolean) :: ws) ({ frames := 0, cells := 0, slots := 0, locals := 0 } : Room)) (fun a U => a = #[(.int p0)] ∧ Z.Warmed39 U.vm ∧ U.heap = h0) (fun _ _ _ _ _ => True) (fun _ U o U' => ∃ v L, o = .returned v ∧ Q2 p0 h0 n0 v U'.heap L ∧ FrameEnd U o U' L ({ frames := 0, cells := 0, slots := 0, locals := 0 } : Room).cells ({ frames := 0, cells := 0, slots := 0, locals := 0 } : Room).slots) := by
  refine MetFree.of_bodySF (plainFor_of_name pn_2) hisR ?_
  intro p e s m args below meth c s₁ Bd hml0 hP hK
  obtain ⟨rfl, hZ, hh⟩ := hP
  have hx := Bd.exec
  have hby := Bd.bytes
  have hml : c.maxLocals = 1 := hml0
  have hown : s.vm.findClass "com/example/crisp_events/crispevents/xml/XmlNames" = some m.cls := findClass_of_methodNamed Bd.named
  have hnm := (name_of_methodNamed Bd.named Bd.method).1
  have X0 : Stand p l e ({ frames := 0, cells := 0, slots := 0, locals := 0 } : Room) s m #[(.int p0)] below meth c s₁ [] 0 0 := Stand.of_body Bd
  have e0 : s₁.heap = h0 := by rw [← hh, Bd.state]; rfl
  have N0 := Fr.nil n0
  have pre0 : ∀ t, Steps p.tables e below (s₁.setTop (mkF m 0 #[.val (.int p0)] [])) t → Steps p.tables e below (s₁.setTop (entryFrame m #[(.int p0)] 1)) t := fun t k => castTop (ef_2 m p0) k
  obtain ⟨fs, hr, hrun, hended, hW, hsame⟩ := X0.leave (v := some (.int (own2_f0 p0))) (fun h => by rw [Bd.returns] at h; cases h)
  refine ⟨_, _, pre0 _ ?_, hrun, hended, _, _, rfl, ?_, ⟨_, rfl⟩, hW, hsame.mono (by decide) (by decide)⟩
  · exact own2_b0 p0 X0 hx hZ hw hby hown e0  Bd.returns hr
  · show Q2 p0 h0 n0 _ s₁.heap _
    rw [e0]
    exact ⟨rfl, N0, rfl⟩
theorem own2_s191 (p0 : Int32) : own2_f191 p0 = (if (0 : Int) = 0 then (1 : Int32) else (0 : Int32)) := by
  rw [own2_e191]
  exact (if_pos (by omega)).symm
theorem own2_s195 (p0 : Int32) : own2_f195 p0 = (if (0 : Int) = 1 then (1 : Int32) else (0 : Int32)) := by
  rw [own2_e195]
  exact (if_neg (by omega)).symm
theorem own2_s179 (p0 : Int32) : own2_f179 p0 = (if (65536 ≤ p0.toInt ∧ p0.toInt ≤ 983039) then (1 : Int32) else (0 : Int32)) := by
  rw [own2_e179]
  by_cases hc182 : p0 < (65536 : Int32)
  · rw [if_pos hc182]
    rw [Int32.lt_iff_toInt_lt, show (65536 : Int32).toInt = 65536 from by decide] at hc182
    rw [own2_s195]
    exact own_ifc (by omega) rfl rfl
  · rw [if_neg hc182]
    rw [Int32.lt_iff_toInt_lt, show (65536 : Int32).toInt = 65536 from by decide] at hc182
    by_cases hc188 : (983039 : Int32) < p0
    · rw [if_pos hc188]
      rw [Int32.lt_iff_toInt_lt, show (983039 : Int32).toInt = 983039 from by decide] at hc188
      rw [own2_s195]
      exact own_ifc (by omega) rfl rfl
    · rw [if_neg hc188]
      rw [Int32.lt_iff_toInt_lt, show (983039 : Int32).toInt = 983039 from by decide] at hc188
      rw [own2_s191]
      exact own_ifc (by omega) rfl rfl
theorem own2_s167 (p0 : Int32) : own2_f167 p0 = (if (65008 ≤ p0.toInt ∧ p0.toInt ≤ 65533) ∨ (65536 ≤ p0.toInt ∧ p0.toInt ≤ 983039) then (1 : Int32) else (0 : Int32)) := by
  rw [own2_e167]
  by_cases hc170 : p0 < (65008 : Int32)
  · rw [if_pos hc170]
    rw [Int32.lt_iff_toInt_lt, show (65008 : Int32).toInt = 65008 from by decide] at hc170
    rw [own2_s179]
    exact own_ifc (by omega) rfl rfl
  · rw [if_neg hc170]
    rw [Int32.lt_iff_toInt_lt, show (65008 : Int32).toInt = 65008 from by decide] at hc170
    by_cases hc176 : (65533 : Int32) < p0
    · rw [if_pos hc176]
      rw [Int32.lt_iff_toInt_lt, show (65533 : Int32).toInt = 65533 from by decide] at hc176
      rw [own2_s179]
      exact own_ifc (by omega) rfl rfl
    · rw [if_neg hc176]
      rw [Int32.lt_iff_toInt_lt, show (65533 : Int32).toInt = 65533 from by decide] at hc176
      rw [own2_s191]
      exact own_ifc (by omega) rfl rfl
theorem own2_s155 (p0 : Int32) : own2_f155 p0 = (if (63744 ≤ p0.toInt ∧ p0.toInt ≤ 64975) ∨ (65008 ≤ p0.toInt ∧ p0.toInt ≤ 65533) ∨ (65536 ≤ p0.toInt ∧ p0.toInt ≤ 983039) then (1 : Int32) else (0 : Int32)) := by
  rw [own2_e155]
  by_cases hc158 : p0 < (63744 : Int32)
  · rw [if_pos hc158]
    rw [Int32.lt_iff_toInt_lt, show (63744 : Int32).toInt = 63744 from by decide] at hc158
    rw [own2_s167]
    exact own_ifc (by omega) rfl rfl
  · rw [if_neg hc158]
    rw [Int32.lt_iff_toInt_lt, show (63744 : Int32).toInt = 63744 from by decide] at hc158
    by_cases hc164 : (64975 : Int32) < p0
    · rw [if_pos hc164]
      rw [Int32.lt_iff_toInt_lt, show (64975 : Int32).toInt = 64975 from by decide] at hc164
      rw [own2_s167]
      exact own_ifc (by omega) rfl rfl
    · rw [if_neg hc164]
      rw [Int32.lt_iff_toInt_lt, show (64975 : Int32).toInt = 64975 from by decide] at hc164
      rw [own2_s191]
      exact own_ifc (by omega) rfl rfl
theorem own2_s142 (p0 : Int32) : own2_f142 p0 = (if (12289 ≤ p0.toInt ∧ p0.toInt ≤ 55295) ∨ (63744 ≤ p0.toInt ∧ p0.toInt ≤ 64975) ∨ (65008 ≤ p0.toInt ∧ p0.toInt ≤ 65533) ∨ (65536 ≤ p0.toInt ∧ p0.toInt ≤ 983039) then (1 : Int32) else (0 : Int32)) := by
  rw [own2_e142]
  by_cases hc146 : p0 < (12289 : Int32)
  · rw [if_pos hc146]
    rw [Int32.lt_iff_toInt_lt, show (12289 : Int32).toInt = 12289 from by decide] at hc146
    rw [own2_s155]
    exact own_ifc (by omega) rfl rfl
  · rw [if_neg hc146]
    rw [Int32.lt_iff_toInt_lt, show (12289 : Int32).toInt = 12289 from by decide] at hc146
    by_cases hc152 : (55295 : Int32) < p0
    · rw [if_pos hc152]
      rw [Int32.lt_iff_toInt_lt, show (55295 : Int32).toInt = 55295 from by decide] at hc152
      rw [own2_s155]
      exact own_ifc (by omega) rfl rfl
    · rw [if_neg hc152]
      rw [Int32.lt_iff_toInt_lt, show (55295 : Int32).toInt = 55295 from by decide] at hc152
      rw [own2_s191]
      exact own_ifc (by omega) rfl rfl
theorem own2_s128 (p0 : Int32) : own2_f128 p0 = (if (11264 ≤ p0.toInt ∧ p0.toInt ≤ 12271) ∨ (12289 ≤ p0.toInt ∧ p0.toInt ≤ 55295) ∨ (63744 ≤ p0.toInt ∧ p0.toInt ≤ 64975) ∨ (65008 ≤ p0.toInt ∧ p0.toInt ≤ 65533) ∨ (65536 ≤ p0.toInt ∧ p0.toInt ≤ 983039) then (1 : Int32) else (0 : Int32)) := by
  rw [own2_e128]
  by_cases hc132 : p0 < (11264 : Int32)
  · rw [if_pos hc132]
    rw [Int32.lt_iff_toInt_lt, show (11264 : Int32).toInt = 11264 from by decide] at hc132
    rw [own2_s142]
    exact own_ifc (by omega) rfl rfl
  · rw [if_neg hc132]
    rw [Int32.lt_iff_toInt_lt, show (11264 : Int32).toInt = 11264 from by decide] at hc132
    by_cases hc139 : (12271 : Int32) < p0
    · rw [if_pos hc139]
      rw [Int32.lt_iff_toInt_lt, show (12271 : Int32).toInt = 12271 from by decide] at hc139
      rw [own2_s142]
      exact own_ifc (by omega) rfl rfl
    · rw [if_neg hc139]
      rw [Int32.lt_iff_toInt_lt, show (12271 : Int32).toInt = 12271 from by decide] at hc139
      rw [own2_s191]
      exact own_ifc (by omega) rfl rfl
theorem own2_s114 (p0 : Int32) : own2_f114 p0 = (if (8304 ≤ p0.toInt ∧ p0.toInt ≤ 8591) ∨ (11264 ≤ p0.toInt ∧ p0.toInt ≤ 12271) ∨ (12289 ≤ p0.toInt ∧ p0.toInt ≤ 55295) ∨ (63744 ≤ p0.toInt ∧ p0.toInt ≤ 64975) ∨ (65008 ≤ p0.toInt ∧ p0.toInt ≤ 65533) ∨ (65536 ≤ p0.toInt ∧ p0.toInt ≤ 983039) then (1 : Int32) else (0 : Int32)) := by
  rw [own2_e114]
  by_cases hc118 : p0 < (8304 : Int32)
  · rw [if_pos hc118]
    rw [Int32.lt_iff_toInt_lt, show (8304 : Int32).toInt = 8304 from by decide] at hc118
    rw [own2_s128]
    exact own_ifc (by omega) rfl rfl
  · rw [if_neg hc118]
    rw [Int32.lt_iff_toInt_lt, show (8304 : Int32).toInt = 8304 from by decide] at hc118
    by_cases hc125 : (8591 : Int32) < p0
    · rw [if_pos hc125]
      rw [Int32.lt_iff_toInt_lt, show (8591 : Int32).toInt = 8591 from by decide] at hc125
      rw [own2_s128]
      exact own_ifc (by omega) rfl rfl
    · rw [if_neg hc125]
      rw [Int32.lt_iff_toInt_lt, show (8591 : Int32).toInt = 8591 from by decide] at hc125
      rw [own2_s191]
      exact own_ifc (by omega) rfl rfl
theorem own2_s100 (p0 : Int32) : own2_f100 p0 = (if (8204 ≤ p0.toInt ∧ p0.toInt ≤ 8205) ∨ (8304 ≤ p0.toInt ∧ p0.toInt ≤ 8591) ∨ (11264 ≤ p0.toInt ∧ p0.toInt ≤ 12271) ∨ (12289 ≤ p0.toInt ∧ p0.toInt ≤ 55295) ∨ (63744 ≤ p0.toInt ∧ p0.toInt ≤ 64975) ∨ (65008 ≤ p0.toInt ∧ p0.toInt ≤ 65533) ∨ (65536 ≤ p0.toInt ∧ p0.toInt ≤ 983039) then (1 : Int32) else (0 : Int32)) := by
  rw [own2_e100]
  by_cases hc104 : p0 < (8204 : Int32)
  · rw [if_pos hc104]
    rw [Int32.lt_iff_toInt_lt, show (8204 : Int32).toInt = 8204 from by decide] at hc104
    rw [own2_s114]
    exact own_ifc (by omega) rfl rfl
  · rw [if_neg hc104]
    rw [Int32.lt_iff_toInt_lt, show (8204 : Int32).toInt = 8204 from by decide] at hc104
    by_cases hc111 : (8205 : Int32) < p0
    · rw [if_pos hc111]
      rw [Int32.lt_iff_toInt_lt, show (8205 : Int32).toInt = 8205 from by decide] at hc111
      rw [own2_s114]
      exact own_ifc (by omega) rfl rfl
    · rw [if_neg hc111]
      rw [Int32.lt_iff_toInt_lt, show (8205 : Int32).toInt = 8205 from by decide] at hc111
      rw [own2_s191]
      exact own_ifc (by omega) rfl rfl
theorem own2_s86 (p0 : Int32) : own2_f86 p0 = (if (895 ≤ p0.toInt ∧ p0.toInt ≤ 8191) ∨ (8204 ≤ p0.toInt ∧ p0.toInt ≤ 8205) ∨ (8304 ≤ p0.toInt ∧ p0.toInt ≤ 8591) ∨ (11264 ≤ p0.toInt ∧ p0.toInt ≤ 12271) ∨ (12289 ≤ p0.toInt ∧ p0.toInt ≤ 55295) ∨ (63744 ≤ p0.toInt ∧ p0.toInt ≤ 64975) ∨ (65008 ≤ p0.toInt ∧ p0.toInt ≤ 65533) ∨ (65536 ≤ p0.toInt ∧ p0.toInt ≤ 983039) then (1 : Int32) else (0 : Int32)) := by
  rw [own2_e86]
  by_cases hc90 : p0 < (895 : Int32)
  · rw [if_pos hc90]
    rw [Int32.lt_iff_toInt_lt, show (895 : Int32).toInt = 895 from by decide] at hc90
    rw [own2_s100]
    exact own_ifc (by omega) rfl rfl
  · rw [if_neg hc90]
    rw [Int32.lt_iff_toInt_lt, show (895 : Int32).toInt = 895 from by decide] at hc90
    by_cases hc97 : (8191 : Int32) < p0
    · rw [if_pos hc97]
      rw [Int32.lt_iff_toInt_lt, show (8191 : Int32).toInt = 8191 from by decide] at hc97
      rw [own2_s100]
      exact own_ifc (by omega) rfl rfl
    · rw [if_neg hc97]
      rw [Int32.lt_iff_toInt_lt, show (8191 : Int32).toInt = 8191 from by decide] at hc97
      rw [own2_s191]
      exact own_ifc (by omega) rfl rfl
theorem own2_s72 (p0 : Int32) : own2_f72 p0 = (if (880 ≤ p0.toInt ∧ p0.toInt ≤ 893) ∨ (895 ≤ p0.toInt ∧ p0.toInt ≤ 8191) ∨ (8204 ≤ p0.toInt ∧ p0.toInt ≤ 8205) ∨ (8304 ≤ p0.toInt ∧ p0.toInt ≤ 8591) ∨ (11264 ≤ p0.toInt ∧ p0.toInt ≤ 12271) ∨ (12289 ≤ p0.toInt ∧ p0.toInt ≤ 55295) ∨ (63744 ≤ p0.toInt ∧ p0.toInt ≤ 64975) ∨ (65008 ≤ p0.toInt ∧ p0.toInt ≤ 65533) ∨ (65536 ≤ p0.toInt ∧ p0.toInt ≤ 983039) then (1 : Int32) else (0 : Int32)) := by
  rw [own2_e72]
  by_cases hc76 : p0 < (880 : Int32)
  · rw [if_pos hc76]
    rw [Int32.lt_iff_toInt_lt, show (880 : Int32).toInt = 880 from by decide] at hc76
    rw [own2_s86]
    exact own_ifc (by omega) rfl rfl
  · rw [if_neg hc76]
    rw [Int32.lt_iff_toInt_lt, show (880 : Int32).toInt = 880 from by decide] at hc76
    by_cases hc83 : (893 : Int32) < p0
    · rw [if_pos hc83]
      rw [Int32.lt_iff_toInt_lt, show (893 : Int32).toInt = 893 from by decide] at hc83
      rw [own2_s86]
      exact own_ifc (by omega) rfl rfl
    · rw [if_neg hc83]
      rw [Int32.lt_iff_toInt_lt, show (893 : Int32).toInt = 893 from by decide] at hc83
      rw [own2_s191]
      exact own_ifc (by omega) rfl rfl
theorem own2_s58 (p0 : Int32) : own2_f58 p0 = (if (248 ≤ p0.toInt ∧ p0.toInt ≤ 767) ∨ (880 ≤ p0.toInt ∧ p0.toInt ≤ 893) ∨ (895 ≤ p0.toInt ∧ p0.toInt ≤ 8191) ∨ (8204 ≤ p0.toInt ∧ p0.toInt ≤ 8205) ∨ (8304 ≤ p0.toInt ∧ p0.toInt ≤ 8591) ∨ (11264 ≤ p0.toInt ∧ p0.toInt ≤ 12271) ∨ (12289 ≤ p0.toInt ∧ p0.toInt ≤ 55295) ∨ (63744 ≤ p0.toInt ∧ p0.toInt ≤ 64975) ∨ (65008 ≤ p0.toInt ∧ p0.toInt ≤ 65533) ∨ (65536 ≤ p0.toInt ∧ p0.toInt ≤ 983039) then (1 : Int32) else (0 : Int32)) := by
  rw [own2_e58]
  by_cases hc62 : p0 < (248 : Int32)
  · rw [if_pos hc62]
    rw [Int32.lt_iff_toInt_lt, show (248 : Int32).toInt = 248 from by decide] at hc62
    rw [own2_s72]
    exact own_ifc (by omega) rfl rfl
  · rw [if_neg hc62]
    rw [Int32.lt_iff_toInt_lt, show (248 : Int32).toInt = 248 from by decide] at hc62
    by_cases hc69 : (767 : Int32) < p0
    · rw [if_pos hc69]
      rw [Int32.lt_iff_toInt_lt, show (767 : Int32).toInt = 767 from by decide] at hc69
      rw [own2_s72]
      exact own_ifc (by omega) rfl rfl
    · rw [if_neg hc69]
      rw [Int32.lt_iff_toInt_lt, show (767 : Int32).toInt = 767 from by decide] at hc69
      rw [own2_s191]
      exact own_ifc (by omega) rfl rfl
theorem own2_s44 (p0 : Int32) : own2_f44 p0 = (if (216 ≤ p0.toInt ∧ p0.toInt ≤ 246) ∨ (248 ≤ p0.toInt ∧ p0.toInt ≤ 767) ∨ (880 ≤ p0.toInt ∧ p0.toInt ≤ 893) ∨ (895 ≤ p0.toInt ∧ p0.toInt ≤ 8191) ∨ (8204 ≤ p0.toInt ∧ p0.toInt ≤ 8205) ∨ (8304 ≤ p0.toInt ∧ p0.toInt ≤ 8591) ∨ (11264 ≤ p0.toInt ∧ p0.toInt ≤ 12271) ∨ (12289 ≤ p0.toInt ∧ p0.toInt ≤ 55295) ∨ (63744 ≤ p0.toInt ∧ p0.toInt ≤ 64975) ∨ (65008 ≤ p0.toInt ∧ p0.toInt ≤ 65533) ∨ (65536 ≤ p0.toInt ∧ p0.toInt ≤ 983039) then (1 : Int32) else (0 : Int32)) := by
  rw [own2_e44]
  by_cases hc48 : p0 < (216 : Int32)
  · rw [if_pos hc48]
    rw [Int32.lt_iff_toInt_lt, show (216 : Int32).toInt = 216 from by decide] at hc48
    rw [own2_s58]
    exact own_ifc (by omega) rfl rfl
  · rw [if_neg hc48]
    rw [Int32.lt_iff_toInt_lt, show (216 : Int32).toInt = 216 from by decide] at hc48
    by_cases hc55 : (246 : Int32) < p0
    · rw [if_pos hc55]
      rw [Int32.lt_iff_toInt_lt, show (246 : Int32).toInt = 246 from by decide] at hc55
      rw [own2_s58]
      exact own_ifc (by omega) rfl rfl
    · rw [if_neg hc55]
      rw [Int32.lt_iff_toInt_lt, show (246 : Int32).toInt = 246 from by decide] at hc55
      rw [own2_s191]
      exact own_ifc (by omega) rfl rfl
theorem own2_s30 (p0 : Int32) : own2_f30 p0 = (if (192 ≤ p0.toInt ∧ p0.toInt ≤ 214) ∨ (216 ≤ p0.toInt ∧ p0.toInt ≤ 246) ∨ (248 ≤ p0.toInt ∧ p0.toInt ≤ 767) ∨ (880 ≤ p0.toInt ∧ p0.toInt ≤ 893) ∨ (895 ≤ p0.toInt ∧ p0.toInt ≤ 8191) ∨ (8204 ≤ p0.toInt ∧ p0.toInt ≤ 8205) ∨ (8304 ≤ p0.toInt ∧ p0.toInt ≤ 8591) ∨ (11264 ≤ p0.toInt ∧ p0.toInt ≤ 12271) ∨ (12289 ≤ p0.toInt ∧ p0.toInt ≤ 55295) ∨ (63744 ≤ p0.toInt ∧ p0.toInt ≤ 64975) ∨ (65008 ≤ p0.toInt ∧ p0.toInt ≤ 65533) ∨ (65536 ≤ p0.toInt ∧ p0.toInt ≤ 983039) then (1 : Int32) else (0 : Int32)) := by
  rw [own2_e30]
  by_cases hc34 : p0 < (192 : Int32)
  · rw [if_pos hc34]
    rw [Int32.lt_iff_toInt_lt, show (192 : Int32).toInt = 192 from by decide] at hc34
    rw [own2_s44]
    exact own_ifc (by omega) rfl rfl
  · rw [if_neg hc34]
    rw [Int32.lt_iff_toInt_lt, show (192 : Int32).toInt = 192 from by decide] at hc34
    by_cases hc41 : (214 : Int32) < p0
    · rw [if_pos hc41]
      rw [Int32.lt_iff_toInt_lt, show (214 : Int32).toInt = 214 from by decide] at hc41
      rw [own2_s44]
      exact own_ifc (by omega) rfl rfl
    · rw [if_neg hc41]
      rw [Int32.lt_iff_toInt_lt, show (214 : Int32).toInt = 214 from by decide] at hc41
      rw [own2_s191]
      exact own_ifc (by omega) rfl rfl
theorem own2_s12 (p0 : Int32) : own2_f12 p0 = (if (95 ≤ p0.toInt ∧ p0.toInt ≤ 95) ∨ (97 ≤ p0.toInt ∧ p0.toInt ≤ 122) ∨ (192 ≤ p0.toInt ∧ p0.toInt ≤ 214) ∨ (216 ≤ p0.toInt ∧ p0.toInt ≤ 246) ∨ (248 ≤ p0.toInt ∧ p0.toInt ≤ 767) ∨ (880 ≤ p0.toInt ∧ p0.toInt ≤ 893) ∨ (895 ≤ p0.toInt ∧ p0.toInt ≤ 8191) ∨ (8204 ≤ p0.toInt ∧ p0.toInt ≤ 8205) ∨ (8304 ≤ p0.toInt ∧ p0.toInt ≤ 8591) ∨ (11264 ≤ p0.toInt ∧ p0.toInt ≤ 12271) ∨ (12289 ≤ p0.toInt ∧ p0.toInt ≤ 55295) ∨ (63744 ≤ p0.toInt ∧ p0.toInt ≤ 64975) ∨ (65008 ≤ p0.toInt ∧ p0.toInt ≤ 65533) ∨ (65536 ≤ p0.toInt ∧ p0.toInt ≤ 983039) then (1 : Int32) else (0 : Int32)) := by
  rw [own2_e12]
  by_cases hc15 : p0 = (95 : Int32)
  · rw [if_pos hc15]
    rw [← Int32.toInt_inj, show (95 : Int32).toInt = 95 from by decide] at hc15
    rw [own2_s191]
    exact own_ifc (by omega) rfl rfl
  · rw [if_neg hc15]
    rw [← Int32.toInt_inj, show (95 : Int32).toInt = 95 from by decide] at hc15
    by_cases hc21 : p0 < (97 : Int32)
    · rw [if_pos hc21]
      rw [Int32.lt_iff_toInt_lt, show (97 : Int32).toInt = 97 from by decide] at hc21
      rw [own2_s30]
      exact own_ifc (by omega) rfl rfl
    · rw [if_neg hc21]
      rw [Int32.lt_iff_toInt_lt, show (97 : Int32).toInt = 97 from by decide] at hc21
      by_cases hc27 : (122 : Int32) < p0
      · rw [if_pos hc27]
        rw [Int32.lt_iff_toInt_lt, show (122 : Int32).toInt = 122 from by decide] at hc27
        rw [own2_s30]
        exact own_ifc (by omega) rfl rfl
      · rw [if_neg hc27]
        rw [Int32.lt_iff_toInt_lt, show (122 : Int32).toInt = 122 from by decide] at hc27
        rw [own2_s191]
        exact own_ifc (by omega) rfl rfl
theorem own2_s0 (p0 : Int32) : own2_f0 p0 = (if (65 ≤ p0.toInt ∧ p0.toInt ≤ 90) ∨ (95 ≤ p0.toInt ∧ p0.toInt ≤ 95) ∨ (97 ≤ p0.toInt ∧ p0.toInt ≤ 122) ∨ (192 ≤ p0.toInt ∧ p0.toInt ≤ 214) ∨ (216 ≤ p0.toInt ∧ p0.toInt ≤ 246) ∨ (248 ≤ p0.toInt ∧ p0.toInt ≤ 767) ∨ (880 ≤ p0.toInt ∧ p0.toInt ≤ 893) ∨ (895 ≤ p0.toInt ∧ p0.toInt ≤ 8191) ∨ (8204 ≤ p0.toInt ∧ p0.toInt ≤ 8205) ∨ (8304 ≤ p0.toInt ∧ p0.toInt ≤ 8591) ∨ (11264 ≤ p0.toInt ∧ p0.toInt ≤ 12271) ∨ (12289 ≤ p0.toInt ∧ p0.toInt ≤ 55295) ∨ (63744 ≤ p0.toInt ∧ p0.toInt ≤ 64975) ∨ (65008 ≤ p0.toInt ∧ p0.toInt ≤ 65533) ∨ (65536 ≤ p0.toInt ∧ p0.toInt ≤ 983039) then (1 : Int32) else (0 : Int32)) := by
  rw [own2_e0]
  by_cases hc3 : p0 < (65 : Int32)
  · rw [if_pos hc3]
    rw [Int32.lt_iff_toInt_lt, show (65 : Int32).toInt = 65 from by decide] at hc3
    rw [own2_s12]
    exact own_ifc (by omega) rfl rfl
  · rw [if_neg hc3]
    rw [Int32.lt_iff_toInt_lt, show (65 : Int32).toInt = 65 from by decide] at hc3
    by_cases hc9 : (90 : Int32) < p0
    · rw [if_pos hc9]
      rw [Int32.lt_iff_toInt_lt, show (90 : Int32).toInt = 90 from by decide] at hc9
      rw [own2_s12]
      exact own_ifc (by omega) rfl rfl
    · rw [if_neg hc9]
      rw [Int32.lt_iff_toInt_lt, show (90 : Int32).toInt = 90 from by decide] at hc9
      rw [own2_s191]
      exact own_ifc (by omega) rfl rfl
theorem d3_0 : decode method_2_code 0 = .ok (.iload_n 0, 1) := by decide +kernel
theorem d3_1 : decode method_2_code 1 = .ok (.bipush 65, 2) := by decide +kernel
theorem d3_3 : decode method_2_code 3 = .ok (.if_icmp .ge 5, 3) := by decide +kernel
theorem d3_6 : decode method_2_code 6 = .ok (.iconst 1, 1) := by decide +kernel
theorem d3_7 : decode method_2_code 7 = .ok (.ireturn, 1) := by decide +kernel
theorem d3_8 : decode method_2_code 8 = .ok (.iload_n 0, 1) := by decide +kernel
theorem d3_9 : decode method_2_code 9 = .ok (.bipush 91, 2) := by decide +kernel
theorem d3_11 : decode method_2_code 11 = .ok (.if_icmp .lt 11, 3) := by decide +kernel
theorem d3_14 : decode method_2_code 14 = .ok (.iload_n 0, 1) := by decide +kernel
theorem d3_15 : decode method_2_code 15 = .ok (.bipush 94, 2) := by decide +kernel
theorem d3_17 : decode method_2_code 17 = .ok (.if_icmp .gt 5, 3) := by decide +kernel
theorem d3_20 : decode method_2_code 20 = .ok (.iconst 1, 1) := by decide +kernel
theorem d3_21 : decode method_2_code 21 = .ok (.ireturn, 1) := by decide +kernel
theorem d3_22 : decode method_2_code 22 = .ok (.iload_n 0, 1) := by decide +kernel
theorem d3_23 : decode method_2_code 23 = .ok (.bipush 96, 2) := by decide +kernel
theorem d3_25 : decode method_2_code 25 = .ok (.if_icmp .ne 5, 3) := by decide +kernel
theorem d3_28 : decode method_2_code 28 = .ok (.iconst 1, 1) := by decide +kernel
theorem d3_29 : decode method_2_code 29 = .ok (.ireturn, 1) := by decide +kernel
theorem d3_30 : decode method_2_code 30 = .ok (.iload_n 0, 1) := by decide +kernel
theorem d3_31 : decode method_2_code 31 = .ok (.bipush 123, 2) := by decide +kernel
theorem d3_33 : decode method_2_code 33 = .ok (.if_icmp .lt 12, 3) := by decide +kernel
theorem d3_36 : decode method_2_code 36 = .ok (.iload_n 0, 1) := by decide +kernel
theorem d3_37 : decode method_2_code 37 = .ok (.sipush 191, 3) := by decide +kernel
theorem d3_40 : decode method_2_code 40 = .ok (.if_icmp .gt 5, 3) := by decide +kernel
theorem d3_43 : decode method_2_code 43 = .ok (.iconst 1, 1) := by decide +kernel
theorem d3_44 : decode method_2_code 44 = .ok (.ireturn, 1) := by decide +kernel
theorem d3_45 : decode method_2_code 45 = .ok (.iload_n 0, 1) := by decide +kernel
theorem d3_46 : decode method_2_code 46 = .ok (.sipush 215, 3) := by decide +kernel
theorem d3_49 : decode method_2_code 49 = .ok (.if_icmp .ne 5, 3) := by decide +kernel
theorem d3_52 : decode method_2_code 52 = .ok (.iconst 1, 1) := by decide +kernel
theorem d3_53 : decode method_2_code 53 = .ok (.ireturn, 1) := by decide +kernel
theorem d3_54 : decode method_2_code 54 = .ok (.iload_n 0, 1) := by decide +kernel
theorem d3_55 : decode method_2_code 55 = .ok (.sipush 247, 3) := by decide +kernel
theorem d3_58 : decode method_2_code 58 = .ok (.if_icmp .ne 5, 3) := by decide +kernel
theorem d3_61 : decode method_2_code 61 = .ok (.iconst 1, 1) := by decide +kernel
theorem d3_62 : decode method_2_code 62 = .ok (.ireturn, 1) := by decide +kernel
theorem d3_63 : decode method_2_code 63 = .ok (.iload_n 0, 1) := by decide +kernel
theorem d3_64 : decode method_2_code 64 = .ok (.sipush 768, 3) := by decide +kernel
theorem d3_67 : decode method_2_code 67 = .ok (.if_icmp .lt 12, 3) := by decide +kernel
theorem d3_70 : decode method_2_code 70 = .ok (.iload_n 0, 1) := by decide +kernel
theorem d3_71 : decode method_2_code 71 = .ok (.sipush 879, 3) := by decide +kernel
theorem d3_74 : decode method_2_code 74 = .ok (.if_icmp .gt 5, 3) := by decide +kernel
theorem d3_77 : decode method_2_code 77 = .ok (.iconst 1, 1) := by decide +kernel
theorem d3_78 : decode method_2_code 78 = .ok (.ireturn, 1) := by decide +kernel
theorem d3_79 : decode method_2_code 79 = .ok (.iload_n 0, 1) := by decide +kernel
theorem d3_80 : decode method_2_code 80 = .ok (.sipush 894, 3) := by decide +kernel
theorem d3_83 : decode method_2_code 83 = .ok (.if_icmp .ne 5, 3) := by decide +kernel
theorem d3_86 : decode method_2_code 86 = .ok (.iconst 1, 1) := by decide +kernel
theorem d3_87 : decode method_2_code 87 = .ok (.ireturn, 1) := by decide +kernel
theorem d3_88 : decode method_2_code 88 = .ok (.iload_n 0, 1) := by decide +kernel
theorem d3_89 : decode method_2_code 89 = .ok (.sipush 8192, 3) := by decide +kernel
theorem d3_92 : decode method_2_code 92 = .ok (.if_icmp .lt 12, 3) := by decide +kernel
theorem d3_95 : decode method_2_code 95 = .ok (.iload_n 0, 1) := by decide +kernel
theorem d3_96 : decode method_2_code 96 = .ok (.sipush 8203, 3) := by decide +kernel
theorem d3_99 : decode method_2_code 99 = .ok (.if_icmp .gt 5, 3) := by decide +kernel
theorem d3_102 : decode method_2_code 102 = .ok (.iconst 1, 1) := by decide +kernel
theorem d3_103 : decode method_2_code 103 = .ok (.ireturn, 1) := by decide +kernel
theorem d3_104 : decode method_2_code 104 = .ok (.iload_n 0, 1) := by decide +kernel
theorem d3_105 : decode method_2_code 105 = .ok (.sipush 8206, 3) := by decide +kernel
theorem d3_108 : decode method_2_code 108 = .ok (.if_icmp .lt 12, 3) := by decide +kernel
theorem d3_111 : decode method_2_code 111 = .ok (.iload_n 0, 1) := by decide +kernel
theorem d3_112 : decode method_2_code 112 = .ok (.sipush 8303, 3) := by decide +kernel
theorem d3_115 : decode method_2_code 115 = .ok (.if_icmp .gt 5, 3) := by decide +kernel
theorem d3_118 : decode method_2_code 118 = .ok (.iconst 1, 1) := by decide +kernel
theorem d3_119 : decode method_2_code 119 = .ok (.ireturn, 1) := by decide +kernel
theorem d3_120 : decode method_2_code 120 = .ok (.iload_n 0, 1) := by decide +kernel
theorem d3_121 : decode method_2_code 121 = .ok (.sipush 8592, 3) := by decide +kernel
theorem d3_124 : decode method_2_code 124 = .ok (.if_icmp .lt 12, 3) := by decide +kernel
theorem d3_127 : decode method_2_code 127 = .ok (.iload_n 0, 1) := by decide +kernel
theorem d3_128 : decode method_2_code 128 = .ok (.sipush 11263, 3) := by decide +kernel
theorem d3_131 : decode method_2_code 131 = .ok (.if_icmp .gt 5, 3) := by decide +kernel
theorem d3_134 : decode method_2_code 134 = .ok (.iconst 1, 1) := by decide +kernel
theorem d3_135 : decode method_2_code 135 = .ok (.ireturn, 1) := by decide +kernel
theorem d3_136 : decode method_2_code 136 = .ok (.iload_n 0, 1) := by decide +kernel
theorem d3_137 : decode method_2_code 137 = .ok (.sipush 12272, 3) := by decide +kernel
theorem d3_140 : decode method_2_code 140 = .ok (.if_icmp .lt 12, 3) := by decide +kernel
theorem d3_143 : decode method_2_code 143 = .ok (.iload_n 0, 1) := by decide +kernel
theorem d3_144 : decode method_2_code 144 = .ok (.sipush 12288, 3) := by decide +kernel
theorem d3_147 : decode method_2_code 147 = .ok (.if_icmp .gt 5, 3) := by decide +kernel
theorem d3_150 : decode method_2_code 150 = .ok (.iconst 1, 1) := by decide +kernel
theorem d3_151 : decode method_2_code 151 = .ok (.ireturn, 1) := by decide +kernel
theorem d3_152 : decode method_2_code 152 = .ok (.iload_n 0, 1) := by decide +kernel
theorem d3_153 : decode method_2_code 153 = .ok (.ldc 7, 2) := by decide +kernel
theorem d3_155 : decode method_2_code 155 = .ok (.if_icmp .lt 11, 3) := by decide +kernel
theorem d3_158 : decode method_2_code 158 = .ok (.iload_n 0, 1) := by decide +kernel
theorem d3_159 : decode method_2_code 159 = .ok (.ldc 8, 2) := by decide +kernel
theorem d3_161 : decode method_2_code 161 = .ok (.if_icmp .gt 5, 3) := by decide +kernel
theorem d3_164 : decode method_2_code 164 = .ok (.iconst 1, 1) := by decide +kernel
theorem d3_165 : decode method_2_code 165 = .ok (.ireturn, 1) := by decide +kernel
theorem d3_166 : decode method_2_code 166 = .ok (.iload_n 0, 1) := by decide +kernel
theorem d3_167 : decode method_2_code 167 = .ok (.ldc 9, 2) := by decide +kernel
theorem d3_169 : decode method_2_code 169 = .ok (.if_icmp .lt 11, 3) := by decide +kernel
theorem d3_172 : decode method_2_code 172 = .ok (.iload_n 0, 1) := by decide +kernel
theorem d3_173 : decode method_2_code 173 = .ok (.ldc 10, 2) := by decide +kernel
theorem d3_175 : decode method_2_code 175 = .ok (.if_icmp .gt 5, 3) := by decide +kernel
theorem d3_178 : decode method_2_code 178 = .ok (.iconst 1, 1) := by decide +kernel
theorem d3_179 : decode method_2_code 179 = .ok (.ireturn, 1) := by decide +kernel
theorem d3_180 : decode method_2_code 180 = .ok (.iload_n 0, 1) := by decide +kernel
theorem d3_181 : decode method_2_code 181 = .ok (.ldc 11, 2) := by decide +kernel
theorem d3_183 : decode method_2_code 183 = .ok (.if_icmp .lt 11, 3) := by decide +kernel
theorem d3_186 : decode method_2_code 186 = .ok (.iload_n 0, 1) := by decide +kernel
theorem d3_187 : decode method_2_code 187 = .ok (.ldc 12, 2) := by decide +kernel
theorem d3_189 : decode method_2_code 189 = .ok (.if_icmp .gt 5, 3) := by decide +kernel
theorem d3_192 : decode method_2_code 192 = .ok (.iconst 1, 1) := by decide +kernel
theorem d3_193 : decode method_2_code 193 = .ok (.ireturn, 1) := by decide +kernel
theorem d3_194 : decode method_2_code 194 = .ok (.iload_n 0, 1) := by decide +kernel
theorem d3_195 : decode method_2_code 195 = .ok (.ldc 13, 2) := by decide +kernel
theorem d3_197 : decode method_2_code 197 = .ok (.if_icmp .le 5, 3) := by decide +kernel
theorem d3_200 : decode method_2_code 200 = .ok (.iconst 1, 1) := by decide +kernel
theorem d3_201 : decode method_2_code 201 = .ok (.ireturn, 1) := by decide +kernel
theorem d3_202 : decode method_2_code 202 = .ok (.iconst 0, 1) := by decide +kernel
theorem d3_203 : decode method_2_code 203 = .ok (.ireturn, 1) := by decide +kernel
def own3_f194 (p0 : Int32) : Int32 := (if (983039 : Int32) < p0 then (1 : Int32) else (0 : Int32))
theorem own3_e194 (p0 : Int32) : (own3_f194 p0) = (if (983039 : Int32) < p0 then (1 : Int32) else (0 : Int32)) := rfl
set_option maxRecDepth 65536 in
set_option maxHeartbeats 40000000 in
theorem own3_b194 {p : Program} {l : Launch} {e : Env} {R : Room} {s : State} {m : MethodId} {args : Array Value} {below : List Frame} {meth : Method} {c : Code} {T0 : State} {locs : List Loc} {cells slots : Nat} {Z : State} {t0 : Array Value} {h0 : Heap} (p0 : Int32) (X0 : Stand p l e R s m args below meth c T0 locs cells slots) (hx : p.tables.exec = Jvm.exec) (hZ : Z.Warmed39 s.vm) (hw : ∀ d ∈ tables_1, d.before t0 Z = true) (hby : c.code = method_2_code) (hown : s.vm.findClass "com/example/crisp_events/crispevents/xml/XmlNamesIsNameStartPinLaw" = some m.cls) (e0 : T0.heap = h0)  (hret : meth.sig.returnType = some .boolean) {fs : List Frame} (hr : ∀ (f : JFrame) (acts : List Action), f.method = m → f.locked = none → f.entered = [] → (doReturn e (T0.setTop f) acts (some (.int (own3_f194 p0)))).1 = T0.setFrames fs) : Steps p.tables e below (T0.setTop (mkF m 194 #[.val (.int p0)] [])) (T0.setFrames fs) := by
  rw [own3_e194] at hr
  show Steps p.tables e below (T0.setTop (mkF m 194 #[.val (.int p0)] [])) _
  refine XS.iloadN X0.here hx rfl (hb hby d3_194) rfl ?_
  show Steps p.tables e below (T0.setTop (mkF m 195 #[.val (.int p0)] [(.int p0)])) _
  refine X0.ldcInt hx hown (mvT hZ (hw _ (List.mem_of_getElem? (i := 7) rfl))) (g := (mkF m 195 #[.val (.int p0)] [(.int p0)])) rfl (hb hby d3_195) _ ?_
  by_cases hc197 : (983039 : Int32) < p0
  · rw [if_pos hc197] at hr
    show Steps p.tables e below (T0.setTop (mkF m 197 #[.val (.int p0)] [(.int (983039 : Int32)), (.int p0)])) _
    refine XS.icmpNo X0.here hx rfl (hb hby d3_197) rfl (tlt hc197).2.2.2 ?_
    show Steps p.tables e below (T0.setTop (mkF m 200 #[.val (.int p0)] [])) _
    refine XS.iconst X0.here hx rfl (hb hby d3_200) ?_
    show Steps p.tables e below (T0.setTop (mkF m 201 #[.val (.int p0)] [(.int (1 : Int32))])) _
    exact retN X0 hx (t := .boolean) hret (by simp) (hb hby d3_201) hr
  · rw [if_neg hc197] at hr
    show Steps p.tables e below (T0.setTop (mkF m 197 #[.val (.int p0)] [(.int (983039 : Int32)), (.int p0)])) _
    refine XS.icmpYes X0.here hx rfl (pc0 := 197) (pc' := 202) rfl (hb hby d3_197) rfl (flt hc197).2.2.2 (by decide) (by decide) ?_
    show Steps p.tables e below (T0.setTop (mkF m 202 #[.val (.int p0)] [])) _
    refine XS.iconst X0.here hx rfl (hb hby d3_202) ?_
    show Steps p.tables e below (T0.setTop (mkF m 203 #[.val (.int p0)] [(.int (0 : Int32))])) _
    exact retN X0 hx (t := .boolean) hret (by simp) (hb hby d3_203) hr
def own3_f180 (p0 : Int32) : Int32 := (if p0 < (65534 : Int32) then (own3_f194 p0) else (if (65535 : Int32) < p0 then (own3_f194 p0) else (1 : Int32)))
theorem own3_e180 (p0 : Int32) : (own3_f180 p0) = (if p0 < (65534 : Int32) then (own3_f194 p0) else (if (65535 : Int32) < p0 then (own3_f194 p0) else (1 : Int32))) := rfl
set_option maxRecDepth 65536 in
set_option maxHeartbeats 40000000 in
theorem own3_b180 {p : Program} {l : Launch} {e : Env} {R : Room} {s : State} {m : MethodId} {args : Array Value} {below : List Frame} {meth : Method} {c : Code} {T0 : State} {locs : List Loc} {cells slots : Nat} {Z : State} {t0 : Array Value} {h0 : Heap} (p0 : Int32) (X0 : Stand p l e R s m args below meth c T0 locs cells slots) (hx : p.tables.exec = Jvm.exec) (hZ : Z.Warmed39 s.vm) (hw : ∀ d ∈ tables_1, d.before t0 Z = true) (hby : c.code = method_2_code) (hown : s.vm.findClass "com/example/crisp_events/crispevents/xml/XmlNamesIsNameStartPinLaw" = some m.cls) (e0 : T0.heap = h0)  (hret : meth.sig.returnType = some .boolean) {fs : List Frame} (hr : ∀ (f : JFrame) (acts : List Action), f.method = m → f.locked = none → f.entered = [] → (doReturn e (T0.setTop f) acts (some (.int (own3_f180 p0)))).1 = T0.setFrames fs) : Steps p.tables e below (T0.setTop (mkF m 180 #[.val (.int p0)] [])) (T0.setFrames fs) := by
  rw [own3_e180] at hr
  show Steps p.tables e below (T0.setTop (mkF m 180 #[.val (.int p0)] [])) _
  refine XS.iloadN X0.here hx rfl (hb hby d3_180) rfl ?_
  show Steps p.tables e below (T0.setTop (mkF m 181 #[.val (.int p0)] [(.int p0)])) _
  refine X0.ldcInt hx hown (mvT hZ (hw _ (List.mem_of_getElem? (i := 25) rfl))) (g := (mkF m 181 #[.val (.int p0)] [(.int p0)])) rfl (hb hby d3_181) _ ?_
  by_cases hc183 : p0 < (65534 : Int32)
  · rw [if_pos hc183] at hr
    show Steps p.tables e below (T0.setTop (mkF m 183 #[.val (.int p0)] [(.int (65534 : Int32)), (.int p0)])) _
    refine XS.icmpYes X0.here hx rfl (pc0 := 183) (pc' := 194) rfl (hb hby d3_183) rfl (tlt hc183).1 (by decide) (by decide) ?_
    exact own3_b194 p0 X0 hx hZ hw hby hown e0  hret hr
  · rw [if_neg hc183] at hr
    show Steps p.tables e below (T0.setTop (mkF m 183 #[.val (.int p0)] [(.int (65534 : Int32)), (.int p0)])) _
    refine XS.icmpNo X0.here hx rfl (hb hby d3_183) rfl (flt hc183).1 ?_
    show Steps p.tables e below (T0.setTop (mkF m 186 #[.val (.int p0)] [])) _
    refine XS.iloadN X0.here hx rfl (hb hby d3_186) rfl ?_
    show Steps p.tables e below (T0.setTop (mkF m 187 #[.val (.int p0)] [(.int p0)])) _
    refine X0.ldcInt hx hown (mvT hZ (hw _ (List.mem_of_getElem? (i := 32) rfl))) (g := (mkF m 187 #[.val (.int p0)] [(.int p0)])) rfl (hb hby d3_187) _ ?_
    by_cases hc189 : (65535 : Int32) < p0
    · rw [if_pos hc189] at hr
      show Steps p.tables e below (T0.setTop (mkF m 189 #[.val (.int p0)] [(.int (65535 : Int32)), (.int p0)])) _
      refine XS.icmpYes X0.here hx rfl (pc0 := 189) (pc' := 194) rfl (hb hby d3_189) rfl (tlt hc189).2.2.1 (by decide) (by decide) ?_
      exact own3_b194 p0 X0 hx hZ hw hby hown e0  hret hr
    · rw [if_neg hc189] at hr
      show Steps p.tables e below (T0.setTop (mkF m 189 #[.val (.int p0)] [(.int (65535 : Int32)), (.int p0)])) _
      refine XS.icmpNo X0.here hx rfl (hb hby d3_189) rfl (flt hc189).2.2.1 ?_
      show Steps p.tables e below (T0.setTop (mkF m 192 #[.val (.int p0)] [])) _
      refine XS.iconst X0.here hx rfl (hb hby d3_192) ?_
      show Steps p.tables e below (T0.setTop (mkF m 193 #[.val (.int p0)] [(.int (1 : Int32))])) _
      exact retN X0 hx (t := .boolean) hret (by simp) (hb hby d3_193) hr
def own3_f166 (p0 : Int32) : Int32 := (if p0 < (64976 : Int32) then (own3_f180 p0) else (if (65007 : Int32) < p0 then (own3_f180 p0) else (1 : Int32)))
theorem own3_e166 (p0 : Int32) : (own3_f166 p0) = (if p0 < (64976 : Int32) then (own3_f180 p0) else (if (65007 : Int32) < p0 then (own3_f180 p0) else (1 : Int32))) := rfl
set_option maxRecDepth 65536 in
set_option maxHeartbeats 40000000 in
theorem own3_b166 {p : Program} {l : Launch} {e : Env} {R : Room} {s : State} {m : MethodId} {args : Array Value} {below : List Frame} {meth : Method} {c : Code} {T0 : State} {locs : List Loc} {cells slots : Nat} {Z : State} {t0 : Array Value} {h0 : Heap} (p0 : Int32) (X0 : Stand p l e R s m args below meth c T0 locs cells slots) (hx : p.tables.exec = Jvm.exec) (hZ : Z.Warmed39 s.vm) (hw : ∀ d ∈ tables_1, d.before t0 Z = true) (hby : c.code = method_2_code) (hown : s.vm.findClass "com/example/crisp_events/crispevents/xml/XmlNamesIsNameStartPinLaw" = some m.cls) (e0 : T0.heap = h0)  (hret : meth.sig.returnType = some .boolean) {fs : List Frame} (hr : ∀ (f : JFrame) (acts : List Action), f.method = m → f.locked = none → f.entered = [] → (doReturn e (T0.setTop f) acts (some (.int (own3_f166 p0)))).1 = T0.setFrames fs) : Steps p.tables e below (T0.setTop (mkF m 166 #[.val (.int p0)] [])) (T0.setFrames fs) := by
  rw [own3_e166] at hr
  show Steps p.tables e below (T0.setTop (mkF m 166 #[.val (.int p0)] [])) _
  refine XS.iloadN X0.here hx rfl (hb hby d3_166) rfl ?_
  show Steps p.tables e below (T0.setTop (mkF m 167 #[.val (.int p0)] [(.int p0)])) _
  refine X0.ldcInt hx hown (mvT hZ (hw _ (List.mem_of_getElem? (i := 24) rfl))) (g := (mkF m 167 #[.val (.int p0)] [(.int p0)])) rfl (hb hby d3_167) _ ?_
  by_cases hc169 : p0 < (64976 : Int32)
  · rw [if_pos hc169] at hr
    show Steps p.tables e below (T0.setTop (mkF m 169 #[.val (.int p0)] [(.int (64976 : Int32)), (.int p0)])) _
    refine XS.icmpYes X0.here hx rfl (pc0 := 169) (pc' := 180) rfl (hb hby d3_169) rfl (tlt hc169).1 (by decide) (by decide) ?_
    exact own3_b180 p0 X0 hx hZ hw hby hown e0  hret hr
  · rw [if_neg hc169] at hr
    show Steps p.tables e below (T0.setTop (mkF m 169 #[.val (.int p0)] [(.int (64976 : Int32)), (.int p0)])) _
    refine XS.icmpNo X0.here hx rfl (hb hby d3_169) rfl (flt hc169).1 ?_
    show Steps p.tables e below (T0.setTop (mkF m 172 #[.val (.int p0)] [])) _
    refine XS.iloadN X0.here hx rfl (hb hby d3_172) rfl ?_
    show Steps p.tables e below (T0.setTop (mkF m 173 #[.val (.int p0)] [(.int p0)])) _
    refine X0.ldcInt hx hown (mvT hZ (hw _ (List.mem_of_getElem? (i := 31) rfl))) (g := (mkF m 173 #[.val (.int p0)] [(.int p0)])) rfl (hb hby d3_173) _ ?_
    by_cases hc175 : (65007 : Int32) < p0
    · rw [if_pos hc175] at hr
      show Steps p.tables e below (T0.setTop (mkF m 175 #[.val (.int p0)] [(.int (65007 : Int32)), (.int p0)])) _
      refine XS.icmpYes X0.here hx rfl (pc0 := 175) (pc' := 180) rfl (hb hby d3_175) rfl (tlt hc175).2.2.1 (by decide) (by decide) ?_
      exact own3_b180 p0 X0 hx hZ hw hby hown e0  hret hr
    · rw [if_neg hc175] at hr
      show Steps p.tables e below (T0.setTop (mkF m 175 #[.val (.int p0)] [(.int (65007 : Int32)), (.int p0)])) _
      refine XS.icmpNo X0.here hx rfl (hb hby d3_175) rfl (flt hc175).2.2.1 ?_
      show Steps p.tables e below (T0.setTop (mkF m 178 #[.val (.int p0)] [])) _
      refine XS.iconst X0.here hx rfl (hb hby d3_178) ?_
      show Steps p.tables e below (T0.setTop (mkF m 179 #[.val (.int p0)] [(.int (1 : Int32))])) _
      exact retN X0 hx (t := .boolean) hret (by simp) (hb hby d3_179) hr
def own3_f152 (p0 : Int32) : Int32 := (if p0 < (55296 : Int32) then (own3_f166 p0) else (if (63743 : Int32) < p0 then (own3_f166 p0) else (1 : Int32)))
theorem own3_e152 (p0 : Int32) : (own3_f152 p0) = (if p0 < (55296 : Int32) then (own3_f166 p0) else (if (63743 : Int32) < p0 then (own3_f166 p0) else (1 : Int32))) := rfl
set_option maxRecDepth 65536 in
set_option maxHeartbeats 40000000 in
theorem own3_b152 {p : Program} {l : Launch} {e : Env} {R : Room} {s : State} {m : MethodId} {args : Array Value} {below : List Frame} {meth : Method} {c : Code} {T0 : State} {locs : List Loc} {cells slots : Nat} {Z : State} {t0 : Array Value} {h0 : Heap} (p0 : Int32) (X0 : Stand p l e R s m args below meth c T0 locs cells slots) (hx : p.tables.exec = Jvm.exec) (hZ : Z.Warmed39 s.vm) (hw : ∀ d ∈ tables_1, d.before t0 Z = true) (hby : c.code = method_2_code) (hown : s.vm.findClass "com/example/crisp_events/crispevents/xml/XmlNamesIsNameStartPinLaw" = some m.cls) (e0 : T0.heap = h0)  (hret : meth.sig.returnType = some .boolean) {fs : List Frame} (hr : ∀ (f : JFrame) (acts : List Action), f.method = m → f.locked = none → f.entered = [] → (doReturn e (T0.setTop f) acts (some (.int (own3_f152 p0)))).1 = T0.setFrames fs) : Steps p.tables e below (T0.setTop (mkF m 152 #[.val (.int p0)] [])) (T0.setFrames fs) := by
  rw [own3_e152] at hr
  show Steps p.tables e below (T0.setTop (mkF m 152 #[.val (.int p0)] [])) _
  refine XS.iloadN X0.here hx rfl (hb hby d3_152) rfl ?_
  show Steps p.tables e below (T0.setTop (mkF m 153 #[.val (.int p0)] [(.int p0)])) _
  refine X0.ldcInt hx hown (mvT hZ (hw _ (List.mem_of_getElem? (i := 23) rfl))) (g := (mkF m 153 #[.val (.int p0)] [(.int p0)])) rfl (hb hby d3_153) _ ?_
  by_cases hc155 : p0 < (55296 : Int32)
  · rw [if_pos hc155] at hr
    show Steps p.tables e below (T0.setTop (mkF m 155 #[.val (.int p0)] [(.int (55296 : Int32)), (.int p0)])) _
    refine XS.icmpYes X0.here hx rfl (pc0 := 155) (pc' := 166) rfl (hb hby d3_155) rfl (tlt hc155).1 (by decide) (by decide) ?_
    exact own3_b166 p0 X0 hx hZ hw hby hown e0  hret hr
  · rw [if_neg hc155] at hr
    show Steps p.tables e below (T0.setTop (mkF m 155 #[.val (.int p0)] [(.int (55296 : Int32)), (.int p0)])) _
    refine XS.icmpNo X0.here hx rfl (hb hby d3_155) rfl (flt hc155).1 ?_
    show Steps p.tables e below (T0.setTop (mkF m 158 #[.val (.int p0)] [])) _
    refine XS.iloadN X0.here hx rfl (hb hby d3_158) rfl ?_
    show Steps p.tables e below (T0.setTop (mkF m 159 #[.val (.int p0)] [(.int p0)])) _
    refine X0.ldcInt hx hown (mvT hZ (hw _ (List.mem_of_getElem? (i := 30) rfl))) (g := (mkF m 159 #[.val (.int p0)] [(.int p0)])) rfl (hb hby d3_159) _ ?_
    by_cases hc161 : (63743 : Int32) < p0
    · rw [if_pos hc161] at hr
      show Steps p.tables e below (T0.setTop (mkF m 161 #[.val (.int p0)] [(.int (63743 : Int32)), (.int p0)])) _
      refine XS.icmpYes X0.here hx rfl (pc0 := 161) (pc' := 166) rfl (hb hby d3_161) rfl (tlt hc161).2.2.1 (by decide) (by decide) ?_
      exact own3_b166 p0 X0 hx hZ hw hby hown e0  hret hr
    · rw [if_neg hc161] at hr
      show Steps p.tables e below (T0.setTop (mkF m 161 #[.val (.int p0)] [(.int (63743 : Int32)), (.int p0)])) _
      refine XS.icmpNo X0.here hx rfl (hb hby d3_161) rfl (flt hc161).2.2.1 ?_
      show Steps p.tables e below (T0.setTop (mkF m 164 #[.val (.int p0)] [])) _
      refine XS.iconst X0.here hx rfl (hb hby d3_164) ?_
      show Steps p.tables e below (T0.setTop (mkF m 165 #[.val (.int p0)] [(.int (1 : Int32))])) _
      exact retN X0 hx (t := .boolean) hret (by simp) (hb hby d3_165) hr
def own3_f136 (p0 : Int32) : Int32 := (if p0 < (12272 : Int32) then (own3_f152 p0) else (if (12288 : Int32) < p0 then (own3_f152 p0) else (1 : Int32)))
theorem own3_e136 (p0 : Int32) : (own3_f136 p0) = (if p0 < (12272 : Int32) then (own3_f152 p0) else (if (12288 : Int32) < p0 then (own3_f152 p0) else (1 : Int32))) := rfl
set_option maxRecDepth 65536 in
set_option maxHeartbeats 40000000 in
theorem own3_b136 {p : Program} {l : Launch} {e : Env} {R : Room} {s : State} {m : MethodId} {args : Array Value} {below : List Frame} {meth : Method} {c : Code} {T0 : State} {locs : List Loc} {cells slots : Nat} {Z : State} {t0 : Array Value} {h0 : Heap} (p0 : Int32) (X0 : Stand p l e R s m args below meth c T0 locs cells slots) (hx : p.tables.exec = Jvm.exec) (hZ : Z.Warmed39 s.vm) (hw : ∀ d ∈ tables_1, d.before t0 Z = true) (hby : c.code = method_2_code) (hown : s.vm.findClass "com/example/crisp_events/crispevents/xml/XmlNamesIsNameStartPinLaw" = some m.cls) (e0 : T0.heap = h0)  (hret : meth.sig.returnType = some .boolean) {fs : List Frame} (hr : ∀ (f : JFrame) (acts : List Action), f.method = m → f.locked = none → f.entered = [] → (doReturn e (T0.setTop f) acts (some (.int (own3_f136 p0)))).1 = T0.setFrames fs) : Steps p.tables e below (T0.setTop (mkF m 136 #[.val (.int p0)] [])) (T0.setFrames fs) := by
  rw [own3_e136] at hr
  show Steps p.tables e below (T0.setTop (mkF m 136 #[.val (.int p0)] [])) _
  refine XS.iloadN X0.here hx rfl (hb hby d3_136) rfl ?_
  show Steps p.tables e below (T0.setTop (mkF m 137 #[.val (.int p0)] [(.int p0)])) _
  refine XS.sipush X0.here hx rfl (hb hby d3_137) ?_
  by_cases hc140 : p0 < (12272 : Int32)
  · rw [if_pos hc140] at hr
    show Steps p.tables e below (T0.setTop (mkF m 140 #[.val (.int p0)] [(.int (12272 : Int32)), (.int p0)])) _
    refine XS.icmpYes X0.here hx rfl (pc0 := 140) (pc' := 152) rfl (hb hby d3_140) rfl (tlt hc140).1 (by decide) (by decide) ?_
    exact own3_b152 p0 X0 hx hZ hw hby hown e0  hret hr
  · rw [if_neg hc140] at hr
    show Steps p.tables e below (T0.setTop (mkF m 140 #[.val (.int p0)] [(.int (12272 : Int32)), (.int p0)])) _
    refine XS.icmpNo X0.here hx rfl (hb hby d3_140) rfl (flt hc140).1 ?_
    show Steps p.tables e below (T0.setTop (mkF m 143 #[.val (.int p0)] [])) _
    refine XS.iloadN X0.here hx rfl (hb hby d3_143) rfl ?_
    show Steps p.tables e below (T0.setTop (mkF m 144 #[.val (.int p0)] [(.int p0)])) _
    refine XS.sipush X0.here hx rfl (hb hby d3_144) ?_
    by_cases hc147 : (12288 : Int32) < p0
    · rw [if_pos hc147] at hr
      show Steps p.tables e below (T0.setTop (mkF m 147 #[.val (.int p0)] [(.int (12288 : Int32)), (.int p0)])) _
      refine XS.icmpYes X0.here hx rfl (pc0 := 147) (pc' := 152) rfl (hb hby d3_147) rfl (tlt hc147).2.2.1 (by decide) (by decide) ?_
      exact own3_b152 p0 X0 hx hZ hw hby hown e0  hret hr
    · rw [if_neg hc147] at hr
      show Steps p.tables e below (T0.setTop (mkF m 147 #[.val (.int p0)] [(.int (12288 : Int32)), (.int p0)])) _
      refine XS.icmpNo X0.here hx rfl (hb hby d3_147) rfl (flt hc147).2.2.1 ?_
      show Steps p.tables e below (T0.setTop (mkF m 150 #[.val (.int p0)] [])) _
      refine XS.iconst X0.here hx rfl (hb hby d3_150) ?_
      show Steps p.tables e below (T0.setTop (mkF m 151 #[.val (.int p0)] [(.int (1 : Int32))])) _
      exact retN X0 hx (t := .boolean) hret (by simp) (hb hby d3_151) hr
def own3_f120 (p0 : Int32) : Int32 := (if p0 < (8592 : Int32) then (own3_f136 p0) else (if (11263 : Int32) < p0 then (own3_f136 p0) else (1 : Int32)))
theorem own3_e120 (p0 : Int32) : (own3_f120 p0) = (if p0 < (8592 : Int32) then (own3_f136 p0) else (if (11263 : Int32) < p0 then (own3_f136 p0) else (1 : Int32))) := rfl
set_option maxRecDepth 65536 in
set_option maxHeartbeats 40000000 in
theorem own3_b120 {p : Program} {l : Launch} {e : Env} {R : Room} {s : State} {m : MethodId} {args : Array Value} {below : List Frame} {meth : Method} {c : Code} {T0 : State} {locs : List Loc} {cells slots : Nat} {Z : State} {t0 : Array Value} {h0 : Heap} (p0 : Int32) (X0 : Stand p l e R s m args below meth c T0 locs cells slots) (hx : p.tables.exec = Jvm.exec) (hZ : Z.Warmed39 s.vm) (hw : ∀ d ∈ tables_1, d.before t0 Z = true) (hby : c.code = method_2_code) (hown : s.vm.findClass "com/example/crisp_events/crispevents/xml/XmlNamesIsNameStartPinLaw" = some m.cls) (e0 : T0.heap = h0)  (hret : meth.sig.returnType = some .boolean) {fs : List Frame} (hr : ∀ (f : JFrame) (acts : List Action), f.method = m → f.locked = none → f.entered = [] → (doReturn e (T0.setTop f) acts (some (.int (own3_f120 p0)))).1 = T0.setFrames fs) : Steps p.tables e below (T0.setTop (mkF m 120 #[.val (.int p0)] [])) (T0.setFrames fs) := by
  rw [own3_e120] at hr
  show Steps p.tables e below (T0.setTop (mkF m 120 #[.val (.int p0)] [])) _
  refine XS.iloadN X0.here hx rfl (hb hby d3_120) rfl ?_
  show Steps p.tables e below (T0.setTop (mkF m 121 #[.val (.int p0)] [(.int p0)])) _
  refine XS.sipush X0.here hx rfl (hb hby d3_121) ?_
  by_cases hc124 : p0 < (8592 : Int32)
  · rw [if_pos hc124] at hr
    show Steps p.tables e below (T0.setTop (mkF m 124 #[.val (.int p0)] [(.int (8592 : Int32)), (.int p0)])) _
    refine XS.icmpYes X0.here hx rfl (pc0 := 124) (pc' := 136) rfl (hb hby d3_124) rfl (tlt hc124).1 (by decide) (by decide) ?_
    exact own3_b136 p0 X0 hx hZ hw hby hown e0  hret hr
  · rw [if_neg hc124] at hr
    show Steps p.tables e below (T0.setTop (mkF m 124 #[.val (.int p0)] [(.int (8592 : Int32)), (.int p0)])) _
    refine XS.icmpNo X0.here hx rfl (hb hby d3_124) rfl (flt hc124).1 ?_
    show Steps p.tables e below (T0.setTop (mkF m 127 #[.val (.int p0)] [])) _
    refine XS.iloadN X0.here hx rfl (hb hby d3_127) rfl ?_
    show Steps p.tables e below (T0.setTop (mkF m 128 #[.val (.int p0)] [(.int p0)])) _
    refine XS.sipush X0.here hx rfl (hb hby d3_128) ?_
    by_cases hc131 : (11263 : Int32) < p0
    · rw [if_pos hc131] at hr
      show Steps p.tables e below (T0.setTop (mkF m 131 #[.val (.int p0)] [(.int (11263 : Int32)), (.int p0)])) _
      refine XS.icmpYes X0.here hx rfl (pc0 := 131) (pc' := 136) rfl (hb hby d3_131) rfl (tlt hc131).2.2.1 (by decide) (by decide) ?_
      exact own3_b136 p0 X0 hx hZ hw hby hown e0  hret hr
    · rw [if_neg hc131] at hr
      show Steps p.tables e below (T0.setTop (mkF m 131 #[.val (.int p0)] [(.int (11263 : Int32)), (.int p0)])) _
      refine XS.icmpNo X0.here hx rfl (hb hby d3_131) rfl (flt hc131).2.2.1 ?_
      show Steps p.tables e below (T0.setTop (mkF m 134 #[.val (.int p0)] [])) _
      refine XS.iconst X0.here hx rfl (hb hby d3_134) ?_
      show Steps p.tables e below (T0.setTop (mkF m 135 #[.val (.int p0)] [(.int (1 : Int32))])) _
      exact retN X0 hx (t := .boolean) hret (by simp) (hb hby d3_135) hr
def own3_f104 (p0 : Int32) : Int32 := (if p0 < (8206 : Int32) then (own3_f120 p0) else (if (8303 : Int32) < p0 then (own3_f120 p0) else (1 : Int32)))
theorem own3_e104 (p0 : Int32) : (own3_f104 p0) = (if p0 < (8206 : Int32) then (own3_f120 p0) else (if (8303 : Int32) < p0 then (own3_f120 p0) else (1 : Int32))) := rfl
set_option maxRecDepth 65536 in
set_option maxHeartbeats 40000000 in
theorem own3_b104 {p : Program} {l : Launch} {e : Env} {R : Room} {s : State} {m : MethodId} {args : Array Value} {below : List Frame} {meth : Method} {c : Code} {T0 : State} {locs : List Loc} {cells slots : Nat} {Z : State} {t0 : Array Value} {h0 : Heap} (p0 : Int32) (X0 : Stand p l e R s m args below meth c T0 locs cells slots) (hx : p.tables.exec = Jvm.exec) (hZ : Z.Warmed39 s.vm) (hw : ∀ d ∈ tables_1, d.before t0 Z = true) (hby : c.code = method_2_code) (hown : s.vm.findClass "com/example/crisp_events/crispevents/xml/XmlNamesIsNameStartPinLaw" = some m.cls) (e0 : T0.heap = h0)  (hret : meth.sig.returnType = some .boolean) {fs : List Frame} (hr : ∀ (f : JFrame) (acts : List Action), f.method = m → f.locked = none → f.entered = [] → (doReturn e (T0.setTop f) acts (some (.int (own3_f104 p0)))).1 = T0.setFrames fs) : Steps p.tables e below (T0.setTop (mkF m 104 #[.val (.int p0)] [])) (T0.setFrames fs) := by
  rw [own3_e104] at hr
  show Steps p.tables e below (T0.setTop (mkF m 104 #[.val (.int p0)] [])) _
  refine XS.iloadN X0.here hx rfl (hb hby d3_104) rfl ?_
  show Steps p.tables e below (T0.setTop (mkF m 105 #[.val (.int p0)] [(.int p0)])) _
  refine XS.sipush X0.here hx rfl (hb hby d3_105) ?_
  by_cases hc108 : p0 < (8206 : Int32)
  · rw [if_pos hc108] at hr
    show Steps p.tables e below (T0.setTop (mkF m 108 #[.val (.int p0)] [(.int (8206 : Int32)), (.int p0)])) _
    refine XS.icmpYes X0.here hx rfl (pc0 := 108) (pc' := 120) rfl (hb hby d3_108) rfl (tlt hc108).1 (by decide) (by decide) ?_
    exact own3_b120 p0 X0 hx hZ hw hby hown e0  hret hr
  · rw [if_neg hc108] at hr
    show Steps p.tables e below (T0.setTop (mkF m 108 #[.val (.int p0)] [(.int (8206 : Int32)), (.int p0)])) _
    refine XS.icmpNo X0.here hx rfl (hb hby d3_108) rfl (flt hc108).1 ?_
    show Steps p.tables e below (T0.setTop (mkF m 111 #[.val (.int p0)] [])) _
    refine XS.iloadN X0.here hx rfl (hb hby d3_111) rfl ?_
    show Steps p.tables e below (T0.setTop (mkF m 112 #[.val (.int p0)] [(.int p0)])) _
    refine XS.sipush X0.here hx rfl (hb hby d3_112) ?_
    by_cases hc115 : (8303 : Int32) < p0
    · rw [if_pos hc115] at hr
      show Steps p.tables e below (T0.setTop (mkF m 115 #[.val (.int p0)] [(.int (8303 : Int32)), (.int p0)])) _
      refine XS.icmpYes X0.here hx rfl (pc0 := 115) (pc' := 120) rfl (hb hby d3_115) rfl (tlt hc115).2.2.1 (by decide) (by decide) ?_
      exact own3_b120 p0 X0 hx hZ hw hby hown e0  hret hr
    · rw [if_neg hc115] at hr
      show Steps p.tables e below (T0.setTop (mkF m 115 #[.val (.int p0)] [(.int (8303 : Int32)), (.int p0)])) _
      refine XS.icmpNo X0.here hx rfl (hb hby d3_115) rfl (flt hc115).2.2.1 ?_
      show Steps p.tables e below (T0.setTop (mkF m 118 #[.val (.int p0)] [])) _
      refine XS.iconst X0.here hx rfl (hb hby d3_118) ?_
      show Steps p.tables e below (T0.setTop (mkF m 119 #[.val (.int p0)] [(.int (1 : Int32))])) _
      exact retN X0 hx (t := .boolean) hret (by simp) (hb hby d3_119) hr
def own3_f79 (p0 : Int32) : Int32 := (if p0 = (894 : Int32) then (1 : Int32) else (if p0 < (8192 : Int32) then (own3_f104 p0) else (if (8203 : Int32) < p0 then (own3_f104 p0) else (1 : Int32))))
theorem own3_e79 (p0 : Int32) : (own3_f79 p0) = (if p0 = (894 : Int32) then (1 : Int32) else (if p0 < (8192 : Int32) then (own3_f104 p0) else (if (8203 : Int32) < p0 then (own3_f104 p0) else (1 : Int32)))) := rfl
set_option maxRecDepth 65536 in
set_option maxHeartbeats 40000000 in
theorem own3_b79 {p : Program} {l : Launch} {e : Env} {R : Room} {s : State} {m : MethodId} {args : Array Value} {below : List Frame} {meth : Method} {c : Code} {T0 : State} {locs : List Loc} {cells slots : Nat} {Z : State} {t0 : Array Value} {h0 : Heap} (p0 : Int32) (X0 : Stand p l e R s m args below meth c T0 locs cells slots) (hx : p.tables.exec = Jvm.exec) (hZ : Z.Warmed39 s.vm) (hw : ∀ d ∈ tables_1, d.before t0 Z = true) (hby : c.code = method_2_code) (hown : s.vm.findClass "com/example/crisp_events/crispevents/xml/XmlNamesIsNameStartPinLaw" = some m.cls) (e0 : T0.heap = h0)  (hret : meth.sig.returnType = some .boolean) {fs : List Frame} (hr : ∀ (f : JFrame) (acts : List Action), f.method = m → f.locked = none → f.entered = [] → (doReturn e (T0.setTop f) acts (some (.int (own3_f79 p0)))).1 = T0.setFrames fs) : Steps p.tables e below (T0.setTop (mkF m 79 #[.val (.int p0)] [])) (T0.setFrames fs) := by
  rw [own3_e79] at hr
  show Steps p.tables e below (T0.setTop (mkF m 79 #[.val (.int p0)] [])) _
  refine XS.iloadN X0.here hx rfl (hb hby d3_79) rfl ?_
  show Steps p.tables e below (T0.setTop (mkF m 80 #[.val (.int p0)] [(.int p0)])) _
  refine XS.sipush X0.here hx rfl (hb hby d3_80) ?_
  by_cases hc83 : p0 = (894 : Int32)
  · rw [if_pos hc83] at hr
    show Steps p.tables e below (T0.setTop (mkF m 83 #[.val (.int p0)] [(.int (894 : Int32)), (.int p0)])) _
    refine XS.icmpNo X0.here hx rfl (hb hby d3_83) rfl (teq hc83).2 ?_
    show Steps p.tables e below (T0.setTop (mkF m 86 #[.val (.int p0)] [])) _
    refine XS.iconst X0.here hx rfl (hb hby d3_86) ?_
    show Steps p.tables e below (T0.setTop (mkF m 87 #[.val (.int p0)] [(.int (1 : Int32))])) _
    exact retN X0 hx (t := .boolean) hret (by simp) (hb hby d3_87) hr
  · rw [if_neg hc83] at hr
    show Steps p.tables e below (T0.setTop (mkF m 83 #[.val (.int p0)] [(.int (894 : Int32)), (.int p0)])) _
    refine XS.icmpYes X0.here hx rfl (pc0 := 83) (pc' := 88) rfl (hb hby d3_83) rfl (feq hc83).2 (by decide) (by decide) ?_
    show Steps p.tables e below (T0.setTop (mkF m 88 #[.val (.int p0)] [])) _
    refine XS.iloadN X0.here hx rfl (hb hby d3_88) rfl ?_
    show Steps p.tables e below (T0.setTop (mkF m 89 #[.val (.int p0)] [(.int p0)])) _
    refine XS.sipush X0.here hx rfl (hb hby d3_89) ?_
    by_cases hc92 : p0 < (8192 : Int32)
    · rw [if_pos hc92] at hr
      show Steps p.tables e below (T0.setTop (mkF m 92 #[.val (.int p0)] [(.int (8192 : Int32)), (.int p0)])) _
      refine XS.icmpYes X0.here hx rfl (pc0 := 92) (pc' := 104) rfl (hb hby d3_92) rfl (tlt hc92).1 (by decide) (by decide) ?_
      exact own3_b104 p0 X0 hx hZ hw hby hown e0  hret hr
    · rw [if_neg hc92] at hr
      show Steps p.tables e below (T0.setTop (mkF m 92 #[.val (.int p0)] [(.int (8192 : Int32)), (.int p0)])) _
      refine XS.icmpNo X0.here hx rfl (hb hby d3_92) rfl (flt hc92).1 ?_
      show Steps p.tables e below (T0.setTop (mkF m 95 #[.val (.int p0)] [])) _
      refine XS.iloadN X0.here hx rfl (hb hby d3_95) rfl ?_
      show Steps p.tables e below (T0.setTop (mkF m 96 #[.val (.int p0)] [(.int p0)])) _
      refine XS.sipush X0.here hx rfl (hb hby d3_96) ?_
      by_cases hc99 : (8203 : Int32) < p0
      · rw [if_pos hc99] at hr
        show Steps p.tables e below (T0.setTop (mkF m 99 #[.val (.int p0)] [(.int (8203 : Int32)), (.int p0)])) _
        refine XS.icmpYes X0.here hx rfl (pc0 := 99) (pc' := 104) rfl (hb hby d3_99) rfl (tlt hc99).2.2.1 (by decide) (by decide) ?_
        exact own3_b104 p0 X0 hx hZ hw hby hown e0  hret hr
      · rw [if_neg hc99] at hr
        show Steps p.tables e below (T0.setTop (mkF m 99 #[.val (.int p0)] [(.int (8203 : Int32)), (.int p0)])) _
        refine XS.icmpNo X0.here hx rfl (hb hby d3_99) rfl (flt hc99).2.2.1 ?_
        show Steps p.tables e below (T0.setTop (mkF m 102 #[.val (.int p0)] [])) _
        refine XS.iconst X0.here hx rfl (hb hby d3_102) ?_
        show Steps p.tables e below (T0.setTop (mkF m 103 #[.val (.int p0)] [(.int (1 : Int32))])) _
        exact retN X0 hx (t := .boolean) hret (by simp) (hb hby d3_103) hr
def own3_f45 (p0 : Int32) : Int32 := (if p0 = (215 : Int32) then (1 : Int32) else (if p0 = (247 : Int32) then (1 : Int32) else (if p0 < (768 : Int32) then (own3_f79 p0) else (if (879 : Int32) < p0 then (own3_f79 p0) else (1 : Int32)))))
theorem own3_e45 (p0 : Int32) : (own3_f45 p0) = (if p0 = (215 : Int32) then (1 : Int32) else (if p0 = (247 : Int32) then (1 : Int32) else (if p0 < (768 : Int32) then (own3_f79 p0) else (if (879 : Int32) < p0 then (own3_f79 p0) else (1 : Int32))))) := rfl
set_option maxRecDepth 65536 in
set_option maxHeartbeats 40000000 in
theorem own3_b45 {p : Program} {l : Launch} {e : Env} {R : Room} {s : State} {m : MethodId} {args : Array Value} {below : List Frame} {meth : Method} {c : Code} {T0 : State} {locs : List Loc} {cells slots : Nat} {Z : State} {t0 : Array Value} {h0 : Heap} (p0 : Int32) (X0 : Stand p l e R s m args below meth c T0 locs cells slots) (hx : p.tables.exec = Jvm.exec) (hZ : Z.Warmed39 s.vm) (hw : ∀ d ∈ tables_1, d.before t0 Z = true) (hby : c.code = method_2_code) (hown : s.vm.findClass "com/example/crisp_events/crispevents/xml/XmlNamesIsNameStartPinLaw" = some m.cls) (e0 : T0.heap = h0)  (hret : meth.sig.returnType = some .boolean) {fs : List Frame} (hr : ∀ (f : JFrame) (acts : List Action), f.method = m → f.locked = none → f.entered = [] → (doReturn e (T0.setTop f) acts (some (.int (own3_f45 p0)))).1 = T0.setFrames fs) : Steps p.tables e below (T0.setTop (mkF m 45 #[.val (.int p0)] [])) (T0.setFrames fs) := by
  rw [own3_e45] at hr
  show Steps p.tables e below (T0.setTop (mkF m 45 #[.val (.int p0)] [])) _
  refine XS.iloadN X0.here hx rfl (hb hby d3_45) rfl ?_
  show Steps p.tables e below (T0.setTop (mkF m 46 #[.val (.int p0)] [(.int p0)])) _
  refine XS.sipush X0.here hx rfl (hb hby d3_46) ?_
  by_cases hc49 : p0 = (215 : Int32)
  · rw [if_pos hc49] at hr
    show Steps p.tables e below (T0.setTop (mkF m 49 #[.val (.int p0)] [(.int (215 : Int32)), (.int p0)])) _
    refine XS.icmpNo X0.here hx rfl (hb hby d3_49) rfl (teq hc49).2 ?_
    show Steps p.tables e below (T0.setTop (mkF m 52 #[.val (.int p0)] [])) _
    refine XS.iconst X0.here hx rfl (hb hby d3_52) ?_
    show Steps p.tables e below (T0.setTop (mkF m 53 #[.val (.int p0)] [(.int (1 : Int32))])) _
    exact retN X0 hx (t := .boolean) hret (by simp) (hb hby d3_53) hr
  · rw [if_neg hc49] at hr
    show Steps p.tables e below (T0.setTop (mkF m 49 #[.val (.int p0)] [(.int (215 : Int32)), (.int p0)])) _
    refine XS.icmpYes X0.here hx rfl (pc0 := 49) (pc' := 54) rfl (hb hby d3_49) rfl (feq hc49).2 (by decide) (by decide) ?_
    show Steps p.tables e below (T0.setTop (mkF m 54 #[.val (.int p0)] [])) _
    refine XS.iloadN X0.here hx rfl (hb hby d3_54) rfl ?_
    show Steps p.tables e below (T0.setTop (mkF m 55 #[.val (.int p0)] [(.int p0)])) _
    refine XS.sipush X0.here hx rfl (hb hby d3_55) ?_
    by_cases hc58 : p0 = (247 : Int32)
    · rw [if_pos hc58] at hr
      show Steps p.tables e below (T0.setTop (mkF m 58 #[.val (.int p0)] [(.int (247 : Int32)), (.int p0)])) _
      refine XS.icmpNo X0.here hx rfl (hb hby d3_58) rfl (teq hc58).2 ?_
      show Steps p.tables e below (T0.setTop (mkF m 61 #[.val (.int p0)] [])) _
      refine XS.iconst X0.here hx rfl (hb hby d3_61) ?_
      show Steps p.tables e below (T0.setTop (mkF m 62 #[.val (.int p0)] [(.int (1 : Int32))])) _
      exact retN X0 hx (t := .boolean) hret (by simp) (hb hby d3_62) hr
    · rw [if_neg hc58] at hr
      show Steps p.tables e below (T0.setTop (mkF m 58 #[.val (.int p0)] [(.int (247 : Int32)), (.int p0)])) _
      refine XS.icmpYes X0.here hx rfl (pc0 := 58) (pc' := 63) rfl (hb hby d3_58) rfl (feq hc58).2 (by decide) (by decide) ?_
      show Steps p.tables e below (T0.setTop (mkF m 63 #[.val (.int p0)] [])) _
      refine XS.iloadN X0.here hx rfl (hb hby d3_63) rfl ?_
      show Steps p.tables e below (T0.setTop (mkF m 64 #[.val (.int p0)] [(.int p0)])) _
      refine XS.sipush X0.here hx rfl (hb hby d3_64) ?_
      by_cases hc67 : p0 < (768 : Int32)
      · rw [if_pos hc67] at hr
        show Steps p.tables e below (T0.setTop (mkF m 67 #[.val (.int p0)] [(.int (768 : Int32)), (.int p0)])) _
        refine XS.icmpYes X0.here hx rfl (pc0 := 67) (pc' := 79) rfl (hb hby d3_67) rfl (tlt hc67).1 (by decide) (by decide) ?_
        exact own3_b79 p0 X0 hx hZ hw hby hown e0  hret hr
      · rw [if_neg hc67] at hr
        show Steps p.tables e below (T0.setTop (mkF m 67 #[.val (.int p0)] [(.int (768 : Int32)), (.int p0)])) _
        refine XS.icmpNo X0.here hx rfl (hb hby d3_67) rfl (flt hc67).1 ?_
        show Steps p.tables e below (T0.setTop (mkF m 70 #[.val (.int p0)] [])) _
        refine XS.iloadN X0.here hx rfl (hb hby d3_70) rfl ?_
        show Steps p.tables e below (T0.setTop (mkF m 71 #[.val (.int p0)] [(.int p0)])) _
        refine XS.sipush X0.here hx rfl (hb hby d3_71) ?_
        by_cases hc74 : (879 : Int32) < p0
        · rw [if_pos hc74] at hr
          show Steps p.tables e below (T0.setTop (mkF m 74 #[.val (.int p0)] [(.int (879 : Int32)), (.int p0)])) _
          refine XS.icmpYes X0.here hx rfl (pc0 := 74) (pc' := 79) rfl (hb hby d3_74) rfl (tlt hc74).2.2.1 (by decide) (by decide) ?_
          exact own3_b79 p0 X0 hx hZ hw hby hown e0  hret hr
        · rw [if_neg hc74] at hr
          show Steps p.tables e below (T0.setTop (mkF m 74 #[.val (.int p0)] [(.int (879 : Int32)), (.int p0)])) _
          refine XS.icmpNo X0.here hx rfl (hb hby d3_74) rfl (flt hc74).2.2.1 ?_
          show Steps p.tables e below (T0.setTop (mkF m 77 #[.val (.int p0)] [])) _
          refine XS.iconst X0.here hx rfl (hb hby d3_77) ?_
          show Steps p.tables e below (T0.setTop (mkF m 78 #[.val (.int p0)] [(.int (1 : Int32))])) _
          exact retN X0 hx (t := .boolean) hret (by simp) (hb hby d3_78) hr
def own3_f22 (p0 : Int32) : Int32 := (if p0 = (96 : Int32) then (1 : Int32) else (if p0 < (123 : Int32) then (own3_f45 p0) else (if (191 : Int32) < p0 then (own3_f45 p0) else (1 : Int32))))
theorem own3_e22 (p0 : Int32) : (own3_f22 p0) = (if p0 = (96 : Int32) then (1 : Int32) else (if p0 < (123 : Int32) then (own3_f45 p0) else (if (191 : Int32) < p0 then (own3_f45 p0) else (1 : Int32)))) := rfl
set_option maxRecDepth 65536 in
set_option maxHeartbeats 40000000 in
theorem own3_b22 {p : Program} {l : Launch} {e : Env} {R : Room} {s : State} {m : MethodId} {args : Array Value} {below : List Frame} {meth : Method} {c : Code} {T0 : State} {locs : List Loc} {cells slots : Nat} {Z : State} {t0 : Array Value} {h0 : Heap} (p0 : Int32) (X0 : Stand p l e R s m args below meth c T0 locs cells slots) (hx : p.tables.exec = Jvm.exec) (hZ : Z.Warmed39 s.vm) (hw : ∀ d ∈ tables_1, d.before t0 Z = true) (hby : c.code = method_2_code) (hown : s.vm.findClass "com/example/crisp_events/crispevents/xml/XmlNamesIsNameStartPinLaw" = some m.cls) (e0 : T0.heap = h0)  (hret : meth.sig.returnType = some .boolean) {fs : List Frame} (hr : ∀ (f : JFrame) (acts : List Action), f.method = m → f.locked = none → f.entered = [] → (doReturn e (T0.setTop f) acts (some (.int (own3_f22 p0)))).1 = T0.setFrames fs) : Steps p.tables e below (T0.setTop (mkF m 22 #[.val (.int p0)] [])) (T0.setFrames fs) := by
  rw [own3_e22] at hr
  show Steps p.tables e below (T0.setTop (mkF m 22 #[.val (.int p0)] [])) _
  refine XS.iloadN X0.here hx rfl (hb hby d3_22) rfl ?_
  show Steps p.tables e below (T0.setTop (mkF m 23 #[.val (.int p0)] [(.int p0)])) _
  refine XS.bipush X0.here hx rfl (hb hby d3_23) ?_
  by_cases hc25 : p0 = (96 : Int32)
  · rw [if_pos hc25] at hr
    show Steps p.tables e below (T0.setTop (mkF m 25 #[.val (.int p0)] [(.int (96 : Int32)), (.int p0)])) _
    refine XS.icmpNo X0.here hx rfl (hb hby d3_25) rfl (teq hc25).2 ?_
    show Steps p.tables e below (T0.setTop (mkF m 28 #[.val (.int p0)] [])) _
    refine XS.iconst X0.here hx rfl (hb hby d3_28) ?_
    show Steps p.tables e below (T0.setTop (mkF m 29 #[.val (.int p0)] [(.int (1 : Int32))])) _
    exact retN X0 hx (t := .boolean) hret (by simp) (hb hby d3_29) hr
  · rw [if_neg hc25] at hr
    show Steps p.tables e below (T0.setTop (mkF m 25 #[.val (.int p0)] [(.int (96 : Int32)), (.int p0)])) _
    refine XS.icmpYes X0.here hx rfl (pc0 := 25) (pc' := 30) rfl (hb hby d3_25) rfl (feq hc25).2 (by decide) (by decide) ?_
    show Steps p.tables e below (T0.setTop (mkF m 30 #[.val (.int p0)] [])) _
    refine XS.iloadN X0.here hx rfl (hb hby d3_30) rfl ?_
    show Steps p.tables e below (T0.setTop (mkF m 31 #[.val (.int p0)] [(.int p0)])) _
    refine XS.bipush X0.here hx rfl (hb hby d3_31) ?_
    by_cases hc33 : p0 < (123 : Int32)
    · rw [if_pos hc33] at hr
      show Steps p.tables e below (T0.setTop (mkF m 33 #[.val (.int p0)] [(.int (123 : Int32)), (.int p0)])) _
      refine XS.icmpYes X0.here hx rfl (pc0 := 33) (pc' := 45) rfl (hb hby d3_33) rfl (tlt hc33).1 (by decide) (by decide) ?_
      exact own3_b45 p0 X0 hx hZ hw hby hown e0  hret hr
    · rw [if_neg hc33] at hr
      show Steps p.tables e below (T0.setTop (mkF m 33 #[.val (.int p0)] [(.int (123 : Int32)), (.int p0)])) _
      refine XS.icmpNo X0.here hx rfl (hb hby d3_33) rfl (flt hc33).1 ?_
      show Steps p.tables e below (T0.setTop (mkF m 36 #[.val (.int p0)] [])) _
      refine XS.iloadN X0.here hx rfl (hb hby d3_36) rfl ?_
      show Steps p.tables e below (T0.setTop (mkF m 37 #[.val (.int p0)] [(.int p0)])) _
      refine XS.sipush X0.here hx rfl (hb hby d3_37) ?_
      by_cases hc40 : (191 : Int32) < p0
      · rw [if_pos hc40] at hr
        show Steps p.tables e below (T0.setTop (mkF m 40 #[.val (.int p0)] [(.int (191 : Int32)), (.int p0)])) _
        refine XS.icmpYes X0.here hx rfl (pc0 := 40) (pc' := 45) rfl (hb hby d3_40) rfl (tlt hc40).2.2.1 (by decide) (by decide) ?_
        exact own3_b45 p0 X0 hx hZ hw hby hown e0  hret hr
      · rw [if_neg hc40] at hr
        show Steps p.tables e below (T0.setTop (mkF m 40 #[.val (.int p0)] [(.int (191 : Int32)), (.int p0)])) _
        refine XS.icmpNo X0.here hx rfl (hb hby d3_40) rfl (flt hc40).2.2.1 ?_
        show Steps p.tables e below (T0.setTop (mkF m 43 #[.val (.int p0)] [])) _
        refine XS.iconst X0.here hx rfl (hb hby d3_43) ?_
        show Steps p.tables e below (T0.setTop (mkF m 44 #[.val (.int p0)] [(.int (1 : Int32))])) _
        exact retN X0 hx (t := .boolean) hret (by simp) (hb hby d3_44) hr
def own3_f0 (p0 : Int32) : Int32 := (if p0 < (65 : Int32) then (1 : Int32) else (if p0 < (91 : Int32) then (own3_f22 p0) else (if (94 : Int32) < p0 then (own3_f22 p0) else (1 : Int32))))
theorem own3_e0 (p0 : Int32) : (own3_f0 p0) = (if p0 < (65 : Int32) then (1 : Int32) else (if p0 < (91 : Int32) then (own3_f22 p0) else (if (94 : Int32) < p0 then (own3_f22 p0) else (1 : Int32)))) := rfl
set_option maxRecDepth 65536 in
set_option maxHeartbeats 40000000 in
theorem own3_b0 {p : Program} {l : Launch} {e : Env} {R : Room} {s : State} {m : MethodId} {args : Array Value} {below : List Frame} {meth : Method} {c : Code} {T0 : State} {locs : List Loc} {cells slots : Nat} {Z : State} {t0 : Array Value} {h0 : Heap} (p0 : Int32) (X0 : Stand p l e R s m args below meth c T0 locs cells slots) (hx : p.tables.exec = Jvm.exec) (hZ : Z.Warmed39 s.vm) (hw : ∀ d ∈ tables_1, d.before t0 Z = true) (hby : c.code = method_2_code) (hown : s.vm.findClass "com/example/crisp_events/crispevents/xml/XmlNamesIsNameStartPinLaw" = some m.cls) (e0 : T0.heap = h0)  (hret : meth.sig.returnType = some .boolean) {fs : List Frame} (hr : ∀ (f : JFrame) (acts : List Action), f.method = m → f.locked = none → f.entered = [] → (doReturn e (T0.setTop f) acts (some (.int (own3_f0 p0)))).1 = T0.setFrames fs) : Steps p.tables e below (T0.setTop (mkF m 0 #[.val (.int p0)] [])) (T0.setFrames fs) := by
  rw [own3_e0] at hr
  show Steps p.tables e below (T0.setTop (mkF m 0 #[.val (.int p0)] [])) _
  refine XS.iloadN X0.here hx rfl (hb hby d3_0) rfl ?_
  show Steps p.tables e below (T0.setTop (mkF m 1 #[.val (.int p0)] [(.int p0)])) _
  refine XS.bipush X0.here hx rfl (hb hby d3_1) ?_
  by_cases hc3 : p0 < (65 : Int32)
  · rw [if_pos hc3] at hr
    show Steps p.tables e below (T0.setTop (mkF m 3 #[.val (.int p0)] [(.int (65 : Int32)), (.int p0)])) _
    refine XS.icmpNo X0.here hx rfl (hb hby d3_3) rfl (tlt hc3).2.1 ?_
    show Steps p.tables e below (T0.setTop (mkF m 6 #[.val (.int p0)] [])) _
    refine XS.iconst X0.here hx rfl (hb hby d3_6) ?_
    show Steps p.tables e below (T0.setTop (mkF m 7 #[.val (.int p0)] [(.int (1 : Int32))])) _
    exact retN X0 hx (t := .boolean) hret (by simp) (hb hby d3_7) hr
  · rw [if_neg hc3] at hr
    show Steps p.tables e below (T0.setTop (mkF m 3 #[.val (.int p0)] [(.int (65 : Int32)), (.int p0)])) _
    refine XS.icmpYes X0.here hx rfl (pc0 := 3) (pc' := 8) rfl (hb hby d3_3) rfl (flt hc3).2.1 (by decide) (by decide) ?_
    show Steps p.tables e below (T0.setTop (mkF m 8 #[.val (.int p0)] [])) _
    refine XS.iloadN X0.here hx rfl (hb hby d3_8) rfl ?_
    show Steps p.tables e below (T0.setTop (mkF m 9 #[.val (.int p0)] [(.int p0)])) _
    refine XS.bipush X0.here hx rfl (hb hby d3_9) ?_
    by_cases hc11 : p0 < (91 : Int32)
    · rw [if_pos hc11] at hr
      show Steps p.tables e below (T0.setTop (mkF m 11 #[.val (.int p0)] [(.int (91 : Int32)), (.int p0)])) _
      refine XS.icmpYes X0.here hx rfl (pc0 := 11) (pc' := 22) rfl (hb hby d3_11) rfl (tlt hc11).1 (by decide) (by decide) ?_
      exact own3_b22 p0 X0 hx hZ hw hby hown e0  hret hr
    · rw [if_neg hc11] at hr
      show Steps p.tables e below (T0.setTop (mkF m 11 #[.val (.int p0)] [(.int (91 : Int32)), (.int p0)])) _
      refine XS.icmpNo X0.here hx rfl (hb hby d3_11) rfl (flt hc11).1 ?_
      show Steps p.tables e below (T0.setTop (mkF m 14 #[.val (.int p0)] [])) _
      refine XS.iloadN X0.here hx rfl (hb hby d3_14) rfl ?_
      show Steps p.tables e below (T0.setTop (mkF m 15 #[.val (.int p0)] [(.int p0)])) _
      refine XS.bipush X0.here hx rfl (hb hby d3_15) ?_
      by_cases hc17 : (94 : Int32) < p0
      · rw [if_pos hc17] at hr
        show Steps p.tables e below (T0.setTop (mkF m 17 #[.val (.int p0)] [(.int (94 : Int32)), (.int p0)])) _
        refine XS.icmpYes X0.here hx rfl (pc0 := 17) (pc' := 22) rfl (hb hby d3_17) rfl (tlt hc17).2.2.1 (by decide) (by decide) ?_
        exact own3_b22 p0 X0 hx hZ hw hby hown e0  hret hr
      · rw [if_neg hc17] at hr
        show Steps p.tables e below (T0.setTop (mkF m 17 #[.val (.int p0)] [(.int (94 : Int32)), (.int p0)])) _
        refine XS.icmpNo X0.here hx rfl (hb hby d3_17) rfl (flt hc17).2.2.1 ?_
        show Steps p.tables e below (T0.setTop (mkF m 20 #[.val (.int p0)] [])) _
        refine XS.iconst X0.here hx rfl (hb hby d3_20) ?_
        show Steps p.tables e below (T0.setTop (mkF m 21 #[.val (.int p0)] [(.int (1 : Int32))])) _
        exact retN X0 hx (t := .boolean) hret (by simp) (hb hby d3_21) hr
theorem ef_3 (m : MethodId) (p0 : Int32) : entryFrame m #[(.int p0)] 1 = mkF m 0 #[.val (.int p0)] [] := by first | (simp [entryFrame, mkF, argsToLocals, Value.category]; done) | rfl
theorem pn_3 : plainName "com/example/crisp_events/crispevents/xml/XmlNamesIsNameStartPinLaw" = true := by first | (simp [plainName, overriddenIn]; done) | decide +kernel
def Q3 (p0 : Int32) (h0 : Heap) (n0 : Nat) (v : Option Value) (h : Heap) (L : List Loc) : Prop := v = some (.int (own3_f0 p0)) ∧ Fr n0 L ∧ h = h0
set_option maxRecDepth 65536 in
set_option maxHeartbeats 40000000 in
theorem rm3 (l : Launch) (Z : State) (t0 : Array Value) (hw : ∀ d ∈ tables_1, d.before t0 Z = true) (ws : List Jvm.Cond) (p0 : Int32) (h0 : Heap) (n0 : Nat) (Z0 : n0 ≤ h0.size)  :
    MetFree l (⟨"com/example/crisp_events/crispevents/xml/XmlNamesIsNameStartPinLaw", "excluded", "(I)Z"⟩ : MethodName) (head1 (Jvm.Cond.code (⟨"com/example/crisp_events/crispevents/xml/XmlNamesIsNameStartPinLaw", "excluded", "(I)Z"⟩ : MethodName) method_2_code 1 (some .boolean) :: ws) ({ frames := 0, cells := 0, slots := 0, locals := 0 } : Room)) (fun a U => a = #[(.int p0)] ∧ Z.Warmed39 U.vm ∧ U.heap = h0) (fun _ _ _ _ _ => True) (fun _ U o U' => ∃ v L, o = .returned v ∧ Q3 p0 h0 n0 v U'.heap L ∧ FrameEnd U o U' L ({ frames := 0, cells := 0, slots := 0, locals := 0 } : Room).cells ({ frames := 0, cells := 0, slots := 0, locals := 0 } : Room).slots) := by
  refine MetFree.of_bodySF (plainFor_of_name pn_3) hisR ?_
  intro p e s m args below meth c s₁ Bd hml0 hP hK
  obtain ⟨rfl, hZ, hh⟩ := hP
  have hx := Bd.exec
  have hby := Bd.bytes
  have hml : c.maxLocals = 1 := hml0
  have hown : s.vm.findClass "com/example/crisp_events/crispevents/xml/XmlNamesIsNameStartPinLaw" = some m.cls := findClass_of_methodNamed Bd.named
  have hnm := (name_of_methodNamed Bd.named Bd.method).1
  have X0 : Stand p l e ({ frames := 0, cells := 0, slots := 0, locals := 0 } : Room) s m #[(.int p0)] below meth c s₁ [] 0 0 := Stand.of_body Bd
  have e0 : s₁.heap = h0 := by rw [← hh, Bd.state]; rfl
  have N0 := Fr.nil n0
  have pre0 : ∀ t, Steps p.tables e below (s₁.setTop (mkF m 0 #[.val (.int p0)] [])) t → Steps p.tables e below (s₁.setTop (entryFrame m #[(.int p0)] 1)) t := fun t k => castTop (ef_3 m p0) k
  obtain ⟨fs, hr, hrun, hended, hW, hsame⟩ := X0.leave (v := some (.int (own3_f0 p0))) (fun h => by rw [Bd.returns] at h; cases h)
  refine ⟨_, _, pre0 _ ?_, hrun, hended, _, _, rfl, ?_, ⟨_, rfl⟩, hW, hsame.mono (by decide) (by decide)⟩
  · exact own3_b0 p0 X0 hx hZ hw hby hown e0  Bd.returns hr
  · show Q3 p0 h0 n0 _ s₁.heap _
    rw [e0]
    exact ⟨rfl, N0, rfl⟩
theorem own3_s194 (p0 : Int32) : own3_f194 p0 = (if (983040 ≤ p0.toInt) then (1 : Int32) else (0 : Int32)) := by
  rw [own3_e194]
  by_cases hc197 : (983039 : Int32) < p0
  · rw [if_pos hc197]
    rw [Int32.lt_iff_toInt_lt, show (983039 : Int32).toInt = 983039 from by decide] at hc197
    exact (if_pos (by omega)).symm
  · rw [if_neg hc197]
    rw [Int32.lt_iff_toInt_lt, show (983039 : Int32).toInt = 983039 from by decide] at hc197
    exact (if_neg (by omega)).symm
theorem own3_s180 (p0 : Int32) : own3_f180 p0 = (if (65534 ≤ p0.toInt ∧ p0.toInt ≤ 65535) ∨ (983040 ≤ p0.toInt) then (1 : Int32) else (0 : Int32)) := by
  rw [own3_e180]
  by_cases hc183 : p0 < (65534 : Int32)
  · rw [if_pos hc183]
    rw [Int32.lt_iff_toInt_lt, show (65534 : Int32).toInt = 65534 from by decide] at hc183
    rw [own3_s194]
    exact own_ifc (by omega) rfl rfl
  · rw [if_neg hc183]
    rw [Int32.lt_iff_toInt_lt, show (65534 : Int32).toInt = 65534 from by decide] at hc183
    by_cases hc189 : (65535 : Int32) < p0
    · rw [if_pos hc189]
      rw [Int32.lt_iff_toInt_lt, show (65535 : Int32).toInt = 65535 from by decide] at hc189
      rw [own3_s194]
      exact own_ifc (by omega) rfl rfl
    · rw [if_neg hc189]
      rw [Int32.lt_iff_toInt_lt, show (65535 : Int32).toInt = 65535 from by decide] at hc189
      exact (if_pos (by omega)).symm
theorem own3_s166 (p0 : Int32) : own3_f166 p0 = (if (64976 ≤ p0.toInt ∧ p0.toInt ≤ 65007) ∨ (65534 ≤ p0.toInt ∧ p0.toInt ≤ 65535) ∨ (983040 ≤ p0.toInt) then (1 : Int32) else (0 : Int32)) := by
  rw [own3_e166]
  by_cases hc169 : p0 < (64976 : Int32)
  · rw [if_pos hc169]
    rw [Int32.lt_iff_toInt_lt, show (64976 : Int32).toInt = 64976 from by decide] at hc169
    rw [own3_s180]
    exact own_ifc (by omega) rfl rfl
  · rw [if_neg hc169]
    rw [Int32.lt_iff_toInt_lt, show (64976 : Int32).toInt = 64976 from by decide] at hc169
    by_cases hc175 : (65007 : Int32) < p0
    · rw [if_pos hc175]
      rw [Int32.lt_iff_toInt_lt, show (65007 : Int32).toInt = 65007 from by decide] at hc175
      rw [own3_s180]
      exact own_ifc (by omega) rfl rfl
    · rw [if_neg hc175]
      rw [Int32.lt_iff_toInt_lt, show (65007 : Int32).toInt = 65007 from by decide] at hc175
      exact (if_pos (by omega)).symm
theorem own3_s152 (p0 : Int32) : own3_f152 p0 = (if (55296 ≤ p0.toInt ∧ p0.toInt ≤ 63743) ∨ (64976 ≤ p0.toInt ∧ p0.toInt ≤ 65007) ∨ (65534 ≤ p0.toInt ∧ p0.toInt ≤ 65535) ∨ (983040 ≤ p0.toInt) then (1 : Int32) else (0 : Int32)) := by
  rw [own3_e152]
  by_cases hc155 : p0 < (55296 : Int32)
  · rw [if_pos hc155]
    rw [Int32.lt_iff_toInt_lt, show (55296 : Int32).toInt = 55296 from by decide] at hc155
    rw [own3_s166]
    exact own_ifc (by omega) rfl rfl
  · rw [if_neg hc155]
    rw [Int32.lt_iff_toInt_lt, show (55296 : Int32).toInt = 55296 from by decide] at hc155
    by_cases hc161 : (63743 : Int32) < p0
    · rw [if_pos hc161]
      rw [Int32.lt_iff_toInt_lt, show (63743 : Int32).toInt = 63743 from by decide] at hc161
      rw [own3_s166]
      exact own_ifc (by omega) rfl rfl
    · rw [if_neg hc161]
      rw [Int32.lt_iff_toInt_lt, show (63743 : Int32).toInt = 63743 from by decide] at hc161
      exact (if_pos (by omega)).symm
theorem own3_s136 (p0 : Int32) : own3_f136 p0 = (if (12272 ≤ p0.toInt ∧ p0.toInt ≤ 12288) ∨ (55296 ≤ p0.toInt ∧ p0.toInt ≤ 63743) ∨ (64976 ≤ p0.toInt ∧ p0.toInt ≤ 65007) ∨ (65534 ≤ p0.toInt ∧ p0.toInt ≤ 65535) ∨ (983040 ≤ p0.toInt) then (1 : Int32) else (0 : Int32)) := by
  rw [own3_e136]
  by_cases hc140 : p0 < (12272 : Int32)
  · rw [if_pos hc140]
    rw [Int32.lt_iff_toInt_lt, show (12272 : Int32).toInt = 12272 from by decide] at hc140
    rw [own3_s152]
    exact own_ifc (by omega) rfl rfl
  · rw [if_neg hc140]
    rw [Int32.lt_iff_toInt_lt, show (12272 : Int32).toInt = 12272 from by decide] at hc140
    by_cases hc147 : (12288 : Int32) < p0
    · rw [if_pos hc147]
      rw [Int32.lt_iff_toInt_lt, show (12288 : Int32).toInt = 12288 from by decide] at hc147
      rw [own3_s152]
      exact own_ifc (by omega) rfl rfl
    · rw [if_neg hc147]
      rw [Int32.lt_iff_toInt_lt, show (12288 : Int32).toInt = 12288 from by decide] at hc147
      exact (if_pos (by omega)).symm
theorem own3_s120 (p0 : Int32) : own3_f120 p0 = (if (8592 ≤ p0.toInt ∧ p0.toInt ≤ 11263) ∨ (12272 ≤ p0.toInt ∧ p0.toInt ≤ 12288) ∨ (55296 ≤ p0.toInt ∧ p0.toInt ≤ 63743) ∨ (64976 ≤ p0.toInt ∧ p0.toInt ≤ 65007) ∨ (65534 ≤ p0.toInt ∧ p0.toInt ≤ 65535) ∨ (983040 ≤ p0.toInt) then (1 : Int32) else (0 : Int32)) := by
  rw [own3_e120]
  by_cases hc124 : p0 < (8592 : Int32)
  · rw [if_pos hc124]
    rw [Int32.lt_iff_toInt_lt, show (8592 : Int32).toInt = 8592 from by decide] at hc124
    rw [own3_s136]
    exact own_ifc (by omega) rfl rfl
  · rw [if_neg hc124]
    rw [Int32.lt_iff_toInt_lt, show (8592 : Int32).toInt = 8592 from by decide] at hc124
    by_cases hc131 : (11263 : Int32) < p0
    · rw [if_pos hc131]
      rw [Int32.lt_iff_toInt_lt, show (11263 : Int32).toInt = 11263 from by decide] at hc131
      rw [own3_s136]
      exact own_ifc (by omega) rfl rfl
    · rw [if_neg hc131]
      rw [Int32.lt_iff_toInt_lt, show (11263 : Int32).toInt = 11263 from by decide] at hc131
      exact (if_pos (by omega)).symm
theorem own3_s104 (p0 : Int32) : own3_f104 p0 = (if (8206 ≤ p0.toInt ∧ p0.toInt ≤ 8303) ∨ (8592 ≤ p0.toInt ∧ p0.toInt ≤ 11263) ∨ (12272 ≤ p0.toInt ∧ p0.toInt ≤ 12288) ∨ (55296 ≤ p0.toInt ∧ p0.toInt ≤ 63743) ∨ (64976 ≤ p0.toInt ∧ p0.toInt ≤ 65007) ∨ (65534 ≤ p0.toInt ∧ p0.toInt ≤ 65535) ∨ (983040 ≤ p0.toInt) then (1 : Int32) else (0 : Int32)) := by
  rw [own3_e104]
  by_cases hc108 : p0 < (8206 : Int32)
  · rw [if_pos hc108]
    rw [Int32.lt_iff_toInt_lt, show (8206 : Int32).toInt = 8206 from by decide] at hc108
    rw [own3_s120]
    exact own_ifc (by omega) rfl rfl
  · rw [if_neg hc108]
    rw [Int32.lt_iff_toInt_lt, show (8206 : Int32).toInt = 8206 from by decide] at hc108
    by_cases hc115 : (8303 : Int32) < p0
    · rw [if_pos hc115]
      rw [Int32.lt_iff_toInt_lt, show (8303 : Int32).toInt = 8303 from by decide] at hc115
      rw [own3_s120]
      exact own_ifc (by omega) rfl rfl
    · rw [if_neg hc115]
      rw [Int32.lt_iff_toInt_lt, show (8303 : Int32).toInt = 8303 from by decide] at hc115
      exact (if_pos (by omega)).symm
theorem own3_s79 (p0 : Int32) : own3_f79 p0 = (if (894 ≤ p0.toInt ∧ p0.toInt ≤ 894) ∨ (8192 ≤ p0.toInt ∧ p0.toInt ≤ 8203) ∨ (8206 ≤ p0.toInt ∧ p0.toInt ≤ 8303) ∨ (8592 ≤ p0.toInt ∧ p0.toInt ≤ 11263) ∨ (12272 ≤ p0.toInt ∧ p0.toInt ≤ 12288) ∨ (55296 ≤ p0.toInt ∧ p0.toInt ≤ 63743) ∨ (64976 ≤ p0.toInt ∧ p0.toInt ≤ 65007) ∨ (65534 ≤ p0.toInt ∧ p0.toInt ≤ 65535) ∨ (983040 ≤ p0.toInt) then (1 : Int32) else (0 : Int32)) := by
  rw [own3_e79]
  by_cases hc83 : p0 = (894 : Int32)
  · rw [if_pos hc83]
    rw [← Int32.toInt_inj, show (894 : Int32).toInt = 894 from by decide] at hc83
    exact (if_pos (by omega)).symm
  · rw [if_neg hc83]
    rw [← Int32.toInt_inj, show (894 : Int32).toInt = 894 from by decide] at hc83
    by_cases hc92 : p0 < (8192 : Int32)
    · rw [if_pos hc92]
      rw [Int32.lt_iff_toInt_lt, show (8192 : Int32).toInt = 8192 from by decide] at hc92
      rw [own3_s104]
      exact own_ifc (by omega) rfl rfl
    · rw [if_neg hc92]
      rw [Int32.lt_iff_toInt_lt, show (8192 : Int32).toInt = 8192 from by decide] at hc92
      by_cases hc99 : (8203 : Int32) < p0
      · rw [if_pos hc99]
        rw [Int32.lt_iff_toInt_lt, show (8203 : Int32).toInt = 8203 from by decide] at hc99
        rw [own3_s104]
        exact own_ifc (by omega) rfl rfl
      · rw [if_neg hc99]
        rw [Int32.lt_iff_toInt_lt, show (8203 : Int32).toInt = 8203 from by decide] at hc99
        exact (if_pos (by omega)).symm
theorem own3_s45 (p0 : Int32) : own3_f45 p0 = (if (215 ≤ p0.toInt ∧ p0.toInt ≤ 215) ∨ (247 ≤ p0.toInt ∧ p0.toInt ≤ 247) ∨ (768 ≤ p0.toInt ∧ p0.toInt ≤ 879) ∨ (894 ≤ p0.toInt ∧ p0.toInt ≤ 894) ∨ (8192 ≤ p0.toInt ∧ p0.toInt ≤ 8203) ∨ (8206 ≤ p0.toInt ∧ p0.toInt ≤ 8303) ∨ (8592 ≤ p0.toInt ∧ p0.toInt ≤ 11263) ∨ (12272 ≤ p0.toInt ∧ p0.toInt ≤ 12288) ∨ (55296 ≤ p0.toInt ∧ p0.toInt ≤ 63743) ∨ (64976 ≤ p0.toInt ∧ p0.toInt ≤ 65007) ∨ (65534 ≤ p0.toInt ∧ p0.toInt ≤ 65535) ∨ (983040 ≤ p0.toInt) then (1 : Int32) else (0 : Int32)) := by
  rw [own3_e45]
  by_cases hc49 : p0 = (215 : Int32)
  · rw [if_pos hc49]
    rw [← Int32.toInt_inj, show (215 : Int32).toInt = 215 from by decide] at hc49
    exact (if_pos (by omega)).symm
  · rw [if_neg hc49]
    rw [← Int32.toInt_inj, show (215 : Int32).toInt = 215 from by decide] at hc49
    by_cases hc58 : p0 = (247 : Int32)
    · rw [if_pos hc58]
      rw [← Int32.toInt_inj, show (247 : Int32).toInt = 247 from by decide] at hc58
      exact (if_pos (by omega)).symm
    · rw [if_neg hc58]
      rw [← Int32.toInt_inj, show (247 : Int32).toInt = 247 from by decide] at hc58
      by_cases hc67 : p0 < (768 : Int32)
      · rw [if_pos hc67]
        rw [Int32.lt_iff_toInt_lt, show (768 : Int32).toInt = 768 from by decide] at hc67
        rw [own3_s79]
        exact own_ifc (by omega) rfl rfl
      · rw [if_neg hc67]
        rw [Int32.lt_iff_toInt_lt, show (768 : Int32).toInt = 768 from by decide] at hc67
        by_cases hc74 : (879 : Int32) < p0
        · rw [if_pos hc74]
          rw [Int32.lt_iff_toInt_lt, show (879 : Int32).toInt = 879 from by decide] at hc74
          rw [own3_s79]
          exact own_ifc (by omega) rfl rfl
        · rw [if_neg hc74]
          rw [Int32.lt_iff_toInt_lt, show (879 : Int32).toInt = 879 from by decide] at hc74
          exact (if_pos (by omega)).symm
theorem own3_s22 (p0 : Int32) : own3_f22 p0 = (if (96 ≤ p0.toInt ∧ p0.toInt ≤ 96) ∨ (123 ≤ p0.toInt ∧ p0.toInt ≤ 191) ∨ (215 ≤ p0.toInt ∧ p0.toInt ≤ 215) ∨ (247 ≤ p0.toInt ∧ p0.toInt ≤ 247) ∨ (768 ≤ p0.toInt ∧ p0.toInt ≤ 879) ∨ (894 ≤ p0.toInt ∧ p0.toInt ≤ 894) ∨ (8192 ≤ p0.toInt ∧ p0.toInt ≤ 8203) ∨ (8206 ≤ p0.toInt ∧ p0.toInt ≤ 8303) ∨ (8592 ≤ p0.toInt ∧ p0.toInt ≤ 11263) ∨ (12272 ≤ p0.toInt ∧ p0.toInt ≤ 12288) ∨ (55296 ≤ p0.toInt ∧ p0.toInt ≤ 63743) ∨ (64976 ≤ p0.toInt ∧ p0.toInt ≤ 65007) ∨ (65534 ≤ p0.toInt ∧ p0.toInt ≤ 65535) ∨ (983040 ≤ p0.toInt) then (1 : Int32) else (0 : Int32)) := by
  rw [own3_e22]
  by_cases hc25 : p0 = (96 : Int32)
  · rw [if_pos hc25]
    rw [← Int32.toInt_inj, show (96 : Int32).toInt = 96 from by decide] at hc25
    exact (if_pos (by omega)).symm
  · rw [if_neg hc25]
    rw [← Int32.toInt_inj, show (96 : Int32).toInt = 96 from by decide] at hc25
    by_cases hc33 : p0 < (123 : Int32)
    · rw [if_pos hc33]
      rw [Int32.lt_iff_toInt_lt, show (123 : Int32).toInt = 123 from by decide] at hc33
      rw [own3_s45]
      exact own_ifc (by omega) rfl rfl
    · rw [if_neg hc33]
      rw [Int32.lt_iff_toInt_lt, show (123 : Int32).toInt = 123 from by decide] at hc33
      by_cases hc40 : (191 : Int32) < p0
      · rw [if_pos hc40]
        rw [Int32.lt_iff_toInt_lt, show (191 : Int32).toInt = 191 from by decide] at hc40
        rw [own3_s45]
        exact own_ifc (by omega) rfl rfl
      · rw [if_neg hc40]
        rw [Int32.lt_iff_toInt_lt, show (191 : Int32).toInt = 191 from by decide] at hc40
        exact (if_pos (by omega)).symm
theorem own3_s0 (p0 : Int32) : own3_f0 p0 = (if (p0.toInt ≤ 64) ∨ (91 ≤ p0.toInt ∧ p0.toInt ≤ 94) ∨ (96 ≤ p0.toInt ∧ p0.toInt ≤ 96) ∨ (123 ≤ p0.toInt ∧ p0.toInt ≤ 191) ∨ (215 ≤ p0.toInt ∧ p0.toInt ≤ 215) ∨ (247 ≤ p0.toInt ∧ p0.toInt ≤ 247) ∨ (768 ≤ p0.toInt ∧ p0.toInt ≤ 879) ∨ (894 ≤ p0.toInt ∧ p0.toInt ≤ 894) ∨ (8192 ≤ p0.toInt ∧ p0.toInt ≤ 8203) ∨ (8206 ≤ p0.toInt ∧ p0.toInt ≤ 8303) ∨ (8592 ≤ p0.toInt ∧ p0.toInt ≤ 11263) ∨ (12272 ≤ p0.toInt ∧ p0.toInt ≤ 12288) ∨ (55296 ≤ p0.toInt ∧ p0.toInt ≤ 63743) ∨ (64976 ≤ p0.toInt ∧ p0.toInt ≤ 65007) ∨ (65534 ≤ p0.toInt ∧ p0.toInt ≤ 65535) ∨ (983040 ≤ p0.toInt) then (1 : Int32) else (0 : Int32)) := by
  rw [own3_e0]
  by_cases hc3 : p0 < (65 : Int32)
  · rw [if_pos hc3]
    rw [Int32.lt_iff_toInt_lt, show (65 : Int32).toInt = 65 from by decide] at hc3
    exact (if_pos (by omega)).symm
  · rw [if_neg hc3]
    rw [Int32.lt_iff_toInt_lt, show (65 : Int32).toInt = 65 from by decide] at hc3
    by_cases hc11 : p0 < (91 : Int32)
    · rw [if_pos hc11]
      rw [Int32.lt_iff_toInt_lt, show (91 : Int32).toInt = 91 from by decide] at hc11
      rw [own3_s22]
      exact own_ifc (by omega) rfl rfl
    · rw [if_neg hc11]
      rw [Int32.lt_iff_toInt_lt, show (91 : Int32).toInt = 91 from by decide] at hc11
      by_cases hc17 : (94 : Int32) < p0
      · rw [if_pos hc17]
        rw [Int32.lt_iff_toInt_lt, show (94 : Int32).toInt = 94 from by decide] at hc17
        rw [own3_s22]
        exact own_ifc (by omega) rfl rfl
      · rw [if_neg hc17]
        rw [Int32.lt_iff_toInt_lt, show (94 : Int32).toInt = 94 from by decide] at hc17
        exact (if_pos (by omega)).symm
theorem own_agree (p0 : Int32) {nn : Int32} (h : nn = (if (own3_f0 p0) = (0 : Int32) then (1 : Int32) else (0 : Int32))) : own2_f0 p0 = nn := by
  rw [h, own2_s0, own3_s0]
  by_cases q : (p0.toInt ≤ 64) ∨ (91 ≤ p0.toInt ∧ p0.toInt ≤ 94) ∨ (96 ≤ p0.toInt ∧ p0.toInt ≤ 96) ∨ (123 ≤ p0.toInt ∧ p0.toInt ≤ 191) ∨ (215 ≤ p0.toInt ∧ p0.toInt ≤ 215) ∨ (247 ≤ p0.toInt ∧ p0.toInt ≤ 247) ∨ (768 ≤ p0.toInt ∧ p0.toInt ≤ 879) ∨ (894 ≤ p0.toInt ∧ p0.toInt ≤ 894) ∨ (8192 ≤ p0.toInt ∧ p0.toInt ≤ 8203) ∨ (8206 ≤ p0.toInt ∧ p0.toInt ≤ 8303) ∨ (8592 ≤ p0.toInt ∧ p0.toInt ≤ 11263) ∨ (12272 ≤ p0.toInt ∧ p0.toInt ≤ 12288) ∨ (55296 ≤ p0.toInt ∧ p0.toInt ≤ 63743) ∨ (64976 ≤ p0.toInt ∧ p0.toInt ≤ 65007) ∨ (65534 ≤ p0.toInt ∧ p0.toInt ≤ 65535) ∨ (983040 ≤ p0.toInt)
  · have q2 : ¬ ((65 ≤ p0.toInt ∧ p0.toInt ≤ 90) ∨ (95 ≤ p0.toInt ∧ p0.toInt ≤ 95) ∨ (97 ≤ p0.toInt ∧ p0.toInt ≤ 122) ∨ (192 ≤ p0.toInt ∧ p0.toInt ≤ 214) ∨ (216 ≤ p0.toInt ∧ p0.toInt ≤ 246) ∨ (248 ≤ p0.toInt ∧ p0.toInt ≤ 767) ∨ (880 ≤ p0.toInt ∧ p0.toInt ≤ 893) ∨ (895 ≤ p0.toInt ∧ p0.toInt ≤ 8191) ∨ (8204 ≤ p0.toInt ∧ p0.toInt ≤ 8205) ∨ (8304 ≤ p0.toInt ∧ p0.toInt ≤ 8591) ∨ (11264 ≤ p0.toInt ∧ p0.toInt ≤ 12271) ∨ (12289 ≤ p0.toInt ∧ p0.toInt ≤ 55295) ∨ (63744 ≤ p0.toInt ∧ p0.toInt ≤ 64975) ∨ (65008 ≤ p0.toInt ∧ p0.toInt ≤ 65533) ∨ (65536 ≤ p0.toInt ∧ p0.toInt ≤ 983039)) := by omega
    rw [if_pos q, if_neg q2, if_neg (show ¬ ((1 : Int32) = (0 : Int32)) from by decide)]
  · have q2 : (65 ≤ p0.toInt ∧ p0.toInt ≤ 90) ∨ (95 ≤ p0.toInt ∧ p0.toInt ≤ 95) ∨ (97 ≤ p0.toInt ∧ p0.toInt ≤ 122) ∨ (192 ≤ p0.toInt ∧ p0.toInt ≤ 214) ∨ (216 ≤ p0.toInt ∧ p0.toInt ≤ 246) ∨ (248 ≤ p0.toInt ∧ p0.toInt ≤ 767) ∨ (880 ≤ p0.toInt ∧ p0.toInt ≤ 893) ∨ (895 ≤ p0.toInt ∧ p0.toInt ≤ 8191) ∨ (8204 ≤ p0.toInt ∧ p0.toInt ≤ 8205) ∨ (8304 ≤ p0.toInt ∧ p0.toInt ≤ 8591) ∨ (11264 ≤ p0.toInt ∧ p0.toInt ≤ 12271) ∨ (12289 ≤ p0.toInt ∧ p0.toInt ≤ 55295) ∨ (63744 ≤ p0.toInt ∧ p0.toInt ≤ 64975) ∨ (65008 ≤ p0.toInt ∧ p0.toInt ≤ 65533) ∨ (65536 ≤ p0.toInt ∧ p0.toInt ≤ 983039) := by omega
    rw [if_neg q, if_pos q2, if_pos (rfl : (0 : Int32) = (0 : Int32))]
theorem pd_1_0 : parseMethodDescriptor "(I)Z" = some ⟨[.int], some .boolean⟩ := by decide +kernel
theorem d1_0 : decode method_3_code 0 = .ok (.iload_n 0, 1) := by decide +kernel
theorem d1_1 : decode method_3_code 1 = .ok (.invokestatic 14, 3) := by decide +kernel
theorem d1_4 : decode method_3_code 4 = .ok (.iload_n 0, 1) := by decide +kernel
theorem d1_5 : decode method_3_code 5 = .ok (.invokestatic 20, 3) := by decide +kernel
theorem d1_8 : decode method_3_code 8 = .ok (.ifCond .ne 7, 3) := by decide +kernel
theorem d1_11 : decode method_3_code 11 = .ok (.iconst 1, 1) := by decide +kernel
theorem d1_12 : decode method_3_code 12 = .ok (.goto 4, 3) := by decide +kernel
theorem d1_15 : decode method_3_code 15 = .ok (.iconst 0, 1) := by decide +kernel
theorem d1_16 : decode method_3_code 16 = .ok (.if_icmp .ne 7, 3) := by decide +kernel
theorem d1_19 : decode method_3_code 19 = .ok (.iconst 1, 1) := by decide +kernel
theorem d1_20 : decode method_3_code 20 = .ok (.goto 4, 3) := by decide +kernel
theorem d1_24 : decode method_3_code 24 = .ok (.ireturn, 1) := by decide +kernel
theorem ef_1 (m : MethodId) (p0 : Int32) : entryFrame m #[(.int p0)] 1 = mkF m 0 #[.val (.int p0)] [] := by first | (simp [entryFrame, mkF, argsToLocals, Value.category]; done) | rfl
theorem pn_1 : plainName "com/example/crisp_events/crispevents/xml/XmlNamesIsNameStartPinLaw" = true := by first | (simp [plainName, overriddenIn]; done) | decide +kernel
def Q1 (h0 : Heap) (n0 : Nat) (v : Option Value) (h : Heap) (L : List Loc) : Prop := v = some (.int (1 : Int32)) ∧ Fr n0 L ∧ h = h0
set_option maxRecDepth 65536 in
set_option maxHeartbeats 40000000 in
theorem rm1 (l : Launch) (Z : State) (t0 : Array Value) (hw : ∀ d ∈ tables_1, d.before t0 Z = true) (ws : List Jvm.Cond) (p0 : Int32) (h0 : Heap) (n0 : Nat) (Z0 : n0 ≤ h0.size)  :
    MetFree l (⟨"com/example/crisp_events/crispevents/xml/XmlNamesIsNameStartPinLaw", "agrees", "(I)Z"⟩ : MethodName) (head1 (Jvm.Cond.code (⟨"com/example/crisp_events/crispevents/xml/XmlNamesIsNameStartPinLaw", "agrees", "(I)Z"⟩ : MethodName) method_3_code 1 (some .boolean) :: ws) ({ frames := 1, cells := 0, slots := 0, locals := 13 } : Room)) (fun a U => a = #[(.int p0)] ∧ Z.Warmed39 U.vm ∧ U.heap = h0) (fun _ _ _ _ _ => True) (fun _ U o U' => ∃ v L, o = .returned v ∧ Q1 h0 n0 v U'.heap L ∧ FrameEnd U o U' L ({ frames := 1, cells := 0, slots := 0, locals := 13 } : Room).cells ({ frames := 1, cells := 0, slots := 0, locals := 13 } : Room).slots) := by
  refine MetFree.of_bodySF (plainFor_of_name pn_1) hisR ?_
  intro p e s m args below meth c s₁ Bd hml0 hP hK
  obtain ⟨rfl, hZ, hh⟩ := hP
  have hx := Bd.exec
  have hby := Bd.bytes
  have hml : c.maxLocals = 1 := hml0
  have hown : s.vm.findClass "com/example/crisp_events/crispevents/xml/XmlNamesIsNameStartPinLaw" = some m.cls := findClass_of_methodNamed Bd.named
  have hnm := (name_of_methodNamed Bd.named Bd.method).1
  have X0 : Stand p l e ({ frames := 1, cells := 0, slots := 0, locals := 13 } : Room) s m #[(.int p0)] below meth c s₁ [] 0 0 := Stand.of_body Bd
  have e0 : s₁.heap = h0 := by rw [← hh, Bd.state]; rfl
  have N0 := Fr.nil n0
  have pre0 : ∀ t, Steps p.tables e below (s₁.setTop (mkF m 0 #[.val (.int p0)] [])) t → Steps p.tables e below (s₁.setTop (entryFrame m #[(.int p0)] 1)) t := fun t k => castTop (ef_1 m p0) k
  refine own_go pre0 ?_
  refine own_go (B := s₁.setTop (mkF m 1 #[.val (.int p0)] [(.int p0)])) (fun t kt => ?_) ?_
  · show Steps p.tables e below (s₁.setTop (mkF m 0 #[.val (.int p0)] [])) _
    refine XS.iloadN X0.here hx rfl (hb hby d1_0) rfl ?_
    exact kt
  obtain ⟨_, _, ⟨T1, L1, k1, n1⟩, -, X1, ⟨Lc1, hQ1, l1, y1, z1⟩, st1⟩ := Jvm.LawKit.callS X0 hx (y := (⟨"com/example/crisp_events/crispevents/xml/XmlNames", "isNameStart", "(I)Z"⟩ : MethodName)) hown (mvT hZ (hw _ (List.mem_of_getElem? (i := 13) rfl))) (mvT hZ (hw _ (List.mem_of_getElem? (i := 14) rfl))) (mvT hZ (hw _ (List.mem_of_getElem? (i := 15) rfl))) (mvT hZ (hw _ (List.mem_of_getElem? (i := 16) rfl))) (by decide) (backOf (W := 0) (rm2 l Z t0 hw [] p0 h0 n0 Z0) hZ (hw _ (List.mem_of_getElem? (i := 16) rfl)) (hw _ (List.mem_of_getElem? (i := 15) rfl)) (by decide) (by decide)) (g := (mkF m 1 #[.val (.int p0)] [(.int p0)])) rfl (by rw [hml]; rfl) (argsL := [(.int p0)]) (rest := []) (lenOf pd_1_0 rfl) rfl (by show 2 * 0 + _ ≤ _; exact Nat.le_of_eq rfl) (hb hby d1_1) (fun _ _ => ⟨rfl, e0, (by decide : 0 + 0 ≤ _), (by decide : 0 + 0 ≤ _)⟩)
  dsimp only [Pt.U, Pt.locs, Pt.cells, Pt.slots] at X1 l1 y1 z1 st1 hQ1
  subst l1 y1 z1
  obtain ⟨rfl, Nq1, hh1⟩ := hQ1
  have N1 := Fr.app N0 Nq1
  have e1 : T1.heap = h0 := hh1
  refine own_go (B := T1.setTop (mkF m 4 #[.val (.int p0)] [(.int (own2_f0 p0))])) (fun t kt => st1 t kt) ?_
  refine own_go (B := T1.setTop (mkF m 5 #[.val (.int p0)] [(.int p0), (.int (own2_f0 p0))])) (fun t kt => ?_) ?_
  · show Steps p.tables e below (T1.setTop (mkF m 4 #[.val (.int p0)] [(.int (own2_f0 p0))])) _
    refine XS.iloadN X1.here hx rfl (hb hby d1_4) rfl ?_
    exact kt
  obtain ⟨_, _, ⟨T2, L2, k2, n2⟩, -, X2, ⟨Lc2, hQ2, l2, y2, z2⟩, st2⟩ := Jvm.LawKit.callS X1 hx (y := (⟨"com/example/crisp_events/crispevents/xml/XmlNamesIsNameStartPinLaw", "excluded", "(I)Z"⟩ : MethodName)) hown (mvT hZ (hw _ (List.mem_of_getElem? (i := 20) rfl))) (mvT hZ (hw _ (List.mem_of_getElem? (i := 21) rfl))) (mvT hZ (hw _ (List.mem_of_getElem? (i := 11) rfl))) (mvT hZ (hw _ (List.mem_of_getElem? (i := 22) rfl))) (by decide) (backOf (W := 1) (rm3 l Z t0 hw [] p0 h0 n0 Z0) hZ (hw _ (List.mem_of_getElem? (i := 22) rfl)) (hw _ (List.mem_of_getElem? (i := 11) rfl)) (by decide) (by decide)) (g := (mkF m 5 #[.val (.int p0)] [(.int p0), (.int (own2_f0 p0))])) rfl (by rw [hml]; rfl) (argsL := [(.int p0)]) (rest := [(.int (own2_f0 p0))]) (lenOf pd_1_0 rfl) rfl (by show 2 * 0 + _ ≤ _; exact Nat.le_of_eq rfl) (hb hby d1_5) (fun _ _ => ⟨rfl, e1, (by decide : 0 + 0 ≤ _), (by decide : 0 + 0 ≤ _)⟩)
  dsimp only [Pt.U, Pt.locs, Pt.cells, Pt.slots] at X2 l2 y2 z2 st2 hQ2
  subst l2 y2 z2
  obtain ⟨rfl, Nq2, hh2⟩ := hQ2
  have N2 := Fr.app N1 Nq2
  have e2 : T2.heap = h0 := hh2
  refine own_go (B := T2.setTop (mkF m 8 #[.val (.int p0)] [(.int (own3_f0 p0)), (.int (own2_f0 p0))])) (fun t kt => st2 t kt) ?_
  obtain ⟨nn, hnn⟩ : ∃ z : Int32, z = (if (own3_f0 p0) = (0 : Int32) then (1 : Int32) else (0 : Int32)) := ⟨_, rfl⟩
  refine own_go (B := T2.setTop (mkF m 16 #[.val (.int p0)] [(.int nn), (.int (own2_f0 p0))])) (fun t kt => ?_) ?_
  · by_cases hc8 : (own3_f0 p0) = (0 : Int32)
    · show Steps p.tables e below (T2.setTop (mkF m 8 #[.val (.int p0)] [(.int (own3_f0 p0)), (.int (own2_f0 p0))])) _
      refine XS.ifNo X2.here hx rfl (hb hby d1_8) rfl ((if0 _ _).trans (teq hc8).2) ?_
      show Steps p.tables e below (T2.setTop (mkF m 11 #[.val (.int p0)] [(.int (own2_f0 p0))])) _
      refine XS.iconst X2.here hx rfl (hb hby d1_11) ?_
      show Steps p.tables e below (T2.setTop (mkF m 12 #[.val (.int p0)] [(.int (1 : Int32)), (.int (own2_f0 p0))])) _
      refine XS.goto X2.here hx rfl (pc0 := 12) (pc' := 16) rfl (hb hby d1_12) (by decide) (by decide) ?_
      rw [show nn = (1 : Int32) from by rw [hnn, if_pos hc8]] at kt
      exact kt
    · show Steps p.tables e below (T2.setTop (mkF m 8 #[.val (.int p0)] [(.int (own3_f0 p0)), (.int (own2_f0 p0))])) _
      refine XS.ifYes X2.here hx rfl (pc0 := 8) (pc' := 15) rfl (hb hby d1_8) rfl ((if0 _ _).trans (feq hc8).2) (by decide) (by decide) ?_
      show Steps p.tables e below (T2.setTop (mkF m 15 #[.val (.int p0)] [(.int (own2_f0 p0))])) _
      refine XS.iconst X2.here hx rfl (hb hby d1_15) ?_
      rw [show nn = (0 : Int32) from by rw [hnn, if_neg hc8]] at kt
      exact kt
  refine own_go (B := T2.setTop (mkF m 24 #[.val (.int p0)] [(.int (1 : Int32))])) (fun t kt => ?_) ?_
  · show Steps p.tables e below (T2.setTop (mkF m 16 #[.val (.int p0)] [(.int nn), (.int (own2_f0 p0))])) _
    refine XS.icmpNo X2.here hx rfl (hb hby d1_16) rfl (teq (own_agree p0 hnn)).2 ?_
    show Steps p.tables e below (T2.setTop (mkF m 19 #[.val (.int p0)] [])) _
    refine XS.iconst X2.here hx rfl (hb hby d1_19) ?_
    show Steps p.tables e below (T2.setTop (mkF m 20 #[.val (.int p0)] [(.int (1 : Int32))])) _
    refine XS.goto X2.here hx rfl (pc0 := 20) (pc' := 24) rfl (hb hby d1_20) (by decide) (by decide) ?_
    exact kt
  obtain ⟨fs, hr, hrun, hended, hW, hsame⟩ := X2.leave (v := some (.int (1 : Int32))) (fun h => by rw [Bd.returns] at h; cases h)
  refine ⟨_, _, ?_, hrun, hended, _, _, rfl, ?_, ⟨_, rfl⟩, hW, hsame.mono (by decide) (by decide)⟩
  · show Steps p.tables e below (T2.setTop (mkF m 24 #[.val (.int p0)] [(.int (1 : Int32))])) _
    exact retN X2 hx (t := .boolean) Bd.returns (by simp) (hb hby d1_24) hr
  · show Q1 h0 n0 _ T2.heap _
    rw [e2]
    exact ⟨rfl, N2, rfl⟩
theorem own_idx (p1 : Int32) : ¬ ((p1 &&& (2147483647 : Int32)) % (29 : Int32)) < 0 ∧ ((p1 &&& (2147483647 : Int32)) % (29 : Int32)) < (29 : Int32) := by
  have m1 := c_mask p1 (2147483647 : Int32) 31 (by decide) (by decide)
  have t31 : ((2 ^ 31 : Nat) : Int) = 2147483648 := by decide
  rw [t31] at m1
  have h := (c_irem (p1 &&& (2147483647 : Int32)) (29 : Int32) 29 (by decide)).1 (by omega)
  have z0 : (0 : Int32).toInt = 0 := by decide
  have z29 : (29 : Int32).toInt = 29 := by decide
  rw [Int32.lt_iff_toInt_lt, Int32.lt_iff_toInt_lt]
  omega
def own_I (Z : State) (h : Heap) (a : Addr) : Prop := ∃ c : Cell, Arr Z h a c .int ∧ c.slots.size = (29 : Int32).toNatClampNeg ∧ ∀ j, j < c.slots.size → ∃ x, c.slots[j]? = some (.int x)
theorem own_I_new {Z : State} {h : Heap} {a : Addr} {k : ClassId} (A : Arr Z h a (newA k .int (29 : Int32)) .int) : own_I Z h a := by
  refine ⟨_, A, sz_new _ _ _, fun j hj => ⟨(0 : Int32), ?_⟩⟩
  rw [sz_new] at hj
  show (Array.replicate (29 : Int32).toNatClampNeg (defaultValue .int))[j]? = _
  rw [Array.getElem?_replicate, if_pos hj]
  rfl
theorem own_I_set {Z : State} {h h' : Heap} {a : Addr} {c : Cell} {i : Nat} {v : Int32} (A : Arr Z h a c .int) (S : c.slots.size = (29 : Int32).toNatClampNeg) (H : ∀ j, j < c.slots.size → ∃ x, c.slots[j]? = some (.int x)) (W : Wr h h' a i (.int v)) : own_I Z h' a := by
  refine ⟨_, A.same W, (sz_set _ _ _).trans S, fun j hj => ?_⟩
  rw [sz_set] at hj
  obtain ⟨y, hy⟩ := H j hj
  by_cases e : i = j
  · exact ⟨v, by subst e; show (c.slots.setIfInBounds i (.int v))[i]? = _; rw [Array.getElem?_setIfInBounds_self_of_lt hj]⟩
  · exact ⟨y, by show (c.slots.setIfInBounds i (.int v))[j]? = _; rw [Array.getElem?_setIfInBounds_ne e]; exact hy⟩
theorem pd_0_0 : parseMethodDescriptor "(I)Z" = some ⟨[.int], some .boolean⟩ := by decide +kernel
theorem ef_0 (m : MethodId) (p0 : Int32) (p1 : Int32) (p2 : Int32) : entryFrame m #[(.int p0), (.int p1), (.int p2)] maxLocals = mkF m 0 #[.val (.int p0), .val (.int p1), .val (.int p2), .unset, .unset] [] := by first | (simp [entryFrame, mkF, argsToLocals, Value.category, maxLocals]; done) | rfl
theorem pn_0 : plainName "com/example/crisp_events/crispevents/xml/XmlNamesIsNameStartPinLaw" = true := by first | (simp [plainName, overriddenIn]; done) | decide +kernel
def Q0 (n0 : Nat) (v : Option Value) (L : List Loc) : Prop := v = some (.int (1 : Int32)) ∧ Fr n0 L
set_option maxRecDepth 65536 in
set_option maxHeartbeats 40000000 in
theorem rm0 (l : Launch) (Z : State) (t0 : Array Value) (hw : ∀ d ∈ tables_1, d.before t0 Z = true) (ws : List Jvm.Cond) (p0 : Int32) (p1 : Int32) (p2 : Int32) (h0 : Heap) (n0 : Nat) (Z0 : n0 ≤ h0.size)  :
    MetFree l x (head1 (Jvm.Cond.code x code maxLocals ret :: ws) room_1) (fun a U => a = #[(.int p0), (.int p1), (.int p2)] ∧ Z.Warmed39 U.vm ∧ U.heap = h0) (fun _ _ _ _ _ => True) (fun _ U o U' => ∃ v L, o = .returned v ∧ Q0 n0 v L ∧ FrameEnd U o U' L room_1.cells room_1.slots) := by
  refine MetFree.of_bodySF (plainFor_of_name pn_0) hisR ?_
  intro p e s m args below meth c s₁ Bd hml0 hP hK
  obtain ⟨rfl, hZ, hh⟩ := hP
  have hx := Bd.exec
  have hby := Bd.bytes
  have hml : c.maxLocals = 5 := hml0
  have hown : s.vm.findClass "com/example/crisp_events/crispevents/xml/XmlNamesIsNameStartPinLaw" = some m.cls := findClass_of_methodNamed Bd.named
  have hnm := (name_of_methodNamed Bd.named Bd.method).1
  have X0 : Stand p l e room_1 s m #[(.int p0), (.int p1), (.int p2)] below meth c s₁ [] 0 0 := Stand.of_body Bd
  have e0 : s₁.heap = h0 := by rw [← hh, Bd.state]; rfl
  have N0 := Fr.nil n0
  have pre0 : ∀ t, Steps p.tables e below (s₁.setTop (mkF m 0 #[.val (.int p0), .val (.int p1), .val (.int p2), .unset, .unset] [])) t → Steps p.tables e below (s₁.setTop (entryFrame m #[(.int p0), (.int p1), (.int p2)] maxLocals)) t := fun t k => castTop (ef_0 m p0 p1 p2) k
  refine own_go pre0 ?_
  refine own_go (B := s₁.setTop (mkF m 2 #[.val (.int p0), .val (.int p1), .val (.int p2), .unset, .unset] [(.int (29 : Int32))])) (fun t kt => ?_) ?_
  · show Steps p.tables e below (s₁.setTop (mkF m 0 #[.val (.int p0), .val (.int p1), .val (.int p2), .unset, .unset] [])) _
    refine XS.bipush X0.here hx rfl (hb hby at_0) ?_
    exact kt
  obtain ⟨T1, h1, k1, X1, e1, E1, A1, st1⟩ := newP X0 hx hZ (hw _ (List.mem_of_getElem? (i := 0) rfl)) e0 (g := (mkF m 2 #[.val (.int p0), .val (.int p1), .val (.int p2), .unset, .unset] [(.int (29 : Int32))])) rfl (hb hby at_2) rfl (by decide) (cap := 29) (by decide) (by decide) (by decide) (by decide)
  obtain ⟨b1, g1⟩ : ∃ z, z = h0.size := ⟨_, rfl⟩
  rw [← g1] at A1 st1
  have g_b1 : n0 ≤ b1 := Nat.le_trans Z0 (Nat.le_of_eq g1.symm)
  have Z1 : n0 ≤ h1.size := Nat.le_trans Z0 E1.1
  have V_b1 : own_I Z h1 b1 := own_I_new A1
  refine own_go (B := T1.setTop (mkF m 4 #[.val (.int p0), .val (.int p1), .val (.int p2), .unset, .unset] [(.ref b1)])) (fun t kt => st1 t kt) ?_
  refine own_go (B := T1.setTop (mkF m 8 #[.val (.int p0), .val (.int p1), .val (.int p2), .unset, .unset] [(.int (65 : Int32)), (.int (0 : Int32)), (.ref b1), (.ref b1)])) (fun t kt => ?_) ?_
  · show Steps p.tables e below (T1.setTop (mkF m 4 #[.val (.int p0), .val (.int p1), .val (.int p2), .unset, .unset] [(.ref b1)])) _
    refine XS.dup X1.here hx rfl (hb hby at_4) rfl rfl ?_
    show Steps p.tables e below (T1.setTop (mkF m 5 #[.val (.int p0), .val (.int p1), .val (.int p2), .unset, .unset] [(.ref b1), (.ref b1)])) _
    refine XS.iconst X1.here hx rfl (hb hby at_5) ?_
    show Steps p.tables e below (T1.setTop (mkF m 6 #[.val (.int p0), .val (.int p1), .val (.int p2), .unset, .unset] [(.int (0 : Int32)), (.ref b1), (.ref b1)])) _
    refine XS.bipush X1.here hx rfl (hb hby at_6) ?_
    exact kt
  obtain ⟨cl2, Ar2, S2, H2⟩ := id V_b1
  obtain ⟨T3, h3, X3, e3, W3, st3⟩ := stI X1 hx hZ e1 Ar2 (j := (0 : Int32)) (inb_of S2 ⟨by decide, by decide⟩) (g := (mkF m 8 #[.val (.int p0), .val (.int p1), .val (.int p2), .unset, .unset] [(.int (65 : Int32)), (.int (0 : Int32)), (.ref b1), (.ref b1)])) rfl rfl (hb hby at_8)
  have V_b1_3 := own_I_set Ar2 S2 H2 W3
  have Z3 : n0 ≤ h3.size := Nat.le_trans Z1 (Keep.of_wr W3).1
  have N3 := Fr.snoc X3 N0 g_b1
  refine own_go (B := T3.setTop (mkF m 9 #[.val (.int p0), .val (.int p1), .val (.int p2), .unset, .unset] [(.ref b1)])) (fun t kt => st3 t kt) ?_
  refine own_go (B := T3.setTop (mkF m 13 #[.val (.int p0), .val (.int p1), .val (.int p2), .unset, .unset] [(.int (90 : Int32)), (.int (1 : Int32)), (.ref b1), (.ref b1)])) (fun t kt => ?_) ?_
  · show Steps p.tables e below (T3.setTop (mkF m 9 #[.val (.int p0), .val (.int p1), .val (.int p2), .unset, .unset] [(.ref b1)])) _
    refine XS.dup X3.here hx rfl (hb hby at_9) rfl rfl ?_
    show Steps p.tables e below (T3.setTop (mkF m 10 #[.val (.int p0), .val (.int p1), .val (.int p2), .unset, .unset] [(.ref b1), (.ref b1)])) _
    refine XS.iconst X3.here hx rfl (hb hby at_10) ?_
    show Steps p.tables e below (T3.setTop (mkF m 11 #[.val (.int p0), .val (.int p1), .val (.int p2), .unset, .unset] [(.int (1 : Int32)), (.ref b1), (.ref b1)])) _
    refine XS.bipush X3.here hx rfl (hb hby at_11) ?_
    exact kt
  obtain ⟨cl4, Ar4, S4, H4⟩ := id V_b1_3
  obtain ⟨T5, h5, X5, e5, W5, st5⟩ := stI X3 hx hZ e3 Ar4 (j := (1 : Int32)) (inb_of S4 ⟨by decide, by decide⟩) (g := (mkF m 13 #[.val (.int p0), .val (.int p1), .val (.int p2), .unset, .unset] [(.int (90 : Int32)), (.int (1 : Int32)), (.ref b1), (.ref b1)])) rfl rfl (hb hby at_13)
  have V_b1_5 := own_I_set Ar4 S4 H4 W5
  have Z5 : n0 ≤ h5.size := Nat.le_trans Z3 (Keep.of_wr W5).1
  have N5 := Fr.snoc X5 N3 g_b1
  refine own_go (B := T5.setTop (mkF m 14 #[.val (.int p0), .val (.int p1), .val (.int p2), .unset, .unset] [(.ref b1)])) (fun t kt => st5 t kt) ?_
  refine own_go (B := T5.setTop (mkF m 18 #[.val (.int p0), .val (.int p1), .val (.int p2), .unset, .unset] [(.int (95 : Int32)), (.int (2 : Int32)), (.ref b1), (.ref b1)])) (fun t kt => ?_) ?_
  · show Steps p.tables e below (T5.setTop (mkF m 14 #[.val (.int p0), .val (.int p1), .val (.int p2), .unset, .unset] [(.ref b1)])) _
    refine XS.dup X5.here hx rfl (hb hby at_14) rfl rfl ?_
    show Steps p.tables e below (T5.setTop (mkF m 15 #[.val (.int p0), .val (.int p1), .val (.int p2), .unset, .unset] [(.ref b1), (.ref b1)])) _
    refine XS.iconst X5.here hx rfl (hb hby at_15) ?_
    show Steps p.tables e below (T5.setTop (mkF m 16 #[.val (.int p0), .val (.int p1), .val (.int p2), .unset, .unset] [(.int (2 : Int32)), (.ref b1), (.ref b1)])) _
    refine XS.bipush X5.here hx rfl (hb hby at_16) ?_
    exact kt
  obtain ⟨cl6, Ar6, S6, H6⟩ := id V_b1_5
  obtain ⟨T7, h7, X7, e7, W7, st7⟩ := stI X5 hx hZ e5 Ar6 (j := (2 : Int32)) (inb_of S6 ⟨by decide, by decide⟩) (g := (mkF m 18 #[.val (.int p0), .val (.int p1), .val (.int p2), .unset, .unset] [(.int (95 : Int32)), (.int (2 : Int32)), (.ref b1), (.ref b1)])) rfl rfl (hb hby at_18)
  have V_b1_7 := own_I_set Ar6 S6 H6 W7
  have Z7 : n0 ≤ h7.size := Nat.le_trans Z5 (Keep.of_wr W7).1
  have N7 := Fr.snoc X7 N5 g_b1
  refine own_go (B := T7.setTop (mkF m 19 #[.val (.int p0), .val (.int p1), .val (.int p2), .unset, .unset] [(.ref b1)])) (fun t kt => st7 t kt) ?_
  refine own_go (B := T7.setTop (mkF m 23 #[.val (.int p0), .val (.int p1), .val (.int p2), .unset, .unset] [(.int (97 : Int32)), (.int (3 : Int32)), (.ref b1), (.ref b1)])) (fun t kt => ?_) ?_
  · show Steps p.tables e below (T7.setTop (mkF m 19 #[.val (.int p0), .val (.int p1), .val (.int p2), .unset, .unset] [(.ref b1)])) _
    refine XS.dup X7.here hx rfl (hb hby at_19) rfl rfl ?_
    show Steps p.tables e below (T7.setTop (mkF m 20 #[.val (.int p0), .val (.int p1), .val (.int p2), .unset, .unset] [(.ref b1), (.ref b1)])) _
    refine XS.iconst X7.here hx rfl (hb hby at_20) ?_
    show Steps p.tables e below (T7.setTop (mkF m 21 #[.val (.int p0), .val (.int p1), .val (.int p2), .unset, .unset] [(.int (3 : Int32)), (.ref b1), (.ref b1)])) _
    refine XS.bipush X7.here hx rfl (hb hby at_21) ?_
    exact kt
  obtain ⟨cl8, Ar8, S8, H8⟩ := id V_b1_7
  obtain ⟨T9, h9, X9, e9, W9, st9⟩ := stI X7 hx hZ e7 Ar8 (j := (3 : Int32)) (inb_of S8 ⟨by decide, by decide⟩) (g := (mkF m 23 #[.val (.int p0), .val (.int p1), .val (.int p2), .unset, .unset] [(.int (97 : Int32)), (.int (3 : Int32)), (.ref b1), (.ref b1)])) rfl rfl (hb hby at_23)
  have V_b1_9 := own_I_set Ar8 S8 H8 W9
  have Z9 : n0 ≤ h9.size := Nat.le_trans Z7 (Keep.of_wr W9).1
  have N9 := Fr.snoc X9 N7 g_b1
  refine own_go (B := T9.setTop (mkF m 24 #[.val (.int p0), .val (.int p1), .val (.int p2), .unset, .unset] [(.ref b1)])) (fun t kt => st9 t kt) ?_
  refine own_go (B := T9.setTop (mkF m 28 #[.val (.int p0), .val (.int p1), .val (.int p2), .unset, .unset] [(.int (122 : Int32)), (.int (4 : Int32)), (.ref b1), (.ref b1)])) (fun t kt => ?_) ?_
  · show Steps p.tables e below (T9.setTop (mkF m 24 #[.val (.int p0), .val (.int p1), .val (.int p2), .unset, .unset] [(.ref b1)])) _
    refine XS.dup X9.here hx rfl (hb hby at_24) rfl rfl ?_
    show Steps p.tables e below (T9.setTop (mkF m 25 #[.val (.int p0), .val (.int p1), .val (.int p2), .unset, .unset] [(.ref b1), (.ref b1)])) _
    refine XS.iconst X9.here hx rfl (hb hby at_25) ?_
    show Steps p.tables e below (T9.setTop (mkF m 26 #[.val (.int p0), .val (.int p1), .val (.int p2), .unset, .unset] [(.int (4 : Int32)), (.ref b1), (.ref b1)])) _
    refine XS.bipush X9.here hx rfl (hb hby at_26) ?_
    exact kt
  obtain ⟨cl10, Ar10, S10, H10⟩ := id V_b1_9
  obtain ⟨T11, h11, X11, e11, W11, st11⟩ := stI X9 hx hZ e9 Ar10 (j := (4 : Int32)) (inb_of S10 ⟨by decide, by decide⟩) (g := (mkF m 28 #[.val (.int p0), .val (.int p1), .val (.int p2), .unset, .unset] [(.int (122 : Int32)), (.int (4 : Int32)), (.ref b1), (.ref b1)])) rfl rfl (hb hby at_28)
  have V_b1_11 := own_I_set Ar10 S10 H10 W11
  have Z11 : n0 ≤ h11.size := Nat.le_trans Z9 (Keep.of_wr W11).1
  have N11 := Fr.snoc X11 N9 g_b1
  refine own_go (B := T11.setTop (mkF m 29 #[.val (.int p0), .val (.int p1), .val (.int p2), .unset, .unset] [(.ref b1)])) (fun t kt => st11 t kt) ?_
  refine own_go (B := T11.setTop (mkF m 34 #[.val (.int p0), .val (.int p1), .val (.int p2), .unset, .unset] [(.int (192 : Int32)), (.int (5 : Int32)), (.ref b1), (.ref b1)])) (fun t kt => ?_) ?_
  · show Steps p.tables e below (T11.setTop (mkF m 29 #[.val (.int p0), .val (.int p1), .val (.int p2), .unset, .unset] [(.ref b1)])) _
    refine XS.dup X11.here hx rfl (hb hby at_29) rfl rfl ?_
    show Steps p.tables e below (T11.setTop (mkF m 30 #[.val (.int p0), .val (.int p1), .val (.int p2), .unset, .unset] [(.ref b1), (.ref b1)])) _
    refine XS.iconst X11.here hx rfl (hb hby at_30) ?_
    show Steps p.tables e below (T11.setTop (mkF m 31 #[.val (.int p0), .val (.int p1), .val (.int p2), .unset, .unset] [(.int (5 : Int32)), (.ref b1), (.ref b1)])) _
    refine XS.sipush X11.here hx rfl (hb hby at_31) ?_
    exact kt
  obtain ⟨cl12, Ar12, S12, H12⟩ := id V_b1_11
  obtain ⟨T13, h13, X13, e13, W13, st13⟩ := stI X11 hx hZ e11 Ar12 (j := (5 : Int32)) (inb_of S12 ⟨by decide, by decide⟩) (g := (mkF m 34 #[.val (.int p0), .val (.int p1), .val (.int p2), .unset, .unset] [(.int (192 : Int32)), (.int (5 : Int32)), (.ref b1), (.ref b1)])) rfl rfl (hb hby at_34)
  have V_b1_13 := own_I_set Ar12 S12 H12 W13
  have Z13 : n0 ≤ h13.size := Nat.le_trans Z11 (Keep.of_wr W13).1
  have N13 := Fr.snoc X13 N11 g_b1
  refine own_go (B := T13.setTop (mkF m 35 #[.val (.int p0), .val (.int p1), .val (.int p2), .unset, .unset] [(.ref b1)])) (fun t kt => st13 t kt) ?_
  refine own_go (B := T13.setTop (mkF m 41 #[.val (.int p0), .val (.int p1), .val (.int p2), .unset, .unset] [(.int (214 : Int32)), (.int (6 : Int32)), (.ref b1), (.ref b1)])) (fun t kt => ?_) ?_
  · show Steps p.tables e below (T13.setTop (mkF m 35 #[.val (.int p0), .val (.int p1), .val (.int p2), .unset, .unset] [(.ref b1)])) _
    refine XS.dup X13.here hx rfl (hb hby at_35) rfl rfl ?_
    show Steps p.tables e below (T13.setTop (mkF m 36 #[.val (.int p0), .val (.int p1), .val (.int p2), .unset, .unset] [(.ref b1), (.ref b1)])) _
    refine XS.bipush X13.here hx rfl (hb hby at_36) ?_
    show Steps p.tables e below (T13.setTop (mkF m 38 #[.val (.int p0), .val (.int p1), .val (.int p2), .unset, .unset] [(.int (6 : Int32)), (.ref b1), (.ref b1)])) _
    refine XS.sipush X13.here hx rfl (hb hby at_38) ?_
    exact kt
  obtain ⟨cl14, Ar14, S14, H14⟩ := id V_b1_13
  obtain ⟨T15, h15, X15, e15, W15, st15⟩ := stI X13 hx hZ e13 Ar14 (j := (6 : Int32)) (inb_of S14 ⟨by decide, by decide⟩) (g := (mkF m 41 #[.val (.int p0), .val (.int p1), .val (.int p2), .unset, .unset] [(.int (214 : Int32)), (.int (6 : Int32)), (.ref b1), (.ref b1)])) rfl rfl (hb hby at_41)
  have V_b1_15 := own_I_set Ar14 S14 H14 W15
  have Z15 : n0 ≤ h15.size := Nat.le_trans Z13 (Keep.of_wr W15).1
  have N15 := Fr.snoc X15 N13 g_b1
  refine own_go (B := T15.setTop (mkF m 42 #[.val (.int p0), .val (.int p1), .val (.int p2), .unset, .unset] [(.ref b1)])) (fun t kt => st15 t kt) ?_
  refine own_go (B := T15.setTop (mkF m 48 #[.val (.int p0), .val (.int p1), .val (.int p2), .unset, .unset] [(.int (216 : Int32)), (.int (7 : Int32)), (.ref b1), (.ref b1)])) (fun t kt => ?_) ?_
  · show Steps p.tables e below (T15.setTop (mkF m 42 #[.val (.int p0), .val (.int p1), .val (.int p2), .unset, .unset] [(.ref b1)])) _
    refine XS.dup X15.here hx rfl (hb hby at_42) rfl rfl ?_
    show Steps p.tables e below (T15.setTop (mkF m 43 #[.val (.int p0), .val (.int p1), .val (.int p2), .unset, .unset] [(.ref b1), (.ref b1)])) _
    refine XS.bipush X15.here hx rfl (hb hby at_43) ?_
    show Steps p.tables e below (T15.setTop (mkF m 45 #[.val (.int p0), .val (.int p1), .val (.int p2), .unset, .unset] [(.int (7 : Int32)), (.ref b1), (.ref b1)])) _
    refine XS.sipush X15.here hx rfl (hb hby at_45) ?_
    exact kt
  obtain ⟨cl16, Ar16, S16, H16⟩ := id V_b1_15
  obtain ⟨T17, h17, X17, e17, W17, st17⟩ := stI X15 hx hZ e15 Ar16 (j := (7 : Int32)) (inb_of S16 ⟨by decide, by decide⟩) (g := (mkF m 48 #[.val (.int p0), .val (.int p1), .val (.int p2), .unset, .unset] [(.int (216 : Int32)), (.int (7 : Int32)), (.ref b1), (.ref b1)])) rfl rfl (hb hby at_48)
  have V_b1_17 := own_I_set Ar16 S16 H16 W17
  have Z17 : n0 ≤ h17.size := Nat.le_trans Z15 (Keep.of_wr W17).1
  have N17 := Fr.snoc X17 N15 g_b1
  refine own_go (B := T17.setTop (mkF m 49 #[.val (.int p0), .val (.int p1), .val (.int p2), .unset, .unset] [(.ref b1)])) (fun t kt => st17 t kt) ?_
  refine own_go (B := T17.setTop (mkF m 55 #[.val (.int p0), .val (.int p1), .val (.int p2), .unset, .unset] [(.int (246 : Int32)), (.int (8 : Int32)), (.ref b1), (.ref b1)])) (fun t kt => ?_) ?_
  · show Steps p.tables e below (T17.setTop (mkF m 49 #[.val (.int p0), .val (.int p1), .val (.int p2), .unset, .unset] [(.ref b1)])) _
    refine XS.dup X17.here hx rfl (hb hby at_49) rfl rfl ?_
    show Steps p.tables e below (T17.setTop (mkF m 50 #[.val (.int p0), .val (.int p1), .val (.int p2), .unset, .unset] [(.ref b1), (.ref b1)])) _
    refine XS.bipush X17.here hx rfl (hb hby at_50) ?_
    show Steps p.tables e below (T17.setTop (mkF m 52 #[.val (.int p0), .val (.int p1), .val (.int p2), .unset, .unset] [(.int (8 : Int32)), (.ref b1), (.ref b1)])) _
    refine XS.sipush X17.here hx rfl (hb hby at_52) ?_
    exact kt
  obtain ⟨cl18, Ar18, S18, H18⟩ := id V_b1_17
  obtain ⟨T19, h19, X19, e19, W19, st19⟩ := stI X17 hx hZ e17 Ar18 (j := (8 : Int32)) (inb_of S18 ⟨by decide, by decide⟩) (g := (mkF m 55 #[.val (.int p0), .val (.int p1), .val (.int p2), .unset, .unset] [(.int (246 : Int32)), (.int (8 : Int32)), (.ref b1), (.ref b1)])) rfl rfl (hb hby at_55)
  have V_b1_19 := own_I_set Ar18 S18 H18 W19
  have Z19 : n0 ≤ h19.size := Nat.le_trans Z17 (Keep.of_wr W19).1
  have N19 := Fr.snoc X19 N17 g_b1
  refine own_go (B := T19.setTop (mkF m 56 #[.val (.int p0), .val (.int p1), .val (.int p2), .unset, .unset] [(.ref b1)])) (fun t kt => st19 t kt) ?_
  refine own_go (B := T19.setTop (mkF m 62 #[.val (.int p0), .val (.int p1), .val (.int p2), .unset, .unset] [(.int (248 : Int32)), (.int (9 : Int32)), (.ref b1), (.ref b1)])) (fun t kt => ?_) ?_
  · show Steps p.tables e below (T19.setTop (mkF m 56 #[.val (.int p0), .val (.int p1), .val (.int p2), .unset, .unset] [(.ref b1)])) _
    refine XS.dup X19.here hx rfl (hb hby at_56) rfl rfl ?_
    show Steps p.tables e below (T19.setTop (mkF m 57 #[.val (.int p0), .val (.int p1), .val (.int p2), .unset, .unset] [(.ref b1), (.ref b1)])) _
    refine XS.bipush X19.here hx rfl (hb hby at_57) ?_
    show Steps p.tables e below (T19.setTop (mkF m 59 #[.val (.int p0), .val (.int p1), .val (.int p2), .unset, .unset] [(.int (9 : Int32)), (.ref b1), (.ref b1)])) _
    refine XS.sipush X19.here hx rfl (hb hby at_59) ?_
    exact kt
  obtain ⟨cl20, Ar20, S20, H20⟩ := id V_b1_19
  obtain ⟨T21, h21, X21, e21, W21, st21⟩ := stI X19 hx hZ e19 Ar20 (j := (9 : Int32)) (inb_of S20 ⟨by decide, by decide⟩) (g := (mkF m 62 #[.val (.int p0), .val (.int p1), .val (.int p2), .unset, .unset] [(.int (248 : Int32)), (.int (9 : Int32)), (.ref b1), (.ref b1)])) rfl rfl (hb hby at_62)
  have V_b1_21 := own_I_set Ar20 S20 H20 W21
  have Z21 : n0 ≤ h21.size := Nat.le_trans Z19 (Keep.of_wr W21).1
  have N21 := Fr.snoc X21 N19 g_b1
  refine own_go (B := T21.setTop (mkF m 63 #[.val (.int p0), .val (.int p1), .val (.int p2), .unset, .unset] [(.ref b1)])) (fun t kt => st21 t kt) ?_
  refine own_go (B := T21.setTop (mkF m 69 #[.val (.int p0), .val (.int p1), .val (.int p2), .unset, .unset] [(.int (767 : Int32)), (.int (10 : Int32)), (.ref b1), (.ref b1)])) (fun t kt => ?_) ?_
  · show Steps p.tables e below (T21.setTop (mkF m 63 #[.val (.int p0), .val (.int p1), .val (.int p2), .unset, .unset] [(.ref b1)])) _
    refine XS.dup X21.here hx rfl (hb hby at_63) rfl rfl ?_
    show Steps p.tables e below (T21.setTop (mkF m 64 #[.val (.int p0), .val (.int p1), .val (.int p2), .unset, .unset] [(.ref b1), (.ref b1)])) _
    refine XS.bipush X21.here hx rfl (hb hby at_64) ?_
    show Steps p.tables e below (T21.setTop (mkF m 66 #[.val (.int p0), .val (.int p1), .val (.int p2), .unset, .unset] [(.int (10 : Int32)), (.ref b1), (.ref b1)])) _
    refine XS.sipush X21.here hx rfl (hb hby at_66) ?_
    exact kt
  obtain ⟨cl22, Ar22, S22, H22⟩ := id V_b1_21
  obtain ⟨T23, h23, X23, e23, W23, st23⟩ := stI X21 hx hZ e21 Ar22 (j := (10 : Int32)) (inb_of S22 ⟨by decide, by decide⟩) (g := (mkF m 69 #[.val (.int p0), .val (.int p1), .val (.int p2), .unset, .unset] [(.int (767 : Int32)), (.int (10 : Int32)), (.ref b1), (.ref b1)])) rfl rfl (hb hby at_69)
  have V_b1_23 := own_I_set Ar22 S22 H22 W23
  have Z23 : n0 ≤ h23.size := Nat.le_trans Z21 (Keep.of_wr W23).1
  have N23 := Fr.snoc X23 N21 g_b1
  refine own_go (B := T23.setTop (mkF m 70 #[.val (.int p0), .val (.int p1), .val (.int p2), .unset, .unset] [(.ref b1)])) (fun t kt => st23 t kt) ?_
  refine own_go (B := T23.setTop (mkF m 76 #[.val (.int p0), .val (.int p1), .val (.int p2), .unset, .unset] [(.int (880 : Int32)), (.int (11 : Int32)), (.ref b1), (.ref b1)])) (fun t kt => ?_) ?_
  · show Steps p.tables e below (T23.setTop (mkF m 70 #[.val (.int p0), .val (.int p1), .val (.int p2), .unset, .unset] [(.ref b1)])) _
    refine XS.dup X23.here hx rfl (hb hby at_70) rfl rfl ?_
    show Steps p.tables e below (T23.setTop (mkF m 71 #[.val (.int p0), .val (.int p1), .val (.int p2), .unset, .unset] [(.ref b1), (.ref b1)])) _
    refine XS.bipush X23.here hx rfl (hb hby at_71) ?_
    show Steps p.tables e below (T23.setTop (mkF m 73 #[.val (.int p0), .val (.int p1), .val (.int p2), .unset, .unset] [(.int (11 : Int32)), (.ref b1), (.ref b1)])) _
    refine XS.sipush X23.here hx rfl (hb hby at_73) ?_
    exact kt
  obtain ⟨cl24, Ar24, S24, H24⟩ := id V_b1_23
  obtain ⟨T25, h25, X25, e25, W25, st25⟩ := stI X23 hx hZ e23 Ar24 (j := (11 : Int32)) (inb_of S24 ⟨by decide, by decide⟩) (g := (mkF m 76 #[.val (.int p0), .val (.int p1), .val (.int p2), .unset, .unset] [(.int (880 : Int32)), (.int (11 : Int32)), (.ref b1), (.ref b1)])) rfl rfl (hb hby at_76)
  have V_b1_25 := own_I_set Ar24 S24 H24 W25
  have Z25 : n0 ≤ h25.size := Nat.le_trans Z23 (Keep.of_wr W25).1
  have N25 := Fr.snoc X25 N23 g_b1
  refine own_go (B := T25.setTop (mkF m 77 #[.val (.int p0), .val (.int p1), .val (.int p2), .unset, .unset] [(.ref b1)])) (fun t kt => st25 t kt) ?_
  refine own_go (B := T25.setTop (mkF m 83 #[.val (.int p0), .val (.int p1), .val (.int p2), .unset, .unset] [(.int (893 : Int32)), (.int (12 : Int32)), (.ref b1), (.ref b1)])) (fun t kt => ?_) ?_
  · show Steps p.tables e below (T25.setTop (mkF m 77 #[.val (.int p0), .val (.int p1), .val (.int p2), .unset, .unset] [(.ref b1)])) _
    refine XS.dup X25.here hx rfl (hb hby at_77) rfl rfl ?_
    show Steps p.tables e below (T25.setTop (mkF m 78 #[.val (.int p0), .val (.int p1), .val (.int p2), .unset, .unset] [(.ref b1), (.ref b1)])) _
    refine XS.bipush X25.here hx rfl (hb hby at_78) ?_
    show Steps p.tables e below (T25.setTop (mkF m 80 #[.val (.int p0), .val (.int p1), .val (.int p2), .unset, .unset] [(.int (12 : Int32)), (.ref b1), (.ref b1)])) _
    refine XS.sipush X25.here hx rfl (hb hby at_80) ?_
    exact kt
  obtain ⟨cl26, Ar26, S26, H26⟩ := id V_b1_25
  obtain ⟨T27, h27, X27, e27, W27, st27⟩ := stI X25 hx hZ e25 Ar26 (j := (12 : Int32)) (inb_of S26 ⟨by decide, by decide⟩) (g := (mkF m 83 #[.val (.int p0), .val (.int p1), .val (.int p2), .unset, .unset] [(.int (893 : Int32)), (.int (12 : Int32)), (.ref b1), (.ref b1)])) rfl rfl (hb hby at_83)
  have V_b1_27 := own_I_set Ar26 S26 H26 W27
  have Z27 : n0 ≤ h27.size := Nat.le_trans Z25 (Keep.of_wr W27).1
  have N27 := Fr.snoc X27 N25 g_b1
  refine own_go (B := T27.setTop (mkF m 84 #[.val (.int p0), .val (.int p1), .val (.int p2), .unset, .unset] [(.ref b1)])) (fun t kt => st27 t kt) ?_
  refine own_go (B := T27.setTop (mkF m 90 #[.val (.int p0), .val (.int p1), .val (.int p2), .unset, .unset] [(.int (895 : Int32)), (.int (13 : Int32)), (.ref b1), (.ref b1)])) (fun t kt => ?_) ?_
  · show Steps p.tables e below (T27.setTop (mkF m 84 #[.val (.int p0), .val (.int p1), .val (.int p2), .unset, .unset] [(.ref b1)])) _
    refine XS.dup X27.here hx rfl (hb hby at_84) rfl rfl ?_
    show Steps p.tables e below (T27.setTop (mkF m 85 #[.val (.int p0), .val (.int p1), .val (.int p2), .unset, .unset] [(.ref b1), (.ref b1)])) _
    refine XS.bipush X27.here hx rfl (hb hby at_85) ?_
    show Steps p.tables e below (T27.setTop (mkF m 87 #[.val (.int p0), .val (.int p1), .val (.int p2), .unset, .unset] [(.int (13 : Int32)), (.ref b1), (.ref b1)])) _
    refine XS.sipush X27.here hx rfl (hb hby at_87) ?_
    exact kt
  obtain ⟨cl28, Ar28, S28, H28⟩ := id V_b1_27
  obtain ⟨T29, h29, X29, e29, W29, st29⟩ := stI X27 hx hZ e27 Ar28 (j := (13 : Int32)) (inb_of S28 ⟨by decide, by decide⟩) (g := (mkF m 90 #[.val (.int p0), .val (.int p1), .val (.int p2), .unset, .unset] [(.int (895 : Int32)), (.int (13 : Int32)), (.ref b1), (.ref b1)])) rfl rfl (hb hby at_90)
  have V_b1_29 := own_I_set Ar28 S28 H28 W29
  have Z29 : n0 ≤ h29.size := Nat.le_trans Z27 (Keep.of_wr W29).1
  have N29 := Fr.snoc X29 N27 g_b1
  refine own_go (B := T29.setTop (mkF m 91 #[.val (.int p0), .val (.int p1), .val (.int p2), .unset, .unset] [(.ref b1)])) (fun t kt => st29 t kt) ?_
  refine own_go (B := T29.setTop (mkF m 97 #[.val (.int p0), .val (.int p1), .val (.int p2), .unset, .unset] [(.int (8191 : Int32)), (.int (14 : Int32)), (.ref b1), (.ref b1)])) (fun t kt => ?_) ?_
  · show Steps p.tables e below (T29.setTop (mkF m 91 #[.val (.int p0), .val (.int p1), .val (.int p2), .unset, .unset] [(.ref b1)])) _
    refine XS.dup X29.here hx rfl (hb hby at_91) rfl rfl ?_
    show Steps p.tables e below (T29.setTop (mkF m 92 #[.val (.int p0), .val (.int p1), .val (.int p2), .unset, .unset] [(.ref b1), (.ref b1)])) _
    refine XS.bipush X29.here hx rfl (hb hby at_92) ?_
    show Steps p.tables e below (T29.setTop (mkF m 94 #[.val (.int p0), .val (.int p1), .val (.int p2), .unset, .unset] [(.int (14 : Int32)), (.ref b1), (.ref b1)])) _
    refine XS.sipush X29.here hx rfl (hb hby at_94) ?_
    exact kt
  obtain ⟨cl30, Ar30, S30, H30⟩ := id V_b1_29
  obtain ⟨T31, h31, X31, e31, W31, st31⟩ := stI X29 hx hZ e29 Ar30 (j := (14 : Int32)) (inb_of S30 ⟨by decide, by decide⟩) (g := (mkF m 97 #[.val (.int p0), .val (.int p1), .val (.int p2), .unset, .unset] [(.int (8191 : Int32)), (.int (14 : Int32)), (.ref b1), (.ref b1)])) rfl rfl (hb hby at_97)
  have V_b1_31 := own_I_set Ar30 S30 H30 W31
  have Z31 : n0 ≤ h31.size := Nat.le_trans Z29 (Keep.of_wr W31).1
  have N31 := Fr.snoc X31 N29 g_b1
  refine own_go (B := T31.setTop (mkF m 98 #[.val (.int p0), .val (.int p1), .val (.int p2), .unset, .unset] [(.ref b1)])) (fun t kt => st31 t kt) ?_
  refine own_go (B := T31.setTop (mkF m 104 #[.val (.int p0), .val (.int p1), .val (.int p2), .unset, .unset] [(.int (8204 : Int32)), (.int (15 : Int32)), (.ref b1), (.ref b1)])) (fun t kt => ?_) ?_
  · show Steps p.tables e below (T31.setTop (mkF m 98 #[.val (.int p0), .val (.int p1), .val (.int p2), .unset, .unset] [(.ref b1)])) _
    refine XS.dup X31.here hx rfl (hb hby at_98) rfl rfl ?_
    show Steps p.tables e below (T31.setTop (mkF m 99 #[.val (.int p0), .val (.int p1), .val (.int p2), .unset, .unset] [(.ref b1), (.ref b1)])) _
    refine XS.bipush X31.here hx rfl (hb hby at_99) ?_
    show Steps p.tables e below (T31.setTop (mkF m 101 #[.val (.int p0), .val (.int p1), .val (.int p2), .unset, .unset] [(.int (15 : Int32)), (.ref b1), (.ref b1)])) _
    refine XS.sipush X31.here hx rfl (hb hby at_101) ?_
    exact kt
  obtain ⟨cl32, Ar32, S32, H32⟩ := id V_b1_31
  obtain ⟨T33, h33, X33, e33, W33, st33⟩ := stI X31 hx hZ e31 Ar32 (j := (15 : Int32)) (inb_of S32 ⟨by decide, by decide⟩) (g := (mkF m 104 #[.val (.int p0), .val (.int p1), .val (.int p2), .unset, .unset] [(.int (8204 : Int32)), (.int (15 : Int32)), (.ref b1), (.ref b1)])) rfl rfl (hb hby at_104)
  have V_b1_33 := own_I_set Ar32 S32 H32 W33
  have Z33 : n0 ≤ h33.size := Nat.le_trans Z31 (Keep.of_wr W33).1
  have N33 := Fr.snoc X33 N31 g_b1
  refine own_go (B := T33.setTop (mkF m 105 #[.val (.int p0), .val (.int p1), .val (.int p2), .unset, .unset] [(.ref b1)])) (fun t kt => st33 t kt) ?_
  refine own_go (B := T33.setTop (mkF m 111 #[.val (.int p0), .val (.int p1), .val (.int p2), .unset, .unset] [(.int (8205 : Int32)), (.int (16 : Int32)), (.ref b1), (.ref b1)])) (fun t kt => ?_) ?_
  · show Steps p.tables e below (T33.setTop (mkF m 105 #[.val (.int p0), .val (.int p1), .val (.int p2), .unset, .unset] [(.ref b1)])) _
    refine XS.dup X33.here hx rfl (hb hby at_105) rfl rfl ?_
    show Steps p.tables e below (T33.setTop (mkF m 106 #[.val (.int p0), .val (.int p1), .val (.int p2), .unset, .unset] [(.ref b1), (.ref b1)])) _
    refine XS.bipush X33.here hx rfl (hb hby at_106) ?_
    show Steps p.tables e below (T33.setTop (mkF m 108 #[.val (.int p0), .val (.int p1), .val (.int p2), .unset, .unset] [(.int (16 : Int32)), (.ref b1), (.ref b1)])) _
    refine XS.sipush X33.here hx rfl (hb hby at_108) ?_
    exact kt
  obtain ⟨cl34, Ar34, S34, H34⟩ := id V_b1_33
  obtain ⟨T35, h35, X35, e35, W35, st35⟩ := stI X33 hx hZ e33 Ar34 (j := (16 : Int32)) (inb_of S34 ⟨by decide, by decide⟩) (g := (mkF m 111 #[.val (.int p0), .val (.int p1), .val (.int p2), .unset, .unset] [(.int (8205 : Int32)), (.int (16 : Int32)), (.ref b1), (.ref b1)])) rfl rfl (hb hby at_111)
  have V_b1_35 := own_I_set Ar34 S34 H34 W35
  have Z35 : n0 ≤ h35.size := Nat.le_trans Z33 (Keep.of_wr W35).1
  have N35 := Fr.snoc X35 N33 g_b1
  refine own_go (B := T35.setTop (mkF m 112 #[.val (.int p0), .val (.int p1), .val (.int p2), .unset, .unset] [(.ref b1)])) (fun t kt => st35 t kt) ?_
  refine own_go (B := T35.setTop (mkF m 118 #[.val (.int p0), .val (.int p1), .val (.int p2), .unset, .unset] [(.int (8304 : Int32)), (.int (17 : Int32)), (.ref b1), (.ref b1)])) (fun t kt => ?_) ?_
  · show Steps p.tables e below (T35.setTop (mkF m 112 #[.val (.int p0), .val (.int p1), .val (.int p2), .unset, .unset] [(.ref b1)])) _
    refine XS.dup X35.here hx rfl (hb hby at_112) rfl rfl ?_
    show Steps p.tables e below (T35.setTop (mkF m 113 #[.val (.int p0), .val (.int p1), .val (.int p2), .unset, .unset] [(.ref b1), (.ref b1)])) _
    refine XS.bipush X35.here hx rfl (hb hby at_113) ?_
    show Steps p.tables e below (T35.setTop (mkF m 115 #[.val (.int p0), .val (.int p1), .val (.int p2), .unset, .unset] [(.int (17 : Int32)), (.ref b1), (.ref b1)])) _
    refine XS.sipush X35.here hx rfl (hb hby at_115) ?_
    exact kt
  obtain ⟨cl36, Ar36, S36, H36⟩ := id V_b1_35
  obtain ⟨T37, h37, X37, e37, W37, st37⟩ := stI X35 hx hZ e35 Ar36 (j := (17 : Int32)) (inb_of S36 ⟨by decide, by decide⟩) (g := (mkF m 118 #[.val (.int p0), .val (.int p1), .val (.int p2), .unset, .unset] [(.int (8304 : Int32)), (.int (17 : Int32)), (.ref b1), (.ref b1)])) rfl rfl (hb hby at_118)
  have V_b1_37 := own_I_set Ar36 S36 H36 W37
  have Z37 : n0 ≤ h37.size := Nat.le_trans Z35 (Keep.of_wr W37).1
  have N37 := Fr.snoc X37 N35 g_b1
  refine own_go (B := T37.setTop (mkF m 119 #[.val (.int p0), .val (.int p1), .val (.int p2), .unset, .unset] [(.ref b1)])) (fun t kt => st37 t kt) ?_
  refine own_go (B := T37.setTop (mkF m 125 #[.val (.int p0), .val (.int p1), .val (.int p2), .unset, .unset] [(.int (8591 : Int32)), (.int (18 : Int32)), (.ref b1), (.ref b1)])) (fun t kt => ?_) ?_
  · show Steps p.tables e below (T37.setTop (mkF m 119 #[.val (.int p0), .val (.int p1), .val (.int p2), .unset, .unset] [(.ref b1)])) _
    refine XS.dup X37.here hx rfl (hb hby at_119) rfl rfl ?_
    show Steps p.tables e below (T37.setTop (mkF m 120 #[.val (.int p0), .val (.int p1), .val (.int p2), .unset, .unset] [(.ref b1), (.ref b1)])) _
    refine XS.bipush X37.here hx rfl (hb hby at_120) ?_
    show Steps p.tables e below (T37.setTop (mkF m 122 #[.val (.int p0), .val (.int p1), .val (.int p2), .unset, .unset] [(.int (18 : Int32)), (.ref b1), (.ref b1)])) _
    refine XS.sipush X37.here hx rfl (hb hby at_122) ?_
    exact kt
  obtain ⟨cl38, Ar38, S38, H38⟩ := id V_b1_37
  obtain ⟨T39, h39, X39, e39, W39, st39⟩ := stI X37 hx hZ e37 Ar38 (j := (18 : Int32)) (inb_of S38 ⟨by decide, by decide⟩) (g := (mkF m 125 #[.val (.int p0), .val (.int p1), .val (.int p2), .unset, .unset] [(.int (8591 : Int32)), (.int (18 : Int32)), (.ref b1), (.ref b1)])) rfl rfl (hb hby at_125)
  have V_b1_39 := own_I_set Ar38 S38 H38 W39
  have Z39 : n0 ≤ h39.size := Nat.le_trans Z37 (Keep.of_wr W39).1
  have N39 := Fr.snoc X39 N37 g_b1
  refine own_go (B := T39.setTop (mkF m 126 #[.val (.int p0), .val (.int p1), .val (.int p2), .unset, .unset] [(.ref b1)])) (fun t kt => st39 t kt) ?_
  refine own_go (B := T39.setTop (mkF m 132 #[.val (.int p0), .val (.int p1), .val (.int p2), .unset, .unset] [(.int (11264 : Int32)), (.int (19 : Int32)), (.ref b1), (.ref b1)])) (fun t kt => ?_) ?_
  · show Steps p.tables e below (T39.setTop (mkF m 126 #[.val (.int p0), .val (.int p1), .val (.int p2), .unset, .unset] [(.ref b1)])) _
    refine XS.dup X39.here hx rfl (hb hby at_126) rfl rfl ?_
    show Steps p.tables e below (T39.setTop (mkF m 127 #[.val (.int p0), .val (.int p1), .val (.int p2), .unset, .unset] [(.ref b1), (.ref b1)])) _
    refine XS.bipush X39.here hx rfl (hb hby at_127) ?_
    show Steps p.tables e below (T39.setTop (mkF m 129 #[.val (.int p0), .val (.int p1), .val (.int p2), .unset, .unset] [(.int (19 : Int32)), (.ref b1), (.ref b1)])) _
    refine XS.sipush X39.here hx rfl (hb hby at_129) ?_
    exact kt
  obtain ⟨cl40, Ar40, S40, H40⟩ := id V_b1_39
  obtain ⟨T41, h41, X41, e41, W41, st41⟩ := stI X39 hx hZ e39 Ar40 (j := (19 : Int32)) (inb_of S40 ⟨by decide, by decide⟩) (g := (mkF m 132 #[.val (.int p0), .val (.int p1), .val (.int p2), .unset, .unset] [(.int (11264 : Int32)), (.int (19 : Int32)), (.ref b1), (.ref b1)])) rfl rfl (hb hby at_132)
  have V_b1_41 := own_I_set Ar40 S40 H40 W41
  have Z41 : n0 ≤ h41.size := Nat.le_trans Z39 (Keep.of_wr W41).1
  have N41 := Fr.snoc X41 N39 g_b1
  refine own_go (B := T41.setTop (mkF m 133 #[.val (.int p0), .val (.int p1), .val (.int p2), .unset, .unset] [(.ref b1)])) (fun t kt => st41 t kt) ?_
  refine own_go (B := T41.setTop (mkF m 139 #[.val (.int p0), .val (.int p1), .val (.int p2), .unset, .unset] [(.int (12271 : Int32)), (.int (20 : Int32)), (.ref b1), (.ref b1)])) (fun t kt => ?_) ?_
  · show Steps p.tables e below (T41.setTop (mkF m 133 #[.val (.int p0), .val (.int p1), .val (.int p2), .unset, .unset] [(.ref b1)])) _
    refine XS.dup X41.here hx rfl (hb hby at_133) rfl rfl ?_
    show Steps p.tables e below (T41.setTop (mkF m 134 #[.val (.int p0), .val (.int p1), .val (.int p2), .unset, .unset] [(.ref b1), (.ref b1)])) _
    refine XS.bipush X41.here hx rfl (hb hby at_134) ?_
    show Steps p.tables e below (T41.setTop (mkF m 136 #[.val (.int p0), .val (.int p1), .val (.int p2), .unset, .unset] [(.int (20 : Int32)), (.ref b1), (.ref b1)])) _
    refine XS.sipush X41.here hx rfl (hb hby at_136) ?_
    exact kt
  obtain ⟨cl42, Ar42, S42, H42⟩ := id V_b1_41
  obtain ⟨T43, h43, X43, e43, W43, st43⟩ := stI X41 hx hZ e41 Ar42 (j := (20 : Int32)) (inb_of S42 ⟨by decide, by decide⟩) (g := (mkF m 139 #[.val (.int p0), .val (.int p1), .val (.int p2), .unset, .unset] [(.int (12271 : Int32)), (.int (20 : Int32)), (.ref b1), (.ref b1)])) rfl rfl (hb hby at_139)
  have V_b1_43 := own_I_set Ar42 S42 H42 W43
  have Z43 : n0 ≤ h43.size := Nat.le_trans Z41 (Keep.of_wr W43).1
  have N43 := Fr.snoc X43 N41 g_b1
  refine own_go (B := T43.setTop (mkF m 140 #[.val (.int p0), .val (.int p1), .val (.int p2), .unset, .unset] [(.ref b1)])) (fun t kt => st43 t kt) ?_
  refine own_go (B := T43.setTop (mkF m 146 #[.val (.int p0), .val (.int p1), .val (.int p2), .unset, .unset] [(.int (12289 : Int32)), (.int (21 : Int32)), (.ref b1), (.ref b1)])) (fun t kt => ?_) ?_
  · show Steps p.tables e below (T43.setTop (mkF m 140 #[.val (.int p0), .val (.int p1), .val (.int p2), .unset, .unset] [(.ref b1)])) _
    refine XS.dup X43.here hx rfl (hb hby at_140) rfl rfl ?_
    show Steps p.tables e below (T43.setTop (mkF m 141 #[.val (.int p0), .val (.int p1), .val (.int p2), .unset, .unset] [(.ref b1), (.ref b1)])) _
    refine XS.bipush X43.here hx rfl (hb hby at_141) ?_
    show Steps p.tables e below (T43.setTop (mkF m 143 #[.val (.int p0), .val (.int p1), .val (.int p2), .unset, .unset] [(.int (21 : Int32)), (.ref b1), (.ref b1)])) _
    refine XS.sipush X43.here hx rfl (hb hby at_143) ?_
    exact kt
  obtain ⟨cl44, Ar44, S44, H44⟩ := id V_b1_43
  obtain ⟨T45, h45, X45, e45, W45, st45⟩ := stI X43 hx hZ e43 Ar44 (j := (21 : Int32)) (inb_of S44 ⟨by decide, by decide⟩) (g := (mkF m 146 #[.val (.int p0), .val (.int p1), .val (.int p2), .unset, .unset] [(.int (12289 : Int32)), (.int (21 : Int32)), (.ref b1), (.ref b1)])) rfl rfl (hb hby at_146)
  have V_b1_45 := own_I_set Ar44 S44 H44 W45
  have Z45 : n0 ≤ h45.size := Nat.le_trans Z43 (Keep.of_wr W45).1
  have N45 := Fr.snoc X45 N43 g_b1
  refine own_go (B := T45.setTop (mkF m 147 #[.val (.int p0), .val (.int p1), .val (.int p2), .unset, .unset] [(.ref b1)])) (fun t kt => st45 t kt) ?_
  refine own_go (B := T45.setTop (mkF m 152 #[.val (.int p0), .val (.int p1), .val (.int p2), .unset, .unset] [(.int (55295 : Int32)), (.int (22 : Int32)), (.ref b1), (.ref b1)])) (fun t kt => ?_) ?_
  · show Steps p.tables e below (T45.setTop (mkF m 147 #[.val (.int p0), .val (.int p1), .val (.int p2), .unset, .unset] [(.ref b1)])) _
    refine XS.dup X45.here hx rfl (hb hby at_147) rfl rfl ?_
    show Steps p.tables e below (T45.setTop (mkF m 148 #[.val (.int p0), .val (.int p1), .val (.int p2), .unset, .unset] [(.ref b1), (.ref b1)])) _
    refine XS.bipush X45.here hx rfl (hb hby at_148) ?_
    show Steps p.tables e below (T45.setTop (mkF m 150 #[.val (.int p0), .val (.int p1), .val (.int p2), .unset, .unset] [(.int (22 : Int32)), (.ref b1), (.ref b1)])) _
    refine X45.ldcInt hx hown (mvT hZ (hw _ (List.mem_of_getElem? (i := 1) rfl))) (g := (mkF m 150 #[.val (.int p0), .val (.int p1), .val (.int p2), .unset, .unset] [(.int (22 : Int32)), (.ref b1), (.ref b1)])) rfl (hb hby at_150) _ ?_
    exact kt
  obtain ⟨cl46, Ar46, S46, H46⟩ := id V_b1_45
  obtain ⟨T47, h47, X47, e47, W47, st47⟩ := stI X45 hx hZ e45 Ar46 (j := (22 : Int32)) (inb_of S46 ⟨by decide, by decide⟩) (g := (mkF m 152 #[.val (.int p0), .val (.int p1), .val (.int p2), .unset, .unset] [(.int (55295 : Int32)), (.int (22 : Int32)), (.ref b1), (.ref b1)])) rfl rfl (hb hby at_152)
  have V_b1_47 := own_I_set Ar46 S46 H46 W47
  have Z47 : n0 ≤ h47.size := Nat.le_trans Z45 (Keep.of_wr W47).1
  have N47 := Fr.snoc X47 N45 g_b1
  refine own_go (B := T47.setTop (mkF m 153 #[.val (.int p0), .val (.int p1), .val (.int p2), .unset, .unset] [(.ref b1)])) (fun t kt => st47 t kt) ?_
  refine own_go (B := T47.setTop (mkF m 158 #[.val (.int p0), .val (.int p1), .val (.int p2), .unset, .unset] [(.int (63744 : Int32)), (.int (23 : Int32)), (.ref b1), (.ref b1)])) (fun t kt => ?_) ?_
  · show Steps p.tables e below (T47.setTop (mkF m 153 #[.val (.int p0), .val (.int p1), .val (.int p2), .unset, .unset] [(.ref b1)])) _
    refine XS.dup X47.here hx rfl (hb hby at_153) rfl rfl ?_
    show Steps p.tables e below (T47.setTop (mkF m 154 #[.val (.int p0), .val (.int p1), .val (.int p2), .unset, .unset] [(.ref b1), (.ref b1)])) _
    refine XS.bipush X47.here hx rfl (hb hby at_154) ?_
    show Steps p.tables e below (T47.setTop (mkF m 156 #[.val (.int p0), .val (.int p1), .val (.int p2), .unset, .unset] [(.int (23 : Int32)), (.ref b1), (.ref b1)])) _
    refine X47.ldcInt hx hown (mvT hZ (hw _ (List.mem_of_getElem? (i := 2) rfl))) (g := (mkF m 156 #[.val (.int p0), .val (.int p1), .val (.int p2), .unset, .unset] [(.int (23 : Int32)), (.ref b1), (.ref b1)])) rfl (hb hby at_156) _ ?_
    exact kt
  obtain ⟨cl48, Ar48, S48, H48⟩ := id V_b1_47
  obtain ⟨T49, h49, X49, e49, W49, st49⟩ := stI X47 hx hZ e47 Ar48 (j := (23 : Int32)) (inb_of S48 ⟨by decide, by decide⟩) (g := (mkF m 158 #[.val (.int p0), .val (.int p1), .val (.int p2), .unset, .unset] [(.int (63744 : Int32)), (.int (23 : Int32)), (.ref b1), (.ref b1)])) rfl rfl (hb hby at_158)
  have V_b1_49 := own_I_set Ar48 S48 H48 W49
  have Z49 : n0 ≤ h49.size := Nat.le_trans Z47 (Keep.of_wr W49).1
  have N49 := Fr.snoc X49 N47 g_b1
  refine own_go (B := T49.setTop (mkF m 159 #[.val (.int p0), .val (.int p1), .val (.int p2), .unset, .unset] [(.ref b1)])) (fun t kt => st49 t kt) ?_
  refine own_go (B := T49.setTop (mkF m 164 #[.val (.int p0), .val (.int p1), .val (.int p2), .unset, .unset] [(.int (64975 : Int32)), (.int (24 : Int32)), (.ref b1), (.ref b1)])) (fun t kt => ?_) ?_
  · show Steps p.tables e below (T49.setTop (mkF m 159 #[.val (.int p0), .val (.int p1), .val (.int p2), .unset, .unset] [(.ref b1)])) _
    refine XS.dup X49.here hx rfl (hb hby at_159) rfl rfl ?_
    show Steps p.tables e below (T49.setTop (mkF m 160 #[.val (.int p0), .val (.int p1), .val (.int p2), .unset, .unset] [(.ref b1), (.ref b1)])) _
    refine XS.bipush X49.here hx rfl (hb hby at_160) ?_
    show Steps p.tables e below (T49.setTop (mkF m 162 #[.val (.int p0), .val (.int p1), .val (.int p2), .unset, .unset] [(.int (24 : Int32)), (.ref b1), (.ref b1)])) _
    refine X49.ldcInt hx hown (mvT hZ (hw _ (List.mem_of_getElem? (i := 3) rfl))) (g := (mkF m 162 #[.val (.int p0), .val (.int p1), .val (.int p2), .unset, .unset] [(.int (24 : Int32)), (.ref b1), (.ref b1)])) rfl (hb hby at_162) _ ?_
    exact kt
  obtain ⟨cl50, Ar50, S50, H50⟩ := id V_b1_49
  obtain ⟨T51, h51, X51, e51, W51, st51⟩ := stI X49 hx hZ e49 Ar50 (j := (24 : Int32)) (inb_of S50 ⟨by decide, by decide⟩) (g := (mkF m 164 #[.val (.int p0), .val (.int p1), .val (.int p2), .unset, .unset] [(.int (64975 : Int32)), (.int (24 : Int32)), (.ref b1), (.ref b1)])) rfl rfl (hb hby at_164)
  have V_b1_51 := own_I_set Ar50 S50 H50 W51
  have Z51 : n0 ≤ h51.size := Nat.le_trans Z49 (Keep.of_wr W51).1
  have N51 := Fr.snoc X51 N49 g_b1
  refine own_go (B := T51.setTop (mkF m 165 #[.val (.int p0), .val (.int p1), .val (.int p2), .unset, .unset] [(.ref b1)])) (fun t kt => st51 t kt) ?_
  refine own_go (B := T51.setTop (mkF m 170 #[.val (.int p0), .val (.int p1), .val (.int p2), .unset, .unset] [(.int (65008 : Int32)), (.int (25 : Int32)), (.ref b1), (.ref b1)])) (fun t kt => ?_) ?_
  · show Steps p.tables e below (T51.setTop (mkF m 165 #[.val (.int p0), .val (.int p1), .val (.int p2), .unset, .unset] [(.ref b1)])) _
    refine XS.dup X51.here hx rfl (hb hby at_165) rfl rfl ?_
    show Steps p.tables e below (T51.setTop (mkF m 166 #[.val (.int p0), .val (.int p1), .val (.int p2), .unset, .unset] [(.ref b1), (.ref b1)])) _
    refine XS.bipush X51.here hx rfl (hb hby at_166) ?_
    show Steps p.tables e below (T51.setTop (mkF m 168 #[.val (.int p0), .val (.int p1), .val (.int p2), .unset, .unset] [(.int (25 : Int32)), (.ref b1), (.ref b1)])) _
    refine X51.ldcInt hx hown (mvT hZ (hw _ (List.mem_of_getElem? (i := 4) rfl))) (g := (mkF m 168 #[.val (.int p0), .val (.int p1), .val (.int p2), .unset, .unset] [(.int (25 : Int32)), (.ref b1), (.ref b1)])) rfl (hb hby at_168) _ ?_
    exact kt
  obtain ⟨cl52, Ar52, S52, H52⟩ := id V_b1_51
  obtain ⟨T53, h53, X53, e53, W53, st53⟩ := stI X51 hx hZ e51 Ar52 (j := (25 : Int32)) (inb_of S52 ⟨by decide, by decide⟩) (g := (mkF m 170 #[.val (.int p0), .val (.int p1), .val (.int p2), .unset, .unset] [(.int (65008 : Int32)), (.int (25 : Int32)), (.ref b1), (.ref b1)])) rfl rfl (hb hby at_170)
  have V_b1_53 := own_I_set Ar52 S52 H52 W53
  have Z53 : n0 ≤ h53.size := Nat.le_trans Z51 (Keep.of_wr W53).1
  have N53 := Fr.snoc X53 N51 g_b1
  refine own_go (B := T53.setTop (mkF m 171 #[.val (.int p0), .val (.int p1), .val (.int p2), .unset, .unset] [(.ref b1)])) (fun t kt => st53 t kt) ?_
  refine own_go (B := T53.setTop (mkF m 176 #[.val (.int p0), .val (.int p1), .val (.int p2), .unset, .unset] [(.int (65533 : Int32)), (.int (26 : Int32)), (.ref b1), (.ref b1)])) (fun t kt => ?_) ?_
  · show Steps p.tables e below (T53.setTop (mkF m 171 #[.val (.int p0), .val (.int p1), .val (.int p2), .unset, .unset] [(.ref b1)])) _
    refine XS.dup X53.here hx rfl (hb hby at_171) rfl rfl ?_
    show Steps p.tables e below (T53.setTop (mkF m 172 #[.val (.int p0), .val (.int p1), .val (.int p2), .unset, .unset] [(.ref b1), (.ref b1)])) _
    refine XS.bipush X53.here hx rfl (hb hby at_172) ?_
    show Steps p.tables e below (T53.setTop (mkF m 174 #[.val (.int p0), .val (.int p1), .val (.int p2), .unset, .unset] [(.int (26 : Int32)), (.ref b1), (.ref b1)])) _
    refine X53.ldcInt hx hown (mvT hZ (hw _ (List.mem_of_getElem? (i := 5) rfl))) (g := (mkF m 174 #[.val (.int p0), .val (.int p1), .val (.int p2), .unset, .unset] [(.int (26 : Int32)), (.ref b1), (.ref b1)])) rfl (hb hby at_174) _ ?_
    exact kt
  obtain ⟨cl54, Ar54, S54, H54⟩ := id V_b1_53
  obtain ⟨T55, h55, X55, e55, W55, st55⟩ := stI X53 hx hZ e53 Ar54 (j := (26 : Int32)) (inb_of S54 ⟨by decide, by decide⟩) (g := (mkF m 176 #[.val (.int p0), .val (.int p1), .val (.int p2), .unset, .unset] [(.int (65533 : Int32)), (.int (26 : Int32)), (.ref b1), (.ref b1)])) rfl rfl (hb hby at_176)
  have V_b1_55 := own_I_set Ar54 S54 H54 W55
  have Z55 : n0 ≤ h55.size := Nat.le_trans Z53 (Keep.of_wr W55).1
  have N55 := Fr.snoc X55 N53 g_b1
  refine own_go (B := T55.setTop (mkF m 177 #[.val (.int p0), .val (.int p1), .val (.int p2), .unset, .unset] [(.ref b1)])) (fun t kt => st55 t kt) ?_
  refine own_go (B := T55.setTop (mkF m 182 #[.val (.int p0), .val (.int p1), .val (.int p2), .unset, .unset] [(.int (65536 : Int32)), (.int (27 : Int32)), (.ref b1), (.ref b1)])) (fun t kt => ?_) ?_
  · show Steps p.tables e below (T55.setTop (mkF m 177 #[.val (.int p0), .val (.int p1), .val (.int p2), .unset, .unset] [(.ref b1)])) _
    refine XS.dup X55.here hx rfl (hb hby at_177) rfl rfl ?_
    show Steps p.tables e below (T55.setTop (mkF m 178 #[.val (.int p0), .val (.int p1), .val (.int p2), .unset, .unset] [(.ref b1), (.ref b1)])) _
    refine XS.bipush X55.here hx rfl (hb hby at_178) ?_
    show Steps p.tables e below (T55.setTop (mkF m 180 #[.val (.int p0), .val (.int p1), .val (.int p2), .unset, .unset] [(.int (27 : Int32)), (.ref b1), (.ref b1)])) _
    refine X55.ldcInt hx hown (mvT hZ (hw _ (List.mem_of_getElem? (i := 6) rfl))) (g := (mkF m 180 #[.val (.int p0), .val (.int p1), .val (.int p2), .unset, .unset] [(.int (27 : Int32)), (.ref b1), (.ref b1)])) rfl (hb hby at_180) _ ?_
    exact kt
  obtain ⟨cl56, Ar56, S56, H56⟩ := id V_b1_55
  obtain ⟨T57, h57, X57, e57, W57, st57⟩ := stI X55 hx hZ e55 Ar56 (j := (27 : Int32)) (inb_of S56 ⟨by decide, by decide⟩) (g := (mkF m 182 #[.val (.int p0), .val (.int p1), .val (.int p2), .unset, .unset] [(.int (65536 : Int32)), (.int (27 : Int32)), (.ref b1), (.ref b1)])) rfl rfl (hb hby at_182)
  have V_b1_57 := own_I_set Ar56 S56 H56 W57
  have Z57 : n0 ≤ h57.size := Nat.le_trans Z55 (Keep.of_wr W57).1
  have N57 := Fr.snoc X57 N55 g_b1
  refine own_go (B := T57.setTop (mkF m 183 #[.val (.int p0), .val (.int p1), .val (.int p2), .unset, .unset] [(.ref b1)])) (fun t kt => st57 t kt) ?_
  refine own_go (B := T57.setTop (mkF m 188 #[.val (.int p0), .val (.int p1), .val (.int p2), .unset, .unset] [(.int (983039 : Int32)), (.int (28 : Int32)), (.ref b1), (.ref b1)])) (fun t kt => ?_) ?_
  · show Steps p.tables e below (T57.setTop (mkF m 183 #[.val (.int p0), .val (.int p1), .val (.int p2), .unset, .unset] [(.ref b1)])) _
    refine XS.dup X57.here hx rfl (hb hby at_183) rfl rfl ?_
    show Steps p.tables e below (T57.setTop (mkF m 184 #[.val (.int p0), .val (.int p1), .val (.int p2), .unset, .unset] [(.ref b1), (.ref b1)])) _
    refine XS.bipush X57.here hx rfl (hb hby at_184) ?_
    show Steps p.tables e below (T57.setTop (mkF m 186 #[.val (.int p0), .val (.int p1), .val (.int p2), .unset, .unset] [(.int (28 : Int32)), (.ref b1), (.ref b1)])) _
    refine X57.ldcInt hx hown (mvT hZ (hw _ (List.mem_of_getElem? (i := 7) rfl))) (g := (mkF m 186 #[.val (.int p0), .val (.int p1), .val (.int p2), .unset, .unset] [(.int (28 : Int32)), (.ref b1), (.ref b1)])) rfl (hb hby at_186) _ ?_
    exact kt
  obtain ⟨cl58, Ar58, S58, H58⟩ := id V_b1_57
  obtain ⟨T59, h59, X59, e59, W59, st59⟩ := stI X57 hx hZ e57 Ar58 (j := (28 : Int32)) (inb_of S58 ⟨by decide, by decide⟩) (g := (mkF m 188 #[.val (.int p0), .val (.int p1), .val (.int p2), .unset, .unset] [(.int (983039 : Int32)), (.int (28 : Int32)), (.ref b1), (.ref b1)])) rfl rfl (hb hby at_188)
  have V_b1_59 := own_I_set Ar58 S58 H58 W59
  have Z59 : n0 ≤ h59.size := Nat.le_trans Z57 (Keep.of_wr W59).1
  have N59 := Fr.snoc X59 N57 g_b1
  refine own_go (B := T59.setTop (mkF m 189 #[.val (.int p0), .val (.int p1), .val (.int p2), .unset, .unset] [(.ref b1)])) (fun t kt => st59 t kt) ?_
  obtain ⟨LL60, X60, N60⟩ : ∃ LL, Stand p l e room_1 s m #[(.int p0), (.int p1), (.int p2)] below meth c T59 LL 1 29 ∧ Fr n0 LL := ⟨_, X59, N59⟩
  obtain ⟨cl61, Ar61, S61, H61⟩ := id V_b1_59
  have M61 : ¬ (29 : Int32) < 0 := by decide
  have hin : ¬ (((p1 &&& (2147483647 : Int32)) % (29 : Int32)) < 0 ∨ cl61.slots.size ≤ (((p1 &&& (2147483647 : Int32)) % (29 : Int32))).toNatClampNeg) := inb_of S61 (own_idx p1)
  obtain ⟨we, hat⟩ := H61 (((p1 &&& (2147483647 : Int32)) % (29 : Int32))).toNatClampNeg (Nat.lt_of_not_le fun y => hin (Or.inr y))
  refine own_go (B := T59.setTop (mkF m 211 #[.val (.int p0), .val (.int p1), .val (.int p2), .val (.ref b1), .val (.int ((we + ((p2 &&& (2147483647 : Int32)) % (3 : Int32))) - (1 : Int32)))] [(.int p0)])) (fun t kt => ?_) ?_
  · show Steps p.tables e below (T59.setTop (mkF m 189 #[.val (.int p0), .val (.int p1), .val (.int p2), .unset, .unset] [(.ref b1)])) _
    refine XS.astoreN X60.here hx rfl (hb hby at_189) rfl rfl (l' := #[.val (.int p0), .val (.int p1), .val (.int p2), .val (.ref b1), .unset]) rfl ?_
    show Steps p.tables e below (T59.setTop (mkF m 190 #[.val (.int p0), .val (.int p1), .val (.int p2), .val (.ref b1), .unset] [])) _
    refine XS.aloadN X60.here hx rfl (hb hby at_190) rfl rfl ?_
    show Steps p.tables e below (T59.setTop (mkF m 191 #[.val (.int p0), .val (.int p1), .val (.int p2), .val (.ref b1), .unset] [(.ref b1)])) _
    refine XS.iloadN X60.here hx rfl (hb hby at_191) rfl ?_
    show Steps p.tables e below (T59.setTop (mkF m 192 #[.val (.int p0), .val (.int p1), .val (.int p2), .val (.ref b1), .unset] [(.int p1), (.ref b1)])) _
    refine X60.ldcInt hx hown (mvT hZ (hw _ (List.mem_of_getElem? (i := 8) rfl))) (g := (mkF m 192 #[.val (.int p0), .val (.int p1), .val (.int p2), .val (.ref b1), .unset] [(.int p1), (.ref b1)])) rfl (hb hby at_192) _ ?_
    show Steps p.tables e below (T59.setTop (mkF m 194 #[.val (.int p0), .val (.int p1), .val (.int p2), .val (.ref b1), .unset] [(.int (2147483647 : Int32)), (.int p1), (.ref b1)])) _
    refine XS.iand X60.here hx rfl (hb hby at_194) rfl ?_
    show Steps p.tables e below (T59.setTop (mkF m 195 #[.val (.int p0), .val (.int p1), .val (.int p2), .val (.ref b1), .unset] [(.int (p1 &&& (2147483647 : Int32))), (.ref b1)])) _
    refine XS.aloadN X60.here hx rfl (hb hby at_195) rfl rfl ?_
    show Steps p.tables e below (T59.setTop (mkF m 196 #[.val (.int p0), .val (.int p1), .val (.int p2), .val (.ref b1), .unset] [(.ref b1), (.int (p1 &&& (2147483647 : Int32))), (.ref b1)])) _
    refine X60.arraylength hx (by rw [e59]; exact Ar61.1) (State.isArrayOf_alike hZ.alike Ar61.2.1) (g := (mkF m 196 #[.val (.int p0), .val (.int p1), .val (.int p2), .val (.ref b1), .unset] [(.ref b1), (.int (p1 &&& (2147483647 : Int32))), (.ref b1)])) rfl rfl (hb hby at_196) _ ?_
    rw [len_of S61 M61]
    show Steps p.tables e below (T59.setTop (mkF m 197 #[.val (.int p0), .val (.int p1), .val (.int p2), .val (.ref b1), .unset] [(.int (29 : Int32)), (.int (p1 &&& (2147483647 : Int32))), (.ref b1)])) _
    refine Jvm.RoadKit.iremM (g := (mkF m 197 #[.val (.int p0), .val (.int p1), .val (.int p2), .val (.ref b1), .unset] [(.int (29 : Int32)), (.int (p1 &&& (2147483647 : Int32))), (.ref b1)])) X60 hx rfl (hb hby at_197) rfl (by decide) ?_
    show Steps p.tables e below (T59.setTop (mkF m 198 #[.val (.int p0), .val (.int p1), .val (.int p2), .val (.ref b1), .unset] [(.int ((p1 &&& (2147483647 : Int32)) % (29 : Int32))), (.ref b1)])) _
    refine X60.iaload hx (j := ((p1 &&& (2147483647 : Int32)) % (29 : Int32))) (v := (.int we)) (by rw [e59]; exact Ar61.1) (State.isArrayOf_alike hZ.alike Ar61.2.1) Ar61.2.2 hin hat (g := (mkF m 198 #[.val (.int p0), .val (.int p1), .val (.int p2), .val (.ref b1), .unset] [(.int ((p1 &&& (2147483647 : Int32)) % (29 : Int32))), (.ref b1)])) rfl rfl (hb hby at_198) _ ?_
    show Steps p.tables e below (T59.setTop (mkF m 199 #[.val (.int p0), .val (.int p1), .val (.int p2), .val (.ref b1), .unset] [(.int we)])) _
    refine XS.iloadN X60.here hx rfl (hb hby at_199) rfl ?_
    show Steps p.tables e below (T59.setTop (mkF m 200 #[.val (.int p0), .val (.int p1), .val (.int p2), .val (.ref b1), .unset] [(.int p2), (.int we)])) _
    refine X60.ldcInt hx hown (mvT hZ (hw _ (List.mem_of_getElem? (i := 8) rfl))) (g := (mkF m 200 #[.val (.int p0), .val (.int p1), .val (.int p2), .val (.ref b1), .unset] [(.int p2), (.int we)])) rfl (hb hby at_200) _ ?_
    show Steps p.tables e below (T59.setTop (mkF m 202 #[.val (.int p0), .val (.int p1), .val (.int p2), .val (.ref b1), .unset] [(.int (2147483647 : Int32)), (.int p2), (.int we)])) _
    refine XS.iand X60.here hx rfl (hb hby at_202) rfl ?_
    show Steps p.tables e below (T59.setTop (mkF m 203 #[.val (.int p0), .val (.int p1), .val (.int p2), .val (.ref b1), .unset] [(.int (p2 &&& (2147483647 : Int32))), (.int we)])) _
    refine XS.iconst X60.here hx rfl (hb hby at_203) ?_
    show Steps p.tables e below (T59.setTop (mkF m 204 #[.val (.int p0), .val (.int p1), .val (.int p2), .val (.ref b1), .unset] [(.int (3 : Int32)), (.int (p2 &&& (2147483647 : Int32))), (.int we)])) _
    refine Jvm.RoadKit.iremM (g := (mkF m 204 #[.val (.int p0), .val (.int p1), .val (.int p2), .val (.ref b1), .unset] [(.int (3 : Int32)), (.int (p2 &&& (2147483647 : Int32))), (.int we)])) X60 hx rfl (hb hby at_204) rfl (by decide) ?_
    show Steps p.tables e below (T59.setTop (mkF m 205 #[.val (.int p0), .val (.int p1), .val (.int p2), .val (.ref b1), .unset] [(.int ((p2 &&& (2147483647 : Int32)) % (3 : Int32))), (.int we)])) _
    refine XS.iadd X60.here hx rfl (hb hby at_205) rfl ?_
    show Steps p.tables e below (T59.setTop (mkF m 206 #[.val (.int p0), .val (.int p1), .val (.int p2), .val (.ref b1), .unset] [(.int (we + ((p2 &&& (2147483647 : Int32)) % (3 : Int32))))])) _
    refine XS.iconst X60.here hx rfl (hb hby at_206) ?_
    show Steps p.tables e below (T59.setTop (mkF m 207 #[.val (.int p0), .val (.int p1), .val (.int p2), .val (.ref b1), .unset] [(.int (1 : Int32)), (.int (we + ((p2 &&& (2147483647 : Int32)) % (3 : Int32))))])) _
    refine XS.isub X60.here hx rfl (hb hby at_207) rfl ?_
    show Steps p.tables e below (T59.setTop (mkF m 208 #[.val (.int p0), .val (.int p1), .val (.int p2), .val (.ref b1), .unset] [(.int ((we + ((p2 &&& (2147483647 : Int32)) % (3 : Int32))) - (1 : Int32)))])) _
    refine XS.istore X60.here hx rfl (hb hby at_208) rfl (l' := #[.val (.int p0), .val (.int p1), .val (.int p2), .val (.ref b1), .val (.int ((we + ((p2 &&& (2147483647 : Int32)) % (3 : Int32))) - (1 : Int32)))]) rfl ?_
    show Steps p.tables e below (T59.setTop (mkF m 210 #[.val (.int p0), .val (.int p1), .val (.int p2), .val (.ref b1), .val (.int ((we + ((p2 &&& (2147483647 : Int32)) % (3 : Int32))) - (1 : Int32)))] [])) _
    refine XS.iloadN X60.here hx rfl (hb hby at_210) rfl ?_
    exact kt
  obtain ⟨_, _, ⟨T62, L62, k62, n62⟩, -, X62, ⟨Lc62, hQ62, l62, y62, z62⟩, st62⟩ := Jvm.LawKit.callS X60 hx (y := (⟨"com/example/crisp_events/crispevents/xml/XmlNamesIsNameStartPinLaw", "agrees", "(I)Z"⟩ : MethodName)) hown (mvT hZ (hw _ (List.mem_of_getElem? (i := 9) rfl))) (mvT hZ (hw _ (List.mem_of_getElem? (i := 10) rfl))) (mvT hZ (hw _ (List.mem_of_getElem? (i := 11) rfl))) (mvT hZ (hw _ (List.mem_of_getElem? (i := 12) rfl))) (by decide) (backOf (W := 0) (rm1 l Z t0 hw [] p0 h59 n0 Z59) hZ (hw _ (List.mem_of_getElem? (i := 12) rfl)) (hw _ (List.mem_of_getElem? (i := 11) rfl)) (by decide) (by decide)) (g := (mkF m 211 #[.val (.int p0), .val (.int p1), .val (.int p2), .val (.ref b1), .val (.int ((we + ((p2 &&& (2147483647 : Int32)) % (3 : Int32))) - (1 : Int32)))] [(.int p0)])) rfl (by rw [hml]; rfl) (argsL := [(.int p0)]) (rest := []) (lenOf pd_0_0 rfl) rfl (by show 2 * 0 + _ ≤ _; exact Nat.le_of_eq rfl) (hb hby at_211) (fun _ _ => ⟨rfl, e59, (by decide : 1 + 0 ≤ _), (by decide : 29 + 0 ≤ _)⟩)
  dsimp only [Pt.U, Pt.locs, Pt.cells, Pt.slots] at X62 l62 y62 z62 st62 hQ62
  subst l62 y62 z62
  obtain ⟨rfl, Nq62, hh62⟩ := hQ62
  have N62 := Fr.app N60 Nq62
  have e62 : T62.heap = h59 := hh62
  refine own_go (B := T62.setTop (mkF m 214 #[.val (.int p0), .val (.int p1), .val (.int p2), .val (.ref b1), .val (.int ((we + ((p2 &&& (2147483647 : Int32)) % (3 : Int32))) - (1 : Int32)))] [(.int (1 : Int32))])) (fun t kt => st62 t kt) ?_
  refine own_go (B := T62.setTop (mkF m 219 #[.val (.int p0), .val (.int p1), .val (.int p2), .val (.ref b1), .val (.int ((we + ((p2 &&& (2147483647 : Int32)) % (3 : Int32))) - (1 : Int32)))] [(.int ((we + ((p2 &&& (2147483647 : Int32)) % (3 : Int32))) - (1 : Int32)))])) (fun t kt => ?_) ?_
  · show Steps p.tables e below (T62.setTop (mkF m 214 #[.val (.int p0), .val (.int p1), .val (.int p2), .val (.ref b1), .val (.int ((we + ((p2 &&& (2147483647 : Int32)) % (3 : Int32))) - (1 : Int32)))] [(.int (1 : Int32))])) _
    refine XS.ifNo X62.here hx rfl (hb hby at_214) rfl ((if0 _ _).trans (feq (by decide)).1) ?_
    show Steps p.tables e below (T62.setTop (mkF m 217 #[.val (.int p0), .val (.int p1), .val (.int p2), .val (.ref b1), .val (.int ((we + ((p2 &&& (2147483647 : Int32)) % (3 : Int32))) - (1 : Int32)))] [])) _
    refine XS.iload X62.here hx rfl (hb hby at_217) rfl ?_
    exact kt
  obtain ⟨_, _, ⟨T63, L63, k63, n63⟩, -, X63, ⟨Lc63, hQ63, l63, y63, z63⟩, st63⟩ := Jvm.LawKit.callS X62 hx (y := (⟨"com/example/crisp_events/crispevents/xml/XmlNamesIsNameStartPinLaw", "agrees", "(I)Z"⟩ : MethodName)) hown (mvT hZ (hw _ (List.mem_of_getElem? (i := 9) rfl))) (mvT hZ (hw _ (List.mem_of_getElem? (i := 10) rfl))) (mvT hZ (hw _ (List.mem_of_getElem? (i := 11) rfl))) (mvT hZ (hw _ (List.mem_of_getElem? (i := 12) rfl))) (by decide) (backOf (W := 0) (rm1 l Z t0 hw [] ((we + ((p2 &&& (2147483647 : Int32)) % (3 : Int32))) - (1 : Int32)) h59 n0 Z59) hZ (hw _ (List.mem_of_getElem? (i := 12) rfl)) (hw _ (List.mem_of_getElem? (i := 11) rfl)) (by decide) (by decide)) (g := (mkF m 219 #[.val (.int p0), .val (.int p1), .val (.int p2), .val (.ref b1), .val (.int ((we + ((p2 &&& (2147483647 : Int32)) % (3 : Int32))) - (1 : Int32)))] [(.int ((we + ((p2 &&& (2147483647 : Int32)) % (3 : Int32))) - (1 : Int32)))])) rfl (by rw [hml]; rfl) (argsL := [(.int ((we + ((p2 &&& (2147483647 : Int32)) % (3 : Int32))) - (1 : Int32)))]) (rest := []) (lenOf pd_0_0 rfl) rfl (by show 2 * 0 + _ ≤ _; exact Nat.le_of_eq rfl) (hb hby at_219) (fun _ _ => ⟨rfl, e62, (by decide : 1 + 0 ≤ _), (by decide : 29 + 0 ≤ _)⟩)
  dsimp only [Pt.U, Pt.locs, Pt.cells, Pt.slots] at X63 l63 y63 z63 st63 hQ63
  subst l63 y63 z63
  obtain ⟨rfl, Nq63, hh63⟩ := hQ63
  have N63 := Fr.app N62 Nq63
  have e63 : T63.heap = h59 := hh63
  refine own_go (B := T63.setTop (mkF m 222 #[.val (.int p0), .val (.int p1), .val (.int p2), .val (.ref b1), .val (.int ((we + ((p2 &&& (2147483647 : Int32)) % (3 : Int32))) - (1 : Int32)))] [(.int (1 : Int32))])) (fun t kt => st63 t kt) ?_
  refine own_go (B := T63.setTop (mkF m 230 #[.val (.int p0), .val (.int p1), .val (.int p2), .val (.ref b1), .val (.int ((we + ((p2 &&& (2147483647 : Int32)) % (3 : Int32))) - (1 : Int32)))] [(.int (1 : Int32))])) (fun t kt => ?_) ?_
  · show Steps p.tables e below (T63.setTop (mkF m 222 #[.val (.int p0), .val (.int p1), .val (.int p2), .val (.ref b1), .val (.int ((we + ((p2 &&& (2147483647 : Int32)) % (3 : Int32))) - (1 : Int32)))] [(.int (1 : Int32))])) _
    refine XS.ifNo X63.here hx rfl (hb hby at_222) rfl ((if0 _ _).trans (feq (by decide)).1) ?_
    show Steps p.tables e below (T63.setTop (mkF m 225 #[.val (.int p0), .val (.int p1), .val (.int p2), .val (.ref b1), .val (.int ((we + ((p2 &&& (2147483647 : Int32)) % (3 : Int32))) - (1 : Int32)))] [])) _
    refine XS.iconst X63.here hx rfl (hb hby at_225) ?_
    show Steps p.tables e below (T63.setTop (mkF m 226 #[.val (.int p0), .val (.int p1), .val (.int p2), .val (.ref b1), .val (.int ((we + ((p2 &&& (2147483647 : Int32)) % (3 : Int32))) - (1 : Int32)))] [(.int (1 : Int32))])) _
    refine XS.goto X63.here hx rfl (pc0 := 226) (pc' := 230) rfl (hb hby at_226) (by decide) (by decide) ?_
    exact kt
  obtain ⟨fs, hr, hrun, hended, hW, hsame⟩ := X63.leave (v := some (.int (1 : Int32))) (fun h => by rw [Bd.returns] at h; cases h)
  refine ⟨_, _, ?_, hrun, hended, _, _, rfl, ?_, ⟨_, rfl⟩, hW, hsame.mono (by decide) (by decide)⟩
  · show Steps p.tables e below (T63.setTop (mkF m 230 #[.val (.int p0), .val (.int p1), .val (.int p2), .val (.ref b1), .val (.int ((we + ((p2 &&& (2147483647 : Int32)) % (3 : Int32))) - (1 : Int32)))] [(.int (1 : Int32))])) _
    exact retN X63 hx (t := .boolean) Bd.returns (by simp) (hb hby at_230) hr
  · show Q0 n0 _ _
    exact ⟨rfl, N63⟩
set_option maxRecDepth 65536 in
set_option maxHeartbeats 40000000 in
theorem comes_1 {Post : Tables → Env → Array Value → State → Outcome → State → Prop} (hpost : ∀ tb e args s v u, (limb_1_1.after args s (.returned v) u = true ∧ limb_1_2.after args s (.returned v) u = true ∧ True) → FrameEnd s (.returned v) u (Jvm.fieldLocs frame_1_writes args s ++ Jvm.arrayLocs frame_1_arrays args s ++ Jvm.staticLocs frame_1_statics s) 16 128 → Post tb e args s (.returned v) u) :
    ArmFor flags0 classFile x code maxLocals ret World_1 tables_1 room_1 Calls_1 rest_1 Pre_1 Post := by
  intro l hfl _ _ p e ha hc hk s m args below hf hA hF happ hP
  obtain ⟨hcalls, hrest, hpre⟩ := hP
  obtain ⟨-, -, -, hnamed, -, -, -, hat⟩ := (Spec.applies_iff hf).mp happ
  obtain ⟨hg, hn⟩ := and_e (Cond.before_iff.mp (show (Jvm.Cond.and given_1 narrow_1).before args s = true from hpre))
  obtain ⟨ga0, gb0⟩ := and_e hg
  obtain ⟨ga1, gb1⟩ := and_e gb0
  obtain ⟨ga2, gb2⟩ := and_e gb1
  obtain ⟨w0, w1, w2, rfl⟩ : ∃ w0 w1 w2 : Value, args = #[w0, w1, w2] := by
    have hs : args.size = 3 := by simpa [Cond.value, given_1] using ga0
    obtain ⟨L⟩ := args
    match L, hs with
    | [w0, w1, w2], _ => exact ⟨w0, w1, w2, rfl⟩
  have hw := fun d (hd : d ∈ tables_1) => atoms_spec (ws := Jvm.Cond.code x code maxLocals ret :: tables_1) hat d (List.mem_cons_of_mem _ hd)
  obtain ⟨i0, ei0⟩ := is_v ga1
  obtain rfl : w0 = (.int i0) := Option.some.inj ei0
  obtain ⟨i1, ei1⟩ := is_v ga2
  obtain rfl : w1 = (.int i1) := Option.some.inj ei1
  obtain ⟨i2, ei2⟩ := is_v gb2
  obtain rfl : w2 = (.int i2) := Option.some.inj ei2
  obtain ⟨n, o, h1, h2, h3, _, L, rfl, ⟨rfl, N⟩, hq⟩ := rm0 l s _ hw tables_1 i0 i1 i2 s.heap s.heap.size (Nat.le_refl _)  p e ha hc hk s m _ below hf ((Spec.applies_iff_loose hf).mp happ).1 ⟨rfl, State.Warmed39.refl s, rfl⟩ trivial
  refine ⟨n, _, h1, h2, h3, hpost _ _ _ _ _ _ ⟨Cond.after_iff.mpr rfl, Cond.after_iff.mpr (eq_i res_at (Term.int_eval (1)) rfl), trivial⟩ ⟨hq.1, hq.2.1, (hq.2.2.sift fun y hy => Or.inr (N y hy)).mono (by decide) (by decide)⟩⟩
theorem main_1_1 : Claimed_1_1 := comes_1 fun _ _ _ _ _ _ h hF => ⟨h.1, hF⟩
theorem main_1_2 : Claimed_1_2 := comes_1 fun _ _ _ _ _ _ h hF => ⟨h.2.1, hF⟩
end Jvm.Pilot.@@N@@
namespace Jvm.Pilot.@@N@@
open Jvm Jvm.ClassFile Sem Op Lib Jvm.Free Jvm.Stand Jvm.Pilot.@@N@@.Jvm.D
/-! MADE BY PROGRAM (witnessworld.py) out of the Statement's table words and the real class files: 9 classes; the members and pool entries that the words name. The judged class is class 1, her method 3. -/
namespace start1
open Jvm.ClassFile
def u (s : String) : CpInfo := .utf8 (stringToUtf16 s)
/-- a pool by its gaps: so many unusable entries, then the entry; so many at the end -/
def gap : Nat → List CpInfo → List CpInfo
  | 0, r => r
  | n + 1, r => .unusable :: gap n r
def poolList (es : List (Nat × CpInfo)) (last : Nat) : List CpInfo := es.foldr (fun e r => gap e.1 (e.2 :: r)) (gap last [])
def pool (es : List (Nat × CpInfo)) (last : Nat) : Array CpInfo := ⟨poolList es last⟩
def fileOf (pool : Array CpInfo) (this : Nat) (attrs : Array Attribute := #[]) (ms : Array MethodInfo := #[]) (fl : Nat := 33) (sup : Nat := 0) (ifs : Array Nat := #[]) (fds : Array FieldInfo := #[]) : ClassFile where
  minorVersion := 0
  majorVersion := 65
  constantPool := pool
  accessFlags := fl
  thisClass := this
  superClass := sup
  interfaces := ifs
  fields := fds
  methods := ms
  attributes := attrs
def plain (name : String) (sup : Option ClassId) : Class where
  name := name
  kind := .ordinary
  loader := none
  accessFlags := 33
  super := sup
  interfaces := #[]
  cf := none
  fields := #[]
  methods := #[]
  instanceTypes := #[]
  staticTypes := #[]
  resolved := #[]
  callSites := []
  init := .initialized
  statics := none
  mirror := none

def pool0 : Array CpInfo := pool [(5, u "<init>"), (0, u "()V"), (1, .class_ 10), (1, u "java/lang/Object")] 113

def k0m0 : Method := { name := "<init>", desc := "()V", sig := { parameters := [], returnType := none }, accessFlags := 1, code := none }
/-- java/lang/Object -/
def k0 : Class := { plain "java/lang/Object" none with
  accessFlags := 33
  interfaces := #[]
  cf := some (fileOf pool0 8 #[] #[{ accessFlags := 1, nameIndex := 5, descriptorIndex := 6, attributes := #[] }] 33 0 #[] #[])
  fields := #[]
  methods := #[k0m0]
  instanceTypes := #[]
  staticTypes := #[]
  resolved := Array.replicate 124 none
  statics := none }

def pool1 : Array CpInfo := pool [(2, .class_ 4), (1, u "java/lang/Object"), (0, u "<init>"), (0, u "()V"), (0, .integer 55296), (0, .integer 63743), (0, .integer 64976), (0, .integer 65007), (0, .integer 65534), (0, .integer 65535), (0, .integer 983039), (0, .methodref 15 16), (0, .class_ 17), (0, .nameAndType 18 19), (0, u "com/example/crisp_events/crispevents/xml/XmlNames"), (0, u "isNameStart"), (0, u "(I)Z"), (0, .methodref 21 22), (0, .class_ 23), (0, .nameAndType 24 19), (0, u "com/example/crisp_events/crispevents/xml/XmlNamesIsNameStartPinLaw"), (0, u "excluded"), (0, .integer 55295), (0, .integer 63744), (0, .integer 64975), (0, .integer 65008), (0, .integer 65533), (0, .integer 65536), (0, .integer 2147483647), (0, .methodref 21 33), (0, .nameAndType 34 19), (0, u "agrees"), (3, u "law"), (0, u "(III)Z")] 4

def k1m0 : Method := { name := "<init>", desc := "()V", sig := { parameters := [], returnType := none }, accessFlags := 2, code := none }
def k1c1 : Code := { maxStack := 2, maxLocals := 1, code := method_2_code, exceptionTable := #[], attributes := #[] }
def k1m1 : Method := { name := "excluded", desc := "(I)Z", sig := { parameters := [.int], returnType := some .boolean }, accessFlags := 10, code := some k1c1 }
def k1c2 : Code := { maxStack := 2, maxLocals := 1, code := method_3_code, exceptionTable := #[], attributes := #[] }
def k1m2 : Method := { name := "agrees", desc := "(I)Z", sig := { parameters := [.int], returnType := some .boolean }, accessFlags := 10, code := some k1c2 }
def k1c3 : Code := { maxStack := 4, maxLocals := 5, code := code, exceptionTable := #[], attributes := #[] }
def k1m3 : Method := { name := "law", desc := "(III)Z", sig := { parameters := [.int, .int, .int], returnType := some .boolean }, accessFlags := 9, code := some k1c3 }
/-- com/example/crisp_events/crispevents/xml/XmlNamesIsNameStartPinLaw -/
def k1 : Class := { plain "com/example/crisp_events/crispevents/xml/XmlNamesIsNameStartPinLaw" (some 0) with
  accessFlags := 49
  interfaces := #[]
  cf := some (fileOf pool1 21 #[] #[{ accessFlags := 2, nameIndex := 5, descriptorIndex := 6, attributes := #[] }, { accessFlags := 10, nameIndex := 24, descriptorIndex := 19, attributes := #[] }, { accessFlags := 10, nameIndex := 34, descriptorIndex := 19, attributes := #[] }, { accessFlags := 9, nameIndex := 38, descriptorIndex := 39, attributes := #[] }] 49 2 #[] #[])
  fields := #[]
  methods := #[k1m0, k1m1, k1m2, k1m3]
  instanceTypes := #[]
  staticTypes := #[]
  resolved := Array.replicate 44 none
  statics := none }

def pool2 : Array CpInfo := pool [(2, .class_ 4), (1, u "java/lang/Object"), (0, u "<init>"), (0, u "()V"), (11, .class_ 20), (1, u "com/example/crisp_events/crispevents/xml/XmlNames"), (0, u "isNameStart"), (0, u "(I)Z"), (11, .integer 55295), (0, .integer 63744), (0, .integer 64975), (0, .integer 65008), (0, .integer 65533), (0, .integer 65536), (0, .integer 983039)] 7

def k2m0 : Method := { name := "<init>", desc := "()V", sig := { parameters := [], returnType := none }, accessFlags := 2, code := none }
def k2c1 : Code := { maxStack := 2, maxLocals := 1, code := prog_142_method_3_code, exceptionTable := #[], attributes := #[] }
def k2m1 : Method := { name := "isNameStart", desc := "(I)Z", sig := { parameters := [.int], returnType := some .boolean }, accessFlags := 9, code := some k2c1 }
/-- com/example/crisp_events/crispevents/xml/XmlNames -/
def k2 : Class := { plain "com/example/crisp_events/crispevents/xml/XmlNames" (some 0) with
  accessFlags := 49
  interfaces := #[]
  cf := some (fileOf pool2 18 #[] #[{ accessFlags := 2, nameIndex := 5, descriptorIndex := 6, attributes := #[] }, { accessFlags := 9, nameIndex := 21, descriptorIndex := 22, attributes := #[] }] 49 2 #[] #[])
  fields := #[]
  methods := #[k2m0, k2m1]
  instanceTypes := #[]
  staticTypes := #[]
  resolved := Array.replicate 48 none
  statics := none }

def pool3 : Array CpInfo := pool [(1, u "java/lang/Cloneable"), (0, .class_ 1), (0, u "java/lang/Object"), (0, .class_ 3)] 3

/-- java/lang/Cloneable -/
def k3 : Class := { plain "java/lang/Cloneable" (some 0) with
  accessFlags := 1537
  interfaces := #[]
  cf := some (fileOf pool3 2 #[] #[] 1537 4 #[] #[])
  fields := #[]
  methods := #[]
  instanceTypes := #[]
  staticTypes := #[]
  resolved := Array.replicate 8 none
  statics := none }

def pool4 : Array CpInfo := pool [(1, u "java/io/Serializable"), (0, .class_ 1), (0, u "java/lang/Object"), (0, .class_ 3)] 3

/-- java/io/Serializable -/
def k4 : Class := { plain "java/io/Serializable" (some 0) with
  accessFlags := 1537
  interfaces := #[]
  cf := some (fileOf pool4 2 #[] #[] 1537 4 #[] #[])
  fields := #[]
  methods := #[]
  instanceTypes := #[]
  staticTypes := #[]
  resolved := Array.replicate 8 none
  statics := none }

/-- the primitive byte -/
def k5 : Class := { plain "byte" none with kind := .primitive 'B', accessFlags := 0x411 }
/-- [B -/
def k6 : Class := { plain "[B" (some 0) with kind := .array 5 .byte, interfaces := #[3, 4], accessFlags := 1041 }

/-- the primitive int -/
def k7 : Class := { plain "int" none with kind := .primitive 'I', accessFlags := 0x411 }
/-- [I -/
def k8 : Class := { plain "[I" (some 0) with kind := .array 7 .int, interfaces := #[3, 4], accessFlags := 1041 }

def heap : Heap := #[]
def classes : Array Class := #[k0, k1, k2, k3, k4, k5, k6, k7, k8]
def interned : List (Array UInt16 × Addr) := []
def slotsUsed : Nat := 0
def theMethod : MethodId := ⟨1, 3⟩
def args0 : Array Value := #[.int 65, .int 3, .int 7]
def aboutOver (below : List Frame) : State where
  vm := { classes := classes, interned := interned.toArray }
  heap := heap
  slotsUsed := slotsUsed
  threads := #[{ frames := .invoking theMethod args0 :: below }]
def below0 : List Frame := [.native { method := ⟨0, 0⟩, args := #[] }]
def about1 : State := aboutOver below0
def p0 : Program := .bare "" "" ""
def e0 : Env := launch0.env 0 0 0
theorem w_frames : about1.frames = Frame.invoking theMethod args0 :: below0 := rfl
set_option maxRecDepth 65536 in
theorem w_args : argsFit about1.vm theMethod args0 = true := by decide +kernel
set_option maxRecDepth 65536 in
theorem w_heap : heapFits about1 = true := by decide +kernel
set_option maxRecDepth 65536 in
theorem w_runnable : about1.curStatus? = some .runnable := by decide +kernel
set_option maxRecDepth 65536 in
theorem w_alone : about1.alone = true := by decide +kernel
set_option maxRecDepth 65536 in
theorem w_named : about1.methodNamed? x = some theMethod := by decide +kernel
set_option maxRecDepth 65536 in
theorem w_hears : about1.hears theMethod below0 = true := by decide +kernel
set_option maxRecDepth 65536 in
theorem w_ripe : about1.ripe theMethod args0 below0 = true := by decide +kernel
theorem w_running : about1.status = .running := rfl
set_option maxRecDepth 65536 in
theorem w_room : about1.hasRoom e0.platform room_1 = true :=
  launch0.hasRoom_least _ room_1 (by decide +kernel) (by decide +kernel) (by decide +kernel) (by decide +kernel) (by decide +kernel) (by decide +kernel)
theorem allAtoms_all (ts : List Jvm.Cond) (a : Array Jvm.Value) (st : Jvm.State) : (allAtoms ts).before a st = ts.all (fun c => c.before a st) := by
  induction ts with
  | nil => rfl
  | cons c t ih =>
    show (Jvm.Cond.and c (allAtoms t)).before a st = _
    rw [Jvm.Cond.before_and, ih, List.all_cons]
def words1 : List Jvm.Cond := Jvm.Cond.code x code maxLocals ret :: tables_1
/-- a 'code' word, met by the world's own term for the bytes: nothing is compared byte by byte -/
theorem code_word {y : MethodName} {bytes : ByteArray} {mx : Nat} {rt : Option FieldType} {a : Array Value} {s : State} {m : MethodId} {meth : Method} {c : Code} (h1 : s.methodNamed? y = some m) (h2 : s.vm.method? m = some meth) (h3 : meth.code = some c) (h4 : c.code = bytes)
    (h5 : (c.maxLocals == mx && c.exceptionTable.isEmpty && decide (c.maxStack ≤ mostOperands) && decide (meth.sig.returnType = rt) && !meth.locks && decide (parseMethodDescriptor y.desc = some meth.sig)) = true) : (Jvm.Cond.code y bytes mx rt).before a s = true := by
  simp only [Bool.and_eq_true, beq_iff_eq, Bool.not_eq_true', decide_eq_true_eq] at h5
  obtain ⟨⟨⟨⟨⟨g1, g2⟩, g3⟩, g4⟩, g5⟩, g6⟩ := h5
  simp [Cond.before, Cond.holds, Cond.value, h1, h2, h3, h4, g1, g2, g3, g4, g5, g6]
def isCode : Jvm.Cond → Bool
  | .code _ _ _ _ => true
  | _ => false
theorem all_split {L : List Jvm.Cond} {P : Jvm.Cond → Bool} (h1 : L.all (fun c => isCode c || P c) = true) (h2 : ∀ c ∈ L.filter isCode, P c = true) : L.all P = true := by
  refine List.all_eq_true.mpr fun c hc => ?_
  have h := List.all_eq_true.mp h1 c hc
  rcases Bool.eq_false_or_eq_true (isCode c) with hi | hi
  · exact h2 c (List.mem_filter.mpr ⟨hc, hi⟩)
  · simpa [hi] using h
set_option maxRecDepth 65536 in
theorem w_c0 : (Jvm.Cond.code x code maxLocals ret).before args0 about1 = true := code_word (m := ⟨1, 3⟩) (meth := k1m3) (c := k1c3) (by decide +kernel) rfl rfl rfl (by decide +kernel)
set_option maxRecDepth 65536 in
theorem w_c1 : (Jvm.Cond.code ({ cls := "com/example/crisp_events/crispevents/xml/XmlNamesIsNameStartPinLaw", name := "agrees", desc := "(I)Z" } : Jvm.MethodName) method_3_code (1 : Nat) (Option.some Jvm.ClassFile.FieldType.boolean)).before args0 about1 = true := code_word (m := ⟨1, 2⟩) (meth := k1m2) (c := k1c2) (by decide +kernel) rfl rfl rfl (by decide +kernel)
set_option maxRecDepth 65536 in
theorem w_c2 : (Jvm.Cond.code ({ cls := "com/example/crisp_events/crispevents/xml/XmlNames", name := "isNameStart", desc := "(I)Z" } : Jvm.MethodName) prog_142_method_3_code (1 : Nat) (Option.some Jvm.ClassFile.FieldType.boolean)).before args0 about1 = true := code_word (m := ⟨2, 1⟩) (meth := k2m1) (c := k2c1) (by decide +kernel) rfl rfl rfl (by decide +kernel)
set_option maxRecDepth 65536 in
theorem w_c3 : (Jvm.Cond.code ({ cls := "com/example/crisp_events/crispevents/xml/XmlNamesIsNameStartPinLaw", name := "excluded", desc := "(I)Z" } : Jvm.MethodName) method_2_code (1 : Nat) (Option.some Jvm.ClassFile.FieldType.boolean)).before args0 about1 = true := code_word (m := ⟨1, 1⟩) (meth := k1m1) (c := k1c1) (by decide +kernel) rfl rfl rfl (by decide +kernel)
def codes1 : List Jvm.Cond := [Jvm.Cond.code x code maxLocals ret, Jvm.Cond.code ({ cls := "com/example/crisp_events/crispevents/xml/XmlNamesIsNameStartPinLaw", name := "agrees", desc := "(I)Z" } : Jvm.MethodName) method_3_code (1 : Nat) (Option.some Jvm.ClassFile.FieldType.boolean), Jvm.Cond.code ({ cls := "com/example/crisp_events/crispevents/xml/XmlNames", name := "isNameStart", desc := "(I)Z" } : Jvm.MethodName) prog_142_method_3_code (1 : Nat) (Option.some Jvm.ClassFile.FieldType.boolean), Jvm.Cond.code ({ cls := "com/example/crisp_events/crispevents/xml/XmlNamesIsNameStartPinLaw", name := "excluded", desc := "(I)Z" } : Jvm.MethodName) method_2_code (1 : Nat) (Option.some Jvm.ClassFile.FieldType.boolean)]
set_option maxRecDepth 65536 in
theorem codes_eq : words1.filter isCode = codes1 := rfl
theorem w_codes : ∀ c ∈ words1.filter isCode, c.before args0 about1 = true := by
  rw [codes_eq]
  intro c hc
  simp only [codes1, List.mem_cons, List.not_mem_nil, or_false] at hc
  rcases hc with rfl | rfl | rfl | rfl
  · exact w_c0
  · exact w_c1
  · exact w_c2
  · exact w_c3
set_option maxRecDepth 65536 in
theorem w_t1 : (words1.take 24).all (fun c => isCode c || c.before args0 about1) = true := by decide +kernel
set_option maxRecDepth 65536 in
theorem w_t2 : (words1.drop 24).all (fun c => isCode c || c.before args0 about1) = true := by decide +kernel
theorem w_tables : (allAtoms (Jvm.Cond.code x code maxLocals ret :: tables_1)).before args0 about1 = true := by
  rw [allAtoms_all]
  show words1.all (fun c => c.before args0 about1) = true
  refine all_split ?_ w_codes
  rw [← List.take_append_drop 24 words1, List.all_append, w_t1, w_t2]
  rfl
set_option maxRecDepth 65536 in
theorem w_case : (Jvm.Cond.and given_1 narrow_1).before args0 about1 = true := by decide +kernel
theorem w_applies : (headSpec (Jvm.Cond.code x code maxLocals ret :: tables_1) room_1).applies x e0.platform about1 = true :=
  (Spec.applies_iff w_frames).mpr ⟨w_running, w_runnable, w_alone, w_named, w_hears, w_ripe, w_room, w_tables⟩
theorem atStart : AtStart classFile x code maxLocals ret World_1 tables_1 room_1 Calls_1 rest_1 Pre_1 launch0 p0 e0 about1 theMethod args0 below0 :=
  ⟨lists_1, trivial, launch0.admits_env _ _ _, launch0.least_env, fairChoices_fair.cas, fairChoices_fair.clock, w_frames, w_args, w_heap, w_applies, trivial, trivial, w_case⟩
end start1
theorem witness_1 : WitnessClaimed_1 := ⟨start1.p0, start1.e0, start1.about1, start1.theMethod, start1.args0, start1.below0, start1.atStart⟩
end Jvm.Pilot.@@N@@
