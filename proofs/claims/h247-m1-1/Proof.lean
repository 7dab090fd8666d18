import JvmDerived
import JvmDerived.Pilot.@@N@@Statement
import JvmDerived.Pilot.@@N@@Code
set_option linter.unusedVariables false
set_option linter.unusedSimpArgs false
namespace Jvm.RoadKit
open Sem ClassFile Op Lib Jvm.Stand Jvm.Free Jvm.LawKit
section New
variable {p : Program} {l : Launch} {e : Env} {R : Room} {s : State} {m : MethodId} {args : Array Value} {below : List Frame} {meth : Method} {c : Code} {T : State} {locs : List Loc} {cells slots : Nat}
theorem retI (X : Stand p l e R s m args below meth c T locs cells slots) (hx : p.tables.exec = Jvm.exec) {pc : Nat} {Ls : Array Slot} {z : Int32} {rest : List Value} (hret : meth.sig.returnType = some .int) (hd : decode c.code pc = .ok (.ireturn, 1)) {fs : List Frame}
    (hl : ∀ (f : JFrame) (acts : List Action), f.method = m → f.locked = none → f.entered = [] → (doReturn e (T.setTop f) acts (some (.int z))).1 = T.setFrames fs) : Steps p.tables e below (T.setTop (mkF m pc Ls (.int z :: rest))) (T.setFrames fs) := by
  have hm' : T.vm.method? m = some meth := X.method'
  have hn : narrow .int (.int z) = .int z := rfl
  show Steps p.tables e below (T.setTop { method := m, pc := pc, locals := Ls, stack := _ :: rest, locked := none }) _
  jvm_step X.here [X.here.top, hx, hd, hm', hret, hn]
  first | (intro acts; rw [hl _ acts rfl rfl rfl]) | rw [hl _ _ rfl rfl rfl]
  exact Steps.refl _
end New
end Jvm.RoadKit
namespace Jvm.Pilot.@@N@@
open Jvm Jvm.ClassFile Sem Op Lib Jvm.Free Jvm.Stand Jvm.LawKit Jvm.RoadKit Bundle Jvm.Pilot.@@N@@.Jvm.D

theorem own_go {tb : Tables} {e : Env} {below : List Frame} {A B : State} {Φ : State → Outcome → Prop} (st : ∀ t, Steps tb e below B t → Steps tb e below A t) (h : ∃ s₂ o, Steps tb e below B s₂ ∧ Φ s₂ o) : ∃ s₂ o, Steps tb e below A s₂ ∧ Φ s₂ o := by
  obtain ⟨t, o, h1, h2⟩ := h
  exact ⟨t, o, st t h1, h2⟩
theorem own_ifc {P Q : Prop} [Decidable P] [Decidable Q] {a b c d : Int32} (h : P ↔ Q) (h1 : a = c) (h2 : b = d) : (if P then a else b) = (if Q then c else d) := by
  subst h1 h2
  by_cases p : P
  · rw [if_pos p, if_pos (h.1 p)]
  · rw [if_neg p, if_neg (fun q => p (h.2 q))]
theorem d3_0 : decode method_3_code 0 = .ok (.iload_n 1, 1) := by decide +kernel
theorem d3_1 : decode method_3_code 1 = .ok (.iload_n 2, 1) := by decide +kernel
theorem d3_2 : decode method_3_code 2 = .ok (.if_icmp .ne 5, 3) := by decide +kernel
theorem d3_5 : decode method_3_code 5 = .ok (.iconst 0, 1) := by decide +kernel
theorem d3_6 : decode method_3_code 6 = .ok (.ireturn, 1) := by decide +kernel
theorem d3_7 : decode method_3_code 7 = .ok (.aload_n 0, 1) := by decide +kernel
theorem d3_8 : decode method_3_code 8 = .ok (.iload_n 1, 1) := by decide +kernel
theorem d3_9 : decode method_3_code 9 = .ok (.iaload, 1) := by decide +kernel
theorem d3_10 : decode method_3_code 10 = .ok (.istore 4, 2) := by decide +kernel
theorem d3_12 : decode method_3_code 12 = .ok (.aload_n 0, 1) := by decide +kernel
theorem d3_13 : decode method_3_code 13 = .ok (.iload_n 2, 1) := by decide +kernel
theorem d3_14 : decode method_3_code 14 = .ok (.iaload, 1) := by decide +kernel
theorem d3_15 : decode method_3_code 15 = .ok (.istore 5, 2) := by decide +kernel
theorem d3_17 : decode method_3_code 17 = .ok (.iload 4, 2) := by decide +kernel
theorem d3_19 : decode method_3_code 19 = .ok (.iconst 1, 1) := by decide +kernel
theorem d3_20 : decode method_3_code 20 = .ok (.if_icmp .lt 9, 3) := by decide +kernel
theorem d3_23 : decode method_3_code 23 = .ok (.iload 4, 2) := by decide +kernel
theorem d3_25 : decode method_3_code 25 = .ok (.iload_n 3, 1) := by decide +kernel
theorem d3_26 : decode method_3_code 26 = .ok (.if_icmp .le 5, 3) := by decide +kernel
theorem d3_29 : decode method_3_code 29 = .ok (.iconst 0, 1) := by decide +kernel
theorem d3_30 : decode method_3_code 30 = .ok (.ireturn, 1) := by decide +kernel
theorem d3_31 : decode method_3_code 31 = .ok (.iload 5, 2) := by decide +kernel
theorem d3_33 : decode method_3_code 33 = .ok (.iconst 1, 1) := by decide +kernel
theorem d3_34 : decode method_3_code 34 = .ok (.if_icmp .ge 5, 3) := by decide +kernel
theorem d3_37 : decode method_3_code 37 = .ok (.iconst 0, 1) := by decide +kernel
theorem d3_38 : decode method_3_code 38 = .ok (.ireturn, 1) := by decide +kernel
theorem d3_39 : decode method_3_code 39 = .ok (.iload 4, 2) := by decide +kernel
theorem d3_41 : decode method_3_code 41 = .ok (.iload 5, 2) := by decide +kernel
theorem d3_43 : decode method_3_code 43 = .ok (.if_icmp .lt 15, 3) := by decide +kernel
theorem d3_46 : decode method_3_code 46 = .ok (.iload 4, 2) := by decide +kernel
theorem d3_48 : decode method_3_code 48 = .ok (.iload 5, 2) := by decide +kernel
theorem d3_50 : decode method_3_code 50 = .ok (.if_icmp .ne 15, 3) := by decide +kernel
theorem d3_53 : decode method_3_code 53 = .ok (.iload_n 1, 1) := by decide +kernel
theorem d3_54 : decode method_3_code 54 = .ok (.iload_n 2, 1) := by decide +kernel
theorem d3_55 : decode method_3_code 55 = .ok (.if_icmp .ge 10, 3) := by decide +kernel
theorem d3_58 : decode method_3_code 58 = .ok (.iconst 1, 1) := by decide +kernel
theorem d3_59 : decode method_3_code 59 = .ok (.iload 4, 2) := by decide +kernel
theorem d3_61 : decode method_3_code 61 = .ok (.iconst 1, 1) := by decide +kernel
theorem d3_62 : decode method_3_code 62 = .ok (.isub, 1) := by decide +kernel
theorem d3_63 : decode method_3_code 63 = .ok (.ishl, 1) := by decide +kernel
theorem d3_64 : decode method_3_code 64 = .ok (.ireturn, 1) := by decide +kernel
theorem d3_65 : decode method_3_code 65 = .ok (.iconst 0, 1) := by decide +kernel
theorem d3_66 : decode method_3_code 66 = .ok (.ireturn, 1) := by decide +kernel
def own3_f29 (a0 : Addr) (p1 : Int32) (p2 : Int32) (p3 : Int32) (cl : Cell) (w9 : Int32) (w14 : Int32) : Int32 := (0 : Int32)
theorem own3_e29 (a0 : Addr) (p1 : Int32) (p2 : Int32) (p3 : Int32) (cl : Cell) (w9 : Int32) (w14 : Int32) : (own3_f29 a0 p1 p2 p3 cl w9 w14) = (0 : Int32) := rfl
set_option maxRecDepth 65536 in
set_option maxHeartbeats 40000000 in
theorem own3_b29 {p : Program} {l : Launch} {e : Env} {R : Room} {s : State} {m : MethodId} {args : Array Value} {below : List Frame} {meth : Method} {c : Code} {T0 : State} {locs : List Loc} {cells slots : Nat} {Z : State} {t0 : Array Value} {h0 : Heap} (a0 : Addr) (p1 : Int32) (p2 : Int32) (p3 : Int32) (cl : Cell) (w9 : Int32) (w14 : Int32) (X0 : Stand p l e R s m args below meth c T0 locs cells slots) (hx : p.tables.exec = Jvm.exec) (hZ : Z.Warmed39 s.vm) (hw : ∀ d ∈ tables_1, d.before t0 Z = true) (hby : c.code = method_3_code) (hown : s.vm.findClass "com/example/columella/columella/ipc/HuffmanStartsPinLaw" = some m.cls) (e0 : T0.heap = h0) (Ar : Arr Z h0 a0 cl .int) (hin9 : ¬ (p1 < 0 ∨ cl.slots.size ≤ (p1).toNatClampNeg)) (hat9 : cl.slots[(p1).toNatClampNeg]? = some (.int w9)) (hin14 : ¬ (p2 < 0 ∨ cl.slots.size ≤ (p2).toNatClampNeg)) (hat14 : cl.slots[(p2).toNatClampNeg]? = some (.int w14)) (hret : meth.sig.returnType = some .int) {fs : List Frame} (hr : ∀ (f : JFrame) (acts : List Action), f.method = m → f.locked = none → f.entered = [] → (doReturn e (T0.setTop f) acts (some (.int (own3_f29 a0 p1 p2 p3 cl w9 w14)))).1 = T0.setFrames fs) : Steps p.tables e below (T0.setTop (mkF m 29 #[.val (.ref a0), .val (.int p1), .val (.int p2), .val (.int p3), .val (.int w9), .val (.int w14)] [])) (T0.setFrames fs) := by
  rw [own3_e29] at hr
  show Steps p.tables e below (T0.setTop (mkF m 29 #[.val (.ref a0), .val (.int p1), .val (.int p2), .val (.int p3), .val (.int w9), .val (.int w14)] [])) _
  refine XS.iconst X0.here hx rfl (hb hby d3_29) ?_
  show Steps p.tables e below (T0.setTop (mkF m 30 #[.val (.ref a0), .val (.int p1), .val (.int p2), .val (.int p3), .val (.int w9), .val (.int w14)] [(.int (0 : Int32))])) _
  exact retI X0 hx hret (hb hby d3_30) hr
def own3_f58 (a0 : Addr) (p1 : Int32) (p2 : Int32) (p3 : Int32) (cl : Cell) (w9 : Int32) (w14 : Int32) : Int32 := ((1 : Int32) <<< ((w9 - (1 : Int32)) &&& 31))
theorem own3_e58 (a0 : Addr) (p1 : Int32) (p2 : Int32) (p3 : Int32) (cl : Cell) (w9 : Int32) (w14 : Int32) : (own3_f58 a0 p1 p2 p3 cl w9 w14) = ((1 : Int32) <<< ((w9 - (1 : Int32)) &&& 31)) := rfl
set_option maxRecDepth 65536 in
set_option maxHeartbeats 40000000 in
theorem own3_b58 {p : Program} {l : Launch} {e : Env} {R : Room} {s : State} {m : MethodId} {args : Array Value} {below : List Frame} {meth : Method} {c : Code} {T0 : State} {locs : List Loc} {cells slots : Nat} {Z : State} {t0 : Array Value} {h0 : Heap} (a0 : Addr) (p1 : Int32) (p2 : Int32) (p3 : Int32) (cl : Cell) (w9 : Int32) (w14 : Int32) (X0 : Stand p l e R s m args below meth c T0 locs cells slots) (hx : p.tables.exec = Jvm.exec) (hZ : Z.Warmed39 s.vm) (hw : ∀ d ∈ tables_1, d.before t0 Z = true) (hby : c.code = method_3_code) (hown : s.vm.findClass "com/example/columella/columella/ipc/HuffmanStartsPinLaw" = some m.cls) (e0 : T0.heap = h0) (Ar : Arr Z h0 a0 cl .int) (hin9 : ¬ (p1 < 0 ∨ cl.slots.size ≤ (p1).toNatClampNeg)) (hat9 : cl.slots[(p1).toNatClampNeg]? = some (.int w9)) (hin14 : ¬ (p2 < 0 ∨ cl.slots.size ≤ (p2).toNatClampNeg)) (hat14 : cl.slots[(p2).toNatClampNeg]? = some (.int w14)) (hret : meth.sig.returnType = some .int) {fs : List Frame} (hr : ∀ (f : JFrame) (acts : List Action), f.method = m → f.locked = none → f.entered = [] → (doReturn e (T0.setTop f) acts (some (.int (own3_f58 a0 p1 p2 p3 cl w9 w14)))).1 = T0.setFrames fs) : Steps p.tables e below (T0.setTop (mkF m 58 #[.val (.ref a0), .val (.int p1), .val (.int p2), .val (.int p3), .val (.int w9), .val (.int w14)] [])) (T0.setFrames fs) := by
  rw [own3_e58] at hr
  show Steps p.tables e below (T0.setTop (mkF m 58 #[.val (.ref a0), .val (.int p1), .val (.int p2), .val (.int p3), .val (.int w9), .val (.int w14)] [])) _
  refine XS.iconst X0.here hx rfl (hb hby d3_58) ?_
  show Steps p.tables e below (T0.setTop (mkF m 59 #[.val (.ref a0), .val (.int p1), .val (.int p2), .val (.int p3), .val (.int w9), .val (.int w14)] [(.int (1 : Int32))])) _
  refine XS.iload X0.here hx rfl (hb hby d3_59) rfl ?_
  show Steps p.tables e below (T0.setTop (mkF m 61 #[.val (.ref a0), .val (.int p1), .val (.int p2), .val (.int p3), .val (.int w9), .val (.int w14)] [(.int w9), (.int (1 : Int32))])) _
  refine XS.iconst X0.here hx rfl (hb hby d3_61) ?_
  show Steps p.tables e below (T0.setTop (mkF m 62 #[.val (.ref a0), .val (.int p1), .val (.int p2), .val (.int p3), .val (.int w9), .val (.int w14)] [(.int (1 : Int32)), (.int w9), (.int (1 : Int32))])) _
  refine XS.isub X0.here hx rfl (hb hby d3_62) rfl ?_
  show Steps p.tables e below (T0.setTop (mkF m 63 #[.val (.ref a0), .val (.int p1), .val (.int p2), .val (.int p3), .val (.int w9), .val (.int w14)] [(.int (w9 - (1 : Int32))), (.int (1 : Int32))])) _
  refine XS.ishl X0.here hx rfl (hb hby d3_63) rfl ?_
  show Steps p.tables e below (T0.setTop (mkF m 64 #[.val (.ref a0), .val (.int p1), .val (.int p2), .val (.int p3), .val (.int w9), .val (.int w14)] [(.int ((1 : Int32) <<< ((w9 - (1 : Int32)) &&& 31)))])) _
  exact retI X0 hx hret (hb hby d3_64) hr
def own3_f65 (a0 : Addr) (p1 : Int32) (p2 : Int32) (p3 : Int32) (cl : Cell) (w9 : Int32) (w14 : Int32) : Int32 := (0 : Int32)
theorem own3_e65 (a0 : Addr) (p1 : Int32) (p2 : Int32) (p3 : Int32) (cl : Cell) (w9 : Int32) (w14 : Int32) : (own3_f65 a0 p1 p2 p3 cl w9 w14) = (0 : Int32) := rfl
set_option maxRecDepth 65536 in
set_option maxHeartbeats 40000000 in
theorem own3_b65 {p : Program} {l : Launch} {e : Env} {R : Room} {s : State} {m : MethodId} {args : Array Value} {below : List Frame} {meth : Method} {c : Code} {T0 : State} {locs : List Loc} {cells slots : Nat} {Z : State} {t0 : Array Value} {h0 : Heap} (a0 : Addr) (p1 : Int32) (p2 : Int32) (p3 : Int32) (cl : Cell) (w9 : Int32) (w14 : Int32) (X0 : Stand p l e R s m args below meth c T0 locs cells slots) (hx : p.tables.exec = Jvm.exec) (hZ : Z.Warmed39 s.vm) (hw : ∀ d ∈ tables_1, d.before t0 Z = true) (hby : c.code = method_3_code) (hown : s.vm.findClass "com/example/columella/columella/ipc/HuffmanStartsPinLaw" = some m.cls) (e0 : T0.heap = h0) (Ar : Arr Z h0 a0 cl .int) (hin9 : ¬ (p1 < 0 ∨ cl.slots.size ≤ (p1).toNatClampNeg)) (hat9 : cl.slots[(p1).toNatClampNeg]? = some (.int w9)) (hin14 : ¬ (p2 < 0 ∨ cl.slots.size ≤ (p2).toNatClampNeg)) (hat14 : cl.slots[(p2).toNatClampNeg]? = some (.int w14)) (hret : meth.sig.returnType = some .int) {fs : List Frame} (hr : ∀ (f : JFrame) (acts : List Action), f.method = m → f.locked = none → f.entered = [] → (doReturn e (T0.setTop f) acts (some (.int (own3_f65 a0 p1 p2 p3 cl w9 w14)))).1 = T0.setFrames fs) : Steps p.tables e below (T0.setTop (mkF m 65 #[.val (.ref a0), .val (.int p1), .val (.int p2), .val (.int p3), .val (.int w9), .val (.int w14)] [])) (T0.setFrames fs) := by
  rw [own3_e65] at hr
  show Steps p.tables e below (T0.setTop (mkF m 65 #[.val (.ref a0), .val (.int p1), .val (.int p2), .val (.int p3), .val (.int w9), .val (.int w14)] [])) _
  refine XS.iconst X0.here hx rfl (hb hby d3_65) ?_
  show Steps p.tables e below (T0.setTop (mkF m 66 #[.val (.ref a0), .val (.int p1), .val (.int p2), .val (.int p3), .val (.int w9), .val (.int w14)] [(.int (0 : Int32))])) _
  exact retI X0 hx hret (hb hby d3_66) hr
def own3_f0 (a0 : Addr) (p1 : Int32) (p2 : Int32) (p3 : Int32) (cl : Cell) (w9 : Int32) (w14 : Int32) : Int32 := (if p1 = p2 then (0 : Int32) else (if w9 < (1 : Int32) then (own3_f29 a0 p1 p2 p3 cl w9 w14) else (if p3 < w9 then (own3_f29 a0 p1 p2 p3 cl w9 w14) else (if w14 < (1 : Int32) then (0 : Int32) else (if w9 < w14 then (own3_f58 a0 p1 p2 p3 cl w9 w14) else (if w9 = w14 then (if p1 < p2 then (own3_f58 a0 p1 p2 p3 cl w9 w14) else (own3_f65 a0 p1 p2 p3 cl w9 w14)) else (own3_f65 a0 p1 p2 p3 cl w9 w14)))))))
theorem own3_e0 (a0 : Addr) (p1 : Int32) (p2 : Int32) (p3 : Int32) (cl : Cell) (w9 : Int32) (w14 : Int32) : (own3_f0 a0 p1 p2 p3 cl w9 w14) = (if p1 = p2 then (0 : Int32) else (if w9 < (1 : Int32) then (own3_f29 a0 p1 p2 p3 cl w9 w14) else (if p3 < w9 then (own3_f29 a0 p1 p2 p3 cl w9 w14) else (if w14 < (1 : Int32) then (0 : Int32) else (if w9 < w14 then (own3_f58 a0 p1 p2 p3 cl w9 w14) else (if w9 = w14 then (if p1 < p2 then (own3_f58 a0 p1 p2 p3 cl w9 w14) else (own3_f65 a0 p1 p2 p3 cl w9 w14)) else (own3_f65 a0 p1 p2 p3 cl w9 w14))))))) := rfl
set_option maxRecDepth 65536 in
set_option maxHeartbeats 40000000 in
theorem own3_b0 {p : Program} {l : Launch} {e : Env} {R : Room} {s : State} {m : MethodId} {args : Array Value} {below : List Frame} {meth : Method} {c : Code} {T0 : State} {locs : List Loc} {cells slots : Nat} {Z : State} {t0 : Array Value} {h0 : Heap} (a0 : Addr) (p1 : Int32) (p2 : Int32) (p3 : Int32) (cl : Cell) (w9 : Int32) (w14 : Int32) (X0 : Stand p l e R s m args below meth c T0 locs cells slots) (hx : p.tables.exec = Jvm.exec) (hZ : Z.Warmed39 s.vm) (hw : ∀ d ∈ tables_1, d.before t0 Z = true) (hby : c.code = method_3_code) (hown : s.vm.findClass "com/example/columella/columella/ipc/HuffmanStartsPinLaw" = some m.cls) (e0 : T0.heap = h0) (Ar : Arr Z h0 a0 cl .int) (hin9 : ¬ (p1 < 0 ∨ cl.slots.size ≤ (p1).toNatClampNeg)) (hat9 : cl.slots[(p1).toNatClampNeg]? = some (.int w9)) (hin14 : ¬ (p2 < 0 ∨ cl.slots.size ≤ (p2).toNatClampNeg)) (hat14 : cl.slots[(p2).toNatClampNeg]? = some (.int w14)) (hret : meth.sig.returnType = some .int) {fs : List Frame} (hr : ∀ (f : JFrame) (acts : List Action), f.method = m → f.locked = none → f.entered = [] → (doReturn e (T0.setTop f) acts (some (.int (own3_f0 a0 p1 p2 p3 cl w9 w14)))).1 = T0.setFrames fs) : Steps p.tables e below (T0.setTop (mkF m 0 #[.val (.ref a0), .val (.int p1), .val (.int p2), .val (.int p3), .unset, .unset] [])) (T0.setFrames fs) := by
  rw [own3_e0] at hr
  show Steps p.tables e below (T0.setTop (mkF m 0 #[.val (.ref a0), .val (.int p1), .val (.int p2), .val (.int p3), .unset, .unset] [])) _
  refine XS.iloadN X0.here hx rfl (hb hby d3_0) rfl ?_
  show Steps p.tables e below (T0.setTop (mkF m 1 #[.val (.ref a0), .val (.int p1), .val (.int p2), .val (.int p3), .unset, .unset] [(.int p1)])) _
  refine XS.iloadN X0.here hx rfl (hb hby d3_1) rfl ?_
  by_cases hc2 : p1 = p2
  · rw [if_pos hc2] at hr
    show Steps p.tables e below (T0.setTop (mkF m 2 #[.val (.ref a0), .val (.int p1), .val (.int p2), .val (.int p3), .unset, .unset] [(.int p2), (.int p1)])) _
    refine XS.icmpNo X0.here hx rfl (hb hby d3_2) rfl (teq hc2).2 ?_
    show Steps p.tables e below (T0.setTop (mkF m 5 #[.val (.ref a0), .val (.int p1), .val (.int p2), .val (.int p3), .unset, .unset] [])) _
    refine XS.iconst X0.here hx rfl (hb hby d3_5) ?_
    show Steps p.tables e below (T0.setTop (mkF m 6 #[.val (.ref a0), .val (.int p1), .val (.int p2), .val (.int p3), .unset, .unset] [(.int (0 : Int32))])) _
    exact retI X0 hx hret (hb hby d3_6) hr
  · rw [if_neg hc2] at hr
    show Steps p.tables e below (T0.setTop (mkF m 2 #[.val (.ref a0), .val (.int p1), .val (.int p2), .val (.int p3), .unset, .unset] [(.int p2), (.int p1)])) _
    refine XS.icmpYes X0.here hx rfl (pc0 := 2) (pc' := 7) rfl (hb hby d3_2) rfl (feq hc2).2 (by decide) (by decide) ?_
    show Steps p.tables e below (T0.setTop (mkF m 7 #[.val (.ref a0), .val (.int p1), .val (.int p2), .val (.int p3), .unset, .unset] [])) _
    refine XS.aloadN X0.here hx rfl (hb hby d3_7) rfl rfl ?_
    show Steps p.tables e below (T0.setTop (mkF m 8 #[.val (.ref a0), .val (.int p1), .val (.int p2), .val (.int p3), .unset, .unset] [(.ref a0)])) _
    refine XS.iloadN X0.here hx rfl (hb hby d3_8) rfl ?_
    show Steps p.tables e below (T0.setTop (mkF m 9 #[.val (.ref a0), .val (.int p1), .val (.int p2), .val (.int p3), .unset, .unset] [(.int p1), (.ref a0)])) _
    refine X0.iaload hx (j := p1) (v := (.int w9)) (by rw [e0]; exact Ar.1) (State.isArrayOf_alike hZ.alike Ar.2.1) Ar.2.2 hin9 hat9 (g := (mkF m 9 #[.val (.ref a0), .val (.int p1), .val (.int p2), .val (.int p3), .unset, .unset] [(.int p1), (.ref a0)])) rfl rfl (hb hby d3_9) _ ?_
    show Steps p.tables e below (T0.setTop (mkF m 10 #[.val (.ref a0), .val (.int p1), .val (.int p2), .val (.int p3), .unset, .unset] [(.int w9)])) _
    refine XS.istore X0.here hx rfl (hb hby d3_10) rfl (l' := #[.val (.ref a0), .val (.int p1), .val (.int p2), .val (.int p3), .val (.int w9), .unset]) rfl ?_
    show Steps p.tables e below (T0.setTop (mkF m 12 #[.val (.ref a0), .val (.int p1), .val (.int p2), .val (.int p3), .val (.int w9), .unset] [])) _
    refine XS.aloadN X0.here hx rfl (hb hby d3_12) rfl rfl ?_
    show Steps p.tables e below (T0.setTop (mkF m 13 #[.val (.ref a0), .val (.int p1), .val (.int p2), .val (.int p3), .val (.int w9), .unset] [(.ref a0)])) _
    refine XS.iloadN X0.here hx rfl (hb hby d3_13) rfl ?_
    show Steps p.tables e below (T0.setTop (mkF m 14 #[.val (.ref a0), .val (.int p1), .val (.int p2), .val (.int p3), .val (.int w9), .unset] [(.int p2), (.ref a0)])) _
    refine X0.iaload hx (j := p2) (v := (.int w14)) (by rw [e0]; exact Ar.1) (State.isArrayOf_alike hZ.alike Ar.2.1) Ar.2.2 hin14 hat14 (g := (mkF m 14 #[.val (.ref a0), .val (.int p1), .val (.int p2), .val (.int p3), .val (.int w9), .unset] [(.int p2), (.ref a0)])) rfl rfl (hb hby d3_14) _ ?_
    show Steps p.tables e below (T0.setTop (mkF m 15 #[.val (.ref a0), .val (.int p1), .val (.int p2), .val (.int p3), .val (.int w9), .unset] [(.int w14)])) _
    refine XS.istore X0.here hx rfl (hb hby d3_15) rfl (l' := #[.val (.ref a0), .val (.int p1), .val (.int p2), .val (.int p3), .val (.int w9), .val (.int w14)]) rfl ?_
    show Steps p.tables e below (T0.setTop (mkF m 17 #[.val (.ref a0), .val (.int p1), .val (.int p2), .val (.int p3), .val (.int w9), .val (.int w14)] [])) _
    refine XS.iload X0.here hx rfl (hb hby d3_17) rfl ?_
    show Steps p.tables e below (T0.setTop (mkF m 19 #[.val (.ref a0), .val (.int p1), .val (.int p2), .val (.int p3), .val (.int w9), .val (.int w14)] [(.int w9)])) _
    refine XS.iconst X0.here hx rfl (hb hby d3_19) ?_
    by_cases hc20 : w9 < (1 : Int32)
    · rw [if_pos hc20] at hr
      show Steps p.tables e below (T0.setTop (mkF m 20 #[.val (.ref a0), .val (.int p1), .val (.int p2), .val (.int p3), .val (.int w9), .val (.int w14)] [(.int (1 : Int32)), (.int w9)])) _
      refine XS.icmpYes X0.here hx rfl (pc0 := 20) (pc' := 29) rfl (hb hby d3_20) rfl (tlt hc20).1 (by decide) (by decide) ?_
      exact own3_b29 a0 p1 p2 p3 cl w9 w14 X0 hx hZ hw hby hown e0 Ar hin9 hat9 hin14 hat14 hret hr
    · rw [if_neg hc20] at hr
      show Steps p.tables e below (T0.setTop (mkF m 20 #[.val (.ref a0), .val (.int p1), .val (.int p2), .val (.int p3), .val (.int w9), .val (.int w14)] [(.int (1 : Int32)), (.int w9)])) _
      refine XS.icmpNo X0.here hx rfl (hb hby d3_20) rfl (flt hc20).1 ?_
      show Steps p.tables e below (T0.setTop (mkF m 23 #[.val (.ref a0), .val (.int p1), .val (.int p2), .val (.int p3), .val (.int w9), .val (.int w14)] [])) _
      refine XS.iload X0.here hx rfl (hb hby d3_23) rfl ?_
      show Steps p.tables e below (T0.setTop (mkF m 25 #[.val (.ref a0), .val (.int p1), .val (.int p2), .val (.int p3), .val (.int w9), .val (.int w14)] [(.int w9)])) _
      refine XS.iloadN X0.here hx rfl (hb hby d3_25) rfl ?_
      by_cases hc26 : p3 < w9
      · rw [if_pos hc26] at hr
        show Steps p.tables e below (T0.setTop (mkF m 26 #[.val (.ref a0), .val (.int p1), .val (.int p2), .val (.int p3), .val (.int w9), .val (.int w14)] [(.int p3), (.int w9)])) _
        refine XS.icmpNo X0.here hx rfl (hb hby d3_26) rfl (tlt hc26).2.2.2 ?_
        exact own3_b29 a0 p1 p2 p3 cl w9 w14 X0 hx hZ hw hby hown e0 Ar hin9 hat9 hin14 hat14 hret hr
      · rw [if_neg hc26] at hr
        show Steps p.tables e below (T0.setTop (mkF m 26 #[.val (.ref a0), .val (.int p1), .val (.int p2), .val (.int p3), .val (.int w9), .val (.int w14)] [(.int p3), (.int w9)])) _
        refine XS.icmpYes X0.here hx rfl (pc0 := 26) (pc' := 31) rfl (hb hby d3_26) rfl (flt hc26).2.2.2 (by decide) (by decide) ?_
        show Steps p.tables e below (T0.setTop (mkF m 31 #[.val (.ref a0), .val (.int p1), .val (.int p2), .val (.int p3), .val (.int w9), .val (.int w14)] [])) _
        refine XS.iload X0.here hx rfl (hb hby d3_31) rfl ?_
        show Steps p.tables e below (T0.setTop (mkF m 33 #[.val (.ref a0), .val (.int p1), .val (.int p2), .val (.int p3), .val (.int w9), .val (.int w14)] [(.int w14)])) _
        refine XS.iconst X0.here hx rfl (hb hby d3_33) ?_
        by_cases hc34 : w14 < (1 : Int32)
        · rw [if_pos hc34] at hr
          show Steps p.tables e below (T0.setTop (mkF m 34 #[.val (.ref a0), .val (.int p1), .val (.int p2), .val (.int p3), .val (.int w9), .val (.int w14)] [(.int (1 : Int32)), (.int w14)])) _
          refine XS.icmpNo X0.here hx rfl (hb hby d3_34) rfl (tlt hc34).2.1 ?_
          show Steps p.tables e below (T0.setTop (mkF m 37 #[.val (.ref a0), .val (.int p1), .val (.int p2), .val (.int p3), .val (.int w9), .val (.int w14)] [])) _
          refine XS.iconst X0.here hx rfl (hb hby d3_37) ?_
          show Steps p.tables e below (T0.setTop (mkF m 38 #[.val (.ref a0), .val (.int p1), .val (.int p2), .val (.int p3), .val (.int w9), .val (.int w14)] [(.int (0 : Int32))])) _
          exact retI X0 hx hret (hb hby d3_38) hr
        · rw [if_neg hc34] at hr
          show Steps p.tables e below (T0.setTop (mkF m 34 #[.val (.ref a0), .val (.int p1), .val (.int p2), .val (.int p3), .val (.int w9), .val (.int w14)] [(.int (1 : Int32)), (.int w14)])) _
          refine XS.icmpYes X0.here hx rfl (pc0 := 34) (pc' := 39) rfl (hb hby d3_34) rfl (flt hc34).2.1 (by decide) (by decide) ?_
          show Steps p.tables e below (T0.setTop (mkF m 39 #[.val (.ref a0), .val (.int p1), .val (.int p2), .val (.int p3), .val (.int w9), .val (.int w14)] [])) _
          refine XS.iload X0.here hx rfl (hb hby d3_39) rfl ?_
          show Steps p.tables e below (T0.setTop (mkF m 41 #[.val (.ref a0), .val (.int p1), .val (.int p2), .val (.int p3), .val (.int w9), .val (.int w14)] [(.int w9)])) _
          refine XS.iload X0.here hx rfl (hb hby d3_41) rfl ?_
          by_cases hc43 : w9 < w14
          · rw [if_pos hc43] at hr
            show Steps p.tables e below (T0.setTop (mkF m 43 #[.val (.ref a0), .val (.int p1), .val (.int p2), .val (.int p3), .val (.int w9), .val (.int w14)] [(.int w14), (.int w9)])) _
            refine XS.icmpYes X0.here hx rfl (pc0 := 43) (pc' := 58) rfl (hb hby d3_43) rfl (tlt hc43).1 (by decide) (by decide) ?_
            exact own3_b58 a0 p1 p2 p3 cl w9 w14 X0 hx hZ hw hby hown e0 Ar hin9 hat9 hin14 hat14 hret hr
          · rw [if_neg hc43] at hr
            show Steps p.tables e below (T0.setTop (mkF m 43 #[.val (.ref a0), .val (.int p1), .val (.int p2), .val (.int p3), .val (.int w9), .val (.int w14)] [(.int w14), (.int w9)])) _
            refine XS.icmpNo X0.here hx rfl (hb hby d3_43) rfl (flt hc43).1 ?_
            show Steps p.tables e below (T0.setTop (mkF m 46 #[.val (.ref a0), .val (.int p1), .val (.int p2), .val (.int p3), .val (.int w9), .val (.int w14)] [])) _
            refine XS.iload X0.here hx rfl (hb hby d3_46) rfl ?_
            show Steps p.tables e below (T0.setTop (mkF m 48 #[.val (.ref a0), .val (.int p1), .val (.int p2), .val (.int p3), .val (.int w9), .val (.int w14)] [(.int w9)])) _
            refine XS.iload X0.here hx rfl (hb hby d3_48) rfl ?_
            by_cases hc50 : w9 = w14
            · rw [if_pos hc50] at hr
              show Steps p.tables e below (T0.setTop (mkF m 50 #[.val (.ref a0), .val (.int p1), .val (.int p2), .val (.int p3), .val (.int w9), .val (.int w14)] [(.int w14), (.int w9)])) _
              refine XS.icmpNo X0.here hx rfl (hb hby d3_50) rfl (teq hc50).2 ?_
              show Steps p.tables e below (T0.setTop (mkF m 53 #[.val (.ref a0), .val (.int p1), .val (.int p2), .val (.int p3), .val (.int w9), .val (.int w14)] [])) _
              refine XS.iloadN X0.here hx rfl (hb hby d3_53) rfl ?_
              show Steps p.tables e below (T0.setTop (mkF m 54 #[.val (.ref a0), .val (.int p1), .val (.int p2), .val (.int p3), .val (.int w9), .val (.int w14)] [(.int p1)])) _
              refine XS.iloadN X0.here hx rfl (hb hby d3_54) rfl ?_
              by_cases hc55 : p1 < p2
              · rw [if_pos hc55] at hr
                show Steps p.tables e below (T0.setTop (mkF m 55 #[.val (.ref a0), .val (.int p1), .val (.int p2), .val (.int p3), .val (.int w9), .val (.int w14)] [(.int p2), (.int p1)])) _
                refine XS.icmpNo X0.here hx rfl (hb hby d3_55) rfl (tlt hc55).2.1 ?_
                exact own3_b58 a0 p1 p2 p3 cl w9 w14 X0 hx hZ hw hby hown e0 Ar hin9 hat9 hin14 hat14 hret hr
              · rw [if_neg hc55] at hr
                show Steps p.tables e below (T0.setTop (mkF m 55 #[.val (.ref a0), .val (.int p1), .val (.int p2), .val (.int p3), .val (.int w9), .val (.int w14)] [(.int p2), (.int p1)])) _
                refine XS.icmpYes X0.here hx rfl (pc0 := 55) (pc' := 65) rfl (hb hby d3_55) rfl (flt hc55).2.1 (by decide) (by decide) ?_
                exact own3_b65 a0 p1 p2 p3 cl w9 w14 X0 hx hZ hw hby hown e0 Ar hin9 hat9 hin14 hat14 hret hr
            · rw [if_neg hc50] at hr
              show Steps p.tables e below (T0.setTop (mkF m 50 #[.val (.ref a0), .val (.int p1), .val (.int p2), .val (.int p3), .val (.int w9), .val (.int w14)] [(.int w14), (.int w9)])) _
              refine XS.icmpYes X0.here hx rfl (pc0 := 50) (pc' := 65) rfl (hb hby d3_50) rfl (feq hc50).2 (by decide) (by decide) ?_
              exact own3_b65 a0 p1 p2 p3 cl w9 w14 X0 hx hZ hw hby hown e0 Ar hin9 hat9 hin14 hat14 hret hr
theorem ef_3 (m : MethodId) (a0 : Addr) (p1 : Int32) (p2 : Int32) (p3 : Int32) : entryFrame m #[(.ref a0), (.int p1), (.int p2), (.int p3)] 6 = mkF m 0 #[.val (.ref a0), .val (.int p1), .val (.int p2), .val (.int p3), .unset, .unset] [] := by first | (simp [entryFrame, mkF, argsToLocals, Value.category]; done) | rfl
theorem pn_3 : plainName "com/example/columella/columella/ipc/HuffmanStartsPinLaw" = true := by first | (simp [plainName, overriddenIn]; done) | decide +kernel
def Q3 (a0 : Addr) (p1 : Int32) (p2 : Int32) (p3 : Int32) (cl : Cell) (w9 : Int32) (w14 : Int32) (h0 : Heap) (n0 : Nat) (v : Option Value) (h : Heap) (L : List Loc) : Prop := v = some (.int (own3_f0 a0 p1 p2 p3 cl w9 w14)) ∧ Fr n0 L ∧ h = h0
set_option maxRecDepth 65536 in
set_option maxHeartbeats 40000000 in
theorem rm3 (l : Launch) (Z : State) (t0 : Array Value) (hw : ∀ d ∈ tables_1, d.before t0 Z = true) (ws : List Jvm.Cond) (a0 : Addr) (p1 : Int32) (p2 : Int32) (p3 : Int32) (cl : Cell) (w9 : Int32) (w14 : Int32) (h0 : Heap) (n0 : Nat) (Z0 : n0 ≤ h0.size) (Ar : Arr Z h0 a0 cl .int) (hin9 : ¬ (p1 < 0 ∨ cl.slots.size ≤ (p1).toNatClampNeg)) (hat9 : cl.slots[(p1).toNatClampNeg]? = some (.int w9)) (hin14 : ¬ (p2 < 0 ∨ cl.slots.size ≤ (p2).toNatClampNeg)) (hat14 : cl.slots[(p2).toNatClampNeg]? = some (.int w14)) :
    MetFree l (⟨"com/example/columella/columella/ipc/HuffmanStartsPinLaw", "term", "([IIII)I"⟩ : MethodName) (head1 (Jvm.Cond.code (⟨"com/example/columella/columella/ipc/HuffmanStartsPinLaw", "term", "([IIII)I"⟩ : MethodName) method_3_code 6 (some .int) :: ws) ({ frames := 0, cells := 0, slots := 0, locals := 0 } : Room)) (fun a U => a = #[(.ref a0), (.int p1), (.int p2), (.int p3)] ∧ Z.Warmed39 U.vm ∧ U.heap = h0) (fun _ _ _ _ _ => True) (fun _ U o U' => ∃ v L, o = .returned v ∧ Q3 a0 p1 p2 p3 cl w9 w14 h0 n0 v U'.heap L ∧ FrameEnd U o U' L ({ frames := 0, cells := 0, slots := 0, locals := 0 } : Room).cells ({ frames := 0, cells := 0, slots := 0, locals := 0 } : Room).slots) := by
  refine MetFree.of_bodySF (plainFor_of_name pn_3) hisR ?_
  intro p e s m args below meth c s₁ Bd hml0 hP hK
  obtain ⟨rfl, hZ, hh⟩ := hP
  have hx := Bd.exec
  have hby := Bd.bytes
  have hml : c.maxLocals = 6 := hml0
  have hown : s.vm.findClass "com/example/columella/columella/ipc/HuffmanStartsPinLaw" = some m.cls := findClass_of_methodNamed Bd.named
  have hnm := (name_of_methodNamed Bd.named Bd.method).1
  have X0 : Stand p l e ({ frames := 0, cells := 0, slots := 0, locals := 0 } : Room) s m #[(.ref a0), (.int p1), (.int p2), (.int p3)] below meth c s₁ [] 0 0 := Stand.of_body Bd
  have e0 : s₁.heap = h0 := by rw [← hh, Bd.state]; rfl
  have N0 := Fr.nil n0
  have pre0 : ∀ t, Steps p.tables e below (s₁.setTop (mkF m 0 #[.val (.ref a0), .val (.int p1), .val (.int p2), .val (.int p3), .unset, .unset] [])) t → Steps p.tables e below (s₁.setTop (entryFrame m #[(.ref a0), (.int p1), (.int p2), (.int p3)] 6)) t := fun t k => castTop (ef_3 m a0 p1 p2 p3) k
  obtain ⟨fs, hr, hrun, hended, hW, hsame⟩ := X0.leave (v := some (.int (own3_f0 a0 p1 p2 p3 cl w9 w14))) (fun h => by rw [Bd.returns] at h; cases h)
  refine ⟨_, _, pre0 _ ?_, hrun, hended, _, _, rfl, ?_, ⟨_, rfl⟩, hW, hsame.mono (by decide) (by decide)⟩
  · exact own3_b0 a0 p1 p2 p3 cl w9 w14 X0 hx hZ hw hby hown e0 Ar hin9 hat9 hin14 hat14 Bd.returns hr
  · show Q3 a0 p1 p2 p3 cl w9 w14 h0 n0 _ s₁.heap _
    rw [e0]
    exact ⟨rfl, N0, rfl⟩
theorem pd_2_0 : parseMethodDescriptor "([IIII)I" = some ⟨[(.array .int), .int, .int, .int], some .int⟩ := by decide +kernel
theorem d2_0 : decode method_4_code 0 = .ok (.aload_n 0, 1) := by decide +kernel
theorem d2_1 : decode method_4_code 1 = .ok (.iconst 0, 1) := by decide +kernel
theorem d2_2 : decode method_4_code 2 = .ok (.iload_n 1, 1) := by decide +kernel
theorem d2_3 : decode method_4_code 3 = .ok (.iload_n 2, 1) := by decide +kernel
theorem d2_4 : decode method_4_code 4 = .ok (.invokestatic 20, 3) := by decide +kernel
theorem d2_7 : decode method_4_code 7 = .ok (.aload_n 0, 1) := by decide +kernel
theorem d2_8 : decode method_4_code 8 = .ok (.iconst 1, 1) := by decide +kernel
theorem d2_9 : decode method_4_code 9 = .ok (.iload_n 1, 1) := by decide +kernel
theorem d2_10 : decode method_4_code 10 = .ok (.iload_n 2, 1) := by decide +kernel
theorem d2_11 : decode method_4_code 11 = .ok (.invokestatic 20, 3) := by decide +kernel
theorem d2_14 : decode method_4_code 14 = .ok (.iadd, 1) := by decide +kernel
theorem d2_15 : decode method_4_code 15 = .ok (.aload_n 0, 1) := by decide +kernel
theorem d2_16 : decode method_4_code 16 = .ok (.iconst 2, 1) := by decide +kernel
theorem d2_17 : decode method_4_code 17 = .ok (.iload_n 1, 1) := by decide +kernel
theorem d2_18 : decode method_4_code 18 = .ok (.iload_n 2, 1) := by decide +kernel
theorem d2_19 : decode method_4_code 19 = .ok (.invokestatic 20, 3) := by decide +kernel
theorem d2_22 : decode method_4_code 22 = .ok (.iadd, 1) := by decide +kernel
theorem d2_23 : decode method_4_code 23 = .ok (.aload_n 0, 1) := by decide +kernel
theorem d2_24 : decode method_4_code 24 = .ok (.iconst 3, 1) := by decide +kernel
theorem d2_25 : decode method_4_code 25 = .ok (.iload_n 1, 1) := by decide +kernel
theorem d2_26 : decode method_4_code 26 = .ok (.iload_n 2, 1) := by decide +kernel
theorem d2_27 : decode method_4_code 27 = .ok (.invokestatic 20, 3) := by decide +kernel
theorem d2_30 : decode method_4_code 30 = .ok (.iadd, 1) := by decide +kernel
theorem d2_31 : decode method_4_code 31 = .ok (.aload_n 0, 1) := by decide +kernel
theorem d2_32 : decode method_4_code 32 = .ok (.iconst 4, 1) := by decide +kernel
theorem d2_33 : decode method_4_code 33 = .ok (.iload_n 1, 1) := by decide +kernel
theorem d2_34 : decode method_4_code 34 = .ok (.iload_n 2, 1) := by decide +kernel
theorem d2_35 : decode method_4_code 35 = .ok (.invokestatic 20, 3) := by decide +kernel
theorem d2_38 : decode method_4_code 38 = .ok (.iadd, 1) := by decide +kernel
theorem d2_39 : decode method_4_code 39 = .ok (.ireturn, 1) := by decide +kernel
theorem ef_2 (m : MethodId) (a0 : Addr) (p1 : Int32) (p2 : Int32) : entryFrame m #[(.ref a0), (.int p1), (.int p2)] 3 = mkF m 0 #[.val (.ref a0), .val (.int p1), .val (.int p2)] [] := by first | (simp [entryFrame, mkF, argsToLocals, Value.category]; done) | rfl
theorem pn_2 : plainName "com/example/columella/columella/ipc/HuffmanStartsPinLaw" = true := by first | (simp [plainName, overriddenIn]; done) | decide +kernel
def own_ex (a0 : Addr) (p1 : Int32) (p2 : Int32) (cl : Cell) (x0 : Int32) (x1 : Int32) (x2 : Int32) (x3 : Int32) (x4 : Int32) (wi : Int32) : Int32 := (((((own3_f0 a0 (0 : Int32) p1 p2 cl x0 wi) + (own3_f0 a0 (1 : Int32) p1 p2 cl x1 wi)) + (own3_f0 a0 (2 : Int32) p1 p2 cl x2 wi)) + (own3_f0 a0 (3 : Int32) p1 p2 cl x3 wi)) + (own3_f0 a0 (4 : Int32) p1 p2 cl x4 wi))
theorem own_exe (a0 : Addr) (p1 : Int32) (p2 : Int32) (cl : Cell) (x0 : Int32) (x1 : Int32) (x2 : Int32) (x3 : Int32) (x4 : Int32) (wi : Int32) : own_ex a0 p1 p2 cl x0 x1 x2 x3 x4 wi = (((((own3_f0 a0 (0 : Int32) p1 p2 cl x0 wi) + (own3_f0 a0 (1 : Int32) p1 p2 cl x1 wi)) + (own3_f0 a0 (2 : Int32) p1 p2 cl x2 wi)) + (own3_f0 a0 (3 : Int32) p1 p2 cl x3 wi)) + (own3_f0 a0 (4 : Int32) p1 p2 cl x4 wi)) := rfl
def Q2 (a0 : Addr) (p1 : Int32) (p2 : Int32) (cl : Cell) (x0 : Int32) (x1 : Int32) (x2 : Int32) (x3 : Int32) (x4 : Int32) (wi : Int32) (h0 : Heap) (n0 : Nat) (v : Option Value) (h : Heap) (L : List Loc) : Prop := v = some (.int (own_ex a0 p1 p2 cl x0 x1 x2 x3 x4 wi)) ∧ Fr n0 L ∧ h = h0
set_option maxRecDepth 65536 in
set_option maxHeartbeats 40000000 in
theorem rm2 (l : Launch) (Z : State) (t0 : Array Value) (hw : ∀ d ∈ tables_1, d.before t0 Z = true) (ws : List Jvm.Cond) (a0 : Addr) (p1 : Int32) (p2 : Int32) (cl : Cell) (x0 : Int32) (x1 : Int32) (x2 : Int32) (x3 : Int32) (x4 : Int32) (wi : Int32) (h0 : Heap) (n0 : Nat) (Z0 : n0 ≤ h0.size) (Ar : Arr Z h0 a0 cl .int) (S : cl.slots.size = (5 : Int32).toNatClampNeg) (H : Has cl [(.int x0), (.int x1), (.int x2), (.int x3), (.int x4)] (.int (0 : Int32))) (hin : ¬ (p1 < 0 ∨ cl.slots.size ≤ (p1).toNatClampNeg)) (hat : cl.slots[(p1).toNatClampNeg]? = some (.int wi)) :
    MetFree l (⟨"com/example/columella/columella/ipc/HuffmanStartsPinLaw", "expected", "([III)I"⟩ : MethodName) (head1 (Jvm.Cond.code (⟨"com/example/columella/columella/ipc/HuffmanStartsPinLaw", "expected", "([III)I"⟩ : MethodName) method_4_code 3 (some .int) :: ws) ({ frames := 1, cells := 0, slots := 0, locals := 18 } : Room)) (fun a U => a = #[(.ref a0), (.int p1), (.int p2)] ∧ Z.Warmed39 U.vm ∧ U.heap = h0) (fun _ _ _ _ _ => True) (fun _ U o U' => ∃ v L, o = .returned v ∧ Q2 a0 p1 p2 cl x0 x1 x2 x3 x4 wi h0 n0 v U'.heap L ∧ FrameEnd U o U' L ({ frames := 1, cells := 0, slots := 0, locals := 18 } : Room).cells ({ frames := 1, cells := 0, slots := 0, locals := 18 } : Room).slots) := by
  refine MetFree.of_bodySF (plainFor_of_name pn_2) hisR ?_
  intro p e s m args below meth c s₁ Bd hml0 hP hK
  obtain ⟨rfl, hZ, hh⟩ := hP
  have hx := Bd.exec
  have hby := Bd.bytes
  have hml : c.maxLocals = 3 := hml0
  have hown : s.vm.findClass "com/example/columella/columella/ipc/HuffmanStartsPinLaw" = some m.cls := findClass_of_methodNamed Bd.named
  have hnm := (name_of_methodNamed Bd.named Bd.method).1
  have X0 : Stand p l e ({ frames := 1, cells := 0, slots := 0, locals := 18 } : Room) s m #[(.ref a0), (.int p1), (.int p2)] below meth c s₁ [] 0 0 := Stand.of_body Bd
  have e0 : s₁.heap = h0 := by rw [← hh, Bd.state]; rfl
  have N0 := Fr.nil n0
  have pre0 : ∀ t, Steps p.tables e below (s₁.setTop (mkF m 0 #[.val (.ref a0), .val (.int p1), .val (.int p2)] [])) t → Steps p.tables e below (s₁.setTop (entryFrame m #[(.ref a0), (.int p1), (.int p2)] 3)) t := fun t k => castTop (ef_2 m a0 p1 p2) k
  refine own_go pre0 ?_
  refine own_go (B := s₁.setTop (mkF m 4 #[.val (.ref a0), .val (.int p1), .val (.int p2)] [(.int p2), (.int p1), (.int (0 : Int32)), (.ref a0)])) (fun t kt => ?_) ?_
  · show Steps p.tables e below (s₁.setTop (mkF m 0 #[.val (.ref a0), .val (.int p1), .val (.int p2)] [])) _
    refine XS.aloadN X0.here hx rfl (hb hby d2_0) rfl rfl ?_
    show Steps p.tables e below (s₁.setTop (mkF m 1 #[.val (.ref a0), .val (.int p1), .val (.int p2)] [(.ref a0)])) _
    refine XS.iconst X0.here hx rfl (hb hby d2_1) ?_
    show Steps p.tables e below (s₁.setTop (mkF m 2 #[.val (.ref a0), .val (.int p1), .val (.int p2)] [(.int (0 : Int32)), (.ref a0)])) _
    refine XS.iloadN X0.here hx rfl (hb hby d2_2) rfl ?_
    show Steps p.tables e below (s₁.setTop (mkF m 3 #[.val (.ref a0), .val (.int p1), .val (.int p2)] [(.int p1), (.int (0 : Int32)), (.ref a0)])) _
    refine XS.iloadN X0.here hx rfl (hb hby d2_3) rfl ?_
    exact kt
  obtain ⟨_, _, ⟨T1, L1, k1, n1⟩, -, X1, ⟨Lc1, hQ1, l1, y1, z1⟩, st1⟩ := Jvm.LawKit.callS X0 hx (y := (⟨"com/example/columella/columella/ipc/HuffmanStartsPinLaw", "term", "([IIII)I"⟩ : MethodName)) hown (mvT hZ (hw _ (List.mem_of_getElem? (i := 11) rfl))) (mvT hZ (hw _ (List.mem_of_getElem? (i := 12) rfl))) (mvT hZ (hw _ (List.mem_of_getElem? (i := 9) rfl))) (mvT hZ (hw _ (List.mem_of_getElem? (i := 13) rfl))) (by decide) (backOf (W := 0) (rm3 l Z t0 hw [] a0 (0 : Int32) p1 p2 cl x0 wi h0 n0 Z0 Ar (inb_of S ⟨by decide, by decide⟩) (Has.at H (inb_of S ⟨by decide, by decide⟩) rfl) hin hat) hZ (hw _ (List.mem_of_getElem? (i := 13) rfl)) (hw _ (List.mem_of_getElem? (i := 9) rfl)) (by decide) (by decide)) (g := (mkF m 4 #[.val (.ref a0), .val (.int p1), .val (.int p2)] [(.int p2), (.int p1), (.int (0 : Int32)), (.ref a0)])) rfl (by rw [hml]; rfl) (argsL := [(.ref a0), (.int (0 : Int32)), (.int p1), (.int p2)]) (rest := []) (lenOf pd_2_0 rfl) rfl (by show 2 * 0 + _ ≤ _; exact Nat.le_of_eq rfl) (hb hby d2_4) (fun _ _ => ⟨rfl, e0, (by decide : 0 + 0 ≤ _), (by decide : 0 + 0 ≤ _)⟩)
  dsimp only [Pt.U, Pt.locs, Pt.cells, Pt.slots] at X1 l1 y1 z1 st1 hQ1
  subst l1 y1 z1
  obtain ⟨rfl, Nq1, hh1⟩ := hQ1
  have N1 := Fr.app N0 Nq1
  have e1 : T1.heap = h0 := hh1
  refine own_go (B := T1.setTop (mkF m 7 #[.val (.ref a0), .val (.int p1), .val (.int p2)] [(.int (own3_f0 a0 (0 : Int32) p1 p2 cl x0 wi))])) (fun t kt => st1 t kt) ?_
  refine own_go (B := T1.setTop (mkF m 11 #[.val (.ref a0), .val (.int p1), .val (.int p2)] [(.int p2), (.int p1), (.int (1 : Int32)), (.ref a0), (.int (own3_f0 a0 (0 : Int32) p1 p2 cl x0 wi))])) (fun t kt => ?_) ?_
  · show Steps p.tables e below (T1.setTop (mkF m 7 #[.val (.ref a0), .val (.int p1), .val (.int p2)] [(.int (own3_f0 a0 (0 : Int32) p1 p2 cl x0 wi))])) _
    refine XS.aloadN X1.here hx rfl (hb hby d2_7) rfl rfl ?_
    show Steps p.tables e below (T1.setTop (mkF m 8 #[.val (.ref a0), .val (.int p1), .val (.int p2)] [(.ref a0), (.int (own3_f0 a0 (0 : Int32) p1 p2 cl x0 wi))])) _
    refine XS.iconst X1.here hx rfl (hb hby d2_8) ?_
    show Steps p.tables e below (T1.setTop (mkF m 9 #[.val (.ref a0), .val (.int p1), .val (.int p2)] [(.int (1 : Int32)), (.ref a0), (.int (own3_f0 a0 (0 : Int32) p1 p2 cl x0 wi))])) _
    refine XS.iloadN X1.here hx rfl (hb hby d2_9) rfl ?_
    show Steps p.tables e below (T1.setTop (mkF m 10 #[.val (.ref a0), .val (.int p1), .val (.int p2)] [(.int p1), (.int (1 : Int32)), (.ref a0), (.int (own3_f0 a0 (0 : Int32) p1 p2 cl x0 wi))])) _
    refine XS.iloadN X1.here hx rfl (hb hby d2_10) rfl ?_
    exact kt
  obtain ⟨_, _, ⟨T2, L2, k2, n2⟩, -, X2, ⟨Lc2, hQ2, l2, y2, z2⟩, st2⟩ := Jvm.LawKit.callS X1 hx (y := (⟨"com/example/columella/columella/ipc/HuffmanStartsPinLaw", "term", "([IIII)I"⟩ : MethodName)) hown (mvT hZ (hw _ (List.mem_of_getElem? (i := 11) rfl))) (mvT hZ (hw _ (List.mem_of_getElem? (i := 12) rfl))) (mvT hZ (hw _ (List.mem_of_getElem? (i := 9) rfl))) (mvT hZ (hw _ (List.mem_of_getElem? (i := 13) rfl))) (by decide) (backOf (W := 1) (rm3 l Z t0 hw [] a0 (1 : Int32) p1 p2 cl x1 wi h0 n0 Z0 Ar (inb_of S ⟨by decide, by decide⟩) (Has.at H (inb_of S ⟨by decide, by decide⟩) rfl) hin hat) hZ (hw _ (List.mem_of_getElem? (i := 13) rfl)) (hw _ (List.mem_of_getElem? (i := 9) rfl)) (by decide) (by decide)) (g := (mkF m 11 #[.val (.ref a0), .val (.int p1), .val (.int p2)] [(.int p2), (.int p1), (.int (1 : Int32)), (.ref a0), (.int (own3_f0 a0 (0 : Int32) p1 p2 cl x0 wi))])) rfl (by rw [hml]; rfl) (argsL := [(.ref a0), (.int (1 : Int32)), (.int p1), (.int p2)]) (rest := [(.int (own3_f0 a0 (0 : Int32) p1 p2 cl x0 wi))]) (lenOf pd_2_0 rfl) rfl (by show 2 * 0 + _ ≤ _; exact Nat.le_of_eq rfl) (hb hby d2_11) (fun _ _ => ⟨rfl, e1, (by decide : 0 + 0 ≤ _), (by decide : 0 + 0 ≤ _)⟩)
  dsimp only [Pt.U, Pt.locs, Pt.cells, Pt.slots] at X2 l2 y2 z2 st2 hQ2
  subst l2 y2 z2
  obtain ⟨rfl, Nq2, hh2⟩ := hQ2
  have N2 := Fr.app N1 Nq2
  have e2 : T2.heap = h0 := hh2
  refine own_go (B := T2.setTop (mkF m 14 #[.val (.ref a0), .val (.int p1), .val (.int p2)] [(.int (own3_f0 a0 (1 : Int32) p1 p2 cl x1 wi)), (.int (own3_f0 a0 (0 : Int32) p1 p2 cl x0 wi))])) (fun t kt => st2 t kt) ?_
  refine own_go (B := T2.setTop (mkF m 19 #[.val (.ref a0), .val (.int p1), .val (.int p2)] [(.int p2), (.int p1), (.int (2 : Int32)), (.ref a0), (.int ((own3_f0 a0 (0 : Int32) p1 p2 cl x0 wi) + (own3_f0 a0 (1 : Int32) p1 p2 cl x1 wi)))])) (fun t kt => ?_) ?_
  · show Steps p.tables e below (T2.setTop (mkF m 14 #[.val (.ref a0), .val (.int p1), .val (.int p2)] [(.int (own3_f0 a0 (1 : Int32) p1 p2 cl x1 wi)), (.int (own3_f0 a0 (0 : Int32) p1 p2 cl x0 wi))])) _
    refine XS.iadd X2.here hx rfl (hb hby d2_14) rfl ?_
    show Steps p.tables e below (T2.setTop (mkF m 15 #[.val (.ref a0), .val (.int p1), .val (.int p2)] [(.int ((own3_f0 a0 (0 : Int32) p1 p2 cl x0 wi) + (own3_f0 a0 (1 : Int32) p1 p2 cl x1 wi)))])) _
    refine XS.aloadN X2.here hx rfl (hb hby d2_15) rfl rfl ?_
    show Steps p.tables e below (T2.setTop (mkF m 16 #[.val (.ref a0), .val (.int p1), .val (.int p2)] [(.ref a0), (.int ((own3_f0 a0 (0 : Int32) p1 p2 cl x0 wi) + (own3_f0 a0 (1 : Int32) p1 p2 cl x1 wi)))])) _
    refine XS.iconst X2.here hx rfl (hb hby d2_16) ?_
    show Steps p.tables e below (T2.setTop (mkF m 17 #[.val (.ref a0), .val (.int p1), .val (.int p2)] [(.int (2 : Int32)), (.ref a0), (.int ((own3_f0 a0 (0 : Int32) p1 p2 cl x0 wi) + (own3_f0 a0 (1 : Int32) p1 p2 cl x1 wi)))])) _
    refine XS.iloadN X2.here hx rfl (hb hby d2_17) rfl ?_
    show Steps p.tables e below (T2.setTop (mkF m 18 #[.val (.ref a0), .val (.int p1), .val (.int p2)] [(.int p1), (.int (2 : Int32)), (.ref a0), (.int ((own3_f0 a0 (0 : Int32) p1 p2 cl x0 wi) + (own3_f0 a0 (1 : Int32) p1 p2 cl x1 wi)))])) _
    refine XS.iloadN X2.here hx rfl (hb hby d2_18) rfl ?_
    exact kt
  obtain ⟨_, _, ⟨T3, L3, k3, n3⟩, -, X3, ⟨Lc3, hQ3, l3, y3, z3⟩, st3⟩ := Jvm.LawKit.callS X2 hx (y := (⟨"com/example/columella/columella/ipc/HuffmanStartsPinLaw", "term", "([IIII)I"⟩ : MethodName)) hown (mvT hZ (hw _ (List.mem_of_getElem? (i := 11) rfl))) (mvT hZ (hw _ (List.mem_of_getElem? (i := 12) rfl))) (mvT hZ (hw _ (List.mem_of_getElem? (i := 9) rfl))) (mvT hZ (hw _ (List.mem_of_getElem? (i := 13) rfl))) (by decide) (backOf (W := 1) (rm3 l Z t0 hw [] a0 (2 : Int32) p1 p2 cl x2 wi h0 n0 Z0 Ar (inb_of S ⟨by decide, by decide⟩) (Has.at H (inb_of S ⟨by decide, by decide⟩) rfl) hin hat) hZ (hw _ (List.mem_of_getElem? (i := 13) rfl)) (hw _ (List.mem_of_getElem? (i := 9) rfl)) (by decide) (by decide)) (g := (mkF m 19 #[.val (.ref a0), .val (.int p1), .val (.int p2)] [(.int p2), (.int p1), (.int (2 : Int32)), (.ref a0), (.int ((own3_f0 a0 (0 : Int32) p1 p2 cl x0 wi) + (own3_f0 a0 (1 : Int32) p1 p2 cl x1 wi)))])) rfl (by rw [hml]; rfl) (argsL := [(.ref a0), (.int (2 : Int32)), (.int p1), (.int p2)]) (rest := [(.int ((own3_f0 a0 (0 : Int32) p1 p2 cl x0 wi) + (own3_f0 a0 (1 : Int32) p1 p2 cl x1 wi)))]) (lenOf pd_2_0 rfl) rfl (by show 2 * 0 + _ ≤ _; exact Nat.le_of_eq rfl) (hb hby d2_19) (fun _ _ => ⟨rfl, e2, (by decide : 0 + 0 ≤ _), (by decide : 0 + 0 ≤ _)⟩)
  dsimp only [Pt.U, Pt.locs, Pt.cells, Pt.slots] at X3 l3 y3 z3 st3 hQ3
  subst l3 y3 z3
  obtain ⟨rfl, Nq3, hh3⟩ := hQ3
  have N3 := Fr.app N2 Nq3
  have e3 : T3.heap = h0 := hh3
  refine own_go (B := T3.setTop (mkF m 22 #[.val (.ref a0), .val (.int p1), .val (.int p2)] [(.int (own3_f0 a0 (2 : Int32) p1 p2 cl x2 wi)), (.int ((own3_f0 a0 (0 : Int32) p1 p2 cl x0 wi) + (own3_f0 a0 (1 : Int32) p1 p2 cl x1 wi)))])) (fun t kt => st3 t kt) ?_
  refine own_go (B := T3.setTop (mkF m 27 #[.val (.ref a0), .val (.int p1), .val (.int p2)] [(.int p2), (.int p1), (.int (3 : Int32)), (.ref a0), (.int (((own3_f0 a0 (0 : Int32) p1 p2 cl x0 wi) + (own3_f0 a0 (1 : Int32) p1 p2 cl x1 wi)) + (own3_f0 a0 (2 : Int32) p1 p2 cl x2 wi)))])) (fun t kt => ?_) ?_
  · show Steps p.tables e below (T3.setTop (mkF m 22 #[.val (.ref a0), .val (.int p1), .val (.int p2)] [(.int (own3_f0 a0 (2 : Int32) p1 p2 cl x2 wi)), (.int ((own3_f0 a0 (0 : Int32) p1 p2 cl x0 wi) + (own3_f0 a0 (1 : Int32) p1 p2 cl x1 wi)))])) _
    refine XS.iadd X3.here hx rfl (hb hby d2_22) rfl ?_
    show Steps p.tables e below (T3.setTop (mkF m 23 #[.val (.ref a0), .val (.int p1), .val (.int p2)] [(.int (((own3_f0 a0 (0 : Int32) p1 p2 cl x0 wi) + (own3_f0 a0 (1 : Int32) p1 p2 cl x1 wi)) + (own3_f0 a0 (2 : Int32) p1 p2 cl x2 wi)))])) _
    refine XS.aloadN X3.here hx rfl (hb hby d2_23) rfl rfl ?_
    show Steps p.tables e below (T3.setTop (mkF m 24 #[.val (.ref a0), .val (.int p1), .val (.int p2)] [(.ref a0), (.int (((own3_f0 a0 (0 : Int32) p1 p2 cl x0 wi) + (own3_f0 a0 (1 : Int32) p1 p2 cl x1 wi)) + (own3_f0 a0 (2 : Int32) p1 p2 cl x2 wi)))])) _
    refine XS.iconst X3.here hx rfl (hb hby d2_24) ?_
    show Steps p.tables e below (T3.setTop (mkF m 25 #[.val (.ref a0), .val (.int p1), .val (.int p2)] [(.int (3 : Int32)), (.ref a0), (.int (((own3_f0 a0 (0 : Int32) p1 p2 cl x0 wi) + (own3_f0 a0 (1 : Int32) p1 p2 cl x1 wi)) + (own3_f0 a0 (2 : Int32) p1 p2 cl x2 wi)))])) _
    refine XS.iloadN X3.here hx rfl (hb hby d2_25) rfl ?_
    show Steps p.tables e below (T3.setTop (mkF m 26 #[.val (.ref a0), .val (.int p1), .val (.int p2)] [(.int p1), (.int (3 : Int32)), (.ref a0), (.int (((own3_f0 a0 (0 : Int32) p1 p2 cl x0 wi) + (own3_f0 a0 (1 : Int32) p1 p2 cl x1 wi)) + (own3_f0 a0 (2 : Int32) p1 p2 cl x2 wi)))])) _
    refine XS.iloadN X3.here hx rfl (hb hby d2_26) rfl ?_
    exact kt
  obtain ⟨_, _, ⟨T4, L4, k4, n4⟩, -, X4, ⟨Lc4, hQ4, l4, y4, z4⟩, st4⟩ := Jvm.LawKit.callS X3 hx (y := (⟨"com/example/columella/columella/ipc/HuffmanStartsPinLaw", "term", "([IIII)I"⟩ : MethodName)) hown (mvT hZ (hw _ (List.mem_of_getElem? (i := 11) rfl))) (mvT hZ (hw _ (List.mem_of_getElem? (i := 12) rfl))) (mvT hZ (hw _ (List.mem_of_getElem? (i := 9) rfl))) (mvT hZ (hw _ (List.mem_of_getElem? (i := 13) rfl))) (by decide) (backOf (W := 1) (rm3 l Z t0 hw [] a0 (3 : Int32) p1 p2 cl x3 wi h0 n0 Z0 Ar (inb_of S ⟨by decide, by decide⟩) (Has.at H (inb_of S ⟨by decide, by decide⟩) rfl) hin hat) hZ (hw _ (List.mem_of_getElem? (i := 13) rfl)) (hw _ (List.mem_of_getElem? (i := 9) rfl)) (by decide) (by decide)) (g := (mkF m 27 #[.val (.ref a0), .val (.int p1), .val (.int p2)] [(.int p2), (.int p1), (.int (3 : Int32)), (.ref a0), (.int (((own3_f0 a0 (0 : Int32) p1 p2 cl x0 wi) + (own3_f0 a0 (1 : Int32) p1 p2 cl x1 wi)) + (own3_f0 a0 (2 : Int32) p1 p2 cl x2 wi)))])) rfl (by rw [hml]; rfl) (argsL := [(.ref a0), (.int (3 : Int32)), (.int p1), (.int p2)]) (rest := [(.int (((own3_f0 a0 (0 : Int32) p1 p2 cl x0 wi) + (own3_f0 a0 (1 : Int32) p1 p2 cl x1 wi)) + (own3_f0 a0 (2 : Int32) p1 p2 cl x2 wi)))]) (lenOf pd_2_0 rfl) rfl (by show 2 * 0 + _ ≤ _; exact Nat.le_of_eq rfl) (hb hby d2_27) (fun _ _ => ⟨rfl, e3, (by decide : 0 + 0 ≤ _), (by decide : 0 + 0 ≤ _)⟩)
  dsimp only [Pt.U, Pt.locs, Pt.cells, Pt.slots] at X4 l4 y4 z4 st4 hQ4
  subst l4 y4 z4
  obtain ⟨rfl, Nq4, hh4⟩ := hQ4
  have N4 := Fr.app N3 Nq4
  have e4 : T4.heap = h0 := hh4
  refine own_go (B := T4.setTop (mkF m 30 #[.val (.ref a0), .val (.int p1), .val (.int p2)] [(.int (own3_f0 a0 (3 : Int32) p1 p2 cl x3 wi)), (.int (((own3_f0 a0 (0 : Int32) p1 p2 cl x0 wi) + (own3_f0 a0 (1 : Int32) p1 p2 cl x1 wi)) + (own3_f0 a0 (2 : Int32) p1 p2 cl x2 wi)))])) (fun t kt => st4 t kt) ?_
  refine own_go (B := T4.setTop (mkF m 35 #[.val (.ref a0), .val (.int p1), .val (.int p2)] [(.int p2), (.int p1), (.int (4 : Int32)), (.ref a0), (.int ((((own3_f0 a0 (0 : Int32) p1 p2 cl x0 wi) + (own3_f0 a0 (1 : Int32) p1 p2 cl x1 wi)) + (own3_f0 a0 (2 : Int32) p1 p2 cl x2 wi)) + (own3_f0 a0 (3 : Int32) p1 p2 cl x3 wi)))])) (fun t kt => ?_) ?_
  · show Steps p.tables e below (T4.setTop (mkF m 30 #[.val (.ref a0), .val (.int p1), .val (.int p2)] [(.int (own3_f0 a0 (3 : Int32) p1 p2 cl x3 wi)), (.int (((own3_f0 a0 (0 : Int32) p1 p2 cl x0 wi) + (own3_f0 a0 (1 : Int32) p1 p2 cl x1 wi)) + (own3_f0 a0 (2 : Int32) p1 p2 cl x2 wi)))])) _
    refine XS.iadd X4.here hx rfl (hb hby d2_30) rfl ?_
    show Steps p.tables e below (T4.setTop (mkF m 31 #[.val (.ref a0), .val (.int p1), .val (.int p2)] [(.int ((((own3_f0 a0 (0 : Int32) p1 p2 cl x0 wi) + (own3_f0 a0 (1 : Int32) p1 p2 cl x1 wi)) + (own3_f0 a0 (2 : Int32) p1 p2 cl x2 wi)) + (own3_f0 a0 (3 : Int32) p1 p2 cl x3 wi)))])) _
    refine XS.aloadN X4.here hx rfl (hb hby d2_31) rfl rfl ?_
    show Steps p.tables e below (T4.setTop (mkF m 32 #[.val (.ref a0), .val (.int p1), .val (.int p2)] [(.ref a0), (.int ((((own3_f0 a0 (0 : Int32) p1 p2 cl x0 wi) + (own3_f0 a0 (1 : Int32) p1 p2 cl x1 wi)) + (own3_f0 a0 (2 : Int32) p1 p2 cl x2 wi)) + (own3_f0 a0 (3 : Int32) p1 p2 cl x3 wi)))])) _
    refine XS.iconst X4.here hx rfl (hb hby d2_32) ?_
    show Steps p.tables e below (T4.setTop (mkF m 33 #[.val (.ref a0), .val (.int p1), .val (.int p2)] [(.int (4 : Int32)), (.ref a0), (.int ((((own3_f0 a0 (0 : Int32) p1 p2 cl x0 wi) + (own3_f0 a0 (1 : Int32) p1 p2 cl x1 wi)) + (own3_f0 a0 (2 : Int32) p1 p2 cl x2 wi)) + (own3_f0 a0 (3 : Int32) p1 p2 cl x3 wi)))])) _
    refine XS.iloadN X4.here hx rfl (hb hby d2_33) rfl ?_
    show Steps p.tables e below (T4.setTop (mkF m 34 #[.val (.ref a0), .val (.int p1), .val (.int p2)] [(.int p1), (.int (4 : Int32)), (.ref a0), (.int ((((own3_f0 a0 (0 : Int32) p1 p2 cl x0 wi) + (own3_f0 a0 (1 : Int32) p1 p2 cl x1 wi)) + (own3_f0 a0 (2 : Int32) p1 p2 cl x2 wi)) + (own3_f0 a0 (3 : Int32) p1 p2 cl x3 wi)))])) _
    refine XS.iloadN X4.here hx rfl (hb hby d2_34) rfl ?_
    exact kt
  obtain ⟨_, _, ⟨T5, L5, k5, n5⟩, -, X5, ⟨Lc5, hQ5, l5, y5, z5⟩, st5⟩ := Jvm.LawKit.callS X4 hx (y := (⟨"com/example/columella/columella/ipc/HuffmanStartsPinLaw", "term", "([IIII)I"⟩ : MethodName)) hown (mvT hZ (hw _ (List.mem_of_getElem? (i := 11) rfl))) (mvT hZ (hw _ (List.mem_of_getElem? (i := 12) rfl))) (mvT hZ (hw _ (List.mem_of_getElem? (i := 9) rfl))) (mvT hZ (hw _ (List.mem_of_getElem? (i := 13) rfl))) (by decide) (backOf (W := 1) (rm3 l Z t0 hw [] a0 (4 : Int32) p1 p2 cl x4 wi h0 n0 Z0 Ar (inb_of S ⟨by decide, by decide⟩) (Has.at H (inb_of S ⟨by decide, by decide⟩) rfl) hin hat) hZ (hw _ (List.mem_of_getElem? (i := 13) rfl)) (hw _ (List.mem_of_getElem? (i := 9) rfl)) (by decide) (by decide)) (g := (mkF m 35 #[.val (.ref a0), .val (.int p1), .val (.int p2)] [(.int p2), (.int p1), (.int (4 : Int32)), (.ref a0), (.int ((((own3_f0 a0 (0 : Int32) p1 p2 cl x0 wi) + (own3_f0 a0 (1 : Int32) p1 p2 cl x1 wi)) + (own3_f0 a0 (2 : Int32) p1 p2 cl x2 wi)) + (own3_f0 a0 (3 : Int32) p1 p2 cl x3 wi)))])) rfl (by rw [hml]; rfl) (argsL := [(.ref a0), (.int (4 : Int32)), (.int p1), (.int p2)]) (rest := [(.int ((((own3_f0 a0 (0 : Int32) p1 p2 cl x0 wi) + (own3_f0 a0 (1 : Int32) p1 p2 cl x1 wi)) + (own3_f0 a0 (2 : Int32) p1 p2 cl x2 wi)) + (own3_f0 a0 (3 : Int32) p1 p2 cl x3 wi)))]) (lenOf pd_2_0 rfl) rfl (by show 2 * 0 + _ ≤ _; exact Nat.le_of_eq rfl) (hb hby d2_35) (fun _ _ => ⟨rfl, e4, (by decide : 0 + 0 ≤ _), (by decide : 0 + 0 ≤ _)⟩)
  dsimp only [Pt.U, Pt.locs, Pt.cells, Pt.slots] at X5 l5 y5 z5 st5 hQ5
  subst l5 y5 z5
  obtain ⟨rfl, Nq5, hh5⟩ := hQ5
  have N5 := Fr.app N4 Nq5
  have e5 : T5.heap = h0 := hh5
  refine own_go (B := T5.setTop (mkF m 38 #[.val (.ref a0), .val (.int p1), .val (.int p2)] [(.int (own3_f0 a0 (4 : Int32) p1 p2 cl x4 wi)), (.int ((((own3_f0 a0 (0 : Int32) p1 p2 cl x0 wi) + (own3_f0 a0 (1 : Int32) p1 p2 cl x1 wi)) + (own3_f0 a0 (2 : Int32) p1 p2 cl x2 wi)) + (own3_f0 a0 (3 : Int32) p1 p2 cl x3 wi)))])) (fun t kt => st5 t kt) ?_
  refine own_go (B := T5.setTop (mkF m 39 #[.val (.ref a0), .val (.int p1), .val (.int p2)] [(.int (((((own3_f0 a0 (0 : Int32) p1 p2 cl x0 wi) + (own3_f0 a0 (1 : Int32) p1 p2 cl x1 wi)) + (own3_f0 a0 (2 : Int32) p1 p2 cl x2 wi)) + (own3_f0 a0 (3 : Int32) p1 p2 cl x3 wi)) + (own3_f0 a0 (4 : Int32) p1 p2 cl x4 wi)))])) (fun t kt => ?_) ?_
  · show Steps p.tables e below (T5.setTop (mkF m 38 #[.val (.ref a0), .val (.int p1), .val (.int p2)] [(.int (own3_f0 a0 (4 : Int32) p1 p2 cl x4 wi)), (.int ((((own3_f0 a0 (0 : Int32) p1 p2 cl x0 wi) + (own3_f0 a0 (1 : Int32) p1 p2 cl x1 wi)) + (own3_f0 a0 (2 : Int32) p1 p2 cl x2 wi)) + (own3_f0 a0 (3 : Int32) p1 p2 cl x3 wi)))])) _
    refine XS.iadd X5.here hx rfl (hb hby d2_38) rfl ?_
    exact kt
  obtain ⟨fs, hr, hrun, hended, hW, hsame⟩ := X5.leave (v := some (.int (((((own3_f0 a0 (0 : Int32) p1 p2 cl x0 wi) + (own3_f0 a0 (1 : Int32) p1 p2 cl x1 wi)) + (own3_f0 a0 (2 : Int32) p1 p2 cl x2 wi)) + (own3_f0 a0 (3 : Int32) p1 p2 cl x3 wi)) + (own3_f0 a0 (4 : Int32) p1 p2 cl x4 wi)))) (fun h => by rw [Bd.returns] at h; cases h)
  refine ⟨_, _, ?_, hrun, hended, _, _, rfl, ?_, ⟨_, rfl⟩, hW, hsame.mono (by decide) (by decide)⟩
  · show Steps p.tables e below (T5.setTop (mkF m 39 #[.val (.ref a0), .val (.int p1), .val (.int p2)] [(.int (((((own3_f0 a0 (0 : Int32) p1 p2 cl x0 wi) + (own3_f0 a0 (1 : Int32) p1 p2 cl x1 wi)) + (own3_f0 a0 (2 : Int32) p1 p2 cl x2 wi)) + (own3_f0 a0 (3 : Int32) p1 p2 cl x3 wi)) + (own3_f0 a0 (4 : Int32) p1 p2 cl x4 wi)))])) _
    exact retI X5 hx Bd.returns (hb hby d2_39) hr
  · show Q2 a0 p1 p2 cl x0 x1 x2 x3 x4 wi h0 n0 _ T5.heap _
    rw [e5]
    exact ⟨rfl, N5, rfl⟩
def own_P (w : Int32) : Int32 := (1 : Int32) <<< ((w - (1 : Int32)) &&& 31)
def own_n (w b n : Int32) : Int32 := if w = b then (n + ((1 : Int32) <<< ((b - (1 : Int32)) &&& 31))) else n
def own_y (w b n y : Int32) : Int32 := if w = b then n else y
def own_e (w : Int32) (B : Int) : Int32 := if (1 ≤ w.toInt ∧ w.toInt < B) then own_P w else (0 : Int32)
def own_d (w b : Int32) : Int32 := if w = b then own_P w else (0 : Int32)
def own_G (lt : Bool) (wj wi : Int32) : Int32 := if (1 ≤ wj.toInt ∧ (wj.toInt < wi.toInt ∨ (wj.toInt = wi.toInt ∧ lt = true))) then own_P wj else (0 : Int32)
def own_F (g0 g1 g2 g3 g4 : Int32) : Int32 := (((g0 + g1) + g2) + g3) + g4
def own_Y (B : Int) (w f : Int32) : Int32 := if (1 ≤ w.toInt ∧ w.toInt < B) then f else (0 : Int32)
def own_Inv (w0 w1 w2 w3 w4 : Int32) (B : Int) (y0 y1 y2 y3 y4 n : Int32) : Prop :=
  n = own_F (own_e w0 B) (own_e w1 B) (own_e w2 B) (own_e w3 B) (own_e w4 B) ∧
  y0 = own_Y B w0 (own_F (own_G false w0 w0) (own_G false w1 w0) (own_G false w2 w0) (own_G false w3 w0) (own_G false w4 w0)) ∧
  y1 = own_Y B w1 (own_F (own_G true w0 w1) (own_G false w1 w1) (own_G false w2 w1) (own_G false w3 w1) (own_G false w4 w1)) ∧
  y2 = own_Y B w2 (own_F (own_G true w0 w2) (own_G true w1 w2) (own_G false w2 w2) (own_G false w3 w2) (own_G false w4 w2)) ∧
  y3 = own_Y B w3 (own_F (own_G true w0 w3) (own_G true w1 w3) (own_G true w2 w3) (own_G false w3 w3) (own_G false w4 w3)) ∧
  y4 = own_Y B w4 (own_F (own_G true w0 w4) (own_G true w1 w4) (own_G true w2 w4) (own_G true w3 w4) (own_G false w4 w4))
theorem own_n_d (w b n : Int32) : own_n w b n = n + own_d w b := by
  by_cases h : w = b
  · subst h; rw [show own_n w w n = (n + ((1 : Int32) <<< ((w - (1 : Int32)) &&& 31))) from if_pos rfl, show own_d w w = own_P w from if_pos rfl]; rfl
  · rw [show own_n w b n = n from if_neg h, show own_d w b = 0 from if_neg h, Int32.add_zero]
theorem own_e_d (w b : Int32) (hb : 1 ≤ b.toInt) : own_e w (b.toInt + 1) = own_e w b.toInt + own_d w b := by
  by_cases h : w = b
  · subst h
    rw [show own_e w (w.toInt + 1) = own_P w from if_pos (by omega), show own_e w w.toInt = 0 from if_neg (by omega), show own_d w w = own_P w from if_pos rfl, Int32.zero_add]
  · have hn : w.toInt ≠ b.toInt := fun q => h (Int32.toInt_inj.mp q)
    rw [show own_d w b = 0 from if_neg h, Int32.add_zero]
    exact own_ifc (by omega) rfl rfl
theorem own_G_e (w b : Int32) : own_G false w b = own_e w b.toInt := own_ifc (by simp) rfl rfl
theorem own_G_d (w b : Int32) (hb : 1 ≤ b.toInt) : own_G true w b = own_e w b.toInt + own_d w b := by
  rw [← own_e_d w b hb]
  exact own_ifc (by simp; omega) rfl rfl
theorem own_Y_step {w b f y n : Int32} (hy : y = own_Y b.toInt w f) (hf : w = b → n = f) (hb : 1 ≤ b.toInt) : own_y w b n y = own_Y (b.toInt + 1) w f := by
  by_cases h : w = b
  · rw [show own_y w b n y = n from if_pos h, hf h]
    subst h
    exact (if_pos (by omega)).symm
  · have hn : w.toInt ≠ b.toInt := fun q => h (Int32.toInt_inj.mp q)
    rw [show own_y w b n y = y from if_neg h, hy]
    exact own_ifc (by omega) rfl rfl
theorem own_Inv0 (w0 w1 w2 w3 w4 : Int32) : own_Inv w0 w1 w2 w3 w4 1 0 0 0 0 0 0 := by
  have he : ∀ w : Int32, own_e w 1 = 0 := fun w => if_neg (by omega)
  have hY : ∀ w f : Int32, own_Y 1 w f = 0 := fun w f => if_neg (by omega)
  refine ⟨?_, ?_, ?_, ?_, ?_, ?_⟩
  · rw [he, he, he, he, he]; rfl
  · rw [hY]
  · rw [hY]
  · rw [hY]
  · rw [hY]
  · rw [hY]
theorem own_Inv_step {w0 w1 w2 w3 w4 b y0 y1 y2 y3 y4 n : Int32} (hb : 1 ≤ b.toInt) (I : own_Inv w0 w1 w2 w3 w4 b.toInt y0 y1 y2 y3 y4 n) :
    own_Inv w0 w1 w2 w3 w4 (b.toInt + 1) (own_y w0 b n y0) (own_y w1 b (own_n w0 b n) y1) (own_y w2 b (own_n w1 b (own_n w0 b n)) y2) (own_y w3 b (own_n w2 b (own_n w1 b (own_n w0 b n))) y3) (own_y w4 b (own_n w3 b (own_n w2 b (own_n w1 b (own_n w0 b n)))) y4) (own_n w4 b (own_n w3 b (own_n w2 b (own_n w1 b (own_n w0 b n))))) := by
  obtain ⟨hn, h0, h1, h2, h3, h4⟩ := I
  refine ⟨?_, own_Y_step h0 (fun q => ?_) hb, own_Y_step h1 (fun q => ?_) hb, own_Y_step h2 (fun q => ?_) hb, own_Y_step h3 (fun q => ?_) hb, own_Y_step h4 (fun q => ?_) hb⟩
  · simp only [own_n_d, own_e_d _ _ hb]
    rw [hn]
    generalize own_e w0 b.toInt = e0; generalize own_e w1 b.toInt = e1; generalize own_e w2 b.toInt = e2; generalize own_e w3 b.toInt = e3; generalize own_e w4 b.toInt = e4
    generalize own_d w0 b = d0; generalize own_d w1 b = d1; generalize own_d w2 b = d2; generalize own_d w3 b = d3; generalize own_d w4 b = d4
    show (((((((((e0 + e1) + e2) + e3) + e4) + d0) + d1) + d2) + d3) + d4) = ((((e0 + d0) + (e1 + d1)) + (e2 + d2)) + (e3 + d3)) + (e4 + d4)
    ac_rfl
  · subst q
    simp only [own_G_e]
    exact hn
  · subst q
    simp only [own_n_d, own_G_e, own_G_d _ _ hb]
    rw [hn]
    generalize own_e w0 w1.toInt = e0
    generalize own_e w1 w1.toInt = e1
    generalize own_e w2 w1.toInt = e2
    generalize own_e w3 w1.toInt = e3
    generalize own_e w4 w1.toInt = e4
    generalize own_d w0 w1 = d0
    show (((((e0 + e1) + e2) + e3) + e4) + d0) = (((((e0 + d0) + e1) + e2) + e3) + e4)
    ac_rfl
  · subst q
    simp only [own_n_d, own_G_e, own_G_d _ _ hb]
    rw [hn]
    generalize own_e w0 w2.toInt = e0
    generalize own_e w1 w2.toInt = e1
    generalize own_e w2 w2.toInt = e2
    generalize own_e w3 w2.toInt = e3
    generalize own_e w4 w2.toInt = e4
    generalize own_d w0 w2 = d0
    generalize own_d w1 w2 = d1
    show ((((((e0 + e1) + e2) + e3) + e4) + d0) + d1) = (((((e0 + d0) + (e1 + d1)) + e2) + e3) + e4)
    ac_rfl
  · subst q
    simp only [own_n_d, own_G_e, own_G_d _ _ hb]
    rw [hn]
    generalize own_e w0 w3.toInt = e0
    generalize own_e w1 w3.toInt = e1
    generalize own_e w2 w3.toInt = e2
    generalize own_e w3 w3.toInt = e3
    generalize own_e w4 w3.toInt = e4
    generalize own_d w0 w3 = d0
    generalize own_d w1 w3 = d1
    generalize own_d w2 w3 = d2
    show (((((((e0 + e1) + e2) + e3) + e4) + d0) + d1) + d2) = (((((e0 + d0) + (e1 + d1)) + (e2 + d2)) + e3) + e4)
    ac_rfl
  · subst q
    simp only [own_n_d, own_G_e, own_G_d _ _ hb]
    rw [hn]
    generalize own_e w0 w4.toInt = e0
    generalize own_e w1 w4.toInt = e1
    generalize own_e w2 w4.toInt = e2
    generalize own_e w3 w4.toInt = e3
    generalize own_e w4 w4.toInt = e4
    generalize own_d w0 w4 = d0
    generalize own_d w1 w4 = d1
    generalize own_d w2 w4 = d2
    generalize own_d w3 w4 = d3
    show ((((((((e0 + e1) + e2) + e3) + e4) + d0) + d1) + d2) + d3) = (((((e0 + d0) + (e1 + d1)) + (e2 + d2)) + (e3 + d3)) + e4)
    ac_rfl

theorem d1_0 : decode prog_78_method_4_code 0 = .ok (.aload_n 0, 1) := by decide +kernel
theorem d1_1 : decode prog_78_method_4_code 1 = .ok (.arraylength, 1) := by decide +kernel
theorem d1_2 : decode prog_78_method_4_code 2 = .ok (.newarray .int, 2) := by decide +kernel
theorem d1_4 : decode prog_78_method_4_code 4 = .ok (.astore_n 2, 1) := by decide +kernel
theorem d1_5 : decode prog_78_method_4_code 5 = .ok (.iconst 0, 1) := by decide +kernel
theorem d1_6 : decode prog_78_method_4_code 6 = .ok (.istore_n 3, 1) := by decide +kernel
theorem d1_7 : decode prog_78_method_4_code 7 = .ok (.iconst 1, 1) := by decide +kernel
theorem d1_8 : decode prog_78_method_4_code 8 = .ok (.istore 4, 2) := by decide +kernel
theorem d1_10 : decode prog_78_method_4_code 10 = .ok (.iload 4, 2) := by decide +kernel
theorem d1_12 : decode prog_78_method_4_code 12 = .ok (.iload_n 1, 1) := by decide +kernel
theorem d1_13 : decode prog_78_method_4_code 13 = .ok (.if_icmp .gt 48, 3) := by decide +kernel
theorem d1_16 : decode prog_78_method_4_code 16 = .ok (.iconst 0, 1) := by decide +kernel
theorem d1_17 : decode prog_78_method_4_code 17 = .ok (.istore 5, 2) := by decide +kernel
theorem d1_19 : decode prog_78_method_4_code 19 = .ok (.iload 5, 2) := by decide +kernel
theorem d1_21 : decode prog_78_method_4_code 21 = .ok (.aload_n 0, 1) := by decide +kernel
theorem d1_22 : decode prog_78_method_4_code 22 = .ok (.arraylength, 1) := by decide +kernel
theorem d1_23 : decode prog_78_method_4_code 23 = .ok (.if_icmp .ge 32, 3) := by decide +kernel
theorem d1_26 : decode prog_78_method_4_code 26 = .ok (.aload_n 0, 1) := by decide +kernel
theorem d1_27 : decode prog_78_method_4_code 27 = .ok (.iload 5, 2) := by decide +kernel
theorem d1_29 : decode prog_78_method_4_code 29 = .ok (.baload, 1) := by decide +kernel
theorem d1_30 : decode prog_78_method_4_code 30 = .ok (.iload 4, 2) := by decide +kernel
theorem d1_32 : decode prog_78_method_4_code 32 = .ok (.if_icmp .ne 17, 3) := by decide +kernel
theorem d1_35 : decode prog_78_method_4_code 35 = .ok (.aload_n 2, 1) := by decide +kernel
theorem d1_36 : decode prog_78_method_4_code 36 = .ok (.iload 5, 2) := by decide +kernel
theorem d1_38 : decode prog_78_method_4_code 38 = .ok (.iload_n 3, 1) := by decide +kernel
theorem d1_39 : decode prog_78_method_4_code 39 = .ok (.iastore, 1) := by decide +kernel
theorem d1_40 : decode prog_78_method_4_code 40 = .ok (.iload_n 3, 1) := by decide +kernel
theorem d1_41 : decode prog_78_method_4_code 41 = .ok (.iconst 1, 1) := by decide +kernel
theorem d1_42 : decode prog_78_method_4_code 42 = .ok (.iload 4, 2) := by decide +kernel
theorem d1_44 : decode prog_78_method_4_code 44 = .ok (.iconst 1, 1) := by decide +kernel
theorem d1_45 : decode prog_78_method_4_code 45 = .ok (.isub, 1) := by decide +kernel
theorem d1_46 : decode prog_78_method_4_code 46 = .ok (.ishl, 1) := by decide +kernel
theorem d1_47 : decode prog_78_method_4_code 47 = .ok (.iadd, 1) := by decide +kernel
theorem d1_48 : decode prog_78_method_4_code 48 = .ok (.istore_n 3, 1) := by decide +kernel
theorem d1_49 : decode prog_78_method_4_code 49 = .ok (.iinc 5 1, 3) := by decide +kernel
theorem d1_52 : decode prog_78_method_4_code 52 = .ok (.goto (-33), 3) := by decide +kernel
theorem d1_55 : decode prog_78_method_4_code 55 = .ok (.iinc 4 1, 3) := by decide +kernel
theorem d1_58 : decode prog_78_method_4_code 58 = .ok (.goto (-48), 3) := by decide +kernel
theorem d1_61 : decode prog_78_method_4_code 61 = .ok (.aload_n 2, 1) := by decide +kernel
theorem d1_62 : decode prog_78_method_4_code 62 = .ok (.areturn, 1) := by decide +kernel
set_option maxRecDepth 65536 in
set_option maxHeartbeats 40000000 in
theorem own1_t0 {p : Program} {l : Launch} {e : Env} {R : Room} {s : State} {m : MethodId} {args : Array Value} {below : List Frame} {meth : Method} {c : Code} {T0 : State} {locs : List Loc} {cells slots : Nat} {Z : State} {t0 : Array Value} {h0 : Heap} (a0 : Addr) (p1 : Int32) (bs : Addr) (kb : ClassId) (kw : ClassId) (n : Int32) (b : Int32) (y0 : Int32) (y1 : Int32) (y2 : Int32) (y3 : Int32) (y4 : Int32) (w0 : Int32) (w1 : Int32) (w2 : Int32) (w3 : Int32) (w4 : Int32) {n0 : Nat} (X0 : Stand p l e R s m args below meth c T0 locs cells slots) (hx : p.tables.exec = Jvm.exec) (hZ : Z.Warmed39 s.vm) (hw : ∀ d ∈ tables_1, d.before t0 Z = true) (hby : c.code = prog_78_method_4_code) (hown : s.vm.findClass "com/example/columella/columella/ipc/Huffman" = some m.cls) (e0 : T0.heap = h0) (Vw : Arv Z h0 a0 kw .byte (5 : Int32) [(.int w0), (.int w1), (.int w2), (.int w3), (.int w4)] (.int (0 : Int32))) (Vy : Arv Z h0 bs kb .int (5 : Int32) [(.int y0), (.int y1), (.int y2), (.int y3), (.int y4)] (.int (0 : Int32))) (hne : a0 ≠ bs) (gb : n0 ≤ bs) :
    ∃ (T' : State) (h' : Heap) (L' : List Loc), Stand p l e R s m args below meth c T' (locs ++ L') cells slots ∧ T'.heap = h' ∧ Fr n0 L' ∧ Keep h0 h' [bs] ∧ Arv Z h' bs kb .int (5 : Int32) [(.int (own_y w0 b n y0)), (.int y1), (.int y2), (.int y3), (.int y4)] (.int (0 : Int32)) ∧ ∀ target, Steps p.tables e below (T'.setTop (mkF m 19 #[.val (.ref a0), .val (.int p1), .val (.ref bs), .val (.int (own_n w0 b n)), .val (.int b), .val (.int (1 : Int32))] [])) target → Steps p.tables e below (T0.setTop (mkF m 19 #[.val (.ref a0), .val (.int p1), .val (.ref bs), .val (.int n), .val (.int b), .val (.int (0 : Int32))] [])) target := by
  obtain ⟨clw, Arw, qw, Sw, Mw, Hw, Gw⟩ := id Vw
  by_cases hc : w0 = b
  · obtain ⟨cly, Ary, qy, Sy, My, Hy, Gy⟩ := id Vy
    obtain ⟨T1, h1, X1, e1, W1, st1⟩ := stI X0 hx hZ e0 Ary (j := (0 : Int32)) (inb_of Sy ⟨by decide, by decide⟩) (g := (mkF m 39 #[.val (.ref a0), .val (.int p1), .val (.ref bs), .val (.int n), .val (.int b), .val (.int (0 : Int32))] [(.int n), (.int (0 : Int32)), (.ref bs)])) rfl rfl (hb hby d1_39)
    have V1 : Arv Z h1 bs kb .int (5 : Int32) [(.int n), (.int y1), (.int y2), (.int y3), (.int y4)] (.int (0 : Int32)) := Arv.set Ary qy Sy My Hy Gy rfl W1 0 rfl (Nat.le_of_ble_eq_true rfl)
    refine ⟨T1, h1, _, X1, e1, (fun z hz => by cases List.mem_singleton.mp hz; exact gb), Keep.of_wr W1, ?_, fun target kt => ?_⟩
    · rw [show (own_y w0 b n y0) = n from if_pos hc]
      exact V1
    · rw [show (own_n w0 b n) = (n + ((1 : Int32) <<< ((b - (1 : Int32)) &&& 31))) from if_pos hc] at kt
      show Steps p.tables e below (T0.setTop (mkF m 19 #[.val (.ref a0), .val (.int p1), .val (.ref bs), .val (.int n), .val (.int b), .val (.int (0 : Int32))] [])) _
      refine XS.iload X0.here hx rfl (hb hby d1_19) rfl ?_
      show Steps p.tables e below (T0.setTop (mkF m 21 #[.val (.ref a0), .val (.int p1), .val (.ref bs), .val (.int n), .val (.int b), .val (.int (0 : Int32))] [(.int (0 : Int32))])) _
      refine XS.aloadN X0.here hx rfl (hb hby d1_21) rfl rfl ?_
      show Steps p.tables e below (T0.setTop (mkF m 22 #[.val (.ref a0), .val (.int p1), .val (.ref bs), .val (.int n), .val (.int b), .val (.int (0 : Int32))] [(.ref a0), (.int (0 : Int32))])) _
      refine X0.arraylength hx (by rw [e0]; exact Arw.1) (State.isArrayOf_alike hZ.alike Arw.2.1) (g := (mkF m 22 #[.val (.ref a0), .val (.int p1), .val (.ref bs), .val (.int n), .val (.int b), .val (.int (0 : Int32))] [(.ref a0), (.int (0 : Int32))])) rfl rfl (hb hby d1_22) _ ?_
      rw [len_of Sw Mw]
      show Steps p.tables e below (T0.setTop (mkF m 23 #[.val (.ref a0), .val (.int p1), .val (.ref bs), .val (.int n), .val (.int b), .val (.int (0 : Int32))] [(.int (5 : Int32)), (.int (0 : Int32))])) _
      refine XS.icmpNo X0.here hx rfl (hb hby d1_23) rfl (tlt (by decide)).2.1 ?_
      show Steps p.tables e below (T0.setTop (mkF m 26 #[.val (.ref a0), .val (.int p1), .val (.ref bs), .val (.int n), .val (.int b), .val (.int (0 : Int32))] [])) _
      refine XS.aloadN X0.here hx rfl (hb hby d1_26) rfl rfl ?_
      show Steps p.tables e below (T0.setTop (mkF m 27 #[.val (.ref a0), .val (.int p1), .val (.ref bs), .val (.int n), .val (.int b), .val (.int (0 : Int32))] [(.ref a0)])) _
      refine XS.iload X0.here hx rfl (hb hby d1_27) rfl ?_
      show Steps p.tables e below (T0.setTop (mkF m 29 #[.val (.ref a0), .val (.int p1), .val (.ref bs), .val (.int n), .val (.int b), .val (.int (0 : Int32))] [(.int (0 : Int32)), (.ref a0)])) _
      refine X0.baloadBytes hx (j := (0 : Int32)) (v := (.int w0)) (by rw [e0]; exact Arw.1) (State.isArrayOf_alike hZ.alike Arw.2.1) Arw.2.2 (inb_of Sw ⟨by decide, by decide⟩) (Has.at Hw (inb_of Sw ⟨by decide, by decide⟩) rfl) (g := (mkF m 29 #[.val (.ref a0), .val (.int p1), .val (.ref bs), .val (.int n), .val (.int b), .val (.int (0 : Int32))] [(.int (0 : Int32)), (.ref a0)])) rfl rfl (hb hby d1_29) _ ?_
      show Steps p.tables e below (T0.setTop (mkF m 30 #[.val (.ref a0), .val (.int p1), .val (.ref bs), .val (.int n), .val (.int b), .val (.int (0 : Int32))] [(.int w0)])) _
      refine XS.iload X0.here hx rfl (hb hby d1_30) rfl ?_
      show Steps p.tables e below (T0.setTop (mkF m 32 #[.val (.ref a0), .val (.int p1), .val (.ref bs), .val (.int n), .val (.int b), .val (.int (0 : Int32))] [(.int b), (.int w0)])) _
      refine XS.icmpNo X0.here hx rfl (hb hby d1_32) rfl (teq hc).2 ?_
      show Steps p.tables e below (T0.setTop (mkF m 35 #[.val (.ref a0), .val (.int p1), .val (.ref bs), .val (.int n), .val (.int b), .val (.int (0 : Int32))] [])) _
      refine XS.aloadN X0.here hx rfl (hb hby d1_35) rfl rfl ?_
      show Steps p.tables e below (T0.setTop (mkF m 36 #[.val (.ref a0), .val (.int p1), .val (.ref bs), .val (.int n), .val (.int b), .val (.int (0 : Int32))] [(.ref bs)])) _
      refine XS.iload X0.here hx rfl (hb hby d1_36) rfl ?_
      show Steps p.tables e below (T0.setTop (mkF m 38 #[.val (.ref a0), .val (.int p1), .val (.ref bs), .val (.int n), .val (.int b), .val (.int (0 : Int32))] [(.int (0 : Int32)), (.ref bs)])) _
      refine XS.iloadN X0.here hx rfl (hb hby d1_38) rfl ?_
      show Steps p.tables e below (T0.setTop (mkF m 39 #[.val (.ref a0), .val (.int p1), .val (.ref bs), .val (.int n), .val (.int b), .val (.int (0 : Int32))] [(.int n), (.int (0 : Int32)), (.ref bs)])) _
      refine st1 _ ?_
      show Steps p.tables e below (T1.setTop (mkF m 40 #[.val (.ref a0), .val (.int p1), .val (.ref bs), .val (.int n), .val (.int b), .val (.int (0 : Int32))] [])) _
      refine XS.iloadN X1.here hx rfl (hb hby d1_40) rfl ?_
      show Steps p.tables e below (T1.setTop (mkF m 41 #[.val (.ref a0), .val (.int p1), .val (.ref bs), .val (.int n), .val (.int b), .val (.int (0 : Int32))] [(.int n)])) _
      refine XS.iconst X1.here hx rfl (hb hby d1_41) ?_
      show Steps p.tables e below (T1.setTop (mkF m 42 #[.val (.ref a0), .val (.int p1), .val (.ref bs), .val (.int n), .val (.int b), .val (.int (0 : Int32))] [(.int (1 : Int32)), (.int n)])) _
      refine XS.iload X1.here hx rfl (hb hby d1_42) rfl ?_
      show Steps p.tables e below (T1.setTop (mkF m 44 #[.val (.ref a0), .val (.int p1), .val (.ref bs), .val (.int n), .val (.int b), .val (.int (0 : Int32))] [(.int b), (.int (1 : Int32)), (.int n)])) _
      refine XS.iconst X1.here hx rfl (hb hby d1_44) ?_
      show Steps p.tables e below (T1.setTop (mkF m 45 #[.val (.ref a0), .val (.int p1), .val (.ref bs), .val (.int n), .val (.int b), .val (.int (0 : Int32))] [(.int (1 : Int32)), (.int b), (.int (1 : Int32)), (.int n)])) _
      refine XS.isub X1.here hx rfl (hb hby d1_45) rfl ?_
      show Steps p.tables e below (T1.setTop (mkF m 46 #[.val (.ref a0), .val (.int p1), .val (.ref bs), .val (.int n), .val (.int b), .val (.int (0 : Int32))] [(.int (b - (1 : Int32))), (.int (1 : Int32)), (.int n)])) _
      refine XS.ishl X1.here hx rfl (hb hby d1_46) rfl ?_
      show Steps p.tables e below (T1.setTop (mkF m 47 #[.val (.ref a0), .val (.int p1), .val (.ref bs), .val (.int n), .val (.int b), .val (.int (0 : Int32))] [(.int ((1 : Int32) <<< ((b - (1 : Int32)) &&& 31))), (.int n)])) _
      refine XS.iadd X1.here hx rfl (hb hby d1_47) rfl ?_
      show Steps p.tables e below (T1.setTop (mkF m 48 #[.val (.ref a0), .val (.int p1), .val (.ref bs), .val (.int n), .val (.int b), .val (.int (0 : Int32))] [(.int (n + ((1 : Int32) <<< ((b - (1 : Int32)) &&& 31))))])) _
      refine XS.istoreN X1.here hx rfl (hb hby d1_48) rfl (l' := #[.val (.ref a0), .val (.int p1), .val (.ref bs), .val (.int (n + ((1 : Int32) <<< ((b - (1 : Int32)) &&& 31)))), .val (.int b), .val (.int (0 : Int32))]) rfl ?_
      show Steps p.tables e below (T1.setTop (mkF m 49 #[.val (.ref a0), .val (.int p1), .val (.ref bs), .val (.int (n + ((1 : Int32) <<< ((b - (1 : Int32)) &&& 31)))), .val (.int b), .val (.int (0 : Int32))] [])) _
      refine XS.iinc X1.here hx rfl (hb hby d1_49) rfl (l' := #[.val (.ref a0), .val (.int p1), .val (.ref bs), .val (.int (n + ((1 : Int32) <<< ((b - (1 : Int32)) &&& 31)))), .val (.int b), .val (.int (1 : Int32))]) rfl ?_
      show Steps p.tables e below (T1.setTop (mkF m 52 #[.val (.ref a0), .val (.int p1), .val (.ref bs), .val (.int (n + ((1 : Int32) <<< ((b - (1 : Int32)) &&& 31)))), .val (.int b), .val (.int (1 : Int32))] [])) _
      refine XS.goto X1.here hx rfl (pc0 := 52) (pc' := 19) rfl (hb hby d1_52) (by decide) (by decide) ?_
      exact kt
  · refine ⟨T0, h0, [], by rw [List.append_nil]; exact X0, e0, Fr.nil _, Keep.refl _ _, ?_, fun target kt => ?_⟩
    · rw [show (own_y w0 b n y0) = y0 from if_neg hc]
      exact Vy
    · rw [show (own_n w0 b n) = n from if_neg hc] at kt
      show Steps p.tables e below (T0.setTop (mkF m 19 #[.val (.ref a0), .val (.int p1), .val (.ref bs), .val (.int n), .val (.int b), .val (.int (0 : Int32))] [])) _
      refine XS.iload X0.here hx rfl (hb hby d1_19) rfl ?_
      show Steps p.tables e below (T0.setTop (mkF m 21 #[.val (.ref a0), .val (.int p1), .val (.ref bs), .val (.int n), .val (.int b), .val (.int (0 : Int32))] [(.int (0 : Int32))])) _
      refine XS.aloadN X0.here hx rfl (hb hby d1_21) rfl rfl ?_
      show Steps p.tables e below (T0.setTop (mkF m 22 #[.val (.ref a0), .val (.int p1), .val (.ref bs), .val (.int n), .val (.int b), .val (.int (0 : Int32))] [(.ref a0), (.int (0 : Int32))])) _
      refine X0.arraylength hx (by rw [e0]; exact Arw.1) (State.isArrayOf_alike hZ.alike Arw.2.1) (g := (mkF m 22 #[.val (.ref a0), .val (.int p1), .val (.ref bs), .val (.int n), .val (.int b), .val (.int (0 : Int32))] [(.ref a0), (.int (0 : Int32))])) rfl rfl (hb hby d1_22) _ ?_
      rw [len_of Sw Mw]
      show Steps p.tables e below (T0.setTop (mkF m 23 #[.val (.ref a0), .val (.int p1), .val (.ref bs), .val (.int n), .val (.int b), .val (.int (0 : Int32))] [(.int (5 : Int32)), (.int (0 : Int32))])) _
      refine XS.icmpNo X0.here hx rfl (hb hby d1_23) rfl (tlt (by decide)).2.1 ?_
      show Steps p.tables e below (T0.setTop (mkF m 26 #[.val (.ref a0), .val (.int p1), .val (.ref bs), .val (.int n), .val (.int b), .val (.int (0 : Int32))] [])) _
      refine XS.aloadN X0.here hx rfl (hb hby d1_26) rfl rfl ?_
      show Steps p.tables e below (T0.setTop (mkF m 27 #[.val (.ref a0), .val (.int p1), .val (.ref bs), .val (.int n), .val (.int b), .val (.int (0 : Int32))] [(.ref a0)])) _
      refine XS.iload X0.here hx rfl (hb hby d1_27) rfl ?_
      show Steps p.tables e below (T0.setTop (mkF m 29 #[.val (.ref a0), .val (.int p1), .val (.ref bs), .val (.int n), .val (.int b), .val (.int (0 : Int32))] [(.int (0 : Int32)), (.ref a0)])) _
      refine X0.baloadBytes hx (j := (0 : Int32)) (v := (.int w0)) (by rw [e0]; exact Arw.1) (State.isArrayOf_alike hZ.alike Arw.2.1) Arw.2.2 (inb_of Sw ⟨by decide, by decide⟩) (Has.at Hw (inb_of Sw ⟨by decide, by decide⟩) rfl) (g := (mkF m 29 #[.val (.ref a0), .val (.int p1), .val (.ref bs), .val (.int n), .val (.int b), .val (.int (0 : Int32))] [(.int (0 : Int32)), (.ref a0)])) rfl rfl (hb hby d1_29) _ ?_
      show Steps p.tables e below (T0.setTop (mkF m 30 #[.val (.ref a0), .val (.int p1), .val (.ref bs), .val (.int n), .val (.int b), .val (.int (0 : Int32))] [(.int w0)])) _
      refine XS.iload X0.here hx rfl (hb hby d1_30) rfl ?_
      show Steps p.tables e below (T0.setTop (mkF m 32 #[.val (.ref a0), .val (.int p1), .val (.ref bs), .val (.int n), .val (.int b), .val (.int (0 : Int32))] [(.int b), (.int w0)])) _
      refine XS.icmpYes X0.here hx rfl (pc0 := 32) (pc' := 49) rfl (hb hby d1_32) rfl (feq hc).2 (by decide) (by decide) ?_
      show Steps p.tables e below (T0.setTop (mkF m 49 #[.val (.ref a0), .val (.int p1), .val (.ref bs), .val (.int n), .val (.int b), .val (.int (0 : Int32))] [])) _
      refine XS.iinc X0.here hx rfl (hb hby d1_49) rfl (l' := #[.val (.ref a0), .val (.int p1), .val (.ref bs), .val (.int n), .val (.int b), .val (.int (1 : Int32))]) rfl ?_
      show Steps p.tables e below (T0.setTop (mkF m 52 #[.val (.ref a0), .val (.int p1), .val (.ref bs), .val (.int n), .val (.int b), .val (.int (1 : Int32))] [])) _
      refine XS.goto X0.here hx rfl (pc0 := 52) (pc' := 19) rfl (hb hby d1_52) (by decide) (by decide) ?_
      exact kt
set_option maxRecDepth 65536 in
set_option maxHeartbeats 40000000 in
theorem own1_t1 {p : Program} {l : Launch} {e : Env} {R : Room} {s : State} {m : MethodId} {args : Array Value} {below : List Frame} {meth : Method} {c : Code} {T0 : State} {locs : List Loc} {cells slots : Nat} {Z : State} {t0 : Array Value} {h0 : Heap} (a0 : Addr) (p1 : Int32) (bs : Addr) (kb : ClassId) (kw : ClassId) (n : Int32) (b : Int32) (y0 : Int32) (y1 : Int32) (y2 : Int32) (y3 : Int32) (y4 : Int32) (w0 : Int32) (w1 : Int32) (w2 : Int32) (w3 : Int32) (w4 : Int32) {n0 : Nat} (X0 : Stand p l e R s m args below meth c T0 locs cells slots) (hx : p.tables.exec = Jvm.exec) (hZ : Z.Warmed39 s.vm) (hw : ∀ d ∈ tables_1, d.before t0 Z = true) (hby : c.code = prog_78_method_4_code) (hown : s.vm.findClass "com/example/columella/columella/ipc/Huffman" = some m.cls) (e0 : T0.heap = h0) (Vw : Arv Z h0 a0 kw .byte (5 : Int32) [(.int w0), (.int w1), (.int w2), (.int w3), (.int w4)] (.int (0 : Int32))) (Vy : Arv Z h0 bs kb .int (5 : Int32) [(.int y0), (.int y1), (.int y2), (.int y3), (.int y4)] (.int (0 : Int32))) (hne : a0 ≠ bs) (gb : n0 ≤ bs) :
    ∃ (T' : State) (h' : Heap) (L' : List Loc), Stand p l e R s m args below meth c T' (locs ++ L') cells slots ∧ T'.heap = h' ∧ Fr n0 L' ∧ Keep h0 h' [bs] ∧ Arv Z h' bs kb .int (5 : Int32) [(.int y0), (.int (own_y w1 b n y1)), (.int y2), (.int y3), (.int y4)] (.int (0 : Int32)) ∧ ∀ target, Steps p.tables e below (T'.setTop (mkF m 19 #[.val (.ref a0), .val (.int p1), .val (.ref bs), .val (.int (own_n w1 b n)), .val (.int b), .val (.int (2 : Int32))] [])) target → Steps p.tables e below (T0.setTop (mkF m 19 #[.val (.ref a0), .val (.int p1), .val (.ref bs), .val (.int n), .val (.int b), .val (.int (1 : Int32))] [])) target := by
  obtain ⟨clw, Arw, qw, Sw, Mw, Hw, Gw⟩ := id Vw
  by_cases hc : w1 = b
  · obtain ⟨cly, Ary, qy, Sy, My, Hy, Gy⟩ := id Vy
    obtain ⟨T1, h1, X1, e1, W1, st1⟩ := stI X0 hx hZ e0 Ary (j := (1 : Int32)) (inb_of Sy ⟨by decide, by decide⟩) (g := (mkF m 39 #[.val (.ref a0), .val (.int p1), .val (.ref bs), .val (.int n), .val (.int b), .val (.int (1 : Int32))] [(.int n), (.int (1 : Int32)), (.ref bs)])) rfl rfl (hb hby d1_39)
    have V1 : Arv Z h1 bs kb .int (5 : Int32) [(.int y0), (.int n), (.int y2), (.int y3), (.int y4)] (.int (0 : Int32)) := Arv.set Ary qy Sy My Hy Gy rfl W1 1 rfl (Nat.le_of_ble_eq_true rfl)
    refine ⟨T1, h1, _, X1, e1, (fun z hz => by cases List.mem_singleton.mp hz; exact gb), Keep.of_wr W1, ?_, fun target kt => ?_⟩
    · rw [show (own_y w1 b n y1) = n from if_pos hc]
      exact V1
    · rw [show (own_n w1 b n) = (n + ((1 : Int32) <<< ((b - (1 : Int32)) &&& 31))) from if_pos hc] at kt
      show Steps p.tables e below (T0.setTop (mkF m 19 #[.val (.ref a0), .val (.int p1), .val (.ref bs), .val (.int n), .val (.int b), .val (.int (1 : Int32))] [])) _
      refine XS.iload X0.here hx rfl (hb hby d1_19) rfl ?_
      show Steps p.tables e below (T0.setTop (mkF m 21 #[.val (.ref a0), .val (.int p1), .val (.ref bs), .val (.int n), .val (.int b), .val (.int (1 : Int32))] [(.int (1 : Int32))])) _
      refine XS.aloadN X0.here hx rfl (hb hby d1_21) rfl rfl ?_
      show Steps p.tables e below (T0.setTop (mkF m 22 #[.val (.ref a0), .val (.int p1), .val (.ref bs), .val (.int n), .val (.int b), .val (.int (1 : Int32))] [(.ref a0), (.int (1 : Int32))])) _
      refine X0.arraylength hx (by rw [e0]; exact Arw.1) (State.isArrayOf_alike hZ.alike Arw.2.1) (g := (mkF m 22 #[.val (.ref a0), .val (.int p1), .val (.ref bs), .val (.int n), .val (.int b), .val (.int (1 : Int32))] [(.ref a0), (.int (1 : Int32))])) rfl rfl (hb hby d1_22) _ ?_
      rw [len_of Sw Mw]
      show Steps p.tables e below (T0.setTop (mkF m 23 #[.val (.ref a0), .val (.int p1), .val (.ref bs), .val (.int n), .val (.int b), .val (.int (1 : Int32))] [(.int (5 : Int32)), (.int (1 : Int32))])) _
      refine XS.icmpNo X0.here hx rfl (hb hby d1_23) rfl (tlt (by decide)).2.1 ?_
      show Steps p.tables e below (T0.setTop (mkF m 26 #[.val (.ref a0), .val (.int p1), .val (.ref bs), .val (.int n), .val (.int b), .val (.int (1 : Int32))] [])) _
      refine XS.aloadN X0.here hx rfl (hb hby d1_26) rfl rfl ?_
      show Steps p.tables e below (T0.setTop (mkF m 27 #[.val (.ref a0), .val (.int p1), .val (.ref bs), .val (.int n), .val (.int b), .val (.int (1 : Int32))] [(.ref a0)])) _
      refine XS.iload X0.here hx rfl (hb hby d1_27) rfl ?_
      show Steps p.tables e below (T0.setTop (mkF m 29 #[.val (.ref a0), .val (.int p1), .val (.ref bs), .val (.int n), .val (.int b), .val (.int (1 : Int32))] [(.int (1 : Int32)), (.ref a0)])) _
      refine X0.baloadBytes hx (j := (1 : Int32)) (v := (.int w1)) (by rw [e0]; exact Arw.1) (State.isArrayOf_alike hZ.alike Arw.2.1) Arw.2.2 (inb_of Sw ⟨by decide, by decide⟩) (Has.at Hw (inb_of Sw ⟨by decide, by decide⟩) rfl) (g := (mkF m 29 #[.val (.ref a0), .val (.int p1), .val (.ref bs), .val (.int n), .val (.int b), .val (.int (1 : Int32))] [(.int (1 : Int32)), (.ref a0)])) rfl rfl (hb hby d1_29) _ ?_
      show Steps p.tables e below (T0.setTop (mkF m 30 #[.val (.ref a0), .val (.int p1), .val (.ref bs), .val (.int n), .val (.int b), .val (.int (1 : Int32))] [(.int w1)])) _
      refine XS.iload X0.here hx rfl (hb hby d1_30) rfl ?_
      show Steps p.tables e below (T0.setTop (mkF m 32 #[.val (.ref a0), .val (.int p1), .val (.ref bs), .val (.int n), .val (.int b), .val (.int (1 : Int32))] [(.int b), (.int w1)])) _
      refine XS.icmpNo X0.here hx rfl (hb hby d1_32) rfl (teq hc).2 ?_
      show Steps p.tables e below (T0.setTop (mkF m 35 #[.val (.ref a0), .val (.int p1), .val (.ref bs), .val (.int n), .val (.int b), .val (.int (1 : Int32))] [])) _
      refine XS.aloadN X0.here hx rfl (hb hby d1_35) rfl rfl ?_
      show Steps p.tables e below (T0.setTop (mkF m 36 #[.val (.ref a0), .val (.int p1), .val (.ref bs), .val (.int n), .val (.int b), .val (.int (1 : Int32))] [(.ref bs)])) _
      refine XS.iload X0.here hx rfl (hb hby d1_36) rfl ?_
      show Steps p.tables e below (T0.setTop (mkF m 38 #[.val (.ref a0), .val (.int p1), .val (.ref bs), .val (.int n), .val (.int b), .val (.int (1 : Int32))] [(.int (1 : Int32)), (.ref bs)])) _
      refine XS.iloadN X0.here hx rfl (hb hby d1_38) rfl ?_
      show Steps p.tables e below (T0.setTop (mkF m 39 #[.val (.ref a0), .val (.int p1), .val (.ref bs), .val (.int n), .val (.int b), .val (.int (1 : Int32))] [(.int n), (.int (1 : Int32)), (.ref bs)])) _
      refine st1 _ ?_
      show Steps p.tables e below (T1.setTop (mkF m 40 #[.val (.ref a0), .val (.int p1), .val (.ref bs), .val (.int n), .val (.int b), .val (.int (1 : Int32))] [])) _
      refine XS.iloadN X1.here hx rfl (hb hby d1_40) rfl ?_
      show Steps p.tables e below (T1.setTop (mkF m 41 #[.val (.ref a0), .val (.int p1), .val (.ref bs), .val (.int n), .val (.int b), .val (.int (1 : Int32))] [(.int n)])) _
      refine XS.iconst X1.here hx rfl (hb hby d1_41) ?_
      show Steps p.tables e below (T1.setTop (mkF m 42 #[.val (.ref a0), .val (.int p1), .val (.ref bs), .val (.int n), .val (.int b), .val (.int (1 : Int32))] [(.int (1 : Int32)), (.int n)])) _
      refine XS.iload X1.here hx rfl (hb hby d1_42) rfl ?_
      show Steps p.tables e below (T1.setTop (mkF m 44 #[.val (.ref a0), .val (.int p1), .val (.ref bs), .val (.int n), .val (.int b), .val (.int (1 : Int32))] [(.int b), (.int (1 : Int32)), (.int n)])) _
      refine XS.iconst X1.here hx rfl (hb hby d1_44) ?_
      show Steps p.tables e below (T1.setTop (mkF m 45 #[.val (.ref a0), .val (.int p1), .val (.ref bs), .val (.int n), .val (.int b), .val (.int (1 : Int32))] [(.int (1 : Int32)), (.int b), (.int (1 : Int32)), (.int n)])) _
      refine XS.isub X1.here hx rfl (hb hby d1_45) rfl ?_
      show Steps p.tables e below (T1.setTop (mkF m 46 #[.val (.ref a0), .val (.int p1), .val (.ref bs), .val (.int n), .val (.int b), .val (.int (1 : Int32))] [(.int (b - (1 : Int32))), (.int (1 : Int32)), (.int n)])) _
      refine XS.ishl X1.here hx rfl (hb hby d1_46) rfl ?_
      show Steps p.tables e below (T1.setTop (mkF m 47 #[.val (.ref a0), .val (.int p1), .val (.ref bs), .val (.int n), .val (.int b), .val (.int (1 : Int32))] [(.int ((1 : Int32) <<< ((b - (1 : Int32)) &&& 31))), (.int n)])) _
      refine XS.iadd X1.here hx rfl (hb hby d1_47) rfl ?_
      show Steps p.tables e below (T1.setTop (mkF m 48 #[.val (.ref a0), .val (.int p1), .val (.ref bs), .val (.int n), .val (.int b), .val (.int (1 : Int32))] [(.int (n + ((1 : Int32) <<< ((b - (1 : Int32)) &&& 31))))])) _
      refine XS.istoreN X1.here hx rfl (hb hby d1_48) rfl (l' := #[.val (.ref a0), .val (.int p1), .val (.ref bs), .val (.int (n + ((1 : Int32) <<< ((b - (1 : Int32)) &&& 31)))), .val (.int b), .val (.int (1 : Int32))]) rfl ?_
      show Steps p.tables e below (T1.setTop (mkF m 49 #[.val (.ref a0), .val (.int p1), .val (.ref bs), .val (.int (n + ((1 : Int32) <<< ((b - (1 : Int32)) &&& 31)))), .val (.int b), .val (.int (1 : Int32))] [])) _
      refine XS.iinc X1.here hx rfl (hb hby d1_49) rfl (l' := #[.val (.ref a0), .val (.int p1), .val (.ref bs), .val (.int (n + ((1 : Int32) <<< ((b - (1 : Int32)) &&& 31)))), .val (.int b), .val (.int (2 : Int32))]) rfl ?_
      show Steps p.tables e below (T1.setTop (mkF m 52 #[.val (.ref a0), .val (.int p1), .val (.ref bs), .val (.int (n + ((1 : Int32) <<< ((b - (1 : Int32)) &&& 31)))), .val (.int b), .val (.int (2 : Int32))] [])) _
      refine XS.goto X1.here hx rfl (pc0 := 52) (pc' := 19) rfl (hb hby d1_52) (by decide) (by decide) ?_
      exact kt
  · refine ⟨T0, h0, [], by rw [List.append_nil]; exact X0, e0, Fr.nil _, Keep.refl _ _, ?_, fun target kt => ?_⟩
    · rw [show (own_y w1 b n y1) = y1 from if_neg hc]
      exact Vy
    · rw [show (own_n w1 b n) = n from if_neg hc] at kt
      show Steps p.tables e below (T0.setTop (mkF m 19 #[.val (.ref a0), .val (.int p1), .val (.ref bs), .val (.int n), .val (.int b), .val (.int (1 : Int32))] [])) _
      refine XS.iload X0.here hx rfl (hb hby d1_19) rfl ?_
      show Steps p.tables e below (T0.setTop (mkF m 21 #[.val (.ref a0), .val (.int p1), .val (.ref bs), .val (.int n), .val (.int b), .val (.int (1 : Int32))] [(.int (1 : Int32))])) _
      refine XS.aloadN X0.here hx rfl (hb hby d1_21) rfl rfl ?_
      show Steps p.tables e below (T0.setTop (mkF m 22 #[.val (.ref a0), .val (.int p1), .val (.ref bs), .val (.int n), .val (.int b), .val (.int (1 : Int32))] [(.ref a0), (.int (1 : Int32))])) _
      refine X0.arraylength hx (by rw [e0]; exact Arw.1) (State.isArrayOf_alike hZ.alike Arw.2.1) (g := (mkF m 22 #[.val (.ref a0), .val (.int p1), .val (.ref bs), .val (.int n), .val (.int b), .val (.int (1 : Int32))] [(.ref a0), (.int (1 : Int32))])) rfl rfl (hb hby d1_22) _ ?_
      rw [len_of Sw Mw]
      show Steps p.tables e below (T0.setTop (mkF m 23 #[.val (.ref a0), .val (.int p1), .val (.ref bs), .val (.int n), .val (.int b), .val (.int (1 : Int32))] [(.int (5 : Int32)), (.int (1 : Int32))])) _
      refine XS.icmpNo X0.here hx rfl (hb hby d1_23) rfl (tlt (by decide)).2.1 ?_
      show Steps p.tables e below (T0.setTop (mkF m 26 #[.val (.ref a0), .val (.int p1), .val (.ref bs), .val (.int n), .val (.int b), .val (.int (1 : Int32))] [])) _
      refine XS.aloadN X0.here hx rfl (hb hby d1_26) rfl rfl ?_
      show Steps p.tables e below (T0.setTop (mkF m 27 #[.val (.ref a0), .val (.int p1), .val (.ref bs), .val (.int n), .val (.int b), .val (.int (1 : Int32))] [(.ref a0)])) _
      refine XS.iload X0.here hx rfl (hb hby d1_27) rfl ?_
      show Steps p.tables e below (T0.setTop (mkF m 29 #[.val (.ref a0), .val (.int p1), .val (.ref bs), .val (.int n), .val (.int b), .val (.int (1 : Int32))] [(.int (1 : Int32)), (.ref a0)])) _
      refine X0.baloadBytes hx (j := (1 : Int32)) (v := (.int w1)) (by rw [e0]; exact Arw.1) (State.isArrayOf_alike hZ.alike Arw.2.1) Arw.2.2 (inb_of Sw ⟨by decide, by decide⟩) (Has.at Hw (inb_of Sw ⟨by decide, by decide⟩) rfl) (g := (mkF m 29 #[.val (.ref a0), .val (.int p1), .val (.ref bs), .val (.int n), .val (.int b), .val (.int (1 : Int32))] [(.int (1 : Int32)), (.ref a0)])) rfl rfl (hb hby d1_29) _ ?_
      show Steps p.tables e below (T0.setTop (mkF m 30 #[.val (.ref a0), .val (.int p1), .val (.ref bs), .val (.int n), .val (.int b), .val (.int (1 : Int32))] [(.int w1)])) _
      refine XS.iload X0.here hx rfl (hb hby d1_30) rfl ?_
      show Steps p.tables e below (T0.setTop (mkF m 32 #[.val (.ref a0), .val (.int p1), .val (.ref bs), .val (.int n), .val (.int b), .val (.int (1 : Int32))] [(.int b), (.int w1)])) _
      refine XS.icmpYes X0.here hx rfl (pc0 := 32) (pc' := 49) rfl (hb hby d1_32) rfl (feq hc).2 (by decide) (by decide) ?_
      show Steps p.tables e below (T0.setTop (mkF m 49 #[.val (.ref a0), .val (.int p1), .val (.ref bs), .val (.int n), .val (.int b), .val (.int (1 : Int32))] [])) _
      refine XS.iinc X0.here hx rfl (hb hby d1_49) rfl (l' := #[.val (.ref a0), .val (.int p1), .val (.ref bs), .val (.int n), .val (.int b), .val (.int (2 : Int32))]) rfl ?_
      show Steps p.tables e below (T0.setTop (mkF m 52 #[.val (.ref a0), .val (.int p1), .val (.ref bs), .val (.int n), .val (.int b), .val (.int (2 : Int32))] [])) _
      refine XS.goto X0.here hx rfl (pc0 := 52) (pc' := 19) rfl (hb hby d1_52) (by decide) (by decide) ?_
      exact kt
set_option maxRecDepth 65536 in
set_option maxHeartbeats 40000000 in
theorem own1_t2 {p : Program} {l : Launch} {e : Env} {R : Room} {s : State} {m : MethodId} {args : Array Value} {below : List Frame} {meth : Method} {c : Code} {T0 : State} {locs : List Loc} {cells slots : Nat} {Z : State} {t0 : Array Value} {h0 : Heap} (a0 : Addr) (p1 : Int32) (bs : Addr) (kb : ClassId) (kw : ClassId) (n : Int32) (b : Int32) (y0 : Int32) (y1 : Int32) (y2 : Int32) (y3 : Int32) (y4 : Int32) (w0 : Int32) (w1 : Int32) (w2 : Int32) (w3 : Int32) (w4 : Int32) {n0 : Nat} (X0 : Stand p l e R s m args below meth c T0 locs cells slots) (hx : p.tables.exec = Jvm.exec) (hZ : Z.Warmed39 s.vm) (hw : ∀ d ∈ tables_1, d.before t0 Z = true) (hby : c.code = prog_78_method_4_code) (hown : s.vm.findClass "com/example/columella/columella/ipc/Huffman" = some m.cls) (e0 : T0.heap = h0) (Vw : Arv Z h0 a0 kw .byte (5 : Int32) [(.int w0), (.int w1), (.int w2), (.int w3), (.int w4)] (.int (0 : Int32))) (Vy : Arv Z h0 bs kb .int (5 : Int32) [(.int y0), (.int y1), (.int y2), (.int y3), (.int y4)] (.int (0 : Int32))) (hne : a0 ≠ bs) (gb : n0 ≤ bs) :
    ∃ (T' : State) (h' : Heap) (L' : List Loc), Stand p l e R s m args below meth c T' (locs ++ L') cells slots ∧ T'.heap = h' ∧ Fr n0 L' ∧ Keep h0 h' [bs] ∧ Arv Z h' bs kb .int (5 : Int32) [(.int y0), (.int y1), (.int (own_y w2 b n y2)), (.int y3), (.int y4)] (.int (0 : Int32)) ∧ ∀ target, Steps p.tables e below (T'.setTop (mkF m 19 #[.val (.ref a0), .val (.int p1), .val (.ref bs), .val (.int (own_n w2 b n)), .val (.int b), .val (.int (3 : Int32))] [])) target → Steps p.tables e below (T0.setTop (mkF m 19 #[.val (.ref a0), .val (.int p1), .val (.ref bs), .val (.int n), .val (.int b), .val (.int (2 : Int32))] [])) target := by
  obtain ⟨clw, Arw, qw, Sw, Mw, Hw, Gw⟩ := id Vw
  by_cases hc : w2 = b
  · obtain ⟨cly, Ary, qy, Sy, My, Hy, Gy⟩ := id Vy
    obtain ⟨T1, h1, X1, e1, W1, st1⟩ := stI X0 hx hZ e0 Ary (j := (2 : Int32)) (inb_of Sy ⟨by decide, by decide⟩) (g := (mkF m 39 #[.val (.ref a0), .val (.int p1), .val (.ref bs), .val (.int n), .val (.int b), .val (.int (2 : Int32))] [(.int n), (.int (2 : Int32)), (.ref bs)])) rfl rfl (hb hby d1_39)
    have V1 : Arv Z h1 bs kb .int (5 : Int32) [(.int y0), (.int y1), (.int n), (.int y3), (.int y4)] (.int (0 : Int32)) := Arv.set Ary qy Sy My Hy Gy rfl W1 2 rfl (Nat.le_of_ble_eq_true rfl)
    refine ⟨T1, h1, _, X1, e1, (fun z hz => by cases List.mem_singleton.mp hz; exact gb), Keep.of_wr W1, ?_, fun target kt => ?_⟩
    · rw [show (own_y w2 b n y2) = n from if_pos hc]
      exact V1
    · rw [show (own_n w2 b n) = (n + ((1 : Int32) <<< ((b - (1 : Int32)) &&& 31))) from if_pos hc] at kt
      show Steps p.tables e below (T0.setTop (mkF m 19 #[.val (.ref a0), .val (.int p1), .val (.ref bs), .val (.int n), .val (.int b), .val (.int (2 : Int32))] [])) _
      refine XS.iload X0.here hx rfl (hb hby d1_19) rfl ?_
      show Steps p.tables e below (T0.setTop (mkF m 21 #[.val (.ref a0), .val (.int p1), .val (.ref bs), .val (.int n), .val (.int b), .val (.int (2 : Int32))] [(.int (2 : Int32))])) _
      refine XS.aloadN X0.here hx rfl (hb hby d1_21) rfl rfl ?_
      show Steps p.tables e below (T0.setTop (mkF m 22 #[.val (.ref a0), .val (.int p1), .val (.ref bs), .val (.int n), .val (.int b), .val (.int (2 : Int32))] [(.ref a0), (.int (2 : Int32))])) _
      refine X0.arraylength hx (by rw [e0]; exact Arw.1) (State.isArrayOf_alike hZ.alike Arw.2.1) (g := (mkF m 22 #[.val (.ref a0), .val (.int p1), .val (.ref bs), .val (.int n), .val (.int b), .val (.int (2 : Int32))] [(.ref a0), (.int (2 : Int32))])) rfl rfl (hb hby d1_22) _ ?_
      rw [len_of Sw Mw]
      show Steps p.tables e below (T0.setTop (mkF m 23 #[.val (.ref a0), .val (.int p1), .val (.ref bs), .val (.int n), .val (.int b), .val (.int (2 : Int32))] [(.int (5 : Int32)), (.int (2 : Int32))])) _
      refine XS.icmpNo X0.here hx rfl (hb hby d1_23) rfl (tlt (by decide)).2.1 ?_
      show Steps p.tables e below (T0.setTop (mkF m 26 #[.val (.ref a0), .val (.int p1), .val (.ref bs), .val (.int n), .val (.int b), .val (.int (2 : Int32))] [])) _
      refine XS.aloadN X0.here hx rfl (hb hby d1_26) rfl rfl ?_
      show Steps p.tables e below (T0.setTop (mkF m 27 #[.val (.ref a0), .val (.int p1), .val (.ref bs), .val (.int n), .val (.int b), .val (.int (2 : Int32))] [(.ref a0)])) _
      refine XS.iload X0.here hx rfl (hb hby d1_27) rfl ?_
      show Steps p.tables e below (T0.setTop (mkF m 29 #[.val (.ref a0), .val (.int p1), .val (.ref bs), .val (.int n), .val (.int b), .val (.int (2 : Int32))] [(.int (2 : Int32)), (.ref a0)])) _
      refine X0.baloadBytes hx (j := (2 : Int32)) (v := (.int w2)) (by rw [e0]; exact Arw.1) (State.isArrayOf_alike hZ.alike Arw.2.1) Arw.2.2 (inb_of Sw ⟨by decide, by decide⟩) (Has.at Hw (inb_of Sw ⟨by decide, by decide⟩) rfl) (g := (mkF m 29 #[.val (.ref a0), .val (.int p1), .val (.ref bs), .val (.int n), .val (.int b), .val (.int (2 : Int32))] [(.int (2 : Int32)), (.ref a0)])) rfl rfl (hb hby d1_29) _ ?_
      show Steps p.tables e below (T0.setTop (mkF m 30 #[.val (.ref a0), .val (.int p1), .val (.ref bs), .val (.int n), .val (.int b), .val (.int (2 : Int32))] [(.int w2)])) _
      refine XS.iload X0.here hx rfl (hb hby d1_30) rfl ?_
      show Steps p.tables e below (T0.setTop (mkF m 32 #[.val (.ref a0), .val (.int p1), .val (.ref bs), .val (.int n), .val (.int b), .val (.int (2 : Int32))] [(.int b), (.int w2)])) _
      refine XS.icmpNo X0.here hx rfl (hb hby d1_32) rfl (teq hc).2 ?_
      show Steps p.tables e below (T0.setTop (mkF m 35 #[.val (.ref a0), .val (.int p1), .val (.ref bs), .val (.int n), .val (.int b), .val (.int (2 : Int32))] [])) _
      refine XS.aloadN X0.here hx rfl (hb hby d1_35) rfl rfl ?_
      show Steps p.tables e below (T0.setTop (mkF m 36 #[.val (.ref a0), .val (.int p1), .val (.ref bs), .val (.int n), .val (.int b), .val (.int (2 : Int32))] [(.ref bs)])) _
      refine XS.iload X0.here hx rfl (hb hby d1_36) rfl ?_
      show Steps p.tables e below (T0.setTop (mkF m 38 #[.val (.ref a0), .val (.int p1), .val (.ref bs), .val (.int n), .val (.int b), .val (.int (2 : Int32))] [(.int (2 : Int32)), (.ref bs)])) _
      refine XS.iloadN X0.here hx rfl (hb hby d1_38) rfl ?_
      show Steps p.tables e below (T0.setTop (mkF m 39 #[.val (.ref a0), .val (.int p1), .val (.ref bs), .val (.int n), .val (.int b), .val (.int (2 : Int32))] [(.int n), (.int (2 : Int32)), (.ref bs)])) _
      refine st1 _ ?_
      show Steps p.tables e below (T1.setTop (mkF m 40 #[.val (.ref a0), .val (.int p1), .val (.ref bs), .val (.int n), .val (.int b), .val (.int (2 : Int32))] [])) _
      refine XS.iloadN X1.here hx rfl (hb hby d1_40) rfl ?_
      show Steps p.tables e below (T1.setTop (mkF m 41 #[.val (.ref a0), .val (.int p1), .val (.ref bs), .val (.int n), .val (.int b), .val (.int (2 : Int32))] [(.int n)])) _
      refine XS.iconst X1.here hx rfl (hb hby d1_41) ?_
      show Steps p.tables e below (T1.setTop (mkF m 42 #[.val (.ref a0), .val (.int p1), .val (.ref bs), .val (.int n), .val (.int b), .val (.int (2 : Int32))] [(.int (1 : Int32)), (.int n)])) _
      refine XS.iload X1.here hx rfl (hb hby d1_42) rfl ?_
      show Steps p.tables e below (T1.setTop (mkF m 44 #[.val (.ref a0), .val (.int p1), .val (.ref bs), .val (.int n), .val (.int b), .val (.int (2 : Int32))] [(.int b), (.int (1 : Int32)), (.int n)])) _
      refine XS.iconst X1.here hx rfl (hb hby d1_44) ?_
      show Steps p.tables e below (T1.setTop (mkF m 45 #[.val (.ref a0), .val (.int p1), .val (.ref bs), .val (.int n), .val (.int b), .val (.int (2 : Int32))] [(.int (1 : Int32)), (.int b), (.int (1 : Int32)), (.int n)])) _
      refine XS.isub X1.here hx rfl (hb hby d1_45) rfl ?_
      show Steps p.tables e below (T1.setTop (mkF m 46 #[.val (.ref a0), .val (.int p1), .val (.ref bs), .val (.int n), .val (.int b), .val (.int (2 : Int32))] [(.int (b - (1 : Int32))), (.int (1 : Int32)), (.int n)])) _
      refine XS.ishl X1.here hx rfl (hb hby d1_46) rfl ?_
      show Steps p.tables e below (T1.setTop (mkF m 47 #[.val (.ref a0), .val (.int p1), .val (.ref bs), .val (.int n), .val (.int b), .val (.int (2 : Int32))] [(.int ((1 : Int32) <<< ((b - (1 : Int32)) &&& 31))), (.int n)])) _
      refine XS.iadd X1.here hx rfl (hb hby d1_47) rfl ?_
      show Steps p.tables e below (T1.setTop (mkF m 48 #[.val (.ref a0), .val (.int p1), .val (.ref bs), .val (.int n), .val (.int b), .val (.int (2 : Int32))] [(.int (n + ((1 : Int32) <<< ((b - (1 : Int32)) &&& 31))))])) _
      refine XS.istoreN X1.here hx rfl (hb hby d1_48) rfl (l' := #[.val (.ref a0), .val (.int p1), .val (.ref bs), .val (.int (n + ((1 : Int32) <<< ((b - (1 : Int32)) &&& 31)))), .val (.int b), .val (.int (2 : Int32))]) rfl ?_
      show Steps p.tables e below (T1.setTop (mkF m 49 #[.val (.ref a0), .val (.int p1), .val (.ref bs), .val (.int (n + ((1 : Int32) <<< ((b - (1 : Int32)) &&& 31)))), .val (.int b), .val (.int (2 : Int32))] [])) _
      refine XS.iinc X1.here hx rfl (hb hby d1_49) rfl (l' := #[.val (.ref a0), .val (.int p1), .val (.ref bs), .val (.int (n + ((1 : Int32) <<< ((b - (1 : Int32)) &&& 31)))), .val (.int b), .val (.int (3 : Int32))]) rfl ?_
      show Steps p.tables e below (T1.setTop (mkF m 52 #[.val (.ref a0), .val (.int p1), .val (.ref bs), .val (.int (n + ((1 : Int32) <<< ((b - (1 : Int32)) &&& 31)))), .val (.int b), .val (.int (3 : Int32))] [])) _
      refine XS.goto X1.here hx rfl (pc0 := 52) (pc' := 19) rfl (hb hby d1_52) (by decide) (by decide) ?_
      exact kt
  · refine ⟨T0, h0, [], by rw [List.append_nil]; exact X0, e0, Fr.nil _, Keep.refl _ _, ?_, fun target kt => ?_⟩
    · rw [show (own_y w2 b n y2) = y2 from if_neg hc]
      exact Vy
    · rw [show (own_n w2 b n) = n from if_neg hc] at kt
      show Steps p.tables e below (T0.setTop (mkF m 19 #[.val (.ref a0), .val (.int p1), .val (.ref bs), .val (.int n), .val (.int b), .val (.int (2 : Int32))] [])) _
      refine XS.iload X0.here hx rfl (hb hby d1_19) rfl ?_
      show Steps p.tables e below (T0.setTop (mkF m 21 #[.val (.ref a0), .val (.int p1), .val (.ref bs), .val (.int n), .val (.int b), .val (.int (2 : Int32))] [(.int (2 : Int32))])) _
      refine XS.aloadN X0.here hx rfl (hb hby d1_21) rfl rfl ?_
      show Steps p.tables e below (T0.setTop (mkF m 22 #[.val (.ref a0), .val (.int p1), .val (.ref bs), .val (.int n), .val (.int b), .val (.int (2 : Int32))] [(.ref a0), (.int (2 : Int32))])) _
      refine X0.arraylength hx (by rw [e0]; exact Arw.1) (State.isArrayOf_alike hZ.alike Arw.2.1) (g := (mkF m 22 #[.val (.ref a0), .val (.int p1), .val (.ref bs), .val (.int n), .val (.int b), .val (.int (2 : Int32))] [(.ref a0), (.int (2 : Int32))])) rfl rfl (hb hby d1_22) _ ?_
      rw [len_of Sw Mw]
      show Steps p.tables e below (T0.setTop (mkF m 23 #[.val (.ref a0), .val (.int p1), .val (.ref bs), .val (.int n), .val (.int b), .val (.int (2 : Int32))] [(.int (5 : Int32)), (.int (2 : Int32))])) _
      refine XS.icmpNo X0.here hx rfl (hb hby d1_23) rfl (tlt (by decide)).2.1 ?_
      show Steps p.tables e below (T0.setTop (mkF m 26 #[.val (.ref a0), .val (.int p1), .val (.ref bs), .val (.int n), .val (.int b), .val (.int (2 : Int32))] [])) _
      refine XS.aloadN X0.here hx rfl (hb hby d1_26) rfl rfl ?_
      show Steps p.tables e below (T0.setTop (mkF m 27 #[.val (.ref a0), .val (.int p1), .val (.ref bs), .val (.int n), .val (.int b), .val (.int (2 : Int32))] [(.ref a0)])) _
      refine XS.iload X0.here hx rfl (hb hby d1_27) rfl ?_
      show Steps p.tables e below (T0.setTop (mkF m 29 #[.val (.ref a0), .val (.int p1), .val (.ref bs), .val (.int n), .val (.int b), .val (.int (2 : Int32))] [(.int (2 : Int32)), (.ref a0)])) _
      refine X0.baloadBytes hx (j := (2 : Int32)) (v := (.int w2)) (by rw [e0]; exact Arw.1) (State.isArrayOf_alike hZ.alike Arw.2.1) Arw.2.2 (inb_of Sw ⟨by decide, by decide⟩) (Has.at Hw (inb_of Sw ⟨by decide, by decide⟩) rfl) (g := (mkF m 29 #[.val (.ref a0), .val (.int p1), .val (.ref bs), .val (.int n), .val (.int b), .val (.int (2 : Int32))] [(.int (2 : Int32)), (.ref a0)])) rfl rfl (hb hby d1_29) _ ?_
      show Steps p.tables e below (T0.setTop (mkF m 30 #[.val (.ref a0), .val (.int p1), .val (.ref bs), .val (.int n), .val (.int b), .val (.int (2 : Int32))] [(.int w2)])) _
      refine XS.iload X0.here hx rfl (hb hby d1_30) rfl ?_
      show Steps p.tables e below (T0.setTop (mkF m 32 #[.val (.ref a0), .val (.int p1), .val (.ref bs), .val (.int n), .val (.int b), .val (.int (2 : Int32))] [(.int b), (.int w2)])) _
      refine XS.icmpYes X0.here hx rfl (pc0 := 32) (pc' := 49) rfl (hb hby d1_32) rfl (feq hc).2 (by decide) (by decide) ?_
      show Steps p.tables e below (T0.setTop (mkF m 49 #[.val (.ref a0), .val (.int p1), .val (.ref bs), .val (.int n), .val (.int b), .val (.int (2 : Int32))] [])) _
      refine XS.iinc X0.here hx rfl (hb hby d1_49) rfl (l' := #[.val (.ref a0), .val (.int p1), .val (.ref bs), .val (.int n), .val (.int b), .val (.int (3 : Int32))]) rfl ?_
      show Steps p.tables e below (T0.setTop (mkF m 52 #[.val (.ref a0), .val (.int p1), .val (.ref bs), .val (.int n), .val (.int b), .val (.int (3 : Int32))] [])) _
      refine XS.goto X0.here hx rfl (pc0 := 52) (pc' := 19) rfl (hb hby d1_52) (by decide) (by decide) ?_
      exact kt
set_option maxRecDepth 65536 in
set_option maxHeartbeats 40000000 in
theorem own1_t3 {p : Program} {l : Launch} {e : Env} {R : Room} {s : State} {m : MethodId} {args : Array Value} {below : List Frame} {meth : Method} {c : Code} {T0 : State} {locs : List Loc} {cells slots : Nat} {Z : State} {t0 : Array Value} {h0 : Heap} (a0 : Addr) (p1 : Int32) (bs : Addr) (kb : ClassId) (kw : ClassId) (n : Int32) (b : Int32) (y0 : Int32) (y1 : Int32) (y2 : Int32) (y3 : Int32) (y4 : Int32) (w0 : Int32) (w1 : Int32) (w2 : Int32) (w3 : Int32) (w4 : Int32) {n0 : Nat} (X0 : Stand p l e R s m args below meth c T0 locs cells slots) (hx : p.tables.exec = Jvm.exec) (hZ : Z.Warmed39 s.vm) (hw : ∀ d ∈ tables_1, d.before t0 Z = true) (hby : c.code = prog_78_method_4_code) (hown : s.vm.findClass "com/example/columella/columella/ipc/Huffman" = some m.cls) (e0 : T0.heap = h0) (Vw : Arv Z h0 a0 kw .byte (5 : Int32) [(.int w0), (.int w1), (.int w2), (.int w3), (.int w4)] (.int (0 : Int32))) (Vy : Arv Z h0 bs kb .int (5 : Int32) [(.int y0), (.int y1), (.int y2), (.int y3), (.int y4)] (.int (0 : Int32))) (hne : a0 ≠ bs) (gb : n0 ≤ bs) :
    ∃ (T' : State) (h' : Heap) (L' : List Loc), Stand p l e R s m args below meth c T' (locs ++ L') cells slots ∧ T'.heap = h' ∧ Fr n0 L' ∧ Keep h0 h' [bs] ∧ Arv Z h' bs kb .int (5 : Int32) [(.int y0), (.int y1), (.int y2), (.int (own_y w3 b n y3)), (.int y4)] (.int (0 : Int32)) ∧ ∀ target, Steps p.tables e below (T'.setTop (mkF m 19 #[.val (.ref a0), .val (.int p1), .val (.ref bs), .val (.int (own_n w3 b n)), .val (.int b), .val (.int (4 : Int32))] [])) target → Steps p.tables e below (T0.setTop (mkF m 19 #[.val (.ref a0), .val (.int p1), .val (.ref bs), .val (.int n), .val (.int b), .val (.int (3 : Int32))] [])) target := by
  obtain ⟨clw, Arw, qw, Sw, Mw, Hw, Gw⟩ := id Vw
  by_cases hc : w3 = b
  · obtain ⟨cly, Ary, qy, Sy, My, Hy, Gy⟩ := id Vy
    obtain ⟨T1, h1, X1, e1, W1, st1⟩ := stI X0 hx hZ e0 Ary (j := (3 : Int32)) (inb_of Sy ⟨by decide, by decide⟩) (g := (mkF m 39 #[.val (.ref a0), .val (.int p1), .val (.ref bs), .val (.int n), .val (.int b), .val (.int (3 : Int32))] [(.int n), (.int (3 : Int32)), (.ref bs)])) rfl rfl (hb hby d1_39)
    have V1 : Arv Z h1 bs kb .int (5 : Int32) [(.int y0), (.int y1), (.int y2), (.int n), (.int y4)] (.int (0 : Int32)) := Arv.set Ary qy Sy My Hy Gy rfl W1 3 rfl (Nat.le_of_ble_eq_true rfl)
    refine ⟨T1, h1, _, X1, e1, (fun z hz => by cases List.mem_singleton.mp hz; exact gb), Keep.of_wr W1, ?_, fun target kt => ?_⟩
    · rw [show (own_y w3 b n y3) = n from if_pos hc]
      exact V1
    · rw [show (own_n w3 b n) = (n + ((1 : Int32) <<< ((b - (1 : Int32)) &&& 31))) from if_pos hc] at kt
      show Steps p.tables e below (T0.setTop (mkF m 19 #[.val (.ref a0), .val (.int p1), .val (.ref bs), .val (.int n), .val (.int b), .val (.int (3 : Int32))] [])) _
      refine XS.iload X0.here hx rfl (hb hby d1_19) rfl ?_
      show Steps p.tables e below (T0.setTop (mkF m 21 #[.val (.ref a0), .val (.int p1), .val (.ref bs), .val (.int n), .val (.int b), .val (.int (3 : Int32))] [(.int (3 : Int32))])) _
      refine XS.aloadN X0.here hx rfl (hb hby d1_21) rfl rfl ?_
      show Steps p.tables e below (T0.setTop (mkF m 22 #[.val (.ref a0), .val (.int p1), .val (.ref bs), .val (.int n), .val (.int b), .val (.int (3 : Int32))] [(.ref a0), (.int (3 : Int32))])) _
      refine X0.arraylength hx (by rw [e0]; exact Arw.1) (State.isArrayOf_alike hZ.alike Arw.2.1) (g := (mkF m 22 #[.val (.ref a0), .val (.int p1), .val (.ref bs), .val (.int n), .val (.int b), .val (.int (3 : Int32))] [(.ref a0), (.int (3 : Int32))])) rfl rfl (hb hby d1_22) _ ?_
      rw [len_of Sw Mw]
      show Steps p.tables e below (T0.setTop (mkF m 23 #[.val (.ref a0), .val (.int p1), .val (.ref bs), .val (.int n), .val (.int b), .val (.int (3 : Int32))] [(.int (5 : Int32)), (.int (3 : Int32))])) _
      refine XS.icmpNo X0.here hx rfl (hb hby d1_23) rfl (tlt (by decide)).2.1 ?_
      show Steps p.tables e below (T0.setTop (mkF m 26 #[.val (.ref a0), .val (.int p1), .val (.ref bs), .val (.int n), .val (.int b), .val (.int (3 : Int32))] [])) _
      refine XS.aloadN X0.here hx rfl (hb hby d1_26) rfl rfl ?_
      show Steps p.tables e below (T0.setTop (mkF m 27 #[.val (.ref a0), .val (.int p1), .val (.ref bs), .val (.int n), .val (.int b), .val (.int (3 : Int32))] [(.ref a0)])) _
      refine XS.iload X0.here hx rfl (hb hby d1_27) rfl ?_
      show Steps p.tables e below (T0.setTop (mkF m 29 #[.val (.ref a0), .val (.int p1), .val (.ref bs), .val (.int n), .val (.int b), .val (.int (3 : Int32))] [(.int (3 : Int32)), (.ref a0)])) _
      refine X0.baloadBytes hx (j := (3 : Int32)) (v := (.int w3)) (by rw [e0]; exact Arw.1) (State.isArrayOf_alike hZ.alike Arw.2.1) Arw.2.2 (inb_of Sw ⟨by decide, by decide⟩) (Has.at Hw (inb_of Sw ⟨by decide, by decide⟩) rfl) (g := (mkF m 29 #[.val (.ref a0), .val (.int p1), .val (.ref bs), .val (.int n), .val (.int b), .val (.int (3 : Int32))] [(.int (3 : Int32)), (.ref a0)])) rfl rfl (hb hby d1_29) _ ?_
      show Steps p.tables e below (T0.setTop (mkF m 30 #[.val (.ref a0), .val (.int p1), .val (.ref bs), .val (.int n), .val (.int b), .val (.int (3 : Int32))] [(.int w3)])) _
      refine XS.iload X0.here hx rfl (hb hby d1_30) rfl ?_
      show Steps p.tables e below (T0.setTop (mkF m 32 #[.val (.ref a0), .val (.int p1), .val (.ref bs), .val (.int n), .val (.int b), .val (.int (3 : Int32))] [(.int b), (.int w3)])) _
      refine XS.icmpNo X0.here hx rfl (hb hby d1_32) rfl (teq hc).2 ?_
      show Steps p.tables e below (T0.setTop (mkF m 35 #[.val (.ref a0), .val (.int p1), .val (.ref bs), .val (.int n), .val (.int b), .val (.int (3 : Int32))] [])) _
      refine XS.aloadN X0.here hx rfl (hb hby d1_35) rfl rfl ?_
      show Steps p.tables e below (T0.setTop (mkF m 36 #[.val (.ref a0), .val (.int p1), .val (.ref bs), .val (.int n), .val (.int b), .val (.int (3 : Int32))] [(.ref bs)])) _
      refine XS.iload X0.here hx rfl (hb hby d1_36) rfl ?_
      show Steps p.tables e below (T0.setTop (mkF m 38 #[.val (.ref a0), .val (.int p1), .val (.ref bs), .val (.int n), .val (.int b), .val (.int (3 : Int32))] [(.int (3 : Int32)), (.ref bs)])) _
      refine XS.iloadN X0.here hx rfl (hb hby d1_38) rfl ?_
      show Steps p.tables e below (T0.setTop (mkF m 39 #[.val (.ref a0), .val (.int p1), .val (.ref bs), .val (.int n), .val (.int b), .val (.int (3 : Int32))] [(.int n), (.int (3 : Int32)), (.ref bs)])) _
      refine st1 _ ?_
      show Steps p.tables e below (T1.setTop (mkF m 40 #[.val (.ref a0), .val (.int p1), .val (.ref bs), .val (.int n), .val (.int b), .val (.int (3 : Int32))] [])) _
      refine XS.iloadN X1.here hx rfl (hb hby d1_40) rfl ?_
      show Steps p.tables e below (T1.setTop (mkF m 41 #[.val (.ref a0), .val (.int p1), .val (.ref bs), .val (.int n), .val (.int b), .val (.int (3 : Int32))] [(.int n)])) _
      refine XS.iconst X1.here hx rfl (hb hby d1_41) ?_
      show Steps p.tables e below (T1.setTop (mkF m 42 #[.val (.ref a0), .val (.int p1), .val (.ref bs), .val (.int n), .val (.int b), .val (.int (3 : Int32))] [(.int (1 : Int32)), (.int n)])) _
      refine XS.iload X1.here hx rfl (hb hby d1_42) rfl ?_
      show Steps p.tables e below (T1.setTop (mkF m 44 #[.val (.ref a0), .val (.int p1), .val (.ref bs), .val (.int n), .val (.int b), .val (.int (3 : Int32))] [(.int b), (.int (1 : Int32)), (.int n)])) _
      refine XS.iconst X1.here hx rfl (hb hby d1_44) ?_
      show Steps p.tables e below (T1.setTop (mkF m 45 #[.val (.ref a0), .val (.int p1), .val (.ref bs), .val (.int n), .val (.int b), .val (.int (3 : Int32))] [(.int (1 : Int32)), (.int b), (.int (1 : Int32)), (.int n)])) _
      refine XS.isub X1.here hx rfl (hb hby d1_45) rfl ?_
      show Steps p.tables e below (T1.setTop (mkF m 46 #[.val (.ref a0), .val (.int p1), .val (.ref bs), .val (.int n), .val (.int b), .val (.int (3 : Int32))] [(.int (b - (1 : Int32))), (.int (1 : Int32)), (.int n)])) _
      refine XS.ishl X1.here hx rfl (hb hby d1_46) rfl ?_
      show Steps p.tables e below (T1.setTop (mkF m 47 #[.val (.ref a0), .val (.int p1), .val (.ref bs), .val (.int n), .val (.int b), .val (.int (3 : Int32))] [(.int ((1 : Int32) <<< ((b - (1 : Int32)) &&& 31))), (.int n)])) _
      refine XS.iadd X1.here hx rfl (hb hby d1_47) rfl ?_
      show Steps p.tables e below (T1.setTop (mkF m 48 #[.val (.ref a0), .val (.int p1), .val (.ref bs), .val (.int n), .val (.int b), .val (.int (3 : Int32))] [(.int (n + ((1 : Int32) <<< ((b - (1 : Int32)) &&& 31))))])) _
      refine XS.istoreN X1.here hx rfl (hb hby d1_48) rfl (l' := #[.val (.ref a0), .val (.int p1), .val (.ref bs), .val (.int (n + ((1 : Int32) <<< ((b - (1 : Int32)) &&& 31)))), .val (.int b), .val (.int (3 : Int32))]) rfl ?_
      show Steps p.tables e below (T1.setTop (mkF m 49 #[.val (.ref a0), .val (.int p1), .val (.ref bs), .val (.int (n + ((1 : Int32) <<< ((b - (1 : Int32)) &&& 31)))), .val (.int b), .val (.int (3 : Int32))] [])) _
      refine XS.iinc X1.here hx rfl (hb hby d1_49) rfl (l' := #[.val (.ref a0), .val (.int p1), .val (.ref bs), .val (.int (n + ((1 : Int32) <<< ((b - (1 : Int32)) &&& 31)))), .val (.int b), .val (.int (4 : Int32))]) rfl ?_
      show Steps p.tables e below (T1.setTop (mkF m 52 #[.val (.ref a0), .val (.int p1), .val (.ref bs), .val (.int (n + ((1 : Int32) <<< ((b - (1 : Int32)) &&& 31)))), .val (.int b), .val (.int (4 : Int32))] [])) _
      refine XS.goto X1.here hx rfl (pc0 := 52) (pc' := 19) rfl (hb hby d1_52) (by decide) (by decide) ?_
      exact kt
  · refine ⟨T0, h0, [], by rw [List.append_nil]; exact X0, e0, Fr.nil _, Keep.refl _ _, ?_, fun target kt => ?_⟩
    · rw [show (own_y w3 b n y3) = y3 from if_neg hc]
      exact Vy
    · rw [show (own_n w3 b n) = n from if_neg hc] at kt
      show Steps p.tables e below (T0.setTop (mkF m 19 #[.val (.ref a0), .val (.int p1), .val (.ref bs), .val (.int n), .val (.int b), .val (.int (3 : Int32))] [])) _
      refine XS.iload X0.here hx rfl (hb hby d1_19) rfl ?_
      show Steps p.tables e below (T0.setTop (mkF m 21 #[.val (.ref a0), .val (.int p1), .val (.ref bs), .val (.int n), .val (.int b), .val (.int (3 : Int32))] [(.int (3 : Int32))])) _
      refine XS.aloadN X0.here hx rfl (hb hby d1_21) rfl rfl ?_
      show Steps p.tables e below (T0.setTop (mkF m 22 #[.val (.ref a0), .val (.int p1), .val (.ref bs), .val (.int n), .val (.int b), .val (.int (3 : Int32))] [(.ref a0), (.int (3 : Int32))])) _
      refine X0.arraylength hx (by rw [e0]; exact Arw.1) (State.isArrayOf_alike hZ.alike Arw.2.1) (g := (mkF m 22 #[.val (.ref a0), .val (.int p1), .val (.ref bs), .val (.int n), .val (.int b), .val (.int (3 : Int32))] [(.ref a0), (.int (3 : Int32))])) rfl rfl (hb hby d1_22) _ ?_
      rw [len_of Sw Mw]
      show Steps p.tables e below (T0.setTop (mkF m 23 #[.val (.ref a0), .val (.int p1), .val (.ref bs), .val (.int n), .val (.int b), .val (.int (3 : Int32))] [(.int (5 : Int32)), (.int (3 : Int32))])) _
      refine XS.icmpNo X0.here hx rfl (hb hby d1_23) rfl (tlt (by decide)).2.1 ?_
      show Steps p.tables e below (T0.setTop (mkF m 26 #[.val (.ref a0), .val (.int p1), .val (.ref bs), .val (.int n), .val (.int b), .val (.int (3 : Int32))] [])) _
      refine XS.aloadN X0.here hx rfl (hb hby d1_26) rfl rfl ?_
      show Steps p.tables e below (T0.setTop (mkF m 27 #[.val (.ref a0), .val (.int p1), .val (.ref bs), .val (.int n), .val (.int b), .val (.int (3 : Int32))] [(.ref a0)])) _
      refine XS.iload X0.here hx rfl (hb hby d1_27) rfl ?_
      show Steps p.tables e below (T0.setTop (mkF m 29 #[.val (.ref a0), .val (.int p1), .val (.ref bs), .val (.int n), .val (.int b), .val (.int (3 : Int32))] [(.int (3 : Int32)), (.ref a0)])) _
      refine X0.baloadBytes hx (j := (3 : Int32)) (v := (.int w3)) (by rw [e0]; exact Arw.1) (State.isArrayOf_alike hZ.alike Arw.2.1) Arw.2.2 (inb_of Sw ⟨by decide, by decide⟩) (Has.at Hw (inb_of Sw ⟨by decide, by decide⟩) rfl) (g := (mkF m 29 #[.val (.ref a0), .val (.int p1), .val (.ref bs), .val (.int n), .val (.int b), .val (.int (3 : Int32))] [(.int (3 : Int32)), (.ref a0)])) rfl rfl (hb hby d1_29) _ ?_
      show Steps p.tables e below (T0.setTop (mkF m 30 #[.val (.ref a0), .val (.int p1), .val (.ref bs), .val (.int n), .val (.int b), .val (.int (3 : Int32))] [(.int w3)])) _
      refine XS.iload X0.here hx rfl (hb hby d1_30) rfl ?_
      show Steps p.tables e below (T0.setTop (mkF m 32 #[.val (.ref a0), .val (.int p1), .val (.ref bs), .val (.int n), .val (.int b), .val (.int (3 : Int32))] [(.int b), (.int w3)])) _
      refine XS.icmpYes X0.here hx rfl (pc0 := 32) (pc' := 49) rfl (hb hby d1_32) rfl (feq hc).2 (by decide) (by decide) ?_
      show Steps p.tables e below (T0.setTop (mkF m 49 #[.val (.ref a0), .val (.int p1), .val (.ref bs), .val (.int n), .val (.int b), .val (.int (3 : Int32))] [])) _
      refine XS.iinc X0.here hx rfl (hb hby d1_49) rfl (l' := #[.val (.ref a0), .val (.int p1), .val (.ref bs), .val (.int n), .val (.int b), .val (.int (4 : Int32))]) rfl ?_
      show Steps p.tables e below (T0.setTop (mkF m 52 #[.val (.ref a0), .val (.int p1), .val (.ref bs), .val (.int n), .val (.int b), .val (.int (4 : Int32))] [])) _
      refine XS.goto X0.here hx rfl (pc0 := 52) (pc' := 19) rfl (hb hby d1_52) (by decide) (by decide) ?_
      exact kt
set_option maxRecDepth 65536 in
set_option maxHeartbeats 40000000 in
theorem own1_t4 {p : Program} {l : Launch} {e : Env} {R : Room} {s : State} {m : MethodId} {args : Array Value} {below : List Frame} {meth : Method} {c : Code} {T0 : State} {locs : List Loc} {cells slots : Nat} {Z : State} {t0 : Array Value} {h0 : Heap} (a0 : Addr) (p1 : Int32) (bs : Addr) (kb : ClassId) (kw : ClassId) (n : Int32) (b : Int32) (y0 : Int32) (y1 : Int32) (y2 : Int32) (y3 : Int32) (y4 : Int32) (w0 : Int32) (w1 : Int32) (w2 : Int32) (w3 : Int32) (w4 : Int32) {n0 : Nat} (X0 : Stand p l e R s m args below meth c T0 locs cells slots) (hx : p.tables.exec = Jvm.exec) (hZ : Z.Warmed39 s.vm) (hw : ∀ d ∈ tables_1, d.before t0 Z = true) (hby : c.code = prog_78_method_4_code) (hown : s.vm.findClass "com/example/columella/columella/ipc/Huffman" = some m.cls) (e0 : T0.heap = h0) (Vw : Arv Z h0 a0 kw .byte (5 : Int32) [(.int w0), (.int w1), (.int w2), (.int w3), (.int w4)] (.int (0 : Int32))) (Vy : Arv Z h0 bs kb .int (5 : Int32) [(.int y0), (.int y1), (.int y2), (.int y3), (.int y4)] (.int (0 : Int32))) (hne : a0 ≠ bs) (gb : n0 ≤ bs) :
    ∃ (T' : State) (h' : Heap) (L' : List Loc), Stand p l e R s m args below meth c T' (locs ++ L') cells slots ∧ T'.heap = h' ∧ Fr n0 L' ∧ Keep h0 h' [bs] ∧ Arv Z h' bs kb .int (5 : Int32) [(.int y0), (.int y1), (.int y2), (.int y3), (.int (own_y w4 b n y4))] (.int (0 : Int32)) ∧ ∀ target, Steps p.tables e below (T'.setTop (mkF m 19 #[.val (.ref a0), .val (.int p1), .val (.ref bs), .val (.int (own_n w4 b n)), .val (.int b), .val (.int (5 : Int32))] [])) target → Steps p.tables e below (T0.setTop (mkF m 19 #[.val (.ref a0), .val (.int p1), .val (.ref bs), .val (.int n), .val (.int b), .val (.int (4 : Int32))] [])) target := by
  obtain ⟨clw, Arw, qw, Sw, Mw, Hw, Gw⟩ := id Vw
  by_cases hc : w4 = b
  · obtain ⟨cly, Ary, qy, Sy, My, Hy, Gy⟩ := id Vy
    obtain ⟨T1, h1, X1, e1, W1, st1⟩ := stI X0 hx hZ e0 Ary (j := (4 : Int32)) (inb_of Sy ⟨by decide, by decide⟩) (g := (mkF m 39 #[.val (.ref a0), .val (.int p1), .val (.ref bs), .val (.int n), .val (.int b), .val (.int (4 : Int32))] [(.int n), (.int (4 : Int32)), (.ref bs)])) rfl rfl (hb hby d1_39)
    have V1 : Arv Z h1 bs kb .int (5 : Int32) [(.int y0), (.int y1), (.int y2), (.int y3), (.int n)] (.int (0 : Int32)) := Arv.set Ary qy Sy My Hy Gy rfl W1 4 rfl (Nat.le_of_ble_eq_true rfl)
    refine ⟨T1, h1, _, X1, e1, (fun z hz => by cases List.mem_singleton.mp hz; exact gb), Keep.of_wr W1, ?_, fun target kt => ?_⟩
    · rw [show (own_y w4 b n y4) = n from if_pos hc]
      exact V1
    · rw [show (own_n w4 b n) = (n + ((1 : Int32) <<< ((b - (1 : Int32)) &&& 31))) from if_pos hc] at kt
      show Steps p.tables e below (T0.setTop (mkF m 19 #[.val (.ref a0), .val (.int p1), .val (.ref bs), .val (.int n), .val (.int b), .val (.int (4 : Int32))] [])) _
      refine XS.iload X0.here hx rfl (hb hby d1_19) rfl ?_
      show Steps p.tables e below (T0.setTop (mkF m 21 #[.val (.ref a0), .val (.int p1), .val (.ref bs), .val (.int n), .val (.int b), .val (.int (4 : Int32))] [(.int (4 : Int32))])) _
      refine XS.aloadN X0.here hx rfl (hb hby d1_21) rfl rfl ?_
      show Steps p.tables e below (T0.setTop (mkF m 22 #[.val (.ref a0), .val (.int p1), .val (.ref bs), .val (.int n), .val (.int b), .val (.int (4 : Int32))] [(.ref a0), (.int (4 : Int32))])) _
      refine X0.arraylength hx (by rw [e0]; exact Arw.1) (State.isArrayOf_alike hZ.alike Arw.2.1) (g := (mkF m 22 #[.val (.ref a0), .val (.int p1), .val (.ref bs), .val (.int n), .val (.int b), .val (.int (4 : Int32))] [(.ref a0), (.int (4 : Int32))])) rfl rfl (hb hby d1_22) _ ?_
      rw [len_of Sw Mw]
      show Steps p.tables e below (T0.setTop (mkF m 23 #[.val (.ref a0), .val (.int p1), .val (.ref bs), .val (.int n), .val (.int b), .val (.int (4 : Int32))] [(.int (5 : Int32)), (.int (4 : Int32))])) _
      refine XS.icmpNo X0.here hx rfl (hb hby d1_23) rfl (tlt (by decide)).2.1 ?_
      show Steps p.tables e below (T0.setTop (mkF m 26 #[.val (.ref a0), .val (.int p1), .val (.ref bs), .val (.int n), .val (.int b), .val (.int (4 : Int32))] [])) _
      refine XS.aloadN X0.here hx rfl (hb hby d1_26) rfl rfl ?_
      show Steps p.tables e below (T0.setTop (mkF m 27 #[.val (.ref a0), .val (.int p1), .val (.ref bs), .val (.int n), .val (.int b), .val (.int (4 : Int32))] [(.ref a0)])) _
      refine XS.iload X0.here hx rfl (hb hby d1_27) rfl ?_
      show Steps p.tables e below (T0.setTop (mkF m 29 #[.val (.ref a0), .val (.int p1), .val (.ref bs), .val (.int n), .val (.int b), .val (.int (4 : Int32))] [(.int (4 : Int32)), (.ref a0)])) _
      refine X0.baloadBytes hx (j := (4 : Int32)) (v := (.int w4)) (by rw [e0]; exact Arw.1) (State.isArrayOf_alike hZ.alike Arw.2.1) Arw.2.2 (inb_of Sw ⟨by decide, by decide⟩) (Has.at Hw (inb_of Sw ⟨by decide, by decide⟩) rfl) (g := (mkF m 29 #[.val (.ref a0), .val (.int p1), .val (.ref bs), .val (.int n), .val (.int b), .val (.int (4 : Int32))] [(.int (4 : Int32)), (.ref a0)])) rfl rfl (hb hby d1_29) _ ?_
      show Steps p.tables e below (T0.setTop (mkF m 30 #[.val (.ref a0), .val (.int p1), .val (.ref bs), .val (.int n), .val (.int b), .val (.int (4 : Int32))] [(.int w4)])) _
      refine XS.iload X0.here hx rfl (hb hby d1_30) rfl ?_
      show Steps p.tables e below (T0.setTop (mkF m 32 #[.val (.ref a0), .val (.int p1), .val (.ref bs), .val (.int n), .val (.int b), .val (.int (4 : Int32))] [(.int b), (.int w4)])) _
      refine XS.icmpNo X0.here hx rfl (hb hby d1_32) rfl (teq hc).2 ?_
      show Steps p.tables e below (T0.setTop (mkF m 35 #[.val (.ref a0), .val (.int p1), .val (.ref bs), .val (.int n), .val (.int b), .val (.int (4 : Int32))] [])) _
      refine XS.aloadN X0.here hx rfl (hb hby d1_35) rfl rfl ?_
      show Steps p.tables e below (T0.setTop (mkF m 36 #[.val (.ref a0), .val (.int p1), .val (.ref bs), .val (.int n), .val (.int b), .val (.int (4 : Int32))] [(.ref bs)])) _
      refine XS.iload X0.here hx rfl (hb hby d1_36) rfl ?_
      show Steps p.tables e below (T0.setTop (mkF m 38 #[.val (.ref a0), .val (.int p1), .val (.ref bs), .val (.int n), .val (.int b), .val (.int (4 : Int32))] [(.int (4 : Int32)), (.ref bs)])) _
      refine XS.iloadN X0.here hx rfl (hb hby d1_38) rfl ?_
      show Steps p.tables e below (T0.setTop (mkF m 39 #[.val (.ref a0), .val (.int p1), .val (.ref bs), .val (.int n), .val (.int b), .val (.int (4 : Int32))] [(.int n), (.int (4 : Int32)), (.ref bs)])) _
      refine st1 _ ?_
      show Steps p.tables e below (T1.setTop (mkF m 40 #[.val (.ref a0), .val (.int p1), .val (.ref bs), .val (.int n), .val (.int b), .val (.int (4 : Int32))] [])) _
      refine XS.iloadN X1.here hx rfl (hb hby d1_40) rfl ?_
      show Steps p.tables e below (T1.setTop (mkF m 41 #[.val (.ref a0), .val (.int p1), .val (.ref bs), .val (.int n), .val (.int b), .val (.int (4 : Int32))] [(.int n)])) _
      refine XS.iconst X1.here hx rfl (hb hby d1_41) ?_
      show Steps p.tables e below (T1.setTop (mkF m 42 #[.val (.ref a0), .val (.int p1), .val (.ref bs), .val (.int n), .val (.int b), .val (.int (4 : Int32))] [(.int (1 : Int32)), (.int n)])) _
      refine XS.iload X1.here hx rfl (hb hby d1_42) rfl ?_
      show Steps p.tables e below (T1.setTop (mkF m 44 #[.val (.ref a0), .val (.int p1), .val (.ref bs), .val (.int n), .val (.int b), .val (.int (4 : Int32))] [(.int b), (.int (1 : Int32)), (.int n)])) _
      refine XS.iconst X1.here hx rfl (hb hby d1_44) ?_
      show Steps p.tables e below (T1.setTop (mkF m 45 #[.val (.ref a0), .val (.int p1), .val (.ref bs), .val (.int n), .val (.int b), .val (.int (4 : Int32))] [(.int (1 : Int32)), (.int b), (.int (1 : Int32)), (.int n)])) _
      refine XS.isub X1.here hx rfl (hb hby d1_45) rfl ?_
      show Steps p.tables e below (T1.setTop (mkF m 46 #[.val (.ref a0), .val (.int p1), .val (.ref bs), .val (.int n), .val (.int b), .val (.int (4 : Int32))] [(.int (b - (1 : Int32))), (.int (1 : Int32)), (.int n)])) _
      refine XS.ishl X1.here hx rfl (hb hby d1_46) rfl ?_
      show Steps p.tables e below (T1.setTop (mkF m 47 #[.val (.ref a0), .val (.int p1), .val (.ref bs), .val (.int n), .val (.int b), .val (.int (4 : Int32))] [(.int ((1 : Int32) <<< ((b - (1 : Int32)) &&& 31))), (.int n)])) _
      refine XS.iadd X1.here hx rfl (hb hby d1_47) rfl ?_
      show Steps p.tables e below (T1.setTop (mkF m 48 #[.val (.ref a0), .val (.int p1), .val (.ref bs), .val (.int n), .val (.int b), .val (.int (4 : Int32))] [(.int (n + ((1 : Int32) <<< ((b - (1 : Int32)) &&& 31))))])) _
      refine XS.istoreN X1.here hx rfl (hb hby d1_48) rfl (l' := #[.val (.ref a0), .val (.int p1), .val (.ref bs), .val (.int (n + ((1 : Int32) <<< ((b - (1 : Int32)) &&& 31)))), .val (.int b), .val (.int (4 : Int32))]) rfl ?_
      show Steps p.tables e below (T1.setTop (mkF m 49 #[.val (.ref a0), .val (.int p1), .val (.ref bs), .val (.int (n + ((1 : Int32) <<< ((b - (1 : Int32)) &&& 31)))), .val (.int b), .val (.int (4 : Int32))] [])) _
      refine XS.iinc X1.here hx rfl (hb hby d1_49) rfl (l' := #[.val (.ref a0), .val (.int p1), .val (.ref bs), .val (.int (n + ((1 : Int32) <<< ((b - (1 : Int32)) &&& 31)))), .val (.int b), .val (.int (5 : Int32))]) rfl ?_
      show Steps p.tables e below (T1.setTop (mkF m 52 #[.val (.ref a0), .val (.int p1), .val (.ref bs), .val (.int (n + ((1 : Int32) <<< ((b - (1 : Int32)) &&& 31)))), .val (.int b), .val (.int (5 : Int32))] [])) _
      refine XS.goto X1.here hx rfl (pc0 := 52) (pc' := 19) rfl (hb hby d1_52) (by decide) (by decide) ?_
      exact kt
  · refine ⟨T0, h0, [], by rw [List.append_nil]; exact X0, e0, Fr.nil _, Keep.refl _ _, ?_, fun target kt => ?_⟩
    · rw [show (own_y w4 b n y4) = y4 from if_neg hc]
      exact Vy
    · rw [show (own_n w4 b n) = n from if_neg hc] at kt
      show Steps p.tables e below (T0.setTop (mkF m 19 #[.val (.ref a0), .val (.int p1), .val (.ref bs), .val (.int n), .val (.int b), .val (.int (4 : Int32))] [])) _
      refine XS.iload X0.here hx rfl (hb hby d1_19) rfl ?_
      show Steps p.tables e below (T0.setTop (mkF m 21 #[.val (.ref a0), .val (.int p1), .val (.ref bs), .val (.int n), .val (.int b), .val (.int (4 : Int32))] [(.int (4 : Int32))])) _
      refine XS.aloadN X0.here hx rfl (hb hby d1_21) rfl rfl ?_
      show Steps p.tables e below (T0.setTop (mkF m 22 #[.val (.ref a0), .val (.int p1), .val (.ref bs), .val (.int n), .val (.int b), .val (.int (4 : Int32))] [(.ref a0), (.int (4 : Int32))])) _
      refine X0.arraylength hx (by rw [e0]; exact Arw.1) (State.isArrayOf_alike hZ.alike Arw.2.1) (g := (mkF m 22 #[.val (.ref a0), .val (.int p1), .val (.ref bs), .val (.int n), .val (.int b), .val (.int (4 : Int32))] [(.ref a0), (.int (4 : Int32))])) rfl rfl (hb hby d1_22) _ ?_
      rw [len_of Sw Mw]
      show Steps p.tables e below (T0.setTop (mkF m 23 #[.val (.ref a0), .val (.int p1), .val (.ref bs), .val (.int n), .val (.int b), .val (.int (4 : Int32))] [(.int (5 : Int32)), (.int (4 : Int32))])) _
      refine XS.icmpNo X0.here hx rfl (hb hby d1_23) rfl (tlt (by decide)).2.1 ?_
      show Steps p.tables e below (T0.setTop (mkF m 26 #[.val (.ref a0), .val (.int p1), .val (.ref bs), .val (.int n), .val (.int b), .val (.int (4 : Int32))] [])) _
      refine XS.aloadN X0.here hx rfl (hb hby d1_26) rfl rfl ?_
      show Steps p.tables e below (T0.setTop (mkF m 27 #[.val (.ref a0), .val (.int p1), .val (.ref bs), .val (.int n), .val (.int b), .val (.int (4 : Int32))] [(.ref a0)])) _
      refine XS.iload X0.here hx rfl (hb hby d1_27) rfl ?_
      show Steps p.tables e below (T0.setTop (mkF m 29 #[.val (.ref a0), .val (.int p1), .val (.ref bs), .val (.int n), .val (.int b), .val (.int (4 : Int32))] [(.int (4 : Int32)), (.ref a0)])) _
      refine X0.baloadBytes hx (j := (4 : Int32)) (v := (.int w4)) (by rw [e0]; exact Arw.1) (State.isArrayOf_alike hZ.alike Arw.2.1) Arw.2.2 (inb_of Sw ⟨by decide, by decide⟩) (Has.at Hw (inb_of Sw ⟨by decide, by decide⟩) rfl) (g := (mkF m 29 #[.val (.ref a0), .val (.int p1), .val (.ref bs), .val (.int n), .val (.int b), .val (.int (4 : Int32))] [(.int (4 : Int32)), (.ref a0)])) rfl rfl (hb hby d1_29) _ ?_
      show Steps p.tables e below (T0.setTop (mkF m 30 #[.val (.ref a0), .val (.int p1), .val (.ref bs), .val (.int n), .val (.int b), .val (.int (4 : Int32))] [(.int w4)])) _
      refine XS.iload X0.here hx rfl (hb hby d1_30) rfl ?_
      show Steps p.tables e below (T0.setTop (mkF m 32 #[.val (.ref a0), .val (.int p1), .val (.ref bs), .val (.int n), .val (.int b), .val (.int (4 : Int32))] [(.int b), (.int w4)])) _
      refine XS.icmpYes X0.here hx rfl (pc0 := 32) (pc' := 49) rfl (hb hby d1_32) rfl (feq hc).2 (by decide) (by decide) ?_
      show Steps p.tables e below (T0.setTop (mkF m 49 #[.val (.ref a0), .val (.int p1), .val (.ref bs), .val (.int n), .val (.int b), .val (.int (4 : Int32))] [])) _
      refine XS.iinc X0.here hx rfl (hb hby d1_49) rfl (l' := #[.val (.ref a0), .val (.int p1), .val (.ref bs), .val (.int n), .val (.int b), .val (.int (5 : Int32))]) rfl ?_
      show Steps p.tables e below (T0.setTop (mkF m 52 #[.val (.ref a0), .val (.int p1), .val (.ref bs), .val (.int n), .val (.int b), .val (.int (5 : Int32))] [])) _
      refine XS.goto X0.here hx rfl (pc0 := 52) (pc' := 19) rfl (hb hby d1_52) (by decide) (by decide) ?_
      exact kt
theorem own_os {a0 bs : Addr} {p1 n b v : Int32} {s5 : Slot} (h : One s5) : storeLocals #[.val (.ref a0), .val (.int p1), .val (.ref bs), .val (.int n), .val (.int b), s5] 5 (.int v) = some #[.val (.ref a0), .val (.int p1), .val (.ref bs), .val (.int n), .val (.int b), .val (.int v)] := by
  rcases h with rfl | ⟨w, rfl, hw⟩
  · rfl
  · cases w <;> first | rfl | (simp [Value.category] at hw)
set_option maxRecDepth 65536 in
set_option maxHeartbeats 40000000 in
theorem own1_o {p : Program} {l : Launch} {e : Env} {R : Room} {s : State} {m : MethodId} {args : Array Value} {below : List Frame} {meth : Method} {c : Code} {T0 : State} {locs : List Loc} {cells slots : Nat} {Z : State} {t0 : Array Value} {h0 : Heap} (a0 : Addr) (p1 : Int32) (bs : Addr) (kb : ClassId) (kw : ClassId) (n : Int32) (b : Int32) (y0 : Int32) (y1 : Int32) (y2 : Int32) (y3 : Int32) (y4 : Int32) (w0 : Int32) (w1 : Int32) (w2 : Int32) (w3 : Int32) (w4 : Int32) {n0 : Nat} (s5 : Slot) (X0 : Stand p l e R s m args below meth c T0 locs cells slots) (hx : p.tables.exec = Jvm.exec) (hZ : Z.Warmed39 s.vm) (hw : ∀ d ∈ tables_1, d.before t0 Z = true) (hby : c.code = prog_78_method_4_code) (hown : s.vm.findClass "com/example/columella/columella/ipc/Huffman" = some m.cls) (e0 : T0.heap = h0) (Vw : Arv Z h0 a0 kw .byte (5 : Int32) [(.int w0), (.int w1), (.int w2), (.int w3), (.int w4)] (.int (0 : Int32))) (Vy : Arv Z h0 bs kb .int (5 : Int32) [(.int y0), (.int y1), (.int y2), (.int y3), (.int y4)] (.int (0 : Int32))) (hne : a0 ≠ bs) (gb : n0 ≤ bs) (hs5 : One s5) (hc13 : ¬ (p1 < b)) :
    ∃ (T' : State) (h' : Heap) (L' : List Loc), Stand p l e R s m args below meth c T' (locs ++ L') cells slots ∧ T'.heap = h' ∧ Fr n0 L' ∧ Keep h0 h' [bs] ∧ Arv Z h' bs kb .int (5 : Int32) [(.int (own_y w0 b n y0)), (.int (own_y w1 b (own_n w0 b n) y1)), (.int (own_y w2 b (own_n w1 b (own_n w0 b n)) y2)), (.int (own_y w3 b (own_n w2 b (own_n w1 b (own_n w0 b n))) y3)), (.int (own_y w4 b (own_n w3 b (own_n w2 b (own_n w1 b (own_n w0 b n)))) y4))] (.int (0 : Int32)) ∧ ∀ target, Steps p.tables e below (T'.setTop (mkF m 10 #[.val (.ref a0), .val (.int p1), .val (.ref bs), .val (.int (own_n w4 b (own_n w3 b (own_n w2 b (own_n w1 b (own_n w0 b n)))))), .val (.int (b + (1 : Int32))), .val (.int (5 : Int32))] [])) target → Steps p.tables e below (T0.setTop (mkF m 10 #[.val (.ref a0), .val (.int p1), .val (.ref bs), .val (.int n), .val (.int b), s5] [])) target := by
  obtain ⟨T1, h1, L1, X1, e1, N1, K1, V1, st1⟩ := own1_t0 a0 p1 bs kb kw n b y0 y1 y2 y3 y4 w0 w1 w2 w3 w4 X0 hx hZ hw hby hown e0 Vw Vy hne gb
  have Vw1 := Vw.keep K1 (ninS hne nin0)
  have J1 : Keep h0 h1 [bs] := K1
  obtain ⟨T2, h2, L2, X2, e2, N2, K2, V2, st2⟩ := own1_t1 a0 p1 bs kb kw (own_n w0 b n) b (own_y w0 b n y0) y1 y2 y3 y4 w0 w1 w2 w3 w4 X1 hx hZ hw hby hown e1 Vw1 V1 hne gb
  have Vw2 := Vw1.keep K2 (ninS hne nin0)
  have J2 : Keep h0 h2 [bs] := J1.trans K2 (fun z hz => Or.inl hz)
  obtain ⟨T3, h3, L3, X3, e3, N3, K3, V3, st3⟩ := own1_t2 a0 p1 bs kb kw (own_n w1 b (own_n w0 b n)) b (own_y w0 b n y0) (own_y w1 b (own_n w0 b n) y1) y2 y3 y4 w0 w1 w2 w3 w4 X2 hx hZ hw hby hown e2 Vw2 V2 hne gb
  have Vw3 := Vw2.keep K3 (ninS hne nin0)
  have J3 : Keep h0 h3 [bs] := J2.trans K3 (fun z hz => Or.inl hz)
  obtain ⟨T4, h4, L4, X4, e4, N4, K4, V4, st4⟩ := own1_t3 a0 p1 bs kb kw (own_n w2 b (own_n w1 b (own_n w0 b n))) b (own_y w0 b n y0) (own_y w1 b (own_n w0 b n) y1) (own_y w2 b (own_n w1 b (own_n w0 b n)) y2) y3 y4 w0 w1 w2 w3 w4 X3 hx hZ hw hby hown e3 Vw3 V3 hne gb
  have Vw4 := Vw3.keep K4 (ninS hne nin0)
  have J4 : Keep h0 h4 [bs] := J3.trans K4 (fun z hz => Or.inl hz)
  obtain ⟨T5, h5, L5, X5, e5, N5, K5, V5, st5⟩ := own1_t4 a0 p1 bs kb kw (own_n w3 b (own_n w2 b (own_n w1 b (own_n w0 b n)))) b (own_y w0 b n y0) (own_y w1 b (own_n w0 b n) y1) (own_y w2 b (own_n w1 b (own_n w0 b n)) y2) (own_y w3 b (own_n w2 b (own_n w1 b (own_n w0 b n))) y3) y4 w0 w1 w2 w3 w4 X4 hx hZ hw hby hown e4 Vw4 V4 hne gb
  have Vw5 := Vw4.keep K5 (ninS hne nin0)
  have J5 : Keep h0 h5 [bs] := J4.trans K5 (fun z hz => Or.inl hz)
  obtain ⟨clw, Arw, qw, Sw, Mw, Hw, Gw⟩ := Vw5
  refine ⟨T5, h5, (L1 ++ (L2 ++ (L3 ++ (L4 ++ L5)))), by simpa only [List.append_assoc] using X5, e5, N1.app (N2.app (N3.app (N4.app N5))), J5, V5, fun target kt => ?_⟩
  show Steps p.tables e below (T0.setTop (mkF m 10 #[.val (.ref a0), .val (.int p1), .val (.ref bs), .val (.int n), .val (.int b), s5] [])) _
  refine XS.iload X0.here hx rfl (hb hby d1_10) rfl ?_
  show Steps p.tables e below (T0.setTop (mkF m 12 #[.val (.ref a0), .val (.int p1), .val (.ref bs), .val (.int n), .val (.int b), s5] [(.int b)])) _
  refine XS.iloadN X0.here hx rfl (hb hby d1_12) rfl ?_
  show Steps p.tables e below (T0.setTop (mkF m 13 #[.val (.ref a0), .val (.int p1), .val (.ref bs), .val (.int n), .val (.int b), s5] [(.int p1), (.int b)])) _
  refine XS.icmpNo X0.here hx rfl (hb hby d1_13) rfl (flt hc13).2.2.1 ?_
  show Steps p.tables e below (T0.setTop (mkF m 16 #[.val (.ref a0), .val (.int p1), .val (.ref bs), .val (.int n), .val (.int b), s5] [])) _
  refine XS.iconst X0.here hx rfl (hb hby d1_16) ?_
  show Steps p.tables e below (T0.setTop (mkF m 17 #[.val (.ref a0), .val (.int p1), .val (.ref bs), .val (.int n), .val (.int b), s5] [(.int (0 : Int32))])) _
  refine XS.istore X0.here hx rfl (hb hby d1_17) rfl (l' := #[.val (.ref a0), .val (.int p1), .val (.ref bs), .val (.int n), .val (.int b), .val (.int (0 : Int32))]) (own_os hs5) ?_
  refine st1 _ ?_
  refine st2 _ ?_
  refine st3 _ ?_
  refine st4 _ ?_
  refine st5 _ ?_
  show Steps p.tables e below (T5.setTop (mkF m 19 #[.val (.ref a0), .val (.int p1), .val (.ref bs), .val (.int (own_n w4 b (own_n w3 b (own_n w2 b (own_n w1 b (own_n w0 b n)))))), .val (.int b), .val (.int (5 : Int32))] [])) _
  refine XS.iload X5.here hx rfl (hb hby d1_19) rfl ?_
  show Steps p.tables e below (T5.setTop (mkF m 21 #[.val (.ref a0), .val (.int p1), .val (.ref bs), .val (.int (own_n w4 b (own_n w3 b (own_n w2 b (own_n w1 b (own_n w0 b n)))))), .val (.int b), .val (.int (5 : Int32))] [(.int (5 : Int32))])) _
  refine XS.aloadN X5.here hx rfl (hb hby d1_21) rfl rfl ?_
  show Steps p.tables e below (T5.setTop (mkF m 22 #[.val (.ref a0), .val (.int p1), .val (.ref bs), .val (.int (own_n w4 b (own_n w3 b (own_n w2 b (own_n w1 b (own_n w0 b n)))))), .val (.int b), .val (.int (5 : Int32))] [(.ref a0), (.int (5 : Int32))])) _
  refine X5.arraylength hx (by rw [e5]; exact Arw.1) (State.isArrayOf_alike hZ.alike Arw.2.1) (g := (mkF m 22 #[.val (.ref a0), .val (.int p1), .val (.ref bs), .val (.int (own_n w4 b (own_n w3 b (own_n w2 b (own_n w1 b (own_n w0 b n)))))), .val (.int b), .val (.int (5 : Int32))] [(.ref a0), (.int (5 : Int32))])) rfl rfl (hb hby d1_22) _ ?_
  rw [len_of Sw Mw]
  show Steps p.tables e below (T5.setTop (mkF m 23 #[.val (.ref a0), .val (.int p1), .val (.ref bs), .val (.int (own_n w4 b (own_n w3 b (own_n w2 b (own_n w1 b (own_n w0 b n)))))), .val (.int b), .val (.int (5 : Int32))] [(.int (5 : Int32)), (.int (5 : Int32))])) _
  refine XS.icmpYes X5.here hx rfl (pc0 := 23) (pc' := 55) rfl (hb hby d1_23) rfl (flt (by decide)).2.1 (by decide) (by decide) ?_
  show Steps p.tables e below (T5.setTop (mkF m 55 #[.val (.ref a0), .val (.int p1), .val (.ref bs), .val (.int (own_n w4 b (own_n w3 b (own_n w2 b (own_n w1 b (own_n w0 b n)))))), .val (.int b), .val (.int (5 : Int32))] [])) _
  refine XS.iinc X5.here hx rfl (hb hby d1_55) rfl (l' := #[.val (.ref a0), .val (.int p1), .val (.ref bs), .val (.int (own_n w4 b (own_n w3 b (own_n w2 b (own_n w1 b (own_n w0 b n)))))), .val (.int (b + (1 : Int32))), .val (.int (5 : Int32))]) rfl ?_
  show Steps p.tables e below (T5.setTop (mkF m 58 #[.val (.ref a0), .val (.int p1), .val (.ref bs), .val (.int (own_n w4 b (own_n w3 b (own_n w2 b (own_n w1 b (own_n w0 b n)))))), .val (.int (b + (1 : Int32))), .val (.int (5 : Int32))] [])) _
  refine XS.goto X5.here hx rfl (pc0 := 58) (pc' := 10) rfl (hb hby d1_58) (by decide) (by decide) ?_
  exact kt
set_option maxRecDepth 65536 in
set_option maxHeartbeats 40000000 in
theorem own1_loop {p : Program} {l : Launch} {e : Env} {R : Room} {s : State} {m : MethodId} {args : Array Value} {below : List Frame} {meth : Method} {c : Code} {cells slots : Nat} {Z : State} {t0 : Array Value} (a0 : Addr) (p1 : Int32) (bs : Addr) (kb : ClassId) (kw : ClassId) (w0 : Int32) (w1 : Int32) (w2 : Int32) (w3 : Int32) (w4 : Int32) {n0 : Nat} (hx : p.tables.exec = Jvm.exec) (hZ : Z.Warmed39 s.vm) (hw : ∀ d ∈ tables_1, d.before t0 Z = true) (hby : c.code = prog_78_method_4_code) (hown : s.vm.findClass "com/example/columella/columella/ipc/Huffman" = some m.cls) (hne : a0 ≠ bs) (gb : n0 ≤ bs) (hp1 : p1.toInt ≤ 12) :
    ∀ (k : Nat) (T0 : State) (locs : List Loc) (h0 : Heap) (n b y0 y1 y2 y3 y4 : Int32) (s5 : Slot), b.toInt + k = p1.toInt + 1 → 1 ≤ b.toInt → One s5 → Stand p l e R s m args below meth c T0 locs cells slots → T0.heap = h0 → Arv Z h0 a0 kw .byte (5 : Int32) [(.int w0), (.int w1), (.int w2), (.int w3), (.int w4)] (.int (0 : Int32)) → Arv Z h0 bs kb .int (5 : Int32) [(.int y0), (.int y1), (.int y2), (.int y3), (.int y4)] (.int (0 : Int32)) → own_Inv w0 w1 w2 w3 w4 b.toInt y0 y1 y2 y3 y4 n →
    ∃ (T' : State) (h' : Heap) (L' : List Loc) (n' b' z0 z1 z2 z3 z4 : Int32) (s5' : Slot), Stand p l e R s m args below meth c T' (locs ++ L') cells slots ∧ T'.heap = h' ∧ Fr n0 L' ∧ Keep h0 h' [bs] ∧ Arv Z h' bs kb .int (5 : Int32) [(.int z0), (.int z1), (.int z2), (.int z3), (.int z4)] (.int (0 : Int32)) ∧ own_Inv w0 w1 w2 w3 w4 (p1.toInt + 1) z0 z1 z2 z3 z4 n' ∧ ∀ target, Steps p.tables e below (T'.setTop (mkF m 61 #[.val (.ref a0), .val (.int p1), .val (.ref bs), .val (.int n'), .val (.int b'), s5'] [])) target → Steps p.tables e below (T0.setTop (mkF m 10 #[.val (.ref a0), .val (.int p1), .val (.ref bs), .val (.int n), .val (.int b), s5] [])) target := by
  intro k
  induction k with
  | zero =>
    intro T0 locs h0 n b y0 y1 y2 y3 y4 s5 hk hb1 hs5 X0 e0 Vw Vy Iv
    have hc13 : p1 < b := by rw [Int32.lt_iff_toInt_lt]; omega
    refine ⟨T0, h0, [], n, b, y0, y1, y2, y3, y4, s5, by rw [List.append_nil]; exact X0, e0, Fr.nil _, Keep.refl _ _, Vy, ?_, fun target kt => ?_⟩
    · rw [show p1.toInt + 1 = b.toInt from by omega]
      exact Iv
    · show Steps p.tables e below (T0.setTop (mkF m 10 #[.val (.ref a0), .val (.int p1), .val (.ref bs), .val (.int n), .val (.int b), s5] [])) _
      refine XS.iload X0.here hx rfl (hb hby d1_10) rfl ?_
      show Steps p.tables e below (T0.setTop (mkF m 12 #[.val (.ref a0), .val (.int p1), .val (.ref bs), .val (.int n), .val (.int b), s5] [(.int b)])) _
      refine XS.iloadN X0.here hx rfl (hb hby d1_12) rfl ?_
      show Steps p.tables e below (T0.setTop (mkF m 13 #[.val (.ref a0), .val (.int p1), .val (.ref bs), .val (.int n), .val (.int b), s5] [(.int p1), (.int b)])) _
      refine XS.icmpYes X0.here hx rfl (pc0 := 13) (pc' := 61) rfl (hb hby d1_13) rfl (tlt hc13).2.2.1 (by decide) (by decide) ?_
      exact kt
  | succ k ih =>
    intro T0 locs h0 n b y0 y1 y2 y3 y4 s5 hk hb1 hs5 X0 e0 Vw Vy Iv
    have hc13 : ¬ (p1 < b) := by rw [Int32.lt_iff_toInt_lt]; omega
    obtain ⟨T1, h1, L1, X1, e1, N1, K1, V1, st1⟩ := own1_o a0 p1 bs kb kw n b y0 y1 y2 y3 y4 w0 w1 w2 w3 w4 s5 X0 hx hZ hw hby hown e0 Vw Vy hne gb hs5 hc13
    have c1 := c_iadd b (1 : Int32)
    have c2 := rng32 (b + (1 : Int32))
    have c3 : (1 : Int32).toInt = 1 := by decide
    have c4 : (b + (1 : Int32)).toInt = b.toInt + 1 := by omega
    have Iv2 := own_Inv_step hb1 Iv
    rw [← c4] at Iv2
    obtain ⟨T2, h2, L2, n2, b2, z0, z1, z2, z3, z4, s52, X2, e2, N2, K2, V2, I2, st2⟩ := ih T1 (locs ++ L1) h1 _ (b + (1 : Int32)) _ _ _ _ _ _ (by omega) (by omega) (One.val (w := .int (5 : Int32)) rfl) X1 e1 (Vw.keep K1 (ninS hne nin0)) V1 Iv2
    exact ⟨T2, h2, L1 ++ L2, n2, b2, z0, z1, z2, z3, z4, s52, by rw [← List.append_assoc]; exact X2, e2, N1.app N2, K1.trans K2 (fun z hz => Or.inl hz), V2, I2, fun target kt => st1 _ (st2 _ kt)⟩
theorem ef_1 (m : MethodId) (a0 : Addr) (p1 : Int32) : entryFrame m #[(.ref a0), (.int p1)] 6 = mkF m 0 #[.val (.ref a0), .val (.int p1), .unset, .unset, .unset, .unset] [] := by first | (simp [entryFrame, mkF, argsToLocals, Value.category]; done) | rfl
theorem pn_1 : plainName "com/example/columella/columella/ipc/Huffman" = true := by first | (simp [plainName, overriddenIn]; done) | decide +kernel
def Q1 (Z : State) (p1 : Int32) (w0 w1 w2 w3 w4 : Int32) (h0 : Heap) (n0 : Nat) (v : Option Value) (h : Heap) (L : List Loc) : Prop := ∃ b : Addr, v = some (.ref b) ∧ Fr n0 L ∧ Keep h0 h [] ∧ h0.size ≤ b ∧ n0 ≤ b ∧ ∃ (k : ClassId) (z0 z1 z2 z3 z4 n : Int32), Arv Z h b k .int (5 : Int32) [(.int z0), (.int z1), (.int z2), (.int z3), (.int z4)] (.int (0 : Int32)) ∧ own_Inv w0 w1 w2 w3 w4 (p1.toInt + 1) z0 z1 z2 z3 z4 n
set_option maxRecDepth 65536 in
set_option maxHeartbeats 40000000 in
theorem rm1 (l : Launch) (Z : State) (t0 : Array Value) (hw : ∀ d ∈ tables_1, d.before t0 Z = true) (ws : List Jvm.Cond) (a0 : Addr) (p1 : Int32) (kw : ClassId) (w0 : Int32) (w1 : Int32) (w2 : Int32) (w3 : Int32) (w4 : Int32) (h0 : Heap) (n0 : Nat) (Z0 : n0 ≤ h0.size) (Vw : Arv Z h0 a0 kw .byte (5 : Int32) [(.int w0), (.int w1), (.int w2), (.int w3), (.int w4)] (.int (0 : Int32))) (hp1 : p1.toInt ≤ 12) (hp0 : 1 ≤ p1.toInt) :
    MetFree l (⟨"com/example/columella/columella/ipc/Huffman", "starts", "([BI)[I"⟩ : MethodName) (head1 (Jvm.Cond.code (⟨"com/example/columella/columella/ipc/Huffman", "starts", "([BI)[I"⟩ : MethodName) prog_78_method_4_code 6 (some (.array .int)) :: ws) ({ frames := 0, cells := 1, slots := 5, locals := 0 } : Room)) (fun a U => a = #[(.ref a0), (.int p1)] ∧ Z.Warmed39 U.vm ∧ U.heap = h0) (fun _ _ _ _ _ => True) (fun _ U o U' => ∃ v L, o = .returned v ∧ Q1 Z p1 w0 w1 w2 w3 w4 h0 n0 v U'.heap L ∧ FrameEnd U o U' L ({ frames := 0, cells := 1, slots := 5, locals := 0 } : Room).cells ({ frames := 0, cells := 1, slots := 5, locals := 0 } : Room).slots) := by
  refine MetFree.of_bodySF (plainFor_of_name pn_1) hisR ?_
  intro p e s m args below meth c s₁ Bd hml0 hP hK
  obtain ⟨rfl, hZ, hh⟩ := hP
  have hx := Bd.exec
  have hby := Bd.bytes
  have hml : c.maxLocals = 6 := hml0
  have hown : s.vm.findClass "com/example/columella/columella/ipc/Huffman" = some m.cls := findClass_of_methodNamed Bd.named
  have hnm := (name_of_methodNamed Bd.named Bd.method).1
  have X0 : Stand p l e ({ frames := 0, cells := 1, slots := 5, locals := 0 } : Room) s m #[(.ref a0), (.int p1)] below meth c s₁ [] 0 0 := Stand.of_body Bd
  have e0 : s₁.heap = h0 := by rw [← hh, Bd.state]; rfl
  have N0 := Fr.nil n0
  have pre0 : ∀ t, Steps p.tables e below (s₁.setTop (mkF m 0 #[.val (.ref a0), .val (.int p1), .unset, .unset, .unset, .unset] [])) t → Steps p.tables e below (s₁.setTop (entryFrame m #[(.ref a0), (.int p1)] 6)) t := fun t k => castTop (ef_1 m a0 p1) k
  have K0 : Keep h0 h0 [] := Keep.refl _ _
  refine own_go pre0 ?_
  obtain ⟨clw, Arw, qw, Sw, Mw, Hw, Gw⟩ := id Vw
  refine own_go (B := s₁.setTop (mkF m 2 #[.val (.ref a0), .val (.int p1), .unset, .unset, .unset, .unset] [(.int (5 : Int32))])) (fun t kt => ?_) ?_
  · show Steps p.tables e below (s₁.setTop (mkF m 0 #[.val (.ref a0), .val (.int p1), .unset, .unset, .unset, .unset] [])) _
    refine XS.aloadN X0.here hx rfl (hb hby d1_0) rfl rfl ?_
    show Steps p.tables e below (s₁.setTop (mkF m 1 #[.val (.ref a0), .val (.int p1), .unset, .unset, .unset, .unset] [(.ref a0)])) _
    refine X0.arraylength hx (by rw [e0]; exact Arw.1) (State.isArrayOf_alike hZ.alike Arw.2.1) (g := (mkF m 1 #[.val (.ref a0), .val (.int p1), .unset, .unset, .unset, .unset] [(.ref a0)])) rfl rfl (hb hby d1_1) _ ?_
    rw [len_of Sw Mw]
    exact kt
  obtain ⟨T1, h1, k1, X1, e1, E1, A1, st1⟩ := newP X0 hx hZ (hw _ (List.mem_of_getElem? (i := 1) rfl)) e0 (g := (mkF m 2 #[.val (.ref a0), .val (.int p1), .unset, .unset, .unset, .unset] [(.int (5 : Int32))])) rfl (hb hby d1_2) rfl (by decide) (cap := 5) (by decide) (by decide) (by decide) (by decide)
  obtain ⟨b1, g1⟩ : ∃ z, z = h0.size := ⟨_, rfl⟩
  rw [← g1] at A1 st1
  have g_b1 : n0 ≤ b1 := Nat.le_trans Z0 (Nat.le_of_eq g1.symm)
  have sz_b1 : h0.size ≤ b1 := Nat.le_trans K0.1 (Nat.le_of_eq g1.symm)
  have ne_a0_b1 : a0 ≠ b1 := Nat.ne_of_lt (Nat.lt_of_lt_of_le Vw.lt (Nat.le_of_eq g1.symm))
  have V_a0_1 := Vw.ext E1
  have Z1 : n0 ≤ h1.size := Nat.le_trans Z0 E1.1
  have K1 := K0.ext E1
  have V_b1 : Arv Z h1 b1 k1 .int (5 : Int32) [(.int (0 : Int32)), (.int (0 : Int32)), (.int (0 : Int32)), (.int (0 : Int32)), (.int (0 : Int32))] (.int (0 : Int32)) := (Arv.new A1 (by decide)).pad (pad_rep [] (.int (0 : Int32)) 5)
  refine own_go (B := T1.setTop (mkF m 4 #[.val (.ref a0), .val (.int p1), .unset, .unset, .unset, .unset] [(.ref b1)])) (fun t kt => st1 t kt) ?_
  refine own_go (B := T1.setTop (mkF m 10 #[.val (.ref a0), .val (.int p1), .val (.ref b1), .val (.int (0 : Int32)), .val (.int (1 : Int32)), .unset] [])) (fun t kt => ?_) ?_
  · show Steps p.tables e below (T1.setTop (mkF m 4 #[.val (.ref a0), .val (.int p1), .unset, .unset, .unset, .unset] [(.ref b1)])) _
    refine XS.astoreN X1.here hx rfl (hb hby d1_4) rfl rfl (l' := #[.val (.ref a0), .val (.int p1), .val (.ref b1), .unset, .unset, .unset]) rfl ?_
    show Steps p.tables e below (T1.setTop (mkF m 5 #[.val (.ref a0), .val (.int p1), .val (.ref b1), .unset, .unset, .unset] [])) _
    refine XS.iconst X1.here hx rfl (hb hby d1_5) ?_
    show Steps p.tables e below (T1.setTop (mkF m 6 #[.val (.ref a0), .val (.int p1), .val (.ref b1), .unset, .unset, .unset] [(.int (0 : Int32))])) _
    refine XS.istoreN X1.here hx rfl (hb hby d1_6) rfl (l' := #[.val (.ref a0), .val (.int p1), .val (.ref b1), .val (.int (0 : Int32)), .unset, .unset]) rfl ?_
    show Steps p.tables e below (T1.setTop (mkF m 7 #[.val (.ref a0), .val (.int p1), .val (.ref b1), .val (.int (0 : Int32)), .unset, .unset] [])) _
    refine XS.iconst X1.here hx rfl (hb hby d1_7) ?_
    show Steps p.tables e below (T1.setTop (mkF m 8 #[.val (.ref a0), .val (.int p1), .val (.ref b1), .val (.int (0 : Int32)), .unset, .unset] [(.int (1 : Int32))])) _
    refine XS.istore X1.here hx rfl (hb hby d1_8) rfl (l' := #[.val (.ref a0), .val (.int p1), .val (.ref b1), .val (.int (0 : Int32)), .val (.int (1 : Int32)), .unset]) rfl ?_
    exact kt
  obtain ⟨T9, h9, L9, n9, b9, z0, z1, z2, z3, z4, s59, X9, e9, N9, K9, V9, I9, st9⟩ := own1_loop a0 p1 b1 k1 kw w0 w1 w2 w3 w4 hx hZ hw hby hown ne_a0_b1 g_b1 hp1 p1.toInt.toNat T1 _ h1 (0 : Int32) (1 : Int32) (0 : Int32) (0 : Int32) (0 : Int32) (0 : Int32) (0 : Int32) .unset (by rw [show (1 : Int32).toInt = 1 from by decide]; omega) (by decide) One.u X1 e1 V_a0_1 V_b1 (own_Inv0 w0 w1 w2 w3 w4)
  refine own_go st9 ?_
  have N10 := Fr.app N0 N9
  have K10 := K1.trans K9 (allS (Or.inr sz_b1) all0)
  refine own_go (B := T9.setTop (mkF m 62 #[.val (.ref a0), .val (.int p1), .val (.ref b1), .val (.int n9), .val (.int b9), s59] [(.ref b1)])) (fun t kt => ?_) ?_
  · show Steps p.tables e below (T9.setTop (mkF m 61 #[.val (.ref a0), .val (.int p1), .val (.ref b1), .val (.int n9), .val (.int b9), s59] [])) _
    refine XS.aloadN X9.here hx rfl (hb hby d1_61) rfl rfl ?_
    exact kt
  obtain ⟨fs, hr, hrun, hended, hW, hsame⟩ := X9.leave (v := some (.ref b1)) (fun h => by rw [Bd.returns] at h; cases h)
  refine ⟨_, _, ?_, hrun, hended, _, _, rfl, ?_, ⟨_, rfl⟩, hW, hsame.mono (by decide) (by decide)⟩
  · show Steps p.tables e below (T9.setTop (mkF m 62 #[.val (.ref a0), .val (.int p1), .val (.ref b1), .val (.int n9), .val (.int b9), s59] [(.ref b1)])) _
    exact Jvm.RoadKit.retOut X9 hx Bd.returns rfl (Or.inr (Or.inr (Or.inr (Or.inr ⟨rfl, rfl, rfl⟩)))) (hb hby d1_62) hr
  · show Q1 Z p1 w0 w1 w2 w3 w4 h0 n0 _ T9.heap _
    rw [e9]
    exact ⟨b1, rfl, N10, K10, sz_b1, g_b1, k1, z0, z1, z2, z3, z4, n9, V9, I9⟩
theorem own_mb (p0 : Int32) {mb : Int32} (h : mb = (((p0 &&& (2147483647 : Int32)) % (12 : Int32)) + (1 : Int32))) : 1 ≤ mb.toInt ∧ mb.toInt ≤ 12 := by
  have m1 := c_mask p0 (2147483647 : Int32) 31 (by decide) (by decide)
  rw [show ((2 ^ 31 : Nat) : Int) = 2147483648 from by decide] at m1
  have hh := (c_irem (p0 &&& (2147483647 : Int32)) (12 : Int32) 12 (by decide)).1 (by omega)
  have a := c_iadd ((p0 &&& (2147483647 : Int32)) % (12 : Int32)) (1 : Int32)
  rw [← h] at a
  have r := rng32 mb
  have z1 : (1 : Int32).toInt = 1 := by decide
  omega
theorem own_m1 {mb : Int32} (b : 1 ≤ mb.toInt ∧ mb.toInt ≤ 12) : (mb + (1 : Int32)).toInt = mb.toInt + 1 := by
  have a := c_iadd mb (1 : Int32)
  have r := rng32 (mb + (1 : Int32))
  have z1 : (1 : Int32).toInt = 1 := by decide
  omega
theorem own_nzm {mb : Int32} (b : 1 ≤ mb.toInt ∧ mb.toInt ≤ 12) : (mb + (1 : Int32)) ≠ (0 : Int32) := by
  intro q
  have q2 := congrArg Int32.toInt q
  rw [own_m1 b, show (0 : Int32).toInt = 0 from by decide] at q2
  omega
theorem own_x (p : Int32) {mb x : Int32} (b : 1 ≤ mb.toInt ∧ mb.toInt ≤ 12) (h : x = ((p &&& (2147483647 : Int32)) % (mb + (1 : Int32)))) : 0 ≤ x.toInt ∧ x.toInt ≤ mb.toInt ∧ x.toInt ≤ 12 := by
  have m1 := c_mask p (2147483647 : Int32) 31 (by decide) (by decide)
  rw [show ((2 ^ 31 : Nat) : Int) = 2147483648 from by decide] at m1
  have e := own_m1 b
  obtain ⟨h1, h2, -⟩ := (c_iremV (p &&& (2147483647 : Int32)) (mb + (1 : Int32))).1 (by omega) (by omega)
  rw [← h] at h1 h2
  omega
theorem own_b8 {x : Int32} {M : Int} (b : 0 ≤ x.toInt ∧ x.toInt ≤ M ∧ x.toInt ≤ 12) : ((x.toInt8.toInt32).toInt8.toInt32) = x := by
  have a := c_i2b x
  have a2 := c_i2b (x.toInt8.toInt32)
  apply Int32.toInt_inj.mp
  omega
theorem own_term (a0 : Addr) (j i m : Int32) (cl : Cell) (wj wi : Int32) (lt : Bool) (hji : ¬ j = i) (hlt : (j < i) ↔ lt = true) (hm : wj.toInt ≤ m.toInt) : own3_f0 a0 j i m cl wj wi = (if 1 ≤ wi.toInt then own_G lt wj wi else (0 : Int32)) := by
  have z1 : (1 : Int32).toInt = 1 := by decide
  rw [own3_e0, if_neg hji, own3_e29, own3_e58, own3_e65]
  by_cases h1 : wj < (1 : Int32)
  · rw [if_pos h1]
    rw [Int32.lt_iff_toInt_lt, z1] at h1
    rw [show own_G lt wj wi = 0 from if_neg (by omega)]
    split <;> rfl
  · rw [if_neg h1]
    rw [Int32.lt_iff_toInt_lt, z1] at h1
    rw [if_neg (show ¬ m < wj from by rw [Int32.lt_iff_toInt_lt]; omega)]
    by_cases h2 : wi < (1 : Int32)
    · rw [if_pos h2]
      rw [Int32.lt_iff_toInt_lt, z1] at h2
      rw [if_neg (by omega)]
    · rw [if_neg h2]
      rw [Int32.lt_iff_toInt_lt, z1] at h2
      rw [if_pos (show 1 ≤ wi.toInt from by omega)]
      by_cases h3 : wj < wi
      · rw [if_pos h3]
        rw [Int32.lt_iff_toInt_lt] at h3
        exact (if_pos ⟨by omega, Or.inl h3⟩).symm
      · rw [if_neg h3]
        rw [Int32.lt_iff_toInt_lt] at h3
        by_cases h4 : wj = wi
        · rw [if_pos h4]
          by_cases h5 : j < i
          · rw [if_pos h5]
            exact (if_pos ⟨by omega, Or.inr ⟨by rw [h4], hlt.1 h5⟩⟩).symm
          · rw [if_neg h5]
            exact (if_neg (fun q => q.2.elim h3 (fun q => h5 (hlt.2 q.2)))).symm
        · rw [if_neg h4]
          exact (if_neg (fun q => q.2.elim h3 (fun q => h4 (Int32.toInt_inj.mp q.1)))).symm
theorem own_termS (a0 : Addr) (i m : Int32) (cl : Cell) (wi : Int32) : own3_f0 a0 i i m cl wi wi = (if 1 ≤ wi.toInt then own_G false wi wi else (0 : Int32)) := by
  rw [own3_e0, if_pos rfl, show own_G false wi wi = 0 from if_neg (by simp)]
  split <;> rfl
theorem own_sum5 (c : Prop) [Decidable c] (g0 g1 g2 g3 g4 : Int32) : (((((if c then g0 else (0 : Int32)) + (if c then g1 else (0 : Int32))) + (if c then g2 else (0 : Int32))) + (if c then g3 else (0 : Int32))) + (if c then g4 else (0 : Int32))) = (if c then own_F g0 g1 g2 g3 g4 else (0 : Int32)) := by
  by_cases h : c
  · simp only [if_pos h]; rfl
  · simp only [if_neg h]; rfl
theorem own_Yend {m w f : Int32} (h : w.toInt ≤ m.toInt) : own_Y (m.toInt + 1) w f = (if 1 ≤ w.toInt then f else (0 : Int32)) := own_ifc (by omega) rfl rfl
theorem own_fin (a : Addr) (cl : Cell) {mb x0 x1 x2 x3 x4 z0 z1 z2 z3 z4 nz : Int32} (bmb : 1 ≤ mb.toInt ∧ mb.toInt ≤ 12) (b0 : 0 ≤ x0.toInt ∧ x0.toInt ≤ mb.toInt ∧ x0.toInt ≤ 12) (b1 : 0 ≤ x1.toInt ∧ x1.toInt ≤ mb.toInt ∧ x1.toInt ≤ 12) (b2 : 0 ≤ x2.toInt ∧ x2.toInt ≤ mb.toInt ∧ x2.toInt ≤ 12) (b3 : 0 ≤ x3.toInt ∧ x3.toInt ≤ mb.toInt ∧ x3.toInt ≤ 12) (b4 : 0 ≤ x4.toInt ∧ x4.toInt ≤ mb.toInt ∧ x4.toInt ≤ 12) (I : own_Inv x0 x1 x2 x3 x4 (mb.toInt + 1) z0 z1 z2 z3 z4 nz) :
    z0 = own_ex a (0 : Int32) mb cl x0 x1 x2 x3 x4 x0 ∧ z1 = own_ex a (1 : Int32) mb cl x0 x1 x2 x3 x4 x1 ∧ z2 = own_ex a (2 : Int32) mb cl x0 x1 x2 x3 x4 x2 ∧ z3 = own_ex a (3 : Int32) mb cl x0 x1 x2 x3 x4 x3 ∧ z4 = own_ex a (4 : Int32) mb cl x0 x1 x2 x3 x4 x4 := by
  obtain ⟨-, h0, h1, h2, h3, h4⟩ := I
  refine ⟨?_, ?_, ?_, ?_, ?_⟩
  · rw [h0, own_Yend b0.2.1, own_exe, own_termS a (0 : Int32) mb cl x0, own_term a (1 : Int32) (0 : Int32) mb cl x1 x0 false (by decide) (by decide) b1.2.1, own_term a (2 : Int32) (0 : Int32) mb cl x2 x0 false (by decide) (by decide) b2.2.1, own_term a (3 : Int32) (0 : Int32) mb cl x3 x0 false (by decide) (by decide) b3.2.1, own_term a (4 : Int32) (0 : Int32) mb cl x4 x0 false (by decide) (by decide) b4.2.1, own_sum5]
  · rw [h1, own_Yend b1.2.1, own_exe, own_term a (0 : Int32) (1 : Int32) mb cl x0 x1 true (by decide) (by decide) b0.2.1, own_termS a (1 : Int32) mb cl x1, own_term a (2 : Int32) (1 : Int32) mb cl x2 x1 false (by decide) (by decide) b2.2.1, own_term a (3 : Int32) (1 : Int32) mb cl x3 x1 false (by decide) (by decide) b3.2.1, own_term a (4 : Int32) (1 : Int32) mb cl x4 x1 false (by decide) (by decide) b4.2.1, own_sum5]
  · rw [h2, own_Yend b2.2.1, own_exe, own_term a (0 : Int32) (2 : Int32) mb cl x0 x2 true (by decide) (by decide) b0.2.1, own_term a (1 : Int32) (2 : Int32) mb cl x1 x2 true (by decide) (by decide) b1.2.1, own_termS a (2 : Int32) mb cl x2, own_term a (3 : Int32) (2 : Int32) mb cl x3 x2 false (by decide) (by decide) b3.2.1, own_term a (4 : Int32) (2 : Int32) mb cl x4 x2 false (by decide) (by decide) b4.2.1, own_sum5]
  · rw [h3, own_Yend b3.2.1, own_exe, own_term a (0 : Int32) (3 : Int32) mb cl x0 x3 true (by decide) (by decide) b0.2.1, own_term a (1 : Int32) (3 : Int32) mb cl x1 x3 true (by decide) (by decide) b1.2.1, own_term a (2 : Int32) (3 : Int32) mb cl x2 x3 true (by decide) (by decide) b2.2.1, own_termS a (3 : Int32) mb cl x3, own_term a (4 : Int32) (3 : Int32) mb cl x4 x3 false (by decide) (by decide) b4.2.1, own_sum5]
  · rw [h4, own_Yend b4.2.1, own_exe, own_term a (0 : Int32) (4 : Int32) mb cl x0 x4 true (by decide) (by decide) b0.2.1, own_term a (1 : Int32) (4 : Int32) mb cl x1 x4 true (by decide) (by decide) b1.2.1, own_term a (2 : Int32) (4 : Int32) mb cl x2 x4 true (by decide) (by decide) b2.2.1, own_term a (3 : Int32) (4 : Int32) mb cl x3 x4 true (by decide) (by decide) b3.2.1, own_termS a (4 : Int32) mb cl x4, own_sum5]

theorem pd_0_0 : parseMethodDescriptor "([BI)[I" = some ⟨[(.array .byte), .int], some (.array .int)⟩ := by decide +kernel
theorem pd_0_1 : parseMethodDescriptor "([III)I" = some ⟨[(.array .int), .int, .int], some .int⟩ := by decide +kernel
theorem ef_0 (m : MethodId) (p0 : Int32) (p1 : Int32) (p2 : Int32) (p3 : Int32) (p4 : Int32) (p5 : Int32) : entryFrame m #[(.int p0), (.int p1), (.int p2), (.int p3), (.int p4), (.int p5)] maxLocals = mkF m 0 #[.val (.int p0), .val (.int p1), .val (.int p2), .val (.int p3), .val (.int p4), .val (.int p5), .unset, .unset, .unset, .unset] [] := by first | (simp [entryFrame, mkF, argsToLocals, Value.category, maxLocals]; done) | rfl
theorem pn_0 : plainName "com/example/columella/columella/ipc/HuffmanStartsPinLaw" = true := by first | (simp [plainName, overriddenIn]; done) | decide +kernel
def Q0 (n0 : Nat) (v : Option Value) (L : List Loc) : Prop := v = some (.int (1 : Int32)) ∧ Fr n0 L
set_option maxRecDepth 65536 in
set_option maxHeartbeats 40000000 in
theorem rm0 (l : Launch) (Z : State) (t0 : Array Value) (hw : ∀ d ∈ tables_1, d.before t0 Z = true) (ws : List Jvm.Cond) (p0 : Int32) (p1 : Int32) (p2 : Int32) (p3 : Int32) (p4 : Int32) (p5 : Int32) (h0 : Heap) (n0 : Nat) (Z0 : n0 ≤ h0.size)  :
    MetFree l x (head1 (Jvm.Cond.code x code maxLocals ret :: ws) room_1) (fun a U => a = #[(.int p0), (.int p1), (.int p2), (.int p3), (.int p4), (.int p5)] ∧ Z.Warmed39 U.vm ∧ U.heap = h0) (fun _ _ _ _ _ => True) (fun _ U o U' => ∃ v L, o = .returned v ∧ Q0 n0 v L ∧ FrameEnd U o U' L room_1.cells room_1.slots) := by
  refine MetFree.of_bodySF (plainFor_of_name pn_0) hisR ?_
  intro p e s m args below meth c s₁ Bd hml0 hP hK
  obtain ⟨rfl, hZ, hh⟩ := hP
  have hx := Bd.exec
  have hby := Bd.bytes
  have hml : c.maxLocals = 10 := hml0
  have hown : s.vm.findClass "com/example/columella/columella/ipc/HuffmanStartsPinLaw" = some m.cls := findClass_of_methodNamed Bd.named
  have hnm := (name_of_methodNamed Bd.named Bd.method).1
  have X0 : Stand p l e room_1 s m #[(.int p0), (.int p1), (.int p2), (.int p3), (.int p4), (.int p5)] below meth c s₁ [] 0 0 := Stand.of_body Bd
  have e0 : s₁.heap = h0 := by rw [← hh, Bd.state]; rfl
  have N0 := Fr.nil n0
  have pre0 : ∀ t, Steps p.tables e below (s₁.setTop (mkF m 0 #[.val (.int p0), .val (.int p1), .val (.int p2), .val (.int p3), .val (.int p4), .val (.int p5), .unset, .unset, .unset, .unset] [])) t → Steps p.tables e below (s₁.setTop (entryFrame m #[(.int p0), (.int p1), (.int p2), (.int p3), (.int p4), (.int p5)] maxLocals)) t := fun t k => castTop (ef_0 m p0 p1 p2 p3 p4 p5) k
  refine own_go pre0 ?_
  refine own_go (B := s₁.setTop (mkF m 11 #[.val (.int p0), .val (.int p1), .val (.int p2), .val (.int p3), .val (.int p4), .val (.int p5), .val (.int (((p0 &&& (2147483647 : Int32)) % (12 : Int32)) + (1 : Int32))), .unset, .unset, .unset] [])) (fun t kt => ?_) ?_
  · show Steps p.tables e below (s₁.setTop (mkF m 0 #[.val (.int p0), .val (.int p1), .val (.int p2), .val (.int p3), .val (.int p4), .val (.int p5), .unset, .unset, .unset, .unset] [])) _
    refine XS.iloadN X0.here hx rfl (hb hby at_0) rfl ?_
    show Steps p.tables e below (s₁.setTop (mkF m 1 #[.val (.int p0), .val (.int p1), .val (.int p2), .val (.int p3), .val (.int p4), .val (.int p5), .unset, .unset, .unset, .unset] [(.int p0)])) _
    refine X0.ldcInt hx hown (mvT hZ (hw _ (List.mem_of_getElem? (i := 0) rfl))) (g := (mkF m 1 #[.val (.int p0), .val (.int p1), .val (.int p2), .val (.int p3), .val (.int p4), .val (.int p5), .unset, .unset, .unset, .unset] [(.int p0)])) rfl (hb hby at_1) _ ?_
    show Steps p.tables e below (s₁.setTop (mkF m 3 #[.val (.int p0), .val (.int p1), .val (.int p2), .val (.int p3), .val (.int p4), .val (.int p5), .unset, .unset, .unset, .unset] [(.int (2147483647 : Int32)), (.int p0)])) _
    refine XS.iand X0.here hx rfl (hb hby at_3) rfl ?_
    show Steps p.tables e below (s₁.setTop (mkF m 4 #[.val (.int p0), .val (.int p1), .val (.int p2), .val (.int p3), .val (.int p4), .val (.int p5), .unset, .unset, .unset, .unset] [(.int (p0 &&& (2147483647 : Int32)))])) _
    refine XS.bipush X0.here hx rfl (hb hby at_4) ?_
    show Steps p.tables e below (s₁.setTop (mkF m 6 #[.val (.int p0), .val (.int p1), .val (.int p2), .val (.int p3), .val (.int p4), .val (.int p5), .unset, .unset, .unset, .unset] [(.int (12 : Int32)), (.int (p0 &&& (2147483647 : Int32)))])) _
    refine Jvm.RoadKit.iremM (g := (mkF m 6 #[.val (.int p0), .val (.int p1), .val (.int p2), .val (.int p3), .val (.int p4), .val (.int p5), .unset, .unset, .unset, .unset] [(.int (12 : Int32)), (.int (p0 &&& (2147483647 : Int32)))])) X0 hx rfl (hb hby at_6) rfl (by decide) ?_
    show Steps p.tables e below (s₁.setTop (mkF m 7 #[.val (.int p0), .val (.int p1), .val (.int p2), .val (.int p3), .val (.int p4), .val (.int p5), .unset, .unset, .unset, .unset] [(.int ((p0 &&& (2147483647 : Int32)) % (12 : Int32)))])) _
    refine XS.iconst X0.here hx rfl (hb hby at_7) ?_
    show Steps p.tables e below (s₁.setTop (mkF m 8 #[.val (.int p0), .val (.int p1), .val (.int p2), .val (.int p3), .val (.int p4), .val (.int p5), .unset, .unset, .unset, .unset] [(.int (1 : Int32)), (.int ((p0 &&& (2147483647 : Int32)) % (12 : Int32)))])) _
    refine XS.iadd X0.here hx rfl (hb hby at_8) rfl ?_
    show Steps p.tables e below (s₁.setTop (mkF m 9 #[.val (.int p0), .val (.int p1), .val (.int p2), .val (.int p3), .val (.int p4), .val (.int p5), .unset, .unset, .unset, .unset] [(.int (((p0 &&& (2147483647 : Int32)) % (12 : Int32)) + (1 : Int32)))])) _
    refine XS.istore X0.here hx rfl (hb hby at_9) rfl (l' := #[.val (.int p0), .val (.int p1), .val (.int p2), .val (.int p3), .val (.int p4), .val (.int p5), .val (.int (((p0 &&& (2147483647 : Int32)) % (12 : Int32)) + (1 : Int32))), .unset, .unset, .unset]) rfl ?_
    exact kt
  obtain ⟨mb, hmb⟩ : ∃ z : Int32, z = (((p0 &&& (2147483647 : Int32)) % (12 : Int32)) + (1 : Int32)) := ⟨_, rfl⟩
  rw [← hmb]
  have bmb := own_mb p0 hmb
  have hnz27 : (mb + (1 : Int32)) ≠ (0 : Int32) := own_nzm bmb
  have hnz40 : (mb + (1 : Int32)) ≠ (0 : Int32) := own_nzm bmb
  have hnz53 : (mb + (1 : Int32)) ≠ (0 : Int32) := own_nzm bmb
  have hnz67 : (mb + (1 : Int32)) ≠ (0 : Int32) := own_nzm bmb
  have hnz81 : (mb + (1 : Int32)) ≠ (0 : Int32) := own_nzm bmb
  refine own_go (B := s₁.setTop (mkF m 12 #[.val (.int p0), .val (.int p1), .val (.int p2), .val (.int p3), .val (.int p4), .val (.int p5), .val (.int mb), .unset, .unset, .unset] [(.int (5 : Int32))])) (fun t kt => ?_) ?_
  · show Steps p.tables e below (s₁.setTop (mkF m 11 #[.val (.int p0), .val (.int p1), .val (.int p2), .val (.int p3), .val (.int p4), .val (.int p5), .val (.int mb), .unset, .unset, .unset] [])) _
    refine XS.iconst X0.here hx rfl (hb hby at_11) ?_
    exact kt
  obtain ⟨T1, h1, k1, X1, e1, E1, A1, st1⟩ := newP X0 hx hZ (hw _ (List.mem_of_getElem? (i := 1) rfl)) e0 (g := (mkF m 12 #[.val (.int p0), .val (.int p1), .val (.int p2), .val (.int p3), .val (.int p4), .val (.int p5), .val (.int mb), .unset, .unset, .unset] [(.int (5 : Int32))])) rfl (hb hby at_12) rfl (by decide) (cap := 5) (by decide) (by decide) (by decide) (by decide)
  obtain ⟨b1, g1⟩ : ∃ z, z = h0.size := ⟨_, rfl⟩
  rw [← g1] at A1 st1
  have g_b1 : n0 ≤ b1 := Nat.le_trans Z0 (Nat.le_of_eq g1.symm)
  have Z1 : n0 ≤ h1.size := Nat.le_trans Z0 E1.1
  have V_b1 : Arv Z h1 b1 k1 .int (5 : Int32) [(.int (0 : Int32)), (.int (0 : Int32)), (.int (0 : Int32)), (.int (0 : Int32)), (.int (0 : Int32))] (.int (0 : Int32)) := (Arv.new A1 (by decide)).pad (pad_rep [] (.int (0 : Int32)) 5)
  refine own_go (B := T1.setTop (mkF m 14 #[.val (.int p0), .val (.int p1), .val (.int p2), .val (.int p3), .val (.int p4), .val (.int p5), .val (.int mb), .unset, .unset, .unset] [(.ref b1)])) (fun t kt => st1 t kt) ?_
  refine own_go (B := T1.setTop (mkF m 28 #[.val (.int p0), .val (.int p1), .val (.int p2), .val (.int p3), .val (.int p4), .val (.int p5), .val (.int mb), .val (.ref b1), .unset, .unset] [(.int ((p1 &&& (2147483647 : Int32)) % (mb + (1 : Int32)))), (.int (0 : Int32)), (.ref b1)])) (fun t kt => ?_) ?_
  · show Steps p.tables e below (T1.setTop (mkF m 14 #[.val (.int p0), .val (.int p1), .val (.int p2), .val (.int p3), .val (.int p4), .val (.int p5), .val (.int mb), .unset, .unset, .unset] [(.ref b1)])) _
    refine XS.astore X1.here hx rfl (hb hby at_14) rfl rfl (l' := #[.val (.int p0), .val (.int p1), .val (.int p2), .val (.int p3), .val (.int p4), .val (.int p5), .val (.int mb), .val (.ref b1), .unset, .unset]) rfl ?_
    show Steps p.tables e below (T1.setTop (mkF m 16 #[.val (.int p0), .val (.int p1), .val (.int p2), .val (.int p3), .val (.int p4), .val (.int p5), .val (.int mb), .val (.ref b1), .unset, .unset] [])) _
    refine XS.aload X1.here hx rfl (hb hby at_16) rfl rfl ?_
    show Steps p.tables e below (T1.setTop (mkF m 18 #[.val (.int p0), .val (.int p1), .val (.int p2), .val (.int p3), .val (.int p4), .val (.int p5), .val (.int mb), .val (.ref b1), .unset, .unset] [(.ref b1)])) _
    refine XS.iconst X1.here hx rfl (hb hby at_18) ?_
    show Steps p.tables e below (T1.setTop (mkF m 19 #[.val (.int p0), .val (.int p1), .val (.int p2), .val (.int p3), .val (.int p4), .val (.int p5), .val (.int mb), .val (.ref b1), .unset, .unset] [(.int (0 : Int32)), (.ref b1)])) _
    refine XS.iloadN X1.here hx rfl (hb hby at_19) rfl ?_
    show Steps p.tables e below (T1.setTop (mkF m 20 #[.val (.int p0), .val (.int p1), .val (.int p2), .val (.int p3), .val (.int p4), .val (.int p5), .val (.int mb), .val (.ref b1), .unset, .unset] [(.int p1), (.int (0 : Int32)), (.ref b1)])) _
    refine X1.ldcInt hx hown (mvT hZ (hw _ (List.mem_of_getElem? (i := 0) rfl))) (g := (mkF m 20 #[.val (.int p0), .val (.int p1), .val (.int p2), .val (.int p3), .val (.int p4), .val (.int p5), .val (.int mb), .val (.ref b1), .unset, .unset] [(.int p1), (.int (0 : Int32)), (.ref b1)])) rfl (hb hby at_20) _ ?_
    show Steps p.tables e below (T1.setTop (mkF m 22 #[.val (.int p0), .val (.int p1), .val (.int p2), .val (.int p3), .val (.int p4), .val (.int p5), .val (.int mb), .val (.ref b1), .unset, .unset] [(.int (2147483647 : Int32)), (.int p1), (.int (0 : Int32)), (.ref b1)])) _
    refine XS.iand X1.here hx rfl (hb hby at_22) rfl ?_
    show Steps p.tables e below (T1.setTop (mkF m 23 #[.val (.int p0), .val (.int p1), .val (.int p2), .val (.int p3), .val (.int p4), .val (.int p5), .val (.int mb), .val (.ref b1), .unset, .unset] [(.int (p1 &&& (2147483647 : Int32))), (.int (0 : Int32)), (.ref b1)])) _
    refine XS.iload X1.here hx rfl (hb hby at_23) rfl ?_
    show Steps p.tables e below (T1.setTop (mkF m 25 #[.val (.int p0), .val (.int p1), .val (.int p2), .val (.int p3), .val (.int p4), .val (.int p5), .val (.int mb), .val (.ref b1), .unset, .unset] [(.int mb), (.int (p1 &&& (2147483647 : Int32))), (.int (0 : Int32)), (.ref b1)])) _
    refine XS.iconst X1.here hx rfl (hb hby at_25) ?_
    show Steps p.tables e below (T1.setTop (mkF m 26 #[.val (.int p0), .val (.int p1), .val (.int p2), .val (.int p3), .val (.int p4), .val (.int p5), .val (.int mb), .val (.ref b1), .unset, .unset] [(.int (1 : Int32)), (.int mb), (.int (p1 &&& (2147483647 : Int32))), (.int (0 : Int32)), (.ref b1)])) _
    refine XS.iadd X1.here hx rfl (hb hby at_26) rfl ?_
    show Steps p.tables e below (T1.setTop (mkF m 27 #[.val (.int p0), .val (.int p1), .val (.int p2), .val (.int p3), .val (.int p4), .val (.int p5), .val (.int mb), .val (.ref b1), .unset, .unset] [(.int (mb + (1 : Int32))), (.int (p1 &&& (2147483647 : Int32))), (.int (0 : Int32)), (.ref b1)])) _
    refine Jvm.RoadKit.iremM (g := (mkF m 27 #[.val (.int p0), .val (.int p1), .val (.int p2), .val (.int p3), .val (.int p4), .val (.int p5), .val (.int mb), .val (.ref b1), .unset, .unset] [(.int (mb + (1 : Int32))), (.int (p1 &&& (2147483647 : Int32))), (.int (0 : Int32)), (.ref b1)])) X1 hx rfl (hb hby at_27) rfl hnz27 ?_
    exact kt
  obtain ⟨cl2, Ar2, q2, S2, M2, H2, G2⟩ := id V_b1
  obtain ⟨T3, h3, X3, e3, W3, st3⟩ := stI X1 hx hZ e1 Ar2 (j := (0 : Int32)) (inb_of S2 ⟨by decide, by decide⟩) (g := (mkF m 28 #[.val (.int p0), .val (.int p1), .val (.int p2), .val (.int p3), .val (.int p4), .val (.int p5), .val (.int mb), .val (.ref b1), .unset, .unset] [(.int ((p1 &&& (2147483647 : Int32)) % (mb + (1 : Int32)))), (.int (0 : Int32)), (.ref b1)])) rfl rfl (hb hby at_28)
  have V_b1_3 : Arv Z h3 b1 k1 .int (5 : Int32) [(.int ((p1 &&& (2147483647 : Int32)) % (mb + (1 : Int32)))), (.int (0 : Int32)), (.int (0 : Int32)), (.int (0 : Int32)), (.int (0 : Int32))] (.int (0 : Int32)) := Arv.set Ar2 q2 S2 M2 H2 G2 rfl W3 0 rfl (Nat.le_of_ble_eq_true rfl)
  have Z3 : n0 ≤ h3.size := Nat.le_trans Z1 (Keep.of_wr W3).1
  have N3 := Fr.snoc X3 N0 g_b1
  refine own_go (B := T3.setTop (mkF m 29 #[.val (.int p0), .val (.int p1), .val (.int p2), .val (.int p3), .val (.int p4), .val (.int p5), .val (.int mb), .val (.ref b1), .unset, .unset] [])) (fun t kt => st3 t kt) ?_
  refine own_go (B := T3.setTop (mkF m 41 #[.val (.int p0), .val (.int p1), .val (.int p2), .val (.int p3), .val (.int p4), .val (.int p5), .val (.int mb), .val (.ref b1), .unset, .unset] [(.int ((p2 &&& (2147483647 : Int32)) % (mb + (1 : Int32)))), (.int (1 : Int32)), (.ref b1)])) (fun t kt => ?_) ?_
  · show Steps p.tables e below (T3.setTop (mkF m 29 #[.val (.int p0), .val (.int p1), .val (.int p2), .val (.int p3), .val (.int p4), .val (.int p5), .val (.int mb), .val (.ref b1), .unset, .unset] [])) _
    refine XS.aload X3.here hx rfl (hb hby at_29) rfl rfl ?_
    show Steps p.tables e below (T3.setTop (mkF m 31 #[.val (.int p0), .val (.int p1), .val (.int p2), .val (.int p3), .val (.int p4), .val (.int p5), .val (.int mb), .val (.ref b1), .unset, .unset] [(.ref b1)])) _
    refine XS.iconst X3.here hx rfl (hb hby at_31) ?_
    show Steps p.tables e below (T3.setTop (mkF m 32 #[.val (.int p0), .val (.int p1), .val (.int p2), .val (.int p3), .val (.int p4), .val (.int p5), .val (.int mb), .val (.ref b1), .unset, .unset] [(.int (1 : Int32)), (.ref b1)])) _
    refine XS.iloadN X3.here hx rfl (hb hby at_32) rfl ?_
    show Steps p.tables e below (T3.setTop (mkF m 33 #[.val (.int p0), .val (.int p1), .val (.int p2), .val (.int p3), .val (.int p4), .val (.int p5), .val (.int mb), .val (.ref b1), .unset, .unset] [(.int p2), (.int (1 : Int32)), (.ref b1)])) _
    refine X3.ldcInt hx hown (mvT hZ (hw _ (List.mem_of_getElem? (i := 0) rfl))) (g := (mkF m 33 #[.val (.int p0), .val (.int p1), .val (.int p2), .val (.int p3), .val (.int p4), .val (.int p5), .val (.int mb), .val (.ref b1), .unset, .unset] [(.int p2), (.int (1 : Int32)), (.ref b1)])) rfl (hb hby at_33) _ ?_
    show Steps p.tables e below (T3.setTop (mkF m 35 #[.val (.int p0), .val (.int p1), .val (.int p2), .val (.int p3), .val (.int p4), .val (.int p5), .val (.int mb), .val (.ref b1), .unset, .unset] [(.int (2147483647 : Int32)), (.int p2), (.int (1 : Int32)), (.ref b1)])) _
    refine XS.iand X3.here hx rfl (hb hby at_35) rfl ?_
    show Steps p.tables e below (T3.setTop (mkF m 36 #[.val (.int p0), .val (.int p1), .val (.int p2), .val (.int p3), .val (.int p4), .val (.int p5), .val (.int mb), .val (.ref b1), .unset, .unset] [(.int (p2 &&& (2147483647 : Int32))), (.int (1 : Int32)), (.ref b1)])) _
    refine XS.iload X3.here hx rfl (hb hby at_36) rfl ?_
    show Steps p.tables e below (T3.setTop (mkF m 38 #[.val (.int p0), .val (.int p1), .val (.int p2), .val (.int p3), .val (.int p4), .val (.int p5), .val (.int mb), .val (.ref b1), .unset, .unset] [(.int mb), (.int (p2 &&& (2147483647 : Int32))), (.int (1 : Int32)), (.ref b1)])) _
    refine XS.iconst X3.here hx rfl (hb hby at_38) ?_
    show Steps p.tables e below (T3.setTop (mkF m 39 #[.val (.int p0), .val (.int p1), .val (.int p2), .val (.int p3), .val (.int p4), .val (.int p5), .val (.int mb), .val (.ref b1), .unset, .unset] [(.int (1 : Int32)), (.int mb), (.int (p2 &&& (2147483647 : Int32))), (.int (1 : Int32)), (.ref b1)])) _
    refine XS.iadd X3.here hx rfl (hb hby at_39) rfl ?_
    show Steps p.tables e below (T3.setTop (mkF m 40 #[.val (.int p0), .val (.int p1), .val (.int p2), .val (.int p3), .val (.int p4), .val (.int p5), .val (.int mb), .val (.ref b1), .unset, .unset] [(.int (mb + (1 : Int32))), (.int (p2 &&& (2147483647 : Int32))), (.int (1 : Int32)), (.ref b1)])) _
    refine Jvm.RoadKit.iremM (g := (mkF m 40 #[.val (.int p0), .val (.int p1), .val (.int p2), .val (.int p3), .val (.int p4), .val (.int p5), .val (.int mb), .val (.ref b1), .unset, .unset] [(.int (mb + (1 : Int32))), (.int (p2 &&& (2147483647 : Int32))), (.int (1 : Int32)), (.ref b1)])) X3 hx rfl (hb hby at_40) rfl hnz40 ?_
    exact kt
  obtain ⟨cl4, Ar4, q4, S4, M4, H4, G4⟩ := id V_b1_3
  obtain ⟨T5, h5, X5, e5, W5, st5⟩ := stI X3 hx hZ e3 Ar4 (j := (1 : Int32)) (inb_of S4 ⟨by decide, by decide⟩) (g := (mkF m 41 #[.val (.int p0), .val (.int p1), .val (.int p2), .val (.int p3), .val (.int p4), .val (.int p5), .val (.int mb), .val (.ref b1), .unset, .unset] [(.int ((p2 &&& (2147483647 : Int32)) % (mb + (1 : Int32)))), (.int (1 : Int32)), (.ref b1)])) rfl rfl (hb hby at_41)
  have V_b1_5 : Arv Z h5 b1 k1 .int (5 : Int32) [(.int ((p1 &&& (2147483647 : Int32)) % (mb + (1 : Int32)))), (.int ((p2 &&& (2147483647 : Int32)) % (mb + (1 : Int32)))), (.int (0 : Int32)), (.int (0 : Int32)), (.int (0 : Int32))] (.int (0 : Int32)) := Arv.set Ar4 q4 S4 M4 H4 G4 rfl W5 1 rfl (Nat.le_of_ble_eq_true rfl)
  have Z5 : n0 ≤ h5.size := Nat.le_trans Z3 (Keep.of_wr W5).1
  have N5 := Fr.snoc X5 N3 g_b1
  refine own_go (B := T5.setTop (mkF m 42 #[.val (.int p0), .val (.int p1), .val (.int p2), .val (.int p3), .val (.int p4), .val (.int p5), .val (.int mb), .val (.ref b1), .unset, .unset] [])) (fun t kt => st5 t kt) ?_
  refine own_go (B := T5.setTop (mkF m 54 #[.val (.int p0), .val (.int p1), .val (.int p2), .val (.int p3), .val (.int p4), .val (.int p5), .val (.int mb), .val (.ref b1), .unset, .unset] [(.int ((p3 &&& (2147483647 : Int32)) % (mb + (1 : Int32)))), (.int (2 : Int32)), (.ref b1)])) (fun t kt => ?_) ?_
  · show Steps p.tables e below (T5.setTop (mkF m 42 #[.val (.int p0), .val (.int p1), .val (.int p2), .val (.int p3), .val (.int p4), .val (.int p5), .val (.int mb), .val (.ref b1), .unset, .unset] [])) _
    refine XS.aload X5.here hx rfl (hb hby at_42) rfl rfl ?_
    show Steps p.tables e below (T5.setTop (mkF m 44 #[.val (.int p0), .val (.int p1), .val (.int p2), .val (.int p3), .val (.int p4), .val (.int p5), .val (.int mb), .val (.ref b1), .unset, .unset] [(.ref b1)])) _
    refine XS.iconst X5.here hx rfl (hb hby at_44) ?_
    show Steps p.tables e below (T5.setTop (mkF m 45 #[.val (.int p0), .val (.int p1), .val (.int p2), .val (.int p3), .val (.int p4), .val (.int p5), .val (.int mb), .val (.ref b1), .unset, .unset] [(.int (2 : Int32)), (.ref b1)])) _
    refine XS.iloadN X5.here hx rfl (hb hby at_45) rfl ?_
    show Steps p.tables e below (T5.setTop (mkF m 46 #[.val (.int p0), .val (.int p1), .val (.int p2), .val (.int p3), .val (.int p4), .val (.int p5), .val (.int mb), .val (.ref b1), .unset, .unset] [(.int p3), (.int (2 : Int32)), (.ref b1)])) _
    refine X5.ldcInt hx hown (mvT hZ (hw _ (List.mem_of_getElem? (i := 0) rfl))) (g := (mkF m 46 #[.val (.int p0), .val (.int p1), .val (.int p2), .val (.int p3), .val (.int p4), .val (.int p5), .val (.int mb), .val (.ref b1), .unset, .unset] [(.int p3), (.int (2 : Int32)), (.ref b1)])) rfl (hb hby at_46) _ ?_
    show Steps p.tables e below (T5.setTop (mkF m 48 #[.val (.int p0), .val (.int p1), .val (.int p2), .val (.int p3), .val (.int p4), .val (.int p5), .val (.int mb), .val (.ref b1), .unset, .unset] [(.int (2147483647 : Int32)), (.int p3), (.int (2 : Int32)), (.ref b1)])) _
    refine XS.iand X5.here hx rfl (hb hby at_48) rfl ?_
    show Steps p.tables e below (T5.setTop (mkF m 49 #[.val (.int p0), .val (.int p1), .val (.int p2), .val (.int p3), .val (.int p4), .val (.int p5), .val (.int mb), .val (.ref b1), .unset, .unset] [(.int (p3 &&& (2147483647 : Int32))), (.int (2 : Int32)), (.ref b1)])) _
    refine XS.iload X5.here hx rfl (hb hby at_49) rfl ?_
    show Steps p.tables e below (T5.setTop (mkF m 51 #[.val (.int p0), .val (.int p1), .val (.int p2), .val (.int p3), .val (.int p4), .val (.int p5), .val (.int mb), .val (.ref b1), .unset, .unset] [(.int mb), (.int (p3 &&& (2147483647 : Int32))), (.int (2 : Int32)), (.ref b1)])) _
    refine XS.iconst X5.here hx rfl (hb hby at_51) ?_
    show Steps p.tables e below (T5.setTop (mkF m 52 #[.val (.int p0), .val (.int p1), .val (.int p2), .val (.int p3), .val (.int p4), .val (.int p5), .val (.int mb), .val (.ref b1), .unset, .unset] [(.int (1 : Int32)), (.int mb), (.int (p3 &&& (2147483647 : Int32))), (.int (2 : Int32)), (.ref b1)])) _
    refine XS.iadd X5.here hx rfl (hb hby at_52) rfl ?_
    show Steps p.tables e below (T5.setTop (mkF m 53 #[.val (.int p0), .val (.int p1), .val (.int p2), .val (.int p3), .val (.int p4), .val (.int p5), .val (.int mb), .val (.ref b1), .unset, .unset] [(.int (mb + (1 : Int32))), (.int (p3 &&& (2147483647 : Int32))), (.int (2 : Int32)), (.ref b1)])) _
    refine Jvm.RoadKit.iremM (g := (mkF m 53 #[.val (.int p0), .val (.int p1), .val (.int p2), .val (.int p3), .val (.int p4), .val (.int p5), .val (.int mb), .val (.ref b1), .unset, .unset] [(.int (mb + (1 : Int32))), (.int (p3 &&& (2147483647 : Int32))), (.int (2 : Int32)), (.ref b1)])) X5 hx rfl (hb hby at_53) rfl hnz53 ?_
    exact kt
  obtain ⟨cl6, Ar6, q6, S6, M6, H6, G6⟩ := id V_b1_5
  obtain ⟨T7, h7, X7, e7, W7, st7⟩ := stI X5 hx hZ e5 Ar6 (j := (2 : Int32)) (inb_of S6 ⟨by decide, by decide⟩) (g := (mkF m 54 #[.val (.int p0), .val (.int p1), .val (.int p2), .val (.int p3), .val (.int p4), .val (.int p5), .val (.int mb), .val (.ref b1), .unset, .unset] [(.int ((p3 &&& (2147483647 : Int32)) % (mb + (1 : Int32)))), (.int (2 : Int32)), (.ref b1)])) rfl rfl (hb hby at_54)
  have V_b1_7 : Arv Z h7 b1 k1 .int (5 : Int32) [(.int ((p1 &&& (2147483647 : Int32)) % (mb + (1 : Int32)))), (.int ((p2 &&& (2147483647 : Int32)) % (mb + (1 : Int32)))), (.int ((p3 &&& (2147483647 : Int32)) % (mb + (1 : Int32)))), (.int (0 : Int32)), (.int (0 : Int32))] (.int (0 : Int32)) := Arv.set Ar6 q6 S6 M6 H6 G6 rfl W7 2 rfl (Nat.le_of_ble_eq_true rfl)
  have Z7 : n0 ≤ h7.size := Nat.le_trans Z5 (Keep.of_wr W7).1
  have N7 := Fr.snoc X7 N5 g_b1
  refine own_go (B := T7.setTop (mkF m 55 #[.val (.int p0), .val (.int p1), .val (.int p2), .val (.int p3), .val (.int p4), .val (.int p5), .val (.int mb), .val (.ref b1), .unset, .unset] [])) (fun t kt => st7 t kt) ?_
  refine own_go (B := T7.setTop (mkF m 68 #[.val (.int p0), .val (.int p1), .val (.int p2), .val (.int p3), .val (.int p4), .val (.int p5), .val (.int mb), .val (.ref b1), .unset, .unset] [(.int ((p4 &&& (2147483647 : Int32)) % (mb + (1 : Int32)))), (.int (3 : Int32)), (.ref b1)])) (fun t kt => ?_) ?_
  · show Steps p.tables e below (T7.setTop (mkF m 55 #[.val (.int p0), .val (.int p1), .val (.int p2), .val (.int p3), .val (.int p4), .val (.int p5), .val (.int mb), .val (.ref b1), .unset, .unset] [])) _
    refine XS.aload X7.here hx rfl (hb hby at_55) rfl rfl ?_
    show Steps p.tables e below (T7.setTop (mkF m 57 #[.val (.int p0), .val (.int p1), .val (.int p2), .val (.int p3), .val (.int p4), .val (.int p5), .val (.int mb), .val (.ref b1), .unset, .unset] [(.ref b1)])) _
    refine XS.iconst X7.here hx rfl (hb hby at_57) ?_
    show Steps p.tables e below (T7.setTop (mkF m 58 #[.val (.int p0), .val (.int p1), .val (.int p2), .val (.int p3), .val (.int p4), .val (.int p5), .val (.int mb), .val (.ref b1), .unset, .unset] [(.int (3 : Int32)), (.ref b1)])) _
    refine XS.iload X7.here hx rfl (hb hby at_58) rfl ?_
    show Steps p.tables e below (T7.setTop (mkF m 60 #[.val (.int p0), .val (.int p1), .val (.int p2), .val (.int p3), .val (.int p4), .val (.int p5), .val (.int mb), .val (.ref b1), .unset, .unset] [(.int p4), (.int (3 : Int32)), (.ref b1)])) _
    refine X7.ldcInt hx hown (mvT hZ (hw _ (List.mem_of_getElem? (i := 0) rfl))) (g := (mkF m 60 #[.val (.int p0), .val (.int p1), .val (.int p2), .val (.int p3), .val (.int p4), .val (.int p5), .val (.int mb), .val (.ref b1), .unset, .unset] [(.int p4), (.int (3 : Int32)), (.ref b1)])) rfl (hb hby at_60) _ ?_
    show Steps p.tables e below (T7.setTop (mkF m 62 #[.val (.int p0), .val (.int p1), .val (.int p2), .val (.int p3), .val (.int p4), .val (.int p5), .val (.int mb), .val (.ref b1), .unset, .unset] [(.int (2147483647 : Int32)), (.int p4), (.int (3 : Int32)), (.ref b1)])) _
    refine XS.iand X7.here hx rfl (hb hby at_62) rfl ?_
    show Steps p.tables e below (T7.setTop (mkF m 63 #[.val (.int p0), .val (.int p1), .val (.int p2), .val (.int p3), .val (.int p4), .val (.int p5), .val (.int mb), .val (.ref b1), .unset, .unset] [(.int (p4 &&& (2147483647 : Int32))), (.int (3 : Int32)), (.ref b1)])) _
    refine XS.iload X7.here hx rfl (hb hby at_63) rfl ?_
    show Steps p.tables e below (T7.setTop (mkF m 65 #[.val (.int p0), .val (.int p1), .val (.int p2), .val (.int p3), .val (.int p4), .val (.int p5), .val (.int mb), .val (.ref b1), .unset, .unset] [(.int mb), (.int (p4 &&& (2147483647 : Int32))), (.int (3 : Int32)), (.ref b1)])) _
    refine XS.iconst X7.here hx rfl (hb hby at_65) ?_
    show Steps p.tables e below (T7.setTop (mkF m 66 #[.val (.int p0), .val (.int p1), .val (.int p2), .val (.int p3), .val (.int p4), .val (.int p5), .val (.int mb), .val (.ref b1), .unset, .unset] [(.int (1 : Int32)), (.int mb), (.int (p4 &&& (2147483647 : Int32))), (.int (3 : Int32)), (.ref b1)])) _
    refine XS.iadd X7.here hx rfl (hb hby at_66) rfl ?_
    show Steps p.tables e below (T7.setTop (mkF m 67 #[.val (.int p0), .val (.int p1), .val (.int p2), .val (.int p3), .val (.int p4), .val (.int p5), .val (.int mb), .val (.ref b1), .unset, .unset] [(.int (mb + (1 : Int32))), (.int (p4 &&& (2147483647 : Int32))), (.int (3 : Int32)), (.ref b1)])) _
    refine Jvm.RoadKit.iremM (g := (mkF m 67 #[.val (.int p0), .val (.int p1), .val (.int p2), .val (.int p3), .val (.int p4), .val (.int p5), .val (.int mb), .val (.ref b1), .unset, .unset] [(.int (mb + (1 : Int32))), (.int (p4 &&& (2147483647 : Int32))), (.int (3 : Int32)), (.ref b1)])) X7 hx rfl (hb hby at_67) rfl hnz67 ?_
    exact kt
  obtain ⟨cl8, Ar8, q8, S8, M8, H8, G8⟩ := id V_b1_7
  obtain ⟨T9, h9, X9, e9, W9, st9⟩ := stI X7 hx hZ e7 Ar8 (j := (3 : Int32)) (inb_of S8 ⟨by decide, by decide⟩) (g := (mkF m 68 #[.val (.int p0), .val (.int p1), .val (.int p2), .val (.int p3), .val (.int p4), .val (.int p5), .val (.int mb), .val (.ref b1), .unset, .unset] [(.int ((p4 &&& (2147483647 : Int32)) % (mb + (1 : Int32)))), (.int (3 : Int32)), (.ref b1)])) rfl rfl (hb hby at_68)
  have V_b1_9 : Arv Z h9 b1 k1 .int (5 : Int32) [(.int ((p1 &&& (2147483647 : Int32)) % (mb + (1 : Int32)))), (.int ((p2 &&& (2147483647 : Int32)) % (mb + (1 : Int32)))), (.int ((p3 &&& (2147483647 : Int32)) % (mb + (1 : Int32)))), (.int ((p4 &&& (2147483647 : Int32)) % (mb + (1 : Int32)))), (.int (0 : Int32))] (.int (0 : Int32)) := Arv.set Ar8 q8 S8 M8 H8 G8 rfl W9 3 rfl (Nat.le_of_ble_eq_true rfl)
  have Z9 : n0 ≤ h9.size := Nat.le_trans Z7 (Keep.of_wr W9).1
  have N9 := Fr.snoc X9 N7 g_b1
  refine own_go (B := T9.setTop (mkF m 69 #[.val (.int p0), .val (.int p1), .val (.int p2), .val (.int p3), .val (.int p4), .val (.int p5), .val (.int mb), .val (.ref b1), .unset, .unset] [])) (fun t kt => st9 t kt) ?_
  refine own_go (B := T9.setTop (mkF m 82 #[.val (.int p0), .val (.int p1), .val (.int p2), .val (.int p3), .val (.int p4), .val (.int p5), .val (.int mb), .val (.ref b1), .unset, .unset] [(.int ((p5 &&& (2147483647 : Int32)) % (mb + (1 : Int32)))), (.int (4 : Int32)), (.ref b1)])) (fun t kt => ?_) ?_
  · show Steps p.tables e below (T9.setTop (mkF m 69 #[.val (.int p0), .val (.int p1), .val (.int p2), .val (.int p3), .val (.int p4), .val (.int p5), .val (.int mb), .val (.ref b1), .unset, .unset] [])) _
    refine XS.aload X9.here hx rfl (hb hby at_69) rfl rfl ?_
    show Steps p.tables e below (T9.setTop (mkF m 71 #[.val (.int p0), .val (.int p1), .val (.int p2), .val (.int p3), .val (.int p4), .val (.int p5), .val (.int mb), .val (.ref b1), .unset, .unset] [(.ref b1)])) _
    refine XS.iconst X9.here hx rfl (hb hby at_71) ?_
    show Steps p.tables e below (T9.setTop (mkF m 72 #[.val (.int p0), .val (.int p1), .val (.int p2), .val (.int p3), .val (.int p4), .val (.int p5), .val (.int mb), .val (.ref b1), .unset, .unset] [(.int (4 : Int32)), (.ref b1)])) _
    refine XS.iload X9.here hx rfl (hb hby at_72) rfl ?_
    show Steps p.tables e below (T9.setTop (mkF m 74 #[.val (.int p0), .val (.int p1), .val (.int p2), .val (.int p3), .val (.int p4), .val (.int p5), .val (.int mb), .val (.ref b1), .unset, .unset] [(.int p5), (.int (4 : Int32)), (.ref b1)])) _
    refine X9.ldcInt hx hown (mvT hZ (hw _ (List.mem_of_getElem? (i := 0) rfl))) (g := (mkF m 74 #[.val (.int p0), .val (.int p1), .val (.int p2), .val (.int p3), .val (.int p4), .val (.int p5), .val (.int mb), .val (.ref b1), .unset, .unset] [(.int p5), (.int (4 : Int32)), (.ref b1)])) rfl (hb hby at_74) _ ?_
    show Steps p.tables e below (T9.setTop (mkF m 76 #[.val (.int p0), .val (.int p1), .val (.int p2), .val (.int p3), .val (.int p4), .val (.int p5), .val (.int mb), .val (.ref b1), .unset, .unset] [(.int (2147483647 : Int32)), (.int p5), (.int (4 : Int32)), (.ref b1)])) _
    refine XS.iand X9.here hx rfl (hb hby at_76) rfl ?_
    show Steps p.tables e below (T9.setTop (mkF m 77 #[.val (.int p0), .val (.int p1), .val (.int p2), .val (.int p3), .val (.int p4), .val (.int p5), .val (.int mb), .val (.ref b1), .unset, .unset] [(.int (p5 &&& (2147483647 : Int32))), (.int (4 : Int32)), (.ref b1)])) _
    refine XS.iload X9.here hx rfl (hb hby at_77) rfl ?_
    show Steps p.tables e below (T9.setTop (mkF m 79 #[.val (.int p0), .val (.int p1), .val (.int p2), .val (.int p3), .val (.int p4), .val (.int p5), .val (.int mb), .val (.ref b1), .unset, .unset] [(.int mb), (.int (p5 &&& (2147483647 : Int32))), (.int (4 : Int32)), (.ref b1)])) _
    refine XS.iconst X9.here hx rfl (hb hby at_79) ?_
    show Steps p.tables e below (T9.setTop (mkF m 80 #[.val (.int p0), .val (.int p1), .val (.int p2), .val (.int p3), .val (.int p4), .val (.int p5), .val (.int mb), .val (.ref b1), .unset, .unset] [(.int (1 : Int32)), (.int mb), (.int (p5 &&& (2147483647 : Int32))), (.int (4 : Int32)), (.ref b1)])) _
    refine XS.iadd X9.here hx rfl (hb hby at_80) rfl ?_
    show Steps p.tables e below (T9.setTop (mkF m 81 #[.val (.int p0), .val (.int p1), .val (.int p2), .val (.int p3), .val (.int p4), .val (.int p5), .val (.int mb), .val (.ref b1), .unset, .unset] [(.int (mb + (1 : Int32))), (.int (p5 &&& (2147483647 : Int32))), (.int (4 : Int32)), (.ref b1)])) _
    refine Jvm.RoadKit.iremM (g := (mkF m 81 #[.val (.int p0), .val (.int p1), .val (.int p2), .val (.int p3), .val (.int p4), .val (.int p5), .val (.int mb), .val (.ref b1), .unset, .unset] [(.int (mb + (1 : Int32))), (.int (p5 &&& (2147483647 : Int32))), (.int (4 : Int32)), (.ref b1)])) X9 hx rfl (hb hby at_81) rfl hnz81 ?_
    exact kt
  obtain ⟨cl10, Ar10, q10, S10, M10, H10, G10⟩ := id V_b1_9
  obtain ⟨T11, h11, X11, e11, W11, st11⟩ := stI X9 hx hZ e9 Ar10 (j := (4 : Int32)) (inb_of S10 ⟨by decide, by decide⟩) (g := (mkF m 82 #[.val (.int p0), .val (.int p1), .val (.int p2), .val (.int p3), .val (.int p4), .val (.int p5), .val (.int mb), .val (.ref b1), .unset, .unset] [(.int ((p5 &&& (2147483647 : Int32)) % (mb + (1 : Int32)))), (.int (4 : Int32)), (.ref b1)])) rfl rfl (hb hby at_82)
  have V_b1_11 : Arv Z h11 b1 k1 .int (5 : Int32) [(.int ((p1 &&& (2147483647 : Int32)) % (mb + (1 : Int32)))), (.int ((p2 &&& (2147483647 : Int32)) % (mb + (1 : Int32)))), (.int ((p3 &&& (2147483647 : Int32)) % (mb + (1 : Int32)))), (.int ((p4 &&& (2147483647 : Int32)) % (mb + (1 : Int32)))), (.int ((p5 &&& (2147483647 : Int32)) % (mb + (1 : Int32))))] (.int (0 : Int32)) := Arv.set Ar10 q10 S10 M10 H10 G10 rfl W11 4 rfl (Nat.le_of_ble_eq_true rfl)
  have Z11 : n0 ≤ h11.size := Nat.le_trans Z9 (Keep.of_wr W11).1
  have N11 := Fr.snoc X11 N9 g_b1
  refine own_go (B := T11.setTop (mkF m 83 #[.val (.int p0), .val (.int p1), .val (.int p2), .val (.int p3), .val (.int p4), .val (.int p5), .val (.int mb), .val (.ref b1), .unset, .unset] [])) (fun t kt => st11 t kt) ?_
  obtain ⟨x0, hx0⟩ : ∃ z : Int32, z = ((p1 &&& (2147483647 : Int32)) % (mb + (1 : Int32))) := ⟨_, rfl⟩
  rw [← hx0] at V_b1_11
  have bx0 := own_x p1 bmb hx0
  obtain ⟨x1, hx1⟩ : ∃ z : Int32, z = ((p2 &&& (2147483647 : Int32)) % (mb + (1 : Int32))) := ⟨_, rfl⟩
  rw [← hx1] at V_b1_11
  have bx1 := own_x p2 bmb hx1
  obtain ⟨x2, hx2⟩ : ∃ z : Int32, z = ((p3 &&& (2147483647 : Int32)) % (mb + (1 : Int32))) := ⟨_, rfl⟩
  rw [← hx2] at V_b1_11
  have bx2 := own_x p3 bmb hx2
  obtain ⟨x3, hx3⟩ : ∃ z : Int32, z = ((p4 &&& (2147483647 : Int32)) % (mb + (1 : Int32))) := ⟨_, rfl⟩
  rw [← hx3] at V_b1_11
  have bx3 := own_x p4 bmb hx3
  obtain ⟨x4, hx4⟩ : ∃ z : Int32, z = ((p5 &&& (2147483647 : Int32)) % (mb + (1 : Int32))) := ⟨_, rfl⟩
  rw [← hx4] at V_b1_11
  have bx4 := own_x p5 bmb hx4
  refine own_go (B := T11.setTop (mkF m 84 #[.val (.int p0), .val (.int p1), .val (.int p2), .val (.int p3), .val (.int p4), .val (.int p5), .val (.int mb), .val (.ref b1), .unset, .unset] [(.int (5 : Int32))])) (fun t kt => ?_) ?_
  · show Steps p.tables e below (T11.setTop (mkF m 83 #[.val (.int p0), .val (.int p1), .val (.int p2), .val (.int p3), .val (.int p4), .val (.int p5), .val (.int mb), .val (.ref b1), .unset, .unset] [])) _
    refine XS.iconst X11.here hx rfl (hb hby at_83) ?_
    exact kt
  obtain ⟨T12, h12, k12, X12, e12, E12, A12, st12⟩ := newP X11 hx hZ (hw _ (List.mem_of_getElem? (i := 2) rfl)) e11 (g := (mkF m 84 #[.val (.int p0), .val (.int p1), .val (.int p2), .val (.int p3), .val (.int p4), .val (.int p5), .val (.int mb), .val (.ref b1), .unset, .unset] [(.int (5 : Int32))])) rfl (hb hby at_84) rfl (by decide) (cap := 5) (by decide) (by decide) (by decide) (by decide)
  obtain ⟨b12, g12⟩ : ∃ z, z = h11.size := ⟨_, rfl⟩
  rw [← g12] at A12 st12
  have g_b12 : n0 ≤ b12 := Nat.le_trans Z11 (Nat.le_of_eq g12.symm)
  have ne_b1_b12 : b1 ≠ b12 := Nat.ne_of_lt (Nat.lt_of_lt_of_le V_b1_11.lt (Nat.le_of_eq g12.symm))
  have V_b1_12 := V_b1_11.ext E12
  have Z12 : n0 ≤ h12.size := Nat.le_trans Z11 E12.1
  have V_b12 : Arv Z h12 b12 k12 .byte (5 : Int32) [(.int (0 : Int32)), (.int (0 : Int32)), (.int (0 : Int32)), (.int (0 : Int32)), (.int (0 : Int32))] (.int (0 : Int32)) := (Arv.new A12 (by decide)).pad (pad_rep [] (.int (0 : Int32)) 5)
  refine own_go (B := T12.setTop (mkF m 86 #[.val (.int p0), .val (.int p1), .val (.int p2), .val (.int p3), .val (.int p4), .val (.int p5), .val (.int mb), .val (.ref b1), .unset, .unset] [(.ref b12)])) (fun t kt => st12 t kt) ?_
  refine own_go (B := T12.setTop (mkF m 88 #[.val (.int p0), .val (.int p1), .val (.int p2), .val (.int p3), .val (.int p4), .val (.int p5), .val (.int mb), .val (.ref b1), .val (.ref b12), .unset] [])) (fun t kt => ?_) ?_
  · show Steps p.tables e below (T12.setTop (mkF m 86 #[.val (.int p0), .val (.int p1), .val (.int p2), .val (.int p3), .val (.int p4), .val (.int p5), .val (.int mb), .val (.ref b1), .unset, .unset] [(.ref b12)])) _
    refine XS.astore X12.here hx rfl (hb hby at_86) rfl rfl (l' := #[.val (.int p0), .val (.int p1), .val (.int p2), .val (.int p3), .val (.int p4), .val (.int p5), .val (.int mb), .val (.ref b1), .val (.ref b12), .unset]) rfl ?_
    exact kt
  obtain ⟨cl13, Ar13, q13, S13, M13, H13, G13⟩ := id V_b1_12
  refine own_go (B := T12.setTop (mkF m 96 #[.val (.int p0), .val (.int p1), .val (.int p2), .val (.int p3), .val (.int p4), .val (.int p5), .val (.int mb), .val (.ref b1), .val (.ref b12), .unset] [(.int (x0.toInt8.toInt32)), (.int (0 : Int32)), (.ref b12)])) (fun t kt => ?_) ?_
  · show Steps p.tables e below (T12.setTop (mkF m 88 #[.val (.int p0), .val (.int p1), .val (.int p2), .val (.int p3), .val (.int p4), .val (.int p5), .val (.int mb), .val (.ref b1), .val (.ref b12), .unset] [])) _
    refine XS.aload X12.here hx rfl (hb hby at_88) rfl rfl ?_
    show Steps p.tables e below (T12.setTop (mkF m 90 #[.val (.int p0), .val (.int p1), .val (.int p2), .val (.int p3), .val (.int p4), .val (.int p5), .val (.int mb), .val (.ref b1), .val (.ref b12), .unset] [(.ref b12)])) _
    refine XS.iconst X12.here hx rfl (hb hby at_90) ?_
    show Steps p.tables e below (T12.setTop (mkF m 91 #[.val (.int p0), .val (.int p1), .val (.int p2), .val (.int p3), .val (.int p4), .val (.int p5), .val (.int mb), .val (.ref b1), .val (.ref b12), .unset] [(.int (0 : Int32)), (.ref b12)])) _
    refine XS.aload X12.here hx rfl (hb hby at_91) rfl rfl ?_
    show Steps p.tables e below (T12.setTop (mkF m 93 #[.val (.int p0), .val (.int p1), .val (.int p2), .val (.int p3), .val (.int p4), .val (.int p5), .val (.int mb), .val (.ref b1), .val (.ref b12), .unset] [(.ref b1), (.int (0 : Int32)), (.ref b12)])) _
    refine XS.iconst X12.here hx rfl (hb hby at_93) ?_
    show Steps p.tables e below (T12.setTop (mkF m 94 #[.val (.int p0), .val (.int p1), .val (.int p2), .val (.int p3), .val (.int p4), .val (.int p5), .val (.int mb), .val (.ref b1), .val (.ref b12), .unset] [(.int (0 : Int32)), (.ref b1), (.int (0 : Int32)), (.ref b12)])) _
    refine X12.iaload hx (j := (0 : Int32)) (v := (.int x0)) (by rw [e12]; exact Ar13.1) (State.isArrayOf_alike hZ.alike Ar13.2.1) Ar13.2.2 (inb_of S13 ⟨by decide, by decide⟩) (Has.at H13 (inb_of S13 ⟨by decide, by decide⟩) rfl) (g := (mkF m 94 #[.val (.int p0), .val (.int p1), .val (.int p2), .val (.int p3), .val (.int p4), .val (.int p5), .val (.int mb), .val (.ref b1), .val (.ref b12), .unset] [(.int (0 : Int32)), (.ref b1), (.int (0 : Int32)), (.ref b12)])) rfl rfl (hb hby at_94) _ ?_
    show Steps p.tables e below (T12.setTop (mkF m 95 #[.val (.int p0), .val (.int p1), .val (.int p2), .val (.int p3), .val (.int p4), .val (.int p5), .val (.int mb), .val (.ref b1), .val (.ref b12), .unset] [(.int x0), (.int (0 : Int32)), (.ref b12)])) _
    refine XS.i2b X12.here hx rfl (hb hby at_95) rfl ?_
    exact kt
  obtain ⟨cl14, Ar14, q14, S14, M14, H14, G14⟩ := id V_b12
  obtain ⟨T15, h15, X15, e15, W15, st15⟩ := stB X12 hx hZ e12 Ar14 (j := (0 : Int32)) (inb_of S14 ⟨by decide, by decide⟩) (g := (mkF m 96 #[.val (.int p0), .val (.int p1), .val (.int p2), .val (.int p3), .val (.int p4), .val (.int p5), .val (.int mb), .val (.ref b1), .val (.ref b12), .unset] [(.int (x0.toInt8.toInt32)), (.int (0 : Int32)), (.ref b12)])) rfl rfl (hb hby at_96)
  have V_b12_15 : Arv Z h15 b12 k12 .byte (5 : Int32) [(.int ((x0.toInt8.toInt32).toInt8.toInt32)), (.int (0 : Int32)), (.int (0 : Int32)), (.int (0 : Int32)), (.int (0 : Int32))] (.int (0 : Int32)) := Arv.set Ar14 q14 S14 M14 H14 G14 (fits_nar_byte _) W15 0 rfl (Nat.le_of_ble_eq_true rfl)
  have V_b1_15 := V_b1_12.other W15 ne_b1_b12
  have Z15 : n0 ≤ h15.size := Nat.le_trans Z12 (Keep.of_wr W15).1
  have N15 := Fr.snoc X15 N11 g_b12
  refine own_go (B := T15.setTop (mkF m 97 #[.val (.int p0), .val (.int p1), .val (.int p2), .val (.int p3), .val (.int p4), .val (.int p5), .val (.int mb), .val (.ref b1), .val (.ref b12), .unset] [])) (fun t kt => st15 t kt) ?_
  obtain ⟨cl16, Ar16, q16, S16, M16, H16, G16⟩ := id V_b1_15
  refine own_go (B := T15.setTop (mkF m 105 #[.val (.int p0), .val (.int p1), .val (.int p2), .val (.int p3), .val (.int p4), .val (.int p5), .val (.int mb), .val (.ref b1), .val (.ref b12), .unset] [(.int (x1.toInt8.toInt32)), (.int (1 : Int32)), (.ref b12)])) (fun t kt => ?_) ?_
  · show Steps p.tables e below (T15.setTop (mkF m 97 #[.val (.int p0), .val (.int p1), .val (.int p2), .val (.int p3), .val (.int p4), .val (.int p5), .val (.int mb), .val (.ref b1), .val (.ref b12), .unset] [])) _
    refine XS.aload X15.here hx rfl (hb hby at_97) rfl rfl ?_
    show Steps p.tables e below (T15.setTop (mkF m 99 #[.val (.int p0), .val (.int p1), .val (.int p2), .val (.int p3), .val (.int p4), .val (.int p5), .val (.int mb), .val (.ref b1), .val (.ref b12), .unset] [(.ref b12)])) _
    refine XS.iconst X15.here hx rfl (hb hby at_99) ?_
    show Steps p.tables e below (T15.setTop (mkF m 100 #[.val (.int p0), .val (.int p1), .val (.int p2), .val (.int p3), .val (.int p4), .val (.int p5), .val (.int mb), .val (.ref b1), .val (.ref b12), .unset] [(.int (1 : Int32)), (.ref b12)])) _
    refine XS.aload X15.here hx rfl (hb hby at_100) rfl rfl ?_
    show Steps p.tables e below (T15.setTop (mkF m 102 #[.val (.int p0), .val (.int p1), .val (.int p2), .val (.int p3), .val (.int p4), .val (.int p5), .val (.int mb), .val (.ref b1), .val (.ref b12), .unset] [(.ref b1), (.int (1 : Int32)), (.ref b12)])) _
    refine XS.iconst X15.here hx rfl (hb hby at_102) ?_
    show Steps p.tables e below (T15.setTop (mkF m 103 #[.val (.int p0), .val (.int p1), .val (.int p2), .val (.int p3), .val (.int p4), .val (.int p5), .val (.int mb), .val (.ref b1), .val (.ref b12), .unset] [(.int (1 : Int32)), (.ref b1), (.int (1 : Int32)), (.ref b12)])) _
    refine X15.iaload hx (j := (1 : Int32)) (v := (.int x1)) (by rw [e15]; exact Ar16.1) (State.isArrayOf_alike hZ.alike Ar16.2.1) Ar16.2.2 (inb_of S16 ⟨by decide, by decide⟩) (Has.at H16 (inb_of S16 ⟨by decide, by decide⟩) rfl) (g := (mkF m 103 #[.val (.int p0), .val (.int p1), .val (.int p2), .val (.int p3), .val (.int p4), .val (.int p5), .val (.int mb), .val (.ref b1), .val (.ref b12), .unset] [(.int (1 : Int32)), (.ref b1), (.int (1 : Int32)), (.ref b12)])) rfl rfl (hb hby at_103) _ ?_
    show Steps p.tables e below (T15.setTop (mkF m 104 #[.val (.int p0), .val (.int p1), .val (.int p2), .val (.int p3), .val (.int p4), .val (.int p5), .val (.int mb), .val (.ref b1), .val (.ref b12), .unset] [(.int x1), (.int (1 : Int32)), (.ref b12)])) _
    refine XS.i2b X15.here hx rfl (hb hby at_104) rfl ?_
    exact kt
  obtain ⟨cl17, Ar17, q17, S17, M17, H17, G17⟩ := id V_b12_15
  obtain ⟨T18, h18, X18, e18, W18, st18⟩ := stB X15 hx hZ e15 Ar17 (j := (1 : Int32)) (inb_of S17 ⟨by decide, by decide⟩) (g := (mkF m 105 #[.val (.int p0), .val (.int p1), .val (.int p2), .val (.int p3), .val (.int p4), .val (.int p5), .val (.int mb), .val (.ref b1), .val (.ref b12), .unset] [(.int (x1.toInt8.toInt32)), (.int (1 : Int32)), (.ref b12)])) rfl rfl (hb hby at_105)
  have V_b12_18 : Arv Z h18 b12 k12 .byte (5 : Int32) [(.int ((x0.toInt8.toInt32).toInt8.toInt32)), (.int ((x1.toInt8.toInt32).toInt8.toInt32)), (.int (0 : Int32)), (.int (0 : Int32)), (.int (0 : Int32))] (.int (0 : Int32)) := Arv.set Ar17 q17 S17 M17 H17 G17 (fits_nar_byte _) W18 1 rfl (Nat.le_of_ble_eq_true rfl)
  have V_b1_18 := V_b1_15.other W18 ne_b1_b12
  have Z18 : n0 ≤ h18.size := Nat.le_trans Z15 (Keep.of_wr W18).1
  have N18 := Fr.snoc X18 N15 g_b12
  refine own_go (B := T18.setTop (mkF m 106 #[.val (.int p0), .val (.int p1), .val (.int p2), .val (.int p3), .val (.int p4), .val (.int p5), .val (.int mb), .val (.ref b1), .val (.ref b12), .unset] [])) (fun t kt => st18 t kt) ?_
  obtain ⟨cl19, Ar19, q19, S19, M19, H19, G19⟩ := id V_b1_18
  refine own_go (B := T18.setTop (mkF m 114 #[.val (.int p0), .val (.int p1), .val (.int p2), .val (.int p3), .val (.int p4), .val (.int p5), .val (.int mb), .val (.ref b1), .val (.ref b12), .unset] [(.int (x2.toInt8.toInt32)), (.int (2 : Int32)), (.ref b12)])) (fun t kt => ?_) ?_
  · show Steps p.tables e below (T18.setTop (mkF m 106 #[.val (.int p0), .val (.int p1), .val (.int p2), .val (.int p3), .val (.int p4), .val (.int p5), .val (.int mb), .val (.ref b1), .val (.ref b12), .unset] [])) _
    refine XS.aload X18.here hx rfl (hb hby at_106) rfl rfl ?_
    show Steps p.tables e below (T18.setTop (mkF m 108 #[.val (.int p0), .val (.int p1), .val (.int p2), .val (.int p3), .val (.int p4), .val (.int p5), .val (.int mb), .val (.ref b1), .val (.ref b12), .unset] [(.ref b12)])) _
    refine XS.iconst X18.here hx rfl (hb hby at_108) ?_
    show Steps p.tables e below (T18.setTop (mkF m 109 #[.val (.int p0), .val (.int p1), .val (.int p2), .val (.int p3), .val (.int p4), .val (.int p5), .val (.int mb), .val (.ref b1), .val (.ref b12), .unset] [(.int (2 : Int32)), (.ref b12)])) _
    refine XS.aload X18.here hx rfl (hb hby at_109) rfl rfl ?_
    show Steps p.tables e below (T18.setTop (mkF m 111 #[.val (.int p0), .val (.int p1), .val (.int p2), .val (.int p3), .val (.int p4), .val (.int p5), .val (.int mb), .val (.ref b1), .val (.ref b12), .unset] [(.ref b1), (.int (2 : Int32)), (.ref b12)])) _
    refine XS.iconst X18.here hx rfl (hb hby at_111) ?_
    show Steps p.tables e below (T18.setTop (mkF m 112 #[.val (.int p0), .val (.int p1), .val (.int p2), .val (.int p3), .val (.int p4), .val (.int p5), .val (.int mb), .val (.ref b1), .val (.ref b12), .unset] [(.int (2 : Int32)), (.ref b1), (.int (2 : Int32)), (.ref b12)])) _
    refine X18.iaload hx (j := (2 : Int32)) (v := (.int x2)) (by rw [e18]; exact Ar19.1) (State.isArrayOf_alike hZ.alike Ar19.2.1) Ar19.2.2 (inb_of S19 ⟨by decide, by decide⟩) (Has.at H19 (inb_of S19 ⟨by decide, by decide⟩) rfl) (g := (mkF m 112 #[.val (.int p0), .val (.int p1), .val (.int p2), .val (.int p3), .val (.int p4), .val (.int p5), .val (.int mb), .val (.ref b1), .val (.ref b12), .unset] [(.int (2 : Int32)), (.ref b1), (.int (2 : Int32)), (.ref b12)])) rfl rfl (hb hby at_112) _ ?_
    show Steps p.tables e below (T18.setTop (mkF m 113 #[.val (.int p0), .val (.int p1), .val (.int p2), .val (.int p3), .val (.int p4), .val (.int p5), .val (.int mb), .val (.ref b1), .val (.ref b12), .unset] [(.int x2), (.int (2 : Int32)), (.ref b12)])) _
    refine XS.i2b X18.here hx rfl (hb hby at_113) rfl ?_
    exact kt
  obtain ⟨cl20, Ar20, q20, S20, M20, H20, G20⟩ := id V_b12_18
  obtain ⟨T21, h21, X21, e21, W21, st21⟩ := stB X18 hx hZ e18 Ar20 (j := (2 : Int32)) (inb_of S20 ⟨by decide, by decide⟩) (g := (mkF m 114 #[.val (.int p0), .val (.int p1), .val (.int p2), .val (.int p3), .val (.int p4), .val (.int p5), .val (.int mb), .val (.ref b1), .val (.ref b12), .unset] [(.int (x2.toInt8.toInt32)), (.int (2 : Int32)), (.ref b12)])) rfl rfl (hb hby at_114)
  have V_b12_21 : Arv Z h21 b12 k12 .byte (5 : Int32) [(.int ((x0.toInt8.toInt32).toInt8.toInt32)), (.int ((x1.toInt8.toInt32).toInt8.toInt32)), (.int ((x2.toInt8.toInt32).toInt8.toInt32)), (.int (0 : Int32)), (.int (0 : Int32))] (.int (0 : Int32)) := Arv.set Ar20 q20 S20 M20 H20 G20 (fits_nar_byte _) W21 2 rfl (Nat.le_of_ble_eq_true rfl)
  have V_b1_21 := V_b1_18.other W21 ne_b1_b12
  have Z21 : n0 ≤ h21.size := Nat.le_trans Z18 (Keep.of_wr W21).1
  have N21 := Fr.snoc X21 N18 g_b12
  refine own_go (B := T21.setTop (mkF m 115 #[.val (.int p0), .val (.int p1), .val (.int p2), .val (.int p3), .val (.int p4), .val (.int p5), .val (.int mb), .val (.ref b1), .val (.ref b12), .unset] [])) (fun t kt => st21 t kt) ?_
  obtain ⟨cl22, Ar22, q22, S22, M22, H22, G22⟩ := id V_b1_21
  refine own_go (B := T21.setTop (mkF m 123 #[.val (.int p0), .val (.int p1), .val (.int p2), .val (.int p3), .val (.int p4), .val (.int p5), .val (.int mb), .val (.ref b1), .val (.ref b12), .unset] [(.int (x3.toInt8.toInt32)), (.int (3 : Int32)), (.ref b12)])) (fun t kt => ?_) ?_
  · show Steps p.tables e below (T21.setTop (mkF m 115 #[.val (.int p0), .val (.int p1), .val (.int p2), .val (.int p3), .val (.int p4), .val (.int p5), .val (.int mb), .val (.ref b1), .val (.ref b12), .unset] [])) _
    refine XS.aload X21.here hx rfl (hb hby at_115) rfl rfl ?_
    show Steps p.tables e below (T21.setTop (mkF m 117 #[.val (.int p0), .val (.int p1), .val (.int p2), .val (.int p3), .val (.int p4), .val (.int p5), .val (.int mb), .val (.ref b1), .val (.ref b12), .unset] [(.ref b12)])) _
    refine XS.iconst X21.here hx rfl (hb hby at_117) ?_
    show Steps p.tables e below (T21.setTop (mkF m 118 #[.val (.int p0), .val (.int p1), .val (.int p2), .val (.int p3), .val (.int p4), .val (.int p5), .val (.int mb), .val (.ref b1), .val (.ref b12), .unset] [(.int (3 : Int32)), (.ref b12)])) _
    refine XS.aload X21.here hx rfl (hb hby at_118) rfl rfl ?_
    show Steps p.tables e below (T21.setTop (mkF m 120 #[.val (.int p0), .val (.int p1), .val (.int p2), .val (.int p3), .val (.int p4), .val (.int p5), .val (.int mb), .val (.ref b1), .val (.ref b12), .unset] [(.ref b1), (.int (3 : Int32)), (.ref b12)])) _
    refine XS.iconst X21.here hx rfl (hb hby at_120) ?_
    show Steps p.tables e below (T21.setTop (mkF m 121 #[.val (.int p0), .val (.int p1), .val (.int p2), .val (.int p3), .val (.int p4), .val (.int p5), .val (.int mb), .val (.ref b1), .val (.ref b12), .unset] [(.int (3 : Int32)), (.ref b1), (.int (3 : Int32)), (.ref b12)])) _
    refine X21.iaload hx (j := (3 : Int32)) (v := (.int x3)) (by rw [e21]; exact Ar22.1) (State.isArrayOf_alike hZ.alike Ar22.2.1) Ar22.2.2 (inb_of S22 ⟨by decide, by decide⟩) (Has.at H22 (inb_of S22 ⟨by decide, by decide⟩) rfl) (g := (mkF m 121 #[.val (.int p0), .val (.int p1), .val (.int p2), .val (.int p3), .val (.int p4), .val (.int p5), .val (.int mb), .val (.ref b1), .val (.ref b12), .unset] [(.int (3 : Int32)), (.ref b1), (.int (3 : Int32)), (.ref b12)])) rfl rfl (hb hby at_121) _ ?_
    show Steps p.tables e below (T21.setTop (mkF m 122 #[.val (.int p0), .val (.int p1), .val (.int p2), .val (.int p3), .val (.int p4), .val (.int p5), .val (.int mb), .val (.ref b1), .val (.ref b12), .unset] [(.int x3), (.int (3 : Int32)), (.ref b12)])) _
    refine XS.i2b X21.here hx rfl (hb hby at_122) rfl ?_
    exact kt
  obtain ⟨cl23, Ar23, q23, S23, M23, H23, G23⟩ := id V_b12_21
  obtain ⟨T24, h24, X24, e24, W24, st24⟩ := stB X21 hx hZ e21 Ar23 (j := (3 : Int32)) (inb_of S23 ⟨by decide, by decide⟩) (g := (mkF m 123 #[.val (.int p0), .val (.int p1), .val (.int p2), .val (.int p3), .val (.int p4), .val (.int p5), .val (.int mb), .val (.ref b1), .val (.ref b12), .unset] [(.int (x3.toInt8.toInt32)), (.int (3 : Int32)), (.ref b12)])) rfl rfl (hb hby at_123)
  have V_b12_24 : Arv Z h24 b12 k12 .byte (5 : Int32) [(.int ((x0.toInt8.toInt32).toInt8.toInt32)), (.int ((x1.toInt8.toInt32).toInt8.toInt32)), (.int ((x2.toInt8.toInt32).toInt8.toInt32)), (.int ((x3.toInt8.toInt32).toInt8.toInt32)), (.int (0 : Int32))] (.int (0 : Int32)) := Arv.set Ar23 q23 S23 M23 H23 G23 (fits_nar_byte _) W24 3 rfl (Nat.le_of_ble_eq_true rfl)
  have V_b1_24 := V_b1_21.other W24 ne_b1_b12
  have Z24 : n0 ≤ h24.size := Nat.le_trans Z21 (Keep.of_wr W24).1
  have N24 := Fr.snoc X24 N21 g_b12
  refine own_go (B := T24.setTop (mkF m 124 #[.val (.int p0), .val (.int p1), .val (.int p2), .val (.int p3), .val (.int p4), .val (.int p5), .val (.int mb), .val (.ref b1), .val (.ref b12), .unset] [])) (fun t kt => st24 t kt) ?_
  obtain ⟨cl25, Ar25, q25, S25, M25, H25, G25⟩ := id V_b1_24
  refine own_go (B := T24.setTop (mkF m 132 #[.val (.int p0), .val (.int p1), .val (.int p2), .val (.int p3), .val (.int p4), .val (.int p5), .val (.int mb), .val (.ref b1), .val (.ref b12), .unset] [(.int (x4.toInt8.toInt32)), (.int (4 : Int32)), (.ref b12)])) (fun t kt => ?_) ?_
  · show Steps p.tables e below (T24.setTop (mkF m 124 #[.val (.int p0), .val (.int p1), .val (.int p2), .val (.int p3), .val (.int p4), .val (.int p5), .val (.int mb), .val (.ref b1), .val (.ref b12), .unset] [])) _
    refine XS.aload X24.here hx rfl (hb hby at_124) rfl rfl ?_
    show Steps p.tables e below (T24.setTop (mkF m 126 #[.val (.int p0), .val (.int p1), .val (.int p2), .val (.int p3), .val (.int p4), .val (.int p5), .val (.int mb), .val (.ref b1), .val (.ref b12), .unset] [(.ref b12)])) _
    refine XS.iconst X24.here hx rfl (hb hby at_126) ?_
    show Steps p.tables e below (T24.setTop (mkF m 127 #[.val (.int p0), .val (.int p1), .val (.int p2), .val (.int p3), .val (.int p4), .val (.int p5), .val (.int mb), .val (.ref b1), .val (.ref b12), .unset] [(.int (4 : Int32)), (.ref b12)])) _
    refine XS.aload X24.here hx rfl (hb hby at_127) rfl rfl ?_
    show Steps p.tables e below (T24.setTop (mkF m 129 #[.val (.int p0), .val (.int p1), .val (.int p2), .val (.int p3), .val (.int p4), .val (.int p5), .val (.int mb), .val (.ref b1), .val (.ref b12), .unset] [(.ref b1), (.int (4 : Int32)), (.ref b12)])) _
    refine XS.iconst X24.here hx rfl (hb hby at_129) ?_
    show Steps p.tables e below (T24.setTop (mkF m 130 #[.val (.int p0), .val (.int p1), .val (.int p2), .val (.int p3), .val (.int p4), .val (.int p5), .val (.int mb), .val (.ref b1), .val (.ref b12), .unset] [(.int (4 : Int32)), (.ref b1), (.int (4 : Int32)), (.ref b12)])) _
    refine X24.iaload hx (j := (4 : Int32)) (v := (.int x4)) (by rw [e24]; exact Ar25.1) (State.isArrayOf_alike hZ.alike Ar25.2.1) Ar25.2.2 (inb_of S25 ⟨by decide, by decide⟩) (Has.at H25 (inb_of S25 ⟨by decide, by decide⟩) rfl) (g := (mkF m 130 #[.val (.int p0), .val (.int p1), .val (.int p2), .val (.int p3), .val (.int p4), .val (.int p5), .val (.int mb), .val (.ref b1), .val (.ref b12), .unset] [(.int (4 : Int32)), (.ref b1), (.int (4 : Int32)), (.ref b12)])) rfl rfl (hb hby at_130) _ ?_
    show Steps p.tables e below (T24.setTop (mkF m 131 #[.val (.int p0), .val (.int p1), .val (.int p2), .val (.int p3), .val (.int p4), .val (.int p5), .val (.int mb), .val (.ref b1), .val (.ref b12), .unset] [(.int x4), (.int (4 : Int32)), (.ref b12)])) _
    refine XS.i2b X24.here hx rfl (hb hby at_131) rfl ?_
    exact kt
  obtain ⟨cl26, Ar26, q26, S26, M26, H26, G26⟩ := id V_b12_24
  obtain ⟨T27, h27, X27, e27, W27, st27⟩ := stB X24 hx hZ e24 Ar26 (j := (4 : Int32)) (inb_of S26 ⟨by decide, by decide⟩) (g := (mkF m 132 #[.val (.int p0), .val (.int p1), .val (.int p2), .val (.int p3), .val (.int p4), .val (.int p5), .val (.int mb), .val (.ref b1), .val (.ref b12), .unset] [(.int (x4.toInt8.toInt32)), (.int (4 : Int32)), (.ref b12)])) rfl rfl (hb hby at_132)
  have V_b12_27 : Arv Z h27 b12 k12 .byte (5 : Int32) [(.int ((x0.toInt8.toInt32).toInt8.toInt32)), (.int ((x1.toInt8.toInt32).toInt8.toInt32)), (.int ((x2.toInt8.toInt32).toInt8.toInt32)), (.int ((x3.toInt8.toInt32).toInt8.toInt32)), (.int ((x4.toInt8.toInt32).toInt8.toInt32))] (.int (0 : Int32)) := Arv.set Ar26 q26 S26 M26 H26 G26 (fits_nar_byte _) W27 4 rfl (Nat.le_of_ble_eq_true rfl)
  have V_b1_27 := V_b1_24.other W27 ne_b1_b12
  have Z27 : n0 ≤ h27.size := Nat.le_trans Z24 (Keep.of_wr W27).1
  have N27 := Fr.snoc X27 N24 g_b12
  refine own_go (B := T27.setTop (mkF m 133 #[.val (.int p0), .val (.int p1), .val (.int p2), .val (.int p3), .val (.int p4), .val (.int p5), .val (.int mb), .val (.ref b1), .val (.ref b12), .unset] [])) (fun t kt => st27 t kt) ?_
  rw [own_b8 bx0] at V_b12_27
  rw [own_b8 bx1] at V_b12_27
  rw [own_b8 bx2] at V_b12_27
  rw [own_b8 bx3] at V_b12_27
  rw [own_b8 bx4] at V_b12_27
  refine own_go (B := T27.setTop (mkF m 137 #[.val (.int p0), .val (.int p1), .val (.int p2), .val (.int p3), .val (.int p4), .val (.int p5), .val (.int mb), .val (.ref b1), .val (.ref b12), .unset] [(.int mb), (.ref b12)])) (fun t kt => ?_) ?_
  · show Steps p.tables e below (T27.setTop (mkF m 133 #[.val (.int p0), .val (.int p1), .val (.int p2), .val (.int p3), .val (.int p4), .val (.int p5), .val (.int mb), .val (.ref b1), .val (.ref b12), .unset] [])) _
    refine XS.aload X27.here hx rfl (hb hby at_133) rfl rfl ?_
    show Steps p.tables e below (T27.setTop (mkF m 135 #[.val (.int p0), .val (.int p1), .val (.int p2), .val (.int p3), .val (.int p4), .val (.int p5), .val (.int mb), .val (.ref b1), .val (.ref b12), .unset] [(.ref b12)])) _
    refine XS.iload X27.here hx rfl (hb hby at_135) rfl ?_
    exact kt
  obtain ⟨_, _, ⟨T28, L28, k28, n28⟩, -, X28, ⟨Lc28, hQ28, l28, y28, z28⟩, st28⟩ := Jvm.LawKit.callS X27 hx (y := (⟨"com/example/columella/columella/ipc/Huffman", "starts", "([BI)[I"⟩ : MethodName)) hown (mvT hZ (hw _ (List.mem_of_getElem? (i := 3) rfl))) (mvT hZ (hw _ (List.mem_of_getElem? (i := 4) rfl))) (mvT hZ (hw _ (List.mem_of_getElem? (i := 5) rfl))) (mvT hZ (hw _ (List.mem_of_getElem? (i := 6) rfl))) (by decide) (backOf (W := 0) (rm1 l Z t0 hw [] b12 mb k12 x0 x1 x2 x3 x4 h27 n0 Z27 V_b12_27 bmb.2 bmb.1) hZ (hw _ (List.mem_of_getElem? (i := 6) rfl)) (hw _ (List.mem_of_getElem? (i := 5) rfl)) (by decide) (by decide)) (g := (mkF m 137 #[.val (.int p0), .val (.int p1), .val (.int p2), .val (.int p3), .val (.int p4), .val (.int p5), .val (.int mb), .val (.ref b1), .val (.ref b12), .unset] [(.int mb), (.ref b12)])) rfl (by rw [hml]; rfl) (argsL := [(.ref b12), (.int mb)]) (rest := []) (lenOf pd_0_0 rfl) rfl (by show 2 * 0 + _ ≤ _; exact Nat.le_of_eq rfl) (hb hby at_137) (fun _ _ => ⟨rfl, e27, (by decide : 2 + 1 ≤ _), (by decide : 10 + 5 ≤ _)⟩)
  dsimp only [Pt.U, Pt.locs, Pt.cells, Pt.slots] at X28 l28 y28 z28 st28 hQ28
  subst l28 y28 z28
  obtain ⟨sr, rfl, Nq28, Kc28, zb28, gb28, ks, z0, z1, z2, z3, z4, nz, Vs28, Is⟩ := hQ28
  have N28 := Fr.app N27 Nq28
  obtain ⟨h28, e28⟩ : ∃ z, T28.heap = z := ⟨_, rfl⟩
  rw [e28] at Kc28 Vs28
  have V_b1_28 := V_b1_27.keep Kc28 nin0
  have V_b12_28 := V_b12_27.keep Kc28 nin0
  have Z28 : n0 ≤ h28.size := Nat.le_trans Z27 Kc28.1
  refine own_go (B := T28.setTop (mkF m 140 #[.val (.int p0), .val (.int p1), .val (.int p2), .val (.int p3), .val (.int p4), .val (.int p5), .val (.int mb), .val (.ref b1), .val (.ref b12), .unset] [(.ref sr)])) (fun t kt => st28 t kt) ?_
  obtain ⟨cl29, Ar29, q29, S29, M29, H29, G29⟩ := id V_b1_28
  obtain ⟨cl30, Ar30, q30, S30, M30, H30, G30⟩ := id Vs28
  have fin := own_fin b1 cl29 bmb bx0 bx1 bx2 bx3 bx4 Is
  obtain ⟨f0, f1, f2, f3, f4⟩ := fin
  refine own_go (B := T28.setTop (mkF m 165 #[.val (.int p0), .val (.int p1), .val (.int p2), .val (.int p3), .val (.int p4), .val (.int p5), .val (.int mb), .val (.ref b1), .val (.ref b12), .val (.ref sr)] [(.int mb), (.int (0 : Int32)), (.ref b1), (.int z0)])) (fun t kt => ?_) ?_
  · show Steps p.tables e below (T28.setTop (mkF m 140 #[.val (.int p0), .val (.int p1), .val (.int p2), .val (.int p3), .val (.int p4), .val (.int p5), .val (.int mb), .val (.ref b1), .val (.ref b12), .unset] [(.ref sr)])) _
    refine XS.astore X28.here hx rfl (hb hby at_140) rfl rfl (l' := #[.val (.int p0), .val (.int p1), .val (.int p2), .val (.int p3), .val (.int p4), .val (.int p5), .val (.int mb), .val (.ref b1), .val (.ref b12), .val (.ref sr)]) rfl ?_
    show Steps p.tables e below (T28.setTop (mkF m 142 #[.val (.int p0), .val (.int p1), .val (.int p2), .val (.int p3), .val (.int p4), .val (.int p5), .val (.int mb), .val (.ref b1), .val (.ref b12), .val (.ref sr)] [])) _
    refine XS.aload X28.here hx rfl (hb hby at_142) rfl rfl ?_
    show Steps p.tables e below (T28.setTop (mkF m 144 #[.val (.int p0), .val (.int p1), .val (.int p2), .val (.int p3), .val (.int p4), .val (.int p5), .val (.int mb), .val (.ref b1), .val (.ref b12), .val (.ref sr)] [(.ref sr)])) _
    refine XS.ifnullNo X28.here hx rfl (hb hby at_144) rfl ?_
    show Steps p.tables e below (T28.setTop (mkF m 147 #[.val (.int p0), .val (.int p1), .val (.int p2), .val (.int p3), .val (.int p4), .val (.int p5), .val (.int mb), .val (.ref b1), .val (.ref b12), .val (.ref sr)] [])) _
    refine XS.aload X28.here hx rfl (hb hby at_147) rfl rfl ?_
    show Steps p.tables e below (T28.setTop (mkF m 149 #[.val (.int p0), .val (.int p1), .val (.int p2), .val (.int p3), .val (.int p4), .val (.int p5), .val (.int mb), .val (.ref b1), .val (.ref b12), .val (.ref sr)] [(.ref sr)])) _
    refine X28.arraylength hx (by rw [e28]; exact Ar30.1) (State.isArrayOf_alike hZ.alike Ar30.2.1) (g := (mkF m 149 #[.val (.int p0), .val (.int p1), .val (.int p2), .val (.int p3), .val (.int p4), .val (.int p5), .val (.int mb), .val (.ref b1), .val (.ref b12), .val (.ref sr)] [(.ref sr)])) rfl rfl (hb hby at_149) _ ?_
    rw [len_of S30 M30]
    show Steps p.tables e below (T28.setTop (mkF m 150 #[.val (.int p0), .val (.int p1), .val (.int p2), .val (.int p3), .val (.int p4), .val (.int p5), .val (.int mb), .val (.ref b1), .val (.ref b12), .val (.ref sr)] [(.int (5 : Int32))])) _
    refine XS.iconst X28.here hx rfl (hb hby at_150) ?_
    show Steps p.tables e below (T28.setTop (mkF m 151 #[.val (.int p0), .val (.int p1), .val (.int p2), .val (.int p3), .val (.int p4), .val (.int p5), .val (.int mb), .val (.ref b1), .val (.ref b12), .val (.ref sr)] [(.int (5 : Int32)), (.int (5 : Int32))])) _
    refine XS.icmpYes X28.here hx rfl (pc0 := 151) (pc' := 156) rfl (hb hby at_151) rfl (teq (by decide)).1 (by decide) (by decide) ?_
    show Steps p.tables e below (T28.setTop (mkF m 156 #[.val (.int p0), .val (.int p1), .val (.int p2), .val (.int p3), .val (.int p4), .val (.int p5), .val (.int mb), .val (.ref b1), .val (.ref b12), .val (.ref sr)] [])) _
    refine XS.aload X28.here hx rfl (hb hby at_156) rfl rfl ?_
    show Steps p.tables e below (T28.setTop (mkF m 158 #[.val (.int p0), .val (.int p1), .val (.int p2), .val (.int p3), .val (.int p4), .val (.int p5), .val (.int mb), .val (.ref b1), .val (.ref b12), .val (.ref sr)] [(.ref sr)])) _
    refine XS.iconst X28.here hx rfl (hb hby at_158) ?_
    show Steps p.tables e below (T28.setTop (mkF m 159 #[.val (.int p0), .val (.int p1), .val (.int p2), .val (.int p3), .val (.int p4), .val (.int p5), .val (.int mb), .val (.ref b1), .val (.ref b12), .val (.ref sr)] [(.int (0 : Int32)), (.ref sr)])) _
    refine X28.iaload hx (j := (0 : Int32)) (v := (.int z0)) (by rw [e28]; exact Ar30.1) (State.isArrayOf_alike hZ.alike Ar30.2.1) Ar30.2.2 (inb_of S30 ⟨by decide, by decide⟩) (Has.at H30 (inb_of S30 ⟨by decide, by decide⟩) rfl) (g := (mkF m 159 #[.val (.int p0), .val (.int p1), .val (.int p2), .val (.int p3), .val (.int p4), .val (.int p5), .val (.int mb), .val (.ref b1), .val (.ref b12), .val (.ref sr)] [(.int (0 : Int32)), (.ref sr)])) rfl rfl (hb hby at_159) _ ?_
    show Steps p.tables e below (T28.setTop (mkF m 160 #[.val (.int p0), .val (.int p1), .val (.int p2), .val (.int p3), .val (.int p4), .val (.int p5), .val (.int mb), .val (.ref b1), .val (.ref b12), .val (.ref sr)] [(.int z0)])) _
    refine XS.aload X28.here hx rfl (hb hby at_160) rfl rfl ?_
    show Steps p.tables e below (T28.setTop (mkF m 162 #[.val (.int p0), .val (.int p1), .val (.int p2), .val (.int p3), .val (.int p4), .val (.int p5), .val (.int mb), .val (.ref b1), .val (.ref b12), .val (.ref sr)] [(.ref b1), (.int z0)])) _
    refine XS.iconst X28.here hx rfl (hb hby at_162) ?_
    show Steps p.tables e below (T28.setTop (mkF m 163 #[.val (.int p0), .val (.int p1), .val (.int p2), .val (.int p3), .val (.int p4), .val (.int p5), .val (.int mb), .val (.ref b1), .val (.ref b12), .val (.ref sr)] [(.int (0 : Int32)), (.ref b1), (.int z0)])) _
    refine XS.iload X28.here hx rfl (hb hby at_163) rfl ?_
    exact kt
  obtain ⟨_, _, ⟨T31, L31, k31, n31⟩, -, X31, ⟨Lc31, hQ31, l31, y31, z31⟩, st31⟩ := Jvm.LawKit.callS X28 hx (y := (⟨"com/example/columella/columella/ipc/HuffmanStartsPinLaw", "expected", "([III)I"⟩ : MethodName)) hown (mvT hZ (hw _ (List.mem_of_getElem? (i := 7) rfl))) (mvT hZ (hw _ (List.mem_of_getElem? (i := 8) rfl))) (mvT hZ (hw _ (List.mem_of_getElem? (i := 9) rfl))) (mvT hZ (hw _ (List.mem_of_getElem? (i := 10) rfl))) (by decide) (backOf (W := 1) (rm2 l Z t0 hw [] b1 (0 : Int32) mb cl29 x0 x1 x2 x3 x4 x0 h28 n0 Z28 Ar29 S29 H29 (inb_of S29 ⟨by decide, by decide⟩) (Has.at H29 (inb_of S29 ⟨by decide, by decide⟩) rfl)) hZ (hw _ (List.mem_of_getElem? (i := 10) rfl)) (hw _ (List.mem_of_getElem? (i := 9) rfl)) (by decide) (by decide)) (g := (mkF m 165 #[.val (.int p0), .val (.int p1), .val (.int p2), .val (.int p3), .val (.int p4), .val (.int p5), .val (.int mb), .val (.ref b1), .val (.ref b12), .val (.ref sr)] [(.int mb), (.int (0 : Int32)), (.ref b1), (.int z0)])) rfl (by rw [hml]; rfl) (argsL := [(.ref b1), (.int (0 : Int32)), (.int mb)]) (rest := [(.int z0)]) (lenOf pd_0_1 rfl) rfl (by show 2 * 0 + _ ≤ _; exact Nat.le_of_eq rfl) (hb hby at_165) (fun _ _ => ⟨rfl, e28, (by decide : 3 + 0 ≤ _), (by decide : 15 + 0 ≤ _)⟩)
  dsimp only [Pt.U, Pt.locs, Pt.cells, Pt.slots] at X31 l31 y31 z31 st31 hQ31
  subst l31 y31 z31
  obtain ⟨rfl, Nq31, hh31⟩ := hQ31
  have N31 := Fr.app N28 Nq31
  have e31 : T31.heap = h28 := hh31
  refine own_go (B := T31.setTop (mkF m 168 #[.val (.int p0), .val (.int p1), .val (.int p2), .val (.int p3), .val (.int p4), .val (.int p5), .val (.int mb), .val (.ref b1), .val (.ref b12), .val (.ref sr)] [(.int (own_ex b1 (0 : Int32) mb cl29 x0 x1 x2 x3 x4 x0)), (.int z0)])) (fun t kt => st31 t kt) ?_
  refine own_go (B := T31.setTop (mkF m 180 #[.val (.int p0), .val (.int p1), .val (.int p2), .val (.int p3), .val (.int p4), .val (.int p5), .val (.int mb), .val (.ref b1), .val (.ref b12), .val (.ref sr)] [(.int mb), (.int (1 : Int32)), (.ref b1), (.int z1)])) (fun t kt => ?_) ?_
  · show Steps p.tables e below (T31.setTop (mkF m 168 #[.val (.int p0), .val (.int p1), .val (.int p2), .val (.int p3), .val (.int p4), .val (.int p5), .val (.int mb), .val (.ref b1), .val (.ref b12), .val (.ref sr)] [(.int (own_ex b1 (0 : Int32) mb cl29 x0 x1 x2 x3 x4 x0)), (.int z0)])) _
    refine XS.icmpNo X31.here hx rfl (hb hby at_168) rfl (teq f0).2 ?_
    show Steps p.tables e below (T31.setTop (mkF m 171 #[.val (.int p0), .val (.int p1), .val (.int p2), .val (.int p3), .val (.int p4), .val (.int p5), .val (.int mb), .val (.ref b1), .val (.ref b12), .val (.ref sr)] [])) _
    refine XS.aload X31.here hx rfl (hb hby at_171) rfl rfl ?_
    show Steps p.tables e below (T31.setTop (mkF m 173 #[.val (.int p0), .val (.int p1), .val (.int p2), .val (.int p3), .val (.int p4), .val (.int p5), .val (.int mb), .val (.ref b1), .val (.ref b12), .val (.ref sr)] [(.ref sr)])) _
    refine XS.iconst X31.here hx rfl (hb hby at_173) ?_
    show Steps p.tables e below (T31.setTop (mkF m 174 #[.val (.int p0), .val (.int p1), .val (.int p2), .val (.int p3), .val (.int p4), .val (.int p5), .val (.int mb), .val (.ref b1), .val (.ref b12), .val (.ref sr)] [(.int (1 : Int32)), (.ref sr)])) _
    refine X31.iaload hx (j := (1 : Int32)) (v := (.int z1)) (by rw [e31]; exact Ar30.1) (State.isArrayOf_alike hZ.alike Ar30.2.1) Ar30.2.2 (inb_of S30 ⟨by decide, by decide⟩) (Has.at H30 (inb_of S30 ⟨by decide, by decide⟩) rfl) (g := (mkF m 174 #[.val (.int p0), .val (.int p1), .val (.int p2), .val (.int p3), .val (.int p4), .val (.int p5), .val (.int mb), .val (.ref b1), .val (.ref b12), .val (.ref sr)] [(.int (1 : Int32)), (.ref sr)])) rfl rfl (hb hby at_174) _ ?_
    show Steps p.tables e below (T31.setTop (mkF m 175 #[.val (.int p0), .val (.int p1), .val (.int p2), .val (.int p3), .val (.int p4), .val (.int p5), .val (.int mb), .val (.ref b1), .val (.ref b12), .val (.ref sr)] [(.int z1)])) _
    refine XS.aload X31.here hx rfl (hb hby at_175) rfl rfl ?_
    show Steps p.tables e below (T31.setTop (mkF m 177 #[.val (.int p0), .val (.int p1), .val (.int p2), .val (.int p3), .val (.int p4), .val (.int p5), .val (.int mb), .val (.ref b1), .val (.ref b12), .val (.ref sr)] [(.ref b1), (.int z1)])) _
    refine XS.iconst X31.here hx rfl (hb hby at_177) ?_
    show Steps p.tables e below (T31.setTop (mkF m 178 #[.val (.int p0), .val (.int p1), .val (.int p2), .val (.int p3), .val (.int p4), .val (.int p5), .val (.int mb), .val (.ref b1), .val (.ref b12), .val (.ref sr)] [(.int (1 : Int32)), (.ref b1), (.int z1)])) _
    refine XS.iload X31.here hx rfl (hb hby at_178) rfl ?_
    exact kt
  obtain ⟨_, _, ⟨T32, L32, k32, n32⟩, -, X32, ⟨Lc32, hQ32, l32, y32, z32⟩, st32⟩ := Jvm.LawKit.callS X31 hx (y := (⟨"com/example/columella/columella/ipc/HuffmanStartsPinLaw", "expected", "([III)I"⟩ : MethodName)) hown (mvT hZ (hw _ (List.mem_of_getElem? (i := 7) rfl))) (mvT hZ (hw _ (List.mem_of_getElem? (i := 8) rfl))) (mvT hZ (hw _ (List.mem_of_getElem? (i := 9) rfl))) (mvT hZ (hw _ (List.mem_of_getElem? (i := 10) rfl))) (by decide) (backOf (W := 1) (rm2 l Z t0 hw [] b1 (1 : Int32) mb cl29 x0 x1 x2 x3 x4 x1 h28 n0 Z28 Ar29 S29 H29 (inb_of S29 ⟨by decide, by decide⟩) (Has.at H29 (inb_of S29 ⟨by decide, by decide⟩) rfl)) hZ (hw _ (List.mem_of_getElem? (i := 10) rfl)) (hw _ (List.mem_of_getElem? (i := 9) rfl)) (by decide) (by decide)) (g := (mkF m 180 #[.val (.int p0), .val (.int p1), .val (.int p2), .val (.int p3), .val (.int p4), .val (.int p5), .val (.int mb), .val (.ref b1), .val (.ref b12), .val (.ref sr)] [(.int mb), (.int (1 : Int32)), (.ref b1), (.int z1)])) rfl (by rw [hml]; rfl) (argsL := [(.ref b1), (.int (1 : Int32)), (.int mb)]) (rest := [(.int z1)]) (lenOf pd_0_1 rfl) rfl (by show 2 * 0 + _ ≤ _; exact Nat.le_of_eq rfl) (hb hby at_180) (fun _ _ => ⟨rfl, e31, (by decide : 3 + 0 ≤ _), (by decide : 15 + 0 ≤ _)⟩)
  dsimp only [Pt.U, Pt.locs, Pt.cells, Pt.slots] at X32 l32 y32 z32 st32 hQ32
  subst l32 y32 z32
  obtain ⟨rfl, Nq32, hh32⟩ := hQ32
  have N32 := Fr.app N31 Nq32
  have e32 : T32.heap = h28 := hh32
  refine own_go (B := T32.setTop (mkF m 183 #[.val (.int p0), .val (.int p1), .val (.int p2), .val (.int p3), .val (.int p4), .val (.int p5), .val (.int mb), .val (.ref b1), .val (.ref b12), .val (.ref sr)] [(.int (own_ex b1 (1 : Int32) mb cl29 x0 x1 x2 x3 x4 x1)), (.int z1)])) (fun t kt => st32 t kt) ?_
  refine own_go (B := T32.setTop (mkF m 195 #[.val (.int p0), .val (.int p1), .val (.int p2), .val (.int p3), .val (.int p4), .val (.int p5), .val (.int mb), .val (.ref b1), .val (.ref b12), .val (.ref sr)] [(.int mb), (.int (2 : Int32)), (.ref b1), (.int z2)])) (fun t kt => ?_) ?_
  · show Steps p.tables e below (T32.setTop (mkF m 183 #[.val (.int p0), .val (.int p1), .val (.int p2), .val (.int p3), .val (.int p4), .val (.int p5), .val (.int mb), .val (.ref b1), .val (.ref b12), .val (.ref sr)] [(.int (own_ex b1 (1 : Int32) mb cl29 x0 x1 x2 x3 x4 x1)), (.int z1)])) _
    refine XS.icmpNo X32.here hx rfl (hb hby at_183) rfl (teq f1).2 ?_
    show Steps p.tables e below (T32.setTop (mkF m 186 #[.val (.int p0), .val (.int p1), .val (.int p2), .val (.int p3), .val (.int p4), .val (.int p5), .val (.int mb), .val (.ref b1), .val (.ref b12), .val (.ref sr)] [])) _
    refine XS.aload X32.here hx rfl (hb hby at_186) rfl rfl ?_
    show Steps p.tables e below (T32.setTop (mkF m 188 #[.val (.int p0), .val (.int p1), .val (.int p2), .val (.int p3), .val (.int p4), .val (.int p5), .val (.int mb), .val (.ref b1), .val (.ref b12), .val (.ref sr)] [(.ref sr)])) _
    refine XS.iconst X32.here hx rfl (hb hby at_188) ?_
    show Steps p.tables e below (T32.setTop (mkF m 189 #[.val (.int p0), .val (.int p1), .val (.int p2), .val (.int p3), .val (.int p4), .val (.int p5), .val (.int mb), .val (.ref b1), .val (.ref b12), .val (.ref sr)] [(.int (2 : Int32)), (.ref sr)])) _
    refine X32.iaload hx (j := (2 : Int32)) (v := (.int z2)) (by rw [e32]; exact Ar30.1) (State.isArrayOf_alike hZ.alike Ar30.2.1) Ar30.2.2 (inb_of S30 ⟨by decide, by decide⟩) (Has.at H30 (inb_of S30 ⟨by decide, by decide⟩) rfl) (g := (mkF m 189 #[.val (.int p0), .val (.int p1), .val (.int p2), .val (.int p3), .val (.int p4), .val (.int p5), .val (.int mb), .val (.ref b1), .val (.ref b12), .val (.ref sr)] [(.int (2 : Int32)), (.ref sr)])) rfl rfl (hb hby at_189) _ ?_
    show Steps p.tables e below (T32.setTop (mkF m 190 #[.val (.int p0), .val (.int p1), .val (.int p2), .val (.int p3), .val (.int p4), .val (.int p5), .val (.int mb), .val (.ref b1), .val (.ref b12), .val (.ref sr)] [(.int z2)])) _
    refine XS.aload X32.here hx rfl (hb hby at_190) rfl rfl ?_
    show Steps p.tables e below (T32.setTop (mkF m 192 #[.val (.int p0), .val (.int p1), .val (.int p2), .val (.int p3), .val (.int p4), .val (.int p5), .val (.int mb), .val (.ref b1), .val (.ref b12), .val (.ref sr)] [(.ref b1), (.int z2)])) _
    refine XS.iconst X32.here hx rfl (hb hby at_192) ?_
    show Steps p.tables e below (T32.setTop (mkF m 193 #[.val (.int p0), .val (.int p1), .val (.int p2), .val (.int p3), .val (.int p4), .val (.int p5), .val (.int mb), .val (.ref b1), .val (.ref b12), .val (.ref sr)] [(.int (2 : Int32)), (.ref b1), (.int z2)])) _
    refine XS.iload X32.here hx rfl (hb hby at_193) rfl ?_
    exact kt
  obtain ⟨_, _, ⟨T33, L33, k33, n33⟩, -, X33, ⟨Lc33, hQ33, l33, y33, z33⟩, st33⟩ := Jvm.LawKit.callS X32 hx (y := (⟨"com/example/columella/columella/ipc/HuffmanStartsPinLaw", "expected", "([III)I"⟩ : MethodName)) hown (mvT hZ (hw _ (List.mem_of_getElem? (i := 7) rfl))) (mvT hZ (hw _ (List.mem_of_getElem? (i := 8) rfl))) (mvT hZ (hw _ (List.mem_of_getElem? (i := 9) rfl))) (mvT hZ (hw _ (List.mem_of_getElem? (i := 10) rfl))) (by decide) (backOf (W := 1) (rm2 l Z t0 hw [] b1 (2 : Int32) mb cl29 x0 x1 x2 x3 x4 x2 h28 n0 Z28 Ar29 S29 H29 (inb_of S29 ⟨by decide, by decide⟩) (Has.at H29 (inb_of S29 ⟨by decide, by decide⟩) rfl)) hZ (hw _ (List.mem_of_getElem? (i := 10) rfl)) (hw _ (List.mem_of_getElem? (i := 9) rfl)) (by decide) (by decide)) (g := (mkF m 195 #[.val (.int p0), .val (.int p1), .val (.int p2), .val (.int p3), .val (.int p4), .val (.int p5), .val (.int mb), .val (.ref b1), .val (.ref b12), .val (.ref sr)] [(.int mb), (.int (2 : Int32)), (.ref b1), (.int z2)])) rfl (by rw [hml]; rfl) (argsL := [(.ref b1), (.int (2 : Int32)), (.int mb)]) (rest := [(.int z2)]) (lenOf pd_0_1 rfl) rfl (by show 2 * 0 + _ ≤ _; exact Nat.le_of_eq rfl) (hb hby at_195) (fun _ _ => ⟨rfl, e32, (by decide : 3 + 0 ≤ _), (by decide : 15 + 0 ≤ _)⟩)
  dsimp only [Pt.U, Pt.locs, Pt.cells, Pt.slots] at X33 l33 y33 z33 st33 hQ33
  subst l33 y33 z33
  obtain ⟨rfl, Nq33, hh33⟩ := hQ33
  have N33 := Fr.app N32 Nq33
  have e33 : T33.heap = h28 := hh33
  refine own_go (B := T33.setTop (mkF m 198 #[.val (.int p0), .val (.int p1), .val (.int p2), .val (.int p3), .val (.int p4), .val (.int p5), .val (.int mb), .val (.ref b1), .val (.ref b12), .val (.ref sr)] [(.int (own_ex b1 (2 : Int32) mb cl29 x0 x1 x2 x3 x4 x2)), (.int z2)])) (fun t kt => st33 t kt) ?_
  refine own_go (B := T33.setTop (mkF m 210 #[.val (.int p0), .val (.int p1), .val (.int p2), .val (.int p3), .val (.int p4), .val (.int p5), .val (.int mb), .val (.ref b1), .val (.ref b12), .val (.ref sr)] [(.int mb), (.int (3 : Int32)), (.ref b1), (.int z3)])) (fun t kt => ?_) ?_
  · show Steps p.tables e below (T33.setTop (mkF m 198 #[.val (.int p0), .val (.int p1), .val (.int p2), .val (.int p3), .val (.int p4), .val (.int p5), .val (.int mb), .val (.ref b1), .val (.ref b12), .val (.ref sr)] [(.int (own_ex b1 (2 : Int32) mb cl29 x0 x1 x2 x3 x4 x2)), (.int z2)])) _
    refine XS.icmpNo X33.here hx rfl (hb hby at_198) rfl (teq f2).2 ?_
    show Steps p.tables e below (T33.setTop (mkF m 201 #[.val (.int p0), .val (.int p1), .val (.int p2), .val (.int p3), .val (.int p4), .val (.int p5), .val (.int mb), .val (.ref b1), .val (.ref b12), .val (.ref sr)] [])) _
    refine XS.aload X33.here hx rfl (hb hby at_201) rfl rfl ?_
    show Steps p.tables e below (T33.setTop (mkF m 203 #[.val (.int p0), .val (.int p1), .val (.int p2), .val (.int p3), .val (.int p4), .val (.int p5), .val (.int mb), .val (.ref b1), .val (.ref b12), .val (.ref sr)] [(.ref sr)])) _
    refine XS.iconst X33.here hx rfl (hb hby at_203) ?_
    show Steps p.tables e below (T33.setTop (mkF m 204 #[.val (.int p0), .val (.int p1), .val (.int p2), .val (.int p3), .val (.int p4), .val (.int p5), .val (.int mb), .val (.ref b1), .val (.ref b12), .val (.ref sr)] [(.int (3 : Int32)), (.ref sr)])) _
    refine X33.iaload hx (j := (3 : Int32)) (v := (.int z3)) (by rw [e33]; exact Ar30.1) (State.isArrayOf_alike hZ.alike Ar30.2.1) Ar30.2.2 (inb_of S30 ⟨by decide, by decide⟩) (Has.at H30 (inb_of S30 ⟨by decide, by decide⟩) rfl) (g := (mkF m 204 #[.val (.int p0), .val (.int p1), .val (.int p2), .val (.int p3), .val (.int p4), .val (.int p5), .val (.int mb), .val (.ref b1), .val (.ref b12), .val (.ref sr)] [(.int (3 : Int32)), (.ref sr)])) rfl rfl (hb hby at_204) _ ?_
    show Steps p.tables e below (T33.setTop (mkF m 205 #[.val (.int p0), .val (.int p1), .val (.int p2), .val (.int p3), .val (.int p4), .val (.int p5), .val (.int mb), .val (.ref b1), .val (.ref b12), .val (.ref sr)] [(.int z3)])) _
    refine XS.aload X33.here hx rfl (hb hby at_205) rfl rfl ?_
    show Steps p.tables e below (T33.setTop (mkF m 207 #[.val (.int p0), .val (.int p1), .val (.int p2), .val (.int p3), .val (.int p4), .val (.int p5), .val (.int mb), .val (.ref b1), .val (.ref b12), .val (.ref sr)] [(.ref b1), (.int z3)])) _
    refine XS.iconst X33.here hx rfl (hb hby at_207) ?_
    show Steps p.tables e below (T33.setTop (mkF m 208 #[.val (.int p0), .val (.int p1), .val (.int p2), .val (.int p3), .val (.int p4), .val (.int p5), .val (.int mb), .val (.ref b1), .val (.ref b12), .val (.ref sr)] [(.int (3 : Int32)), (.ref b1), (.int z3)])) _
    refine XS.iload X33.here hx rfl (hb hby at_208) rfl ?_
    exact kt
  obtain ⟨_, _, ⟨T34, L34, k34, n34⟩, -, X34, ⟨Lc34, hQ34, l34, y34, z34⟩, st34⟩ := Jvm.LawKit.callS X33 hx (y := (⟨"com/example/columella/columella/ipc/HuffmanStartsPinLaw", "expected", "([III)I"⟩ : MethodName)) hown (mvT hZ (hw _ (List.mem_of_getElem? (i := 7) rfl))) (mvT hZ (hw _ (List.mem_of_getElem? (i := 8) rfl))) (mvT hZ (hw _ (List.mem_of_getElem? (i := 9) rfl))) (mvT hZ (hw _ (List.mem_of_getElem? (i := 10) rfl))) (by decide) (backOf (W := 1) (rm2 l Z t0 hw [] b1 (3 : Int32) mb cl29 x0 x1 x2 x3 x4 x3 h28 n0 Z28 Ar29 S29 H29 (inb_of S29 ⟨by decide, by decide⟩) (Has.at H29 (inb_of S29 ⟨by decide, by decide⟩) rfl)) hZ (hw _ (List.mem_of_getElem? (i := 10) rfl)) (hw _ (List.mem_of_getElem? (i := 9) rfl)) (by decide) (by decide)) (g := (mkF m 210 #[.val (.int p0), .val (.int p1), .val (.int p2), .val (.int p3), .val (.int p4), .val (.int p5), .val (.int mb), .val (.ref b1), .val (.ref b12), .val (.ref sr)] [(.int mb), (.int (3 : Int32)), (.ref b1), (.int z3)])) rfl (by rw [hml]; rfl) (argsL := [(.ref b1), (.int (3 : Int32)), (.int mb)]) (rest := [(.int z3)]) (lenOf pd_0_1 rfl) rfl (by show 2 * 0 + _ ≤ _; exact Nat.le_of_eq rfl) (hb hby at_210) (fun _ _ => ⟨rfl, e33, (by decide : 3 + 0 ≤ _), (by decide : 15 + 0 ≤ _)⟩)
  dsimp only [Pt.U, Pt.locs, Pt.cells, Pt.slots] at X34 l34 y34 z34 st34 hQ34
  subst l34 y34 z34
  obtain ⟨rfl, Nq34, hh34⟩ := hQ34
  have N34 := Fr.app N33 Nq34
  have e34 : T34.heap = h28 := hh34
  refine own_go (B := T34.setTop (mkF m 213 #[.val (.int p0), .val (.int p1), .val (.int p2), .val (.int p3), .val (.int p4), .val (.int p5), .val (.int mb), .val (.ref b1), .val (.ref b12), .val (.ref sr)] [(.int (own_ex b1 (3 : Int32) mb cl29 x0 x1 x2 x3 x4 x3)), (.int z3)])) (fun t kt => st34 t kt) ?_
  refine own_go (B := T34.setTop (mkF m 225 #[.val (.int p0), .val (.int p1), .val (.int p2), .val (.int p3), .val (.int p4), .val (.int p5), .val (.int mb), .val (.ref b1), .val (.ref b12), .val (.ref sr)] [(.int mb), (.int (4 : Int32)), (.ref b1), (.int z4)])) (fun t kt => ?_) ?_
  · show Steps p.tables e below (T34.setTop (mkF m 213 #[.val (.int p0), .val (.int p1), .val (.int p2), .val (.int p3), .val (.int p4), .val (.int p5), .val (.int mb), .val (.ref b1), .val (.ref b12), .val (.ref sr)] [(.int (own_ex b1 (3 : Int32) mb cl29 x0 x1 x2 x3 x4 x3)), (.int z3)])) _
    refine XS.icmpNo X34.here hx rfl (hb hby at_213) rfl (teq f3).2 ?_
    show Steps p.tables e below (T34.setTop (mkF m 216 #[.val (.int p0), .val (.int p1), .val (.int p2), .val (.int p3), .val (.int p4), .val (.int p5), .val (.int mb), .val (.ref b1), .val (.ref b12), .val (.ref sr)] [])) _
    refine XS.aload X34.here hx rfl (hb hby at_216) rfl rfl ?_
    show Steps p.tables e below (T34.setTop (mkF m 218 #[.val (.int p0), .val (.int p1), .val (.int p2), .val (.int p3), .val (.int p4), .val (.int p5), .val (.int mb), .val (.ref b1), .val (.ref b12), .val (.ref sr)] [(.ref sr)])) _
    refine XS.iconst X34.here hx rfl (hb hby at_218) ?_
    show Steps p.tables e below (T34.setTop (mkF m 219 #[.val (.int p0), .val (.int p1), .val (.int p2), .val (.int p3), .val (.int p4), .val (.int p5), .val (.int mb), .val (.ref b1), .val (.ref b12), .val (.ref sr)] [(.int (4 : Int32)), (.ref sr)])) _
    refine X34.iaload hx (j := (4 : Int32)) (v := (.int z4)) (by rw [e34]; exact Ar30.1) (State.isArrayOf_alike hZ.alike Ar30.2.1) Ar30.2.2 (inb_of S30 ⟨by decide, by decide⟩) (Has.at H30 (inb_of S30 ⟨by decide, by decide⟩) rfl) (g := (mkF m 219 #[.val (.int p0), .val (.int p1), .val (.int p2), .val (.int p3), .val (.int p4), .val (.int p5), .val (.int mb), .val (.ref b1), .val (.ref b12), .val (.ref sr)] [(.int (4 : Int32)), (.ref sr)])) rfl rfl (hb hby at_219) _ ?_
    show Steps p.tables e below (T34.setTop (mkF m 220 #[.val (.int p0), .val (.int p1), .val (.int p2), .val (.int p3), .val (.int p4), .val (.int p5), .val (.int mb), .val (.ref b1), .val (.ref b12), .val (.ref sr)] [(.int z4)])) _
    refine XS.aload X34.here hx rfl (hb hby at_220) rfl rfl ?_
    show Steps p.tables e below (T34.setTop (mkF m 222 #[.val (.int p0), .val (.int p1), .val (.int p2), .val (.int p3), .val (.int p4), .val (.int p5), .val (.int mb), .val (.ref b1), .val (.ref b12), .val (.ref sr)] [(.ref b1), (.int z4)])) _
    refine XS.iconst X34.here hx rfl (hb hby at_222) ?_
    show Steps p.tables e below (T34.setTop (mkF m 223 #[.val (.int p0), .val (.int p1), .val (.int p2), .val (.int p3), .val (.int p4), .val (.int p5), .val (.int mb), .val (.ref b1), .val (.ref b12), .val (.ref sr)] [(.int (4 : Int32)), (.ref b1), (.int z4)])) _
    refine XS.iload X34.here hx rfl (hb hby at_223) rfl ?_
    exact kt
  obtain ⟨_, _, ⟨T35, L35, k35, n35⟩, -, X35, ⟨Lc35, hQ35, l35, y35, z35⟩, st35⟩ := Jvm.LawKit.callS X34 hx (y := (⟨"com/example/columella/columella/ipc/HuffmanStartsPinLaw", "expected", "([III)I"⟩ : MethodName)) hown (mvT hZ (hw _ (List.mem_of_getElem? (i := 7) rfl))) (mvT hZ (hw _ (List.mem_of_getElem? (i := 8) rfl))) (mvT hZ (hw _ (List.mem_of_getElem? (i := 9) rfl))) (mvT hZ (hw _ (List.mem_of_getElem? (i := 10) rfl))) (by decide) (backOf (W := 1) (rm2 l Z t0 hw [] b1 (4 : Int32) mb cl29 x0 x1 x2 x3 x4 x4 h28 n0 Z28 Ar29 S29 H29 (inb_of S29 ⟨by decide, by decide⟩) (Has.at H29 (inb_of S29 ⟨by decide, by decide⟩) rfl)) hZ (hw _ (List.mem_of_getElem? (i := 10) rfl)) (hw _ (List.mem_of_getElem? (i := 9) rfl)) (by decide) (by decide)) (g := (mkF m 225 #[.val (.int p0), .val (.int p1), .val (.int p2), .val (.int p3), .val (.int p4), .val (.int p5), .val (.int mb), .val (.ref b1), .val (.ref b12), .val (.ref sr)] [(.int mb), (.int (4 : Int32)), (.ref b1), (.int z4)])) rfl (by rw [hml]; rfl) (argsL := [(.ref b1), (.int (4 : Int32)), (.int mb)]) (rest := [(.int z4)]) (lenOf pd_0_1 rfl) rfl (by show 2 * 0 + _ ≤ _; exact Nat.le_of_eq rfl) (hb hby at_225) (fun _ _ => ⟨rfl, e34, (by decide : 3 + 0 ≤ _), (by decide : 15 + 0 ≤ _)⟩)
  dsimp only [Pt.U, Pt.locs, Pt.cells, Pt.slots] at X35 l35 y35 z35 st35 hQ35
  subst l35 y35 z35
  obtain ⟨rfl, Nq35, hh35⟩ := hQ35
  have N35 := Fr.app N34 Nq35
  have e35 : T35.heap = h28 := hh35
  refine own_go (B := T35.setTop (mkF m 228 #[.val (.int p0), .val (.int p1), .val (.int p2), .val (.int p3), .val (.int p4), .val (.int p5), .val (.int mb), .val (.ref b1), .val (.ref b12), .val (.ref sr)] [(.int (own_ex b1 (4 : Int32) mb cl29 x0 x1 x2 x3 x4 x4)), (.int z4)])) (fun t kt => st35 t kt) ?_
  refine own_go (B := T35.setTop (mkF m 236 #[.val (.int p0), .val (.int p1), .val (.int p2), .val (.int p3), .val (.int p4), .val (.int p5), .val (.int mb), .val (.ref b1), .val (.ref b12), .val (.ref sr)] [(.int (1 : Int32))])) (fun t kt => ?_) ?_
  · show Steps p.tables e below (T35.setTop (mkF m 228 #[.val (.int p0), .val (.int p1), .val (.int p2), .val (.int p3), .val (.int p4), .val (.int p5), .val (.int mb), .val (.ref b1), .val (.ref b12), .val (.ref sr)] [(.int (own_ex b1 (4 : Int32) mb cl29 x0 x1 x2 x3 x4 x4)), (.int z4)])) _
    refine XS.icmpNo X35.here hx rfl (hb hby at_228) rfl (teq f4).2 ?_
    show Steps p.tables e below (T35.setTop (mkF m 231 #[.val (.int p0), .val (.int p1), .val (.int p2), .val (.int p3), .val (.int p4), .val (.int p5), .val (.int mb), .val (.ref b1), .val (.ref b12), .val (.ref sr)] [])) _
    refine XS.iconst X35.here hx rfl (hb hby at_231) ?_
    show Steps p.tables e below (T35.setTop (mkF m 232 #[.val (.int p0), .val (.int p1), .val (.int p2), .val (.int p3), .val (.int p4), .val (.int p5), .val (.int mb), .val (.ref b1), .val (.ref b12), .val (.ref sr)] [(.int (1 : Int32))])) _
    refine XS.goto X35.here hx rfl (pc0 := 232) (pc' := 236) rfl (hb hby at_232) (by decide) (by decide) ?_
    exact kt
  obtain ⟨fs, hr, hrun, hended, hW, hsame⟩ := X35.leave (v := some (.int (1 : Int32))) (fun h => by rw [Bd.returns] at h; cases h)
  refine ⟨_, _, ?_, hrun, hended, _, _, rfl, ?_, ⟨_, rfl⟩, hW, hsame.mono (by decide) (by decide)⟩
  · show Steps p.tables e below (T35.setTop (mkF m 236 #[.val (.int p0), .val (.int p1), .val (.int p2), .val (.int p3), .val (.int p4), .val (.int p5), .val (.int mb), .val (.ref b1), .val (.ref b12), .val (.ref sr)] [(.int (1 : Int32))])) _
    exact retN X35 hx (t := .boolean) Bd.returns (by simp) (hb hby at_236) hr
  · show Q0 n0 _ _
    exact ⟨rfl, N35⟩
set_option maxRecDepth 65536 in
set_option maxHeartbeats 40000000 in
theorem comes_1 {Post : Tables → Env → Array Value → State → Outcome → State → Prop} (hpost : ∀ tb e args s v u, (limb_1_1.after args s (.returned v) u = true ∧ limb_1_2.after args s (.returned v) u = true ∧ True) → FrameEnd s (.returned v) u (Jvm.fieldLocs frame_1_writes args s ++ Jvm.arrayLocs frame_1_arrays args s ++ Jvm.staticLocs frame_1_statics s) 16 128 → Post tb e args s (.returned v) u) :
    ArmFor flags0 classFile x code maxLocals ret World_1 tables_1 room_1 Calls_1 rest_1 Pre_1 Post := by
  intro l hfl _ _ p e ha hc hk s m args below hf hA hF happ hP
  obtain ⟨hcalls, hrest, hpre⟩ := hP
  obtain ⟨-, -, -, hnamed, -, -, -, hat⟩ := (Spec.applies_iff hf).mp happ
  obtain ⟨hg, hn⟩ := and_e (Cond.before_iff.mp (show (Jvm.Cond.and given_1 narrow_1).before args s = true from hpre))
  obtain ⟨ga0, gb0⟩ := and_e hg
  obtain ⟨ga1, gb1⟩ := and_e gb0
  obtain ⟨ga2, gb2⟩ := and_e gb1
  obtain ⟨ga3, gb3⟩ := and_e gb2
  obtain ⟨ga4, gb4⟩ := and_e gb3
  obtain ⟨ga5, gb5⟩ := and_e gb4
  obtain ⟨w0, w1, w2, w3, w4, w5, rfl⟩ : ∃ w0 w1 w2 w3 w4 w5 : Value, args = #[w0, w1, w2, w3, w4, w5] := by
    have hs : args.size = 6 := by simpa [Cond.value, given_1] using ga0
    obtain ⟨L⟩ := args
    match L, hs with
    | [w0, w1, w2, w3, w4, w5], _ => exact ⟨w0, w1, w2, w3, w4, w5, rfl⟩
  have hw := fun d (hd : d ∈ tables_1) => atoms_spec (ws := Jvm.Cond.code x code maxLocals ret :: tables_1) hat d (List.mem_cons_of_mem _ hd)
  obtain ⟨i0, ei0⟩ := is_v ga1
  obtain rfl : w0 = (.int i0) := Option.some.inj ei0
  obtain ⟨i1, ei1⟩ := is_v ga2
  obtain rfl : w1 = (.int i1) := Option.some.inj ei1
  obtain ⟨i2, ei2⟩ := is_v ga3
  obtain rfl : w2 = (.int i2) := Option.some.inj ei2
  obtain ⟨i3, ei3⟩ := is_v ga4
  obtain rfl : w3 = (.int i3) := Option.some.inj ei3
  obtain ⟨i4, ei4⟩ := is_v ga5
  obtain rfl : w4 = (.int i4) := Option.some.inj ei4
  obtain ⟨i5, ei5⟩ := is_v gb5
  obtain rfl : w5 = (.int i5) := Option.some.inj ei5
  obtain ⟨n, o, h1, h2, h3, _, L, rfl, ⟨rfl, N⟩, hq⟩ := rm0 l s _ hw tables_1 i0 i1 i2 i3 i4 i5 s.heap s.heap.size (Nat.le_refl _)  p e ha hc hk s m _ below hf ((Spec.applies_iff_loose hf).mp happ).1 ⟨rfl, State.Warmed39.refl s, rfl⟩ trivial
  refine ⟨n, _, h1, h2, h3, hpost _ _ _ _ _ _ ⟨Cond.after_iff.mpr rfl, Cond.after_iff.mpr (eq_i res_at (Term.int_eval (1)) rfl), trivial⟩ ⟨hq.1, hq.2.1, (hq.2.2.sift fun y hy => Or.inr (N y hy)).mono (by decide) (by decide)⟩⟩
theorem main_1_1 : Claimed_1_1 := comes_1 fun _ _ _ _ _ _ h hF => ⟨h.1, hF⟩
theorem main_1_2 : Claimed_1_2 := comes_1 fun _ _ _ _ _ _ h hF => ⟨h.2.1, hF⟩
end Jvm.Pilot.@@N@@
namespace Jvm.Pilot.@@N@@
open Jvm Jvm.ClassFile Sem Op Lib Jvm.Free Jvm.Stand Jvm.Pilot.@@N@@.Jvm.D
/-! MADE BY PROGRAM (witnessworld.py) out of the Statement's table words and the real class files: 9 classes; the members and pool entries that the words name. The judged class is class 1, her method 1. -/
namespace start1
open Jvm.ClassFile
def u (s : String) : CpInfo := .utf8 (stringToUtf16 s)
/-- a pool by its gaps: so many unusable entries, then the entry; so many at the end -/
def gap : Nat → List CpInfo → List CpInfo
  | 0, r => r
  | n + 1, r => .unusable :: gap n r
def poolList (es : List (Nat × CpInfo)) (last : Nat) : List CpInfo := es.foldr (fun e r => gap e.1 (e.2 :: r)) (gap last [])
def pool (es : List (Nat × CpInfo)) (last : Nat) : Array CpInfo := ⟨poolList es last⟩
def fileOf (pool : Array CpInfo) (this : Nat) (attrs : Array Attribute := #[]) (ms : Array MethodInfo := #[]) (fl : Nat := 33) (sup : Nat := 0) (ifs : Array Nat := #[]) (fds : Array FieldInfo := #[]) : ClassFile where
  minorVersion := 0
  majorVersion := 65
  constantPool := pool
  accessFlags := fl
  thisClass := this
  superClass := sup
  interfaces := ifs
  fields := fds
  methods := ms
  attributes := attrs
def plain (name : String) (sup : Option ClassId) : Class where
  name := name
  kind := .ordinary
  loader := none
  accessFlags := 33
  super := sup
  interfaces := #[]
  cf := none
  fields := #[]
  methods := #[]
  instanceTypes := #[]
  staticTypes := #[]
  resolved := #[]
  callSites := []
  init := .initialized
  statics := none
  mirror := none

def pool0 : Array CpInfo := pool [(5, u "<init>"), (0, u "()V"), (1, .class_ 10), (1, u "java/lang/Object")] 113

def k0m0 : Method := { name := "<init>", desc := "()V", sig := { parameters := [], returnType := none }, accessFlags := 1, code := none }
/-- java/lang/Object -/
def k0 : Class := { plain "java/lang/Object" none with
  accessFlags := 33
  interfaces := #[]
  cf := some (fileOf pool0 8 #[] #[{ accessFlags := 1, nameIndex := 5, descriptorIndex := 6, attributes := #[] }] 33 0 #[] #[])
  fields := #[]
  methods := #[k0m0]
  instanceTypes := #[]
  staticTypes := #[]
  resolved := Array.replicate 124 none
  statics := none }

def pool1 : Array CpInfo := pool [(2, .class_ 4), (1, u "java/lang/Object"), (0, u "<init>"), (0, u "()V"), (0, .integer 2147483647), (0, .methodref 9 10), (0, .class_ 11), (0, .nameAndType 12 13), (0, u "com/example/columella/columella/ipc/Huffman"), (0, u "starts"), (0, u "([BI)[I"), (0, .methodref 15 16), (0, .class_ 17), (0, .nameAndType 18 19), (0, u "com/example/columella/columella/ipc/HuffmanStartsPinLaw"), (0, u "expected"), (0, u "([III)I"), (0, .methodref 15 21), (0, .nameAndType 22 23), (0, u "term"), (0, u "([IIII)I"), (2, u "law"), (0, u "(IIIIII)Z")] 7

def k1m0 : Method := { name := "<init>", desc := "()V", sig := { parameters := [], returnType := none }, accessFlags := 1, code := none }
def k1c1 : Code := { maxStack := 5, maxLocals := 10, code := code, exceptionTable := #[], attributes := #[] }
def k1m1 : Method := { name := "law", desc := "(IIIIII)Z", sig := { parameters := [.int, .int, .int, .int, .int, .int], returnType := some .boolean }, accessFlags := 9, code := some k1c1 }
def k1c2 : Code := { maxStack := 3, maxLocals := 6, code := method_3_code, exceptionTable := #[], attributes := #[] }
def k1m2 : Method := { name := "term", desc := "([IIII)I", sig := { parameters := [(.array .int), .int, .int, .int], returnType := some .int }, accessFlags := 10, code := some k1c2 }
def k1c3 : Code := { maxStack := 5, maxLocals := 3, code := method_4_code, exceptionTable := #[], attributes := #[] }
def k1m3 : Method := { name := "expected", desc := "([III)I", sig := { parameters := [(.array .int), .int, .int], returnType := some .int }, accessFlags := 10, code := some k1c3 }
/-- com/example/columella/columella/ipc/HuffmanStartsPinLaw -/
def k1 : Class := { plain "com/example/columella/columella/ipc/HuffmanStartsPinLaw" (some 0) with
  accessFlags := 49
  interfaces := #[]
  cf := some (fileOf pool1 15 #[] #[{ accessFlags := 1, nameIndex := 5, descriptorIndex := 6, attributes := #[] }, { accessFlags := 9, nameIndex := 26, descriptorIndex := 27, attributes := #[] }, { accessFlags := 10, nameIndex := 22, descriptorIndex := 23, attributes := #[] }, { accessFlags := 10, nameIndex := 18, descriptorIndex := 19, attributes := #[] }] 49 2 #[] #[])
  fields := #[]
  methods := #[k1m0, k1m1, k1m2, k1m3]
  instanceTypes := #[]
  staticTypes := #[]
  resolved := Array.replicate 35 none
  statics := none }

def pool2 : Array CpInfo := pool [(2, .class_ 4), (1, u "java/lang/Object"), (3, .class_ 10), (1, u "com/example/columella/columella/ipc/Huffman"), (0, u "lookupBits"), (0, u "I"), (2, u "entries"), (0, u "[I"), (2, u "pairs"), (16, u "starts"), (0, u "([BI)[I"), (51, u "MAX_BITS"), (2, u "MAX_READ_BITS")] 30

def k2c0 : Code := { maxStack := 4, maxLocals := 6, code := prog_78_method_4_code, exceptionTable := #[], attributes := #[] }
def k2m0 : Method := { name := "starts", desc := "([BI)[I", sig := { parameters := [(.array .byte), .int], returnType := some (.array .int) }, accessFlags := 8, code := some k2c0 }
/-- com/example/columella/columella/ipc/Huffman -/
def k2 : Class := { plain "com/example/columella/columella/ipc/Huffman" (some 0) with
  accessFlags := 48
  interfaces := #[]
  cf := some (fileOf pool2 8 #[] #[{ accessFlags := 8, nameIndex := 36, descriptorIndex := 37, attributes := #[] }] 48 2 #[] #[{ accessFlags := 24, nameIndex := 89, descriptorIndex := 12, attributes := #[] }, { accessFlags := 24, nameIndex := 92, descriptorIndex := 12, attributes := #[] }, { accessFlags := 16, nameIndex := 11, descriptorIndex := 12, attributes := #[] }, { accessFlags := 16, nameIndex := 15, descriptorIndex := 16, attributes := #[] }, { accessFlags := 16, nameIndex := 19, descriptorIndex := 16, attributes := #[] }])
  fields := #[{ name := "MAX_BITS", type := .int, accessFlags := 24, slot := 0, constantValue := 0 }, { name := "MAX_READ_BITS", type := .int, accessFlags := 24, slot := 1, constantValue := 0 }, { name := "lookupBits", type := .int, accessFlags := 16, slot := 0, constantValue := 0 }, { name := "entries", type := (.array .int), accessFlags := 16, slot := 1, constantValue := 0 }, { name := "pairs", type := (.array .int), accessFlags := 16, slot := 2, constantValue := 0 }]
  methods := #[k2m0]
  instanceTypes := #[.int, (.array .int), (.array .int)]
  staticTypes := #[.int, .int]
  resolved := Array.replicate 123 none
  statics := none }

def pool3 : Array CpInfo := pool [(1, u "java/lang/Cloneable"), (0, .class_ 1), (0, u "java/lang/Object"), (0, .class_ 3)] 3

/-- java/lang/Cloneable -/
def k3 : Class := { plain "java/lang/Cloneable" (some 0) with
  accessFlags := 1537
  interfaces := #[]
  cf := some (fileOf pool3 2 #[] #[] 1537 4 #[] #[])
  fields := #[]
  methods := #[]
  instanceTypes := #[]
  staticTypes := #[]
  resolved := Array.replicate 8 none
  statics := none }

def pool4 : Array CpInfo := pool [(1, u "java/io/Serializable"), (0, .class_ 1), (0, u "java/lang/Object"), (0, .class_ 3)] 3

/-- java/io/Serializable -/
def k4 : Class := { plain "java/io/Serializable" (some 0) with
  accessFlags := 1537
  interfaces := #[]
  cf := some (fileOf pool4 2 #[] #[] 1537 4 #[] #[])
  fields := #[]
  methods := #[]
  instanceTypes := #[]
  staticTypes := #[]
  resolved := Array.replicate 8 none
  statics := none }

/-- the primitive byte -/
def k5 : Class := { plain "byte" none with kind := .primitive 'B', accessFlags := 0x411 }
/-- [B -/
def k6 : Class := { plain "[B" (some 0) with kind := .array 5 .byte, interfaces := #[3, 4], accessFlags := 1041 }

/-- the primitive int -/
def k7 : Class := { plain "int" none with kind := .primitive 'I', accessFlags := 0x411 }
/-- [I -/
def k8 : Class := { plain "[I" (some 0) with kind := .array 7 .int, interfaces := #[3, 4], accessFlags := 1041 }

def heap : Heap := #[]
def classes : Array Class := #[k0, k1, k2, k3, k4, k5, k6, k7, k8]
def interned : List (Array UInt16 × Addr) := []
def slotsUsed : Nat := 0
def theMethod : MethodId := ⟨1, 1⟩
def args0 : Array Value := #[.int 5, .int 1, .int 2, .int 3, .int 4, .int 5]
def aboutOver (below : List Frame) : State where
  vm := { classes := classes, interned := interned.toArray }
  heap := heap
  slotsUsed := slotsUsed
  threads := #[{ frames := .invoking theMethod args0 :: below }]
def below0 : List Frame := [.native { method := ⟨0, 0⟩, args := #[] }]
def about1 : State := aboutOver below0
def p0 : Program := .bare "" "" ""
def e0 : Env := launch0.env 0 0 0
theorem w_frames : about1.frames = Frame.invoking theMethod args0 :: below0 := rfl
set_option maxRecDepth 65536 in
theorem w_args : argsFit about1.vm theMethod args0 = true := by decide +kernel
set_option maxRecDepth 65536 in
theorem w_heap : heapFits about1 = true := by decide +kernel
set_option maxRecDepth 65536 in
theorem w_runnable : about1.curStatus? = some .runnable := by decide +kernel
set_option maxRecDepth 65536 in
theorem w_alone : about1.alone = true := by decide +kernel
set_option maxRecDepth 65536 in
theorem w_named : about1.methodNamed? x = some theMethod := by decide +kernel
set_option maxRecDepth 65536 in
theorem w_hears : about1.hears theMethod below0 = true := by decide +kernel
set_option maxRecDepth 65536 in
theorem w_ripe : about1.ripe theMethod args0 below0 = true := by decide +kernel
theorem w_running : about1.status = .running := rfl
set_option maxRecDepth 65536 in
theorem w_room : about1.hasRoom e0.platform room_1 = true :=
  launch0.hasRoom_least _ room_1 (by decide +kernel) (by decide +kernel) (by decide +kernel) (by decide +kernel) (by decide +kernel) (by decide +kernel)
theorem allAtoms_all (ts : List Jvm.Cond) (a : Array Jvm.Value) (st : Jvm.State) : (allAtoms ts).before a st = ts.all (fun c => c.before a st) := by
  induction ts with
  | nil => rfl
  | cons c t ih =>
    show (Jvm.Cond.and c (allAtoms t)).before a st = _
    rw [Jvm.Cond.before_and, ih, List.all_cons]
def words1 : List Jvm.Cond := Jvm.Cond.code x code maxLocals ret :: tables_1
/-- a 'code' word, met by the world's own term for the bytes: nothing is compared byte by byte -/
theorem code_word {y : MethodName} {bytes : ByteArray} {mx : Nat} {rt : Option FieldType} {a : Array Value} {s : State} {m : MethodId} {meth : Method} {c : Code} (h1 : s.methodNamed? y = some m) (h2 : s.vm.method? m = some meth) (h3 : meth.code = some c) (h4 : c.code = bytes)
    (h5 : (c.maxLocals == mx && c.exceptionTable.isEmpty && decide (c.maxStack ≤ mostOperands) && decide (meth.sig.returnType = rt) && !meth.locks && decide (parseMethodDescriptor y.desc = some meth.sig)) = true) : (Jvm.Cond.code y bytes mx rt).before a s = true := by
  simp only [Bool.and_eq_true, beq_iff_eq, Bool.not_eq_true', decide_eq_true_eq] at h5
  obtain ⟨⟨⟨⟨⟨g1, g2⟩, g3⟩, g4⟩, g5⟩, g6⟩ := h5
  simp [Cond.before, Cond.holds, Cond.value, h1, h2, h3, h4, g1, g2, g3, g4, g5, g6]
def isCode : Jvm.Cond → Bool
  | .code _ _ _ _ => true
  | _ => false
theorem all_split {L : List Jvm.Cond} {P : Jvm.Cond → Bool} (h1 : L.all (fun c => isCode c || P c) = true) (h2 : ∀ c ∈ L.filter isCode, P c = true) : L.all P = true := by
  refine List.all_eq_true.mpr fun c hc => ?_
  have h := List.all_eq_true.mp h1 c hc
  rcases Bool.eq_false_or_eq_true (isCode c) with hi | hi
  · exact h2 c (List.mem_filter.mpr ⟨hc, hi⟩)
  · simpa [hi] using h
set_option maxRecDepth 65536 in
theorem w_c0 : (Jvm.Cond.code x code maxLocals ret).before args0 about1 = true := code_word (m := ⟨1, 1⟩) (meth := k1m1) (c := k1c1) (by decide +kernel) rfl rfl rfl (by decide +kernel)
set_option maxRecDepth 65536 in
theorem w_c1 : (Jvm.Cond.code ({ cls := "com/example/columella/columella/ipc/Huffman", name := "starts", desc := "([BI)[I" } : Jvm.MethodName) prog_78_method_4_code (6 : Nat) (Option.some (Jvm.ClassFile.FieldType.array Jvm.ClassFile.FieldType.int))).before args0 about1 = true := code_word (m := ⟨2, 0⟩) (meth := k2m0) (c := k2c0) (by decide +kernel) rfl rfl rfl (by decide +kernel)
set_option maxRecDepth 65536 in
theorem w_c2 : (Jvm.Cond.code ({ cls := "com/example/columella/columella/ipc/HuffmanStartsPinLaw", name := "expected", desc := "([III)I" } : Jvm.MethodName) method_4_code (3 : Nat) (Option.some Jvm.ClassFile.FieldType.int)).before args0 about1 = true := code_word (m := ⟨1, 3⟩) (meth := k1m3) (c := k1c3) (by decide +kernel) rfl rfl rfl (by decide +kernel)
set_option maxRecDepth 65536 in
theorem w_c3 : (Jvm.Cond.code ({ cls := "com/example/columella/columella/ipc/HuffmanStartsPinLaw", name := "term", desc := "([IIII)I" } : Jvm.MethodName) method_3_code (6 : Nat) (Option.some Jvm.ClassFile.FieldType.int)).before args0 about1 = true := code_word (m := ⟨1, 2⟩) (meth := k1m2) (c := k1c2) (by decide +kernel) rfl rfl rfl (by decide +kernel)
def codes1 : List Jvm.Cond := [Jvm.Cond.code x code maxLocals ret, Jvm.Cond.code ({ cls := "com/example/columella/columella/ipc/Huffman", name := "starts", desc := "([BI)[I" } : Jvm.MethodName) prog_78_method_4_code (6 : Nat) (Option.some (Jvm.ClassFile.FieldType.array Jvm.ClassFile.FieldType.int)), Jvm.Cond.code ({ cls := "com/example/columella/columella/ipc/HuffmanStartsPinLaw", name := "expected", desc := "([III)I" } : Jvm.MethodName) method_4_code (3 : Nat) (Option.some Jvm.ClassFile.FieldType.int), Jvm.Cond.code ({ cls := "com/example/columella/columella/ipc/HuffmanStartsPinLaw", name := "term", desc := "([IIII)I" } : Jvm.MethodName) method_3_code (6 : Nat) (Option.some Jvm.ClassFile.FieldType.int)]
set_option maxRecDepth 65536 in
theorem codes_eq : words1.filter isCode = codes1 := rfl
theorem w_codes : ∀ c ∈ words1.filter isCode, c.before args0 about1 = true := by
  rw [codes_eq]
  intro c hc
  simp only [codes1, List.mem_cons, List.not_mem_nil, or_false] at hc
  rcases hc with rfl | rfl | rfl | rfl
  · exact w_c0
  · exact w_c1
  · exact w_c2
  · exact w_c3
set_option maxRecDepth 65536 in
theorem w_t1 : words1.all (fun c => isCode c || c.before args0 about1) = true := by decide +kernel
theorem w_tables : (allAtoms (Jvm.Cond.code x code maxLocals ret :: tables_1)).before args0 about1 = true := by
  rw [allAtoms_all]
  show words1.all (fun c => c.before args0 about1) = true
  refine all_split ?_ w_codes
  rw [w_t1]
set_option maxRecDepth 65536 in
theorem w_case : (Jvm.Cond.and given_1 narrow_1).before args0 about1 = true := by decide +kernel
theorem w_applies : (headSpec (Jvm.Cond.code x code maxLocals ret :: tables_1) room_1).applies x e0.platform about1 = true :=
  (Spec.applies_iff w_frames).mpr ⟨w_running, w_runnable, w_alone, w_named, w_hears, w_ripe, w_room, w_tables⟩
theorem atStart : AtStart classFile x code maxLocals ret World_1 tables_1 room_1 Calls_1 rest_1 Pre_1 launch0 p0 e0 about1 theMethod args0 below0 :=
  ⟨lists_1, trivial, launch0.admits_env _ _ _, launch0.least_env, fairChoices_fair.cas, fairChoices_fair.clock, w_frames, w_args, w_heap, w_applies, trivial, trivial, w_case⟩
end start1
theorem witness_1 : WitnessClaimed_1 := ⟨start1.p0, start1.e0, start1.about1, start1.theMethod, start1.args0, start1.below0, start1.atStart⟩
end Jvm.Pilot.@@N@@
