import JvmDerived
import JvmDerived.Pilot.@@N@@Statement
import JvmDerived.Pilot.@@N@@Code
set_option linter.unusedVariables false
set_option linter.unusedSimpArgs false
namespace Jvm.RoadKit
open Sem ClassFile Op Lib Jvm.Stand Jvm.Free Jvm.LawKit
section New
variable {p : Program} {l : Launch} {e : Env} {R : Room} {s : State} {m : MethodId} {args : Array Value} {below : List Frame} {meth : Method} {c : Code} {T : State} {locs : List Loc} {cells slots : Nat}
theorem retI (X : Stand p l e R s m args below meth c T locs cells slots) (hx : p.tables.exec = Jvm.exec) {pc : Nat} {Ls : Array Slot} {z : Int32} {rest : List Value} (hret : meth.sig.returnType = some .int) (hd : decode c.code pc = .ok (.ireturn, 1)) {fs : List Frame}
    (hl : ∀ (f : JFrame) (acts : List Action), f.method = m → f.locked = none → f.entered = [] → (doReturn e (T.setTop f) acts (some (.int z))).1 = T.setFrames fs) : Steps p.tables e below (T.setTop (mkF m pc Ls (.int z :: rest))) (T.setFrames fs) := by
  have hm' : T.vm.method? m = some meth := X.method'
  have hn : narrow .int (.int z) = .int z := rfl
  show Steps p.tables e below (T.setTop { method := m, pc := pc, locals := Ls, stack := _ :: rest, locked := none }) _
  jvm_step X.here [X.here.top, hx, hd, hm', hret, hn]
  first | (intro acts; rw [hl _ acts rfl rfl rfl]) | rw [hl _ _ rfl rfl rfl]
  exact Steps.refl _
end New
end Jvm.RoadKit
namespace Jvm.Pilot.@@N@@
open Jvm Jvm.ClassFile Sem Op Lib Jvm.Free Jvm.Stand Jvm.LawKit Jvm.RoadKit Bundle Jvm.Pilot.@@N@@.Jvm.D

theorem own_go {tb : Tables} {e : Env} {below : List Frame} {A B : State} {Φ : State → Outcome → Prop} (st : ∀ t, Steps tb e below B t → Steps tb e below A t) (h : ∃ s₂ o, Steps tb e below B s₂ ∧ Φ s₂ o) : ∃ s₂ o, Steps tb e below A s₂ ∧ Φ s₂ o := by
  obtain ⟨t, o, h1, h2⟩ := h
  exact ⟨t, o, st t h1, h2⟩
theorem d2_0 : decode prog_79_method_5_code 0 = .ok (.iload_n 0, 1) := by decide +kernel
theorem d2_1 : decode prog_79_method_5_code 1 = .ok (.tableswitch 90 67 83 #[88, 83, 90, 86, 90, 90, 86, 83, 90, 90, 90, 90, 90, 90, 90, 90, 88], 83) := by decide +kernel
theorem d2_84 : decode prog_79_method_5_code 84 = .ok (.bipush 8, 2) := by decide +kernel
theorem d2_86 : decode prog_79_method_5_code 86 = .ok (.ireturn, 1) := by decide +kernel
theorem d2_87 : decode prog_79_method_5_code 87 = .ok (.iconst 4, 1) := by decide +kernel
theorem d2_88 : decode prog_79_method_5_code 88 = .ok (.ireturn, 1) := by decide +kernel
theorem d2_89 : decode prog_79_method_5_code 89 = .ok (.iconst 2, 1) := by decide +kernel
theorem d2_90 : decode prog_79_method_5_code 90 = .ok (.ireturn, 1) := by decide +kernel
theorem d2_91 : decode prog_79_method_5_code 91 = .ok (.iconst 1, 1) := by decide +kernel
theorem d2_92 : decode prog_79_method_5_code 92 = .ok (.ireturn, 1) := by decide +kernel
def own_by (p0 : Int32) : Int32 := (if p0 = (67 : Int32) then (2 : Int32) else (if p0 = (68 : Int32) then (8 : Int32) else (if p0 = (70 : Int32) then (4 : Int32) else (if p0 = (73 : Int32) then (4 : Int32) else (if p0 = (74 : Int32) then (8 : Int32) else (if p0 = (83 : Int32) then (2 : Int32) else (1 : Int32)))))))
theorem own_bye (p0 : Int32) : own_by p0 = (if p0 = (67 : Int32) then (2 : Int32) else (if p0 = (68 : Int32) then (8 : Int32) else (if p0 = (70 : Int32) then (4 : Int32) else (if p0 = (73 : Int32) then (4 : Int32) else (if p0 = (74 : Int32) then (8 : Int32) else (if p0 = (83 : Int32) then (2 : Int32) else (1 : Int32))))))) := rfl
set_option maxRecDepth 65536 in
set_option maxHeartbeats 40000000 in
theorem own2_b0 {p : Program} {l : Launch} {e : Env} {R : Room} {s : State} {m : MethodId} {args : Array Value} {below : List Frame} {meth : Method} {c : Code} {T0 : State} {locs : List Loc} {cells slots : Nat} {Z : State} {t0 : Array Value} {h0 : Heap} (p0 : Int32) (X0 : Stand p l e R s m args below meth c T0 locs cells slots) (hx : p.tables.exec = Jvm.exec) (hZ : Z.Warmed39 s.vm) (hw : ∀ d ∈ tables_1, d.before t0 Z = true) (hby : c.code = prog_79_method_5_code) (hown : s.vm.findClass "com/example/fleetwire/fleetwire/wire/ClassLayout" = some m.cls) (e0 : T0.heap = h0) (hret : meth.sig.returnType = some .int) {fs : List Frame} (hr : ∀ (f : JFrame) (acts : List Action), f.method = m → f.locked = none → f.entered = [] → (doReturn e (T0.setTop f) acts (some (.int (own_by p0)))).1 = T0.setFrames fs) : Steps p.tables e below (T0.setTop (mkF m 0 #[.val (.int p0)] [])) (T0.setFrames fs) := by
  refine XS.iloadN X0.here hx rfl (hb hby d2_0) rfl ?_
  show Steps p.tables e below (T0.setTop (mkF m 1 #[.val (.int p0)] [(.int p0)])) _
  by_cases hin : p0.toInt < 67 ∨ p0.toInt > 83
  · have hv : own_by p0 = (1 : Int32) := by
      rw [own_bye]
      have q : ∀ k : Int32, 67 ≤ k.toInt → k.toInt ≤ 83 → ¬ p0 = k := fun k h1 h2 e => by rw [e] at hin; omega
      rw [if_neg (q 67 (by decide) (by decide)), if_neg (q 68 (by decide) (by decide)), if_neg (q 70 (by decide) (by decide)), if_neg (q 73 (by decide) (by decide)), if_neg (q 74 (by decide) (by decide)), if_neg (q 83 (by decide) (by decide))]
    rw [hv] at hr
    refine XS.tswOut X0.here hx rfl (pc0 := 1) (pc' := 91) rfl (hb hby d2_1) rfl hin (by decide) (by decide) ?_
    show Steps p.tables e below (T0.setTop (mkF m 91 #[.val (.int p0)] [])) _
    refine XS.iconst X0.here hx rfl (hb hby d2_91) ?_
    show Steps p.tables e below (T0.setTop (mkF m 92 #[.val (.int p0)] [(.int (1 : Int32))])) _
    exact retI X0 hx hret (hb hby d2_92) hr
  · have hz : p0 = (67 : Int32) ∨ p0 = (68 : Int32) ∨ p0 = (69 : Int32) ∨ p0 = (70 : Int32) ∨ p0 = (71 : Int32) ∨ p0 = (72 : Int32) ∨ p0 = (73 : Int32) ∨ p0 = (74 : Int32) ∨ p0 = (75 : Int32) ∨ p0 = (76 : Int32) ∨ p0 = (77 : Int32) ∨ p0 = (78 : Int32) ∨ p0 = (79 : Int32) ∨ p0 = (80 : Int32) ∨ p0 = (81 : Int32) ∨ p0 = (82 : Int32) ∨ p0 = (83 : Int32) := by
      have k67 : p0.toInt = 67 → p0 = (67 : Int32) := fun e => Int32.toInt_inj.mp (e.trans (by decide))
      have k68 : p0.toInt = 68 → p0 = (68 : Int32) := fun e => Int32.toInt_inj.mp (e.trans (by decide))
      have k69 : p0.toInt = 69 → p0 = (69 : Int32) := fun e => Int32.toInt_inj.mp (e.trans (by decide))
      have k70 : p0.toInt = 70 → p0 = (70 : Int32) := fun e => Int32.toInt_inj.mp (e.trans (by decide))
      have k71 : p0.toInt = 71 → p0 = (71 : Int32) := fun e => Int32.toInt_inj.mp (e.trans (by decide))
      have k72 : p0.toInt = 72 → p0 = (72 : Int32) := fun e => Int32.toInt_inj.mp (e.trans (by decide))
      have k73 : p0.toInt = 73 → p0 = (73 : Int32) := fun e => Int32.toInt_inj.mp (e.trans (by decide))
      have k74 : p0.toInt = 74 → p0 = (74 : Int32) := fun e => Int32.toInt_inj.mp (e.trans (by decide))
      have k75 : p0.toInt = 75 → p0 = (75 : Int32) := fun e => Int32.toInt_inj.mp (e.trans (by decide))
      have k76 : p0.toInt = 76 → p0 = (76 : Int32) := fun e => Int32.toInt_inj.mp (e.trans (by decide))
      have k77 : p0.toInt = 77 → p0 = (77 : Int32) := fun e => Int32.toInt_inj.mp (e.trans (by decide))
      have k78 : p0.toInt = 78 → p0 = (78 : Int32) := fun e => Int32.toInt_inj.mp (e.trans (by decide))
      have k79 : p0.toInt = 79 → p0 = (79 : Int32) := fun e => Int32.toInt_inj.mp (e.trans (by decide))
      have k80 : p0.toInt = 80 → p0 = (80 : Int32) := fun e => Int32.toInt_inj.mp (e.trans (by decide))
      have k81 : p0.toInt = 81 → p0 = (81 : Int32) := fun e => Int32.toInt_inj.mp (e.trans (by decide))
      have k82 : p0.toInt = 82 → p0 = (82 : Int32) := fun e => Int32.toInt_inj.mp (e.trans (by decide))
      have k83 : p0.toInt = 83 → p0 = (83 : Int32) := fun e => Int32.toInt_inj.mp (e.trans (by decide))
      have hd : p0.toInt = 67 ∨ p0.toInt = 68 ∨ p0.toInt = 69 ∨ p0.toInt = 70 ∨ p0.toInt = 71 ∨ p0.toInt = 72 ∨ p0.toInt = 73 ∨ p0.toInt = 74 ∨ p0.toInt = 75 ∨ p0.toInt = 76 ∨ p0.toInt = 77 ∨ p0.toInt = 78 ∨ p0.toInt = 79 ∨ p0.toInt = 80 ∨ p0.toInt = 81 ∨ p0.toInt = 82 ∨ p0.toInt = 83 := by omega
      rcases hd with h | h | h | h | h | h | h | h | h | h | h | h | h | h | h | h | h
      · exact Or.inl (k67 h)
      · exact Or.inr (Or.inl (k68 h))
      · exact Or.inr (Or.inr (Or.inl (k69 h)))
      · exact Or.inr (Or.inr (Or.inr (Or.inl (k70 h))))
      · exact Or.inr (Or.inr (Or.inr (Or.inr (Or.inl (k71 h)))))
      · exact Or.inr (Or.inr (Or.inr (Or.inr (Or.inr (Or.inl (k72 h))))))
      · exact Or.inr (Or.inr (Or.inr (Or.inr (Or.inr (Or.inr (Or.inl (k73 h)))))))
      · exact Or.inr (Or.inr (Or.inr (Or.inr (Or.inr (Or.inr (Or.inr (Or.inl (k74 h))))))))
      · exact Or.inr (Or.inr (Or.inr (Or.inr (Or.inr (Or.inr (Or.inr (Or.inr (Or.inl (k75 h)))))))))
      · exact Or.inr (Or.inr (Or.inr (Or.inr (Or.inr (Or.inr (Or.inr (Or.inr (Or.inr (Or.inl (k76 h))))))))))
      · exact Or.inr (Or.inr (Or.inr (Or.inr (Or.inr (Or.inr (Or.inr (Or.inr (Or.inr (Or.inr (Or.inl (k77 h)))))))))))
      · exact Or.inr (Or.inr (Or.inr (Or.inr (Or.inr (Or.inr (Or.inr (Or.inr (Or.inr (Or.inr (Or.inr (Or.inl (k78 h))))))))))))
      · exact Or.inr (Or.inr (Or.inr (Or.inr (Or.inr (Or.inr (Or.inr (Or.inr (Or.inr (Or.inr (Or.inr (Or.inr (Or.inl (k79 h)))))))))))))
      · exact Or.inr (Or.inr (Or.inr (Or.inr (Or.inr (Or.inr (Or.inr (Or.inr (Or.inr (Or.inr (Or.inr (Or.inr (Or.inr (Or.inl (k80 h))))))))))))))
      · exact Or.inr (Or.inr (Or.inr (Or.inr (Or.inr (Or.inr (Or.inr (Or.inr (Or.inr (Or.inr (Or.inr (Or.inr (Or.inr (Or.inr (Or.inl (k81 h)))))))))))))))
      · exact Or.inr (Or.inr (Or.inr (Or.inr (Or.inr (Or.inr (Or.inr (Or.inr (Or.inr (Or.inr (Or.inr (Or.inr (Or.inr (Or.inr (Or.inr (Or.inl (k82 h))))))))))))))))
      · exact Or.inr (Or.inr (Or.inr (Or.inr (Or.inr (Or.inr (Or.inr (Or.inr (Or.inr (Or.inr (Or.inr (Or.inr (Or.inr (Or.inr (Or.inr (Or.inr (k83 h))))))))))))))))
    rcases hz with rfl | rfl | rfl | rfl | rfl | rfl | rfl | rfl | rfl | rfl | rfl | rfl | rfl | rfl | rfl | rfl | rfl
    · rw [show own_by (67 : Int32) = (2 : Int32) from by decide] at hr
      refine XS.tswIn X0.here hx rfl (pc0 := 1) (pc' := 89) (o := 88) rfl (hb hby d2_1) rfl hin (by decide) (by decide) (by decide) ?_
      show Steps p.tables e below (T0.setTop (mkF m 89 #[.val (.int (67 : Int32))] [])) _
      refine XS.iconst X0.here hx rfl (hb hby d2_89) ?_
      show Steps p.tables e below (T0.setTop (mkF m 90 #[.val (.int (67 : Int32))] [(.int (2 : Int32))])) _
      exact retI X0 hx hret (hb hby d2_90) hr
    · rw [show own_by (68 : Int32) = (8 : Int32) from by decide] at hr
      refine XS.tswIn X0.here hx rfl (pc0 := 1) (pc' := 84) (o := 83) rfl (hb hby d2_1) rfl hin (by decide) (by decide) (by decide) ?_
      show Steps p.tables e below (T0.setTop (mkF m 84 #[.val (.int (68 : Int32))] [])) _
      refine XS.bipush X0.here hx rfl (hb hby d2_84) ?_
      show Steps p.tables e below (T0.setTop (mkF m 86 #[.val (.int (68 : Int32))] [(.int (8 : Int32))])) _
      exact retI X0 hx hret (hb hby d2_86) hr
    · rw [show own_by (69 : Int32) = (1 : Int32) from by decide] at hr
      refine XS.tswIn X0.here hx rfl (pc0 := 1) (pc' := 91) (o := 90) rfl (hb hby d2_1) rfl hin (by decide) (by decide) (by decide) ?_
      show Steps p.tables e below (T0.setTop (mkF m 91 #[.val (.int (69 : Int32))] [])) _
      refine XS.iconst X0.here hx rfl (hb hby d2_91) ?_
      show Steps p.tables e below (T0.setTop (mkF m 92 #[.val (.int (69 : Int32))] [(.int (1 : Int32))])) _
      exact retI X0 hx hret (hb hby d2_92) hr
    · rw [show own_by (70 : Int32) = (4 : Int32) from by decide] at hr
      refine XS.tswIn X0.here hx rfl (pc0 := 1) (pc' := 87) (o := 86) rfl (hb hby d2_1) rfl hin (by decide) (by decide) (by decide) ?_
      show Steps p.tables e below (T0.setTop (mkF m 87 #[.val (.int (70 : Int32))] [])) _
      refine XS.iconst X0.here hx rfl (hb hby d2_87) ?_
      show Steps p.tables e below (T0.setTop (mkF m 88 #[.val (.int (70 : Int32))] [(.int (4 : Int32))])) _
      exact retI X0 hx hret (hb hby d2_88) hr
    · rw [show own_by (71 : Int32) = (1 : Int32) from by decide] at hr
      refine XS.tswIn X0.here hx rfl (pc0 := 1) (pc' := 91) (o := 90) rfl (hb hby d2_1) rfl hin (by decide) (by decide) (by decide) ?_
      show Steps p.tables e below (T0.setTop (mkF m 91 #[.val (.int (71 : Int32))] [])) _
      refine XS.iconst X0.here hx rfl (hb hby d2_91) ?_
      show Steps p.tables e below (T0.setTop (mkF m 92 #[.val (.int (71 : Int32))] [(.int (1 : Int32))])) _
      exact retI X0 hx hret (hb hby d2_92) hr
    · rw [show own_by (72 : Int32) = (1 : Int32) from by decide] at hr
      refine XS.tswIn X0.here hx rfl (pc0 := 1) (pc' := 91) (o := 90) rfl (hb hby d2_1) rfl hin (by decide) (by decide) (by decide) ?_
      show Steps p.tables e below (T0.setTop (mkF m 91 #[.val (.int (72 : Int32))] [])) _
      refine XS.iconst X0.here hx rfl (hb hby d2_91) ?_
      show Steps p.tables e below (T0.setTop (mkF m 92 #[.val (.int (72 : Int32))] [(.int (1 : Int32))])) _
      exact retI X0 hx hret (hb hby d2_92) hr
    · rw [show own_by (73 : Int32) = (4 : Int32) from by decide] at hr
      refine XS.tswIn X0.here hx rfl (pc0 := 1) (pc' := 87) (o := 86) rfl (hb hby d2_1) rfl hin (by decide) (by decide) (by decide) ?_
      show Steps p.tables e below (T0.setTop (mkF m 87 #[.val (.int (73 : Int32))] [])) _
      refine XS.iconst X0.here hx rfl (hb hby d2_87) ?_
      show Steps p.tables e below (T0.setTop (mkF m 88 #[.val (.int (73 : Int32))] [(.int (4 : Int32))])) _
      exact retI X0 hx hret (hb hby d2_88) hr
    · rw [show own_by (74 : Int32) = (8 : Int32) from by decide] at hr
      refine XS.tswIn X0.here hx rfl (pc0 := 1) (pc' := 84) (o := 83) rfl (hb hby d2_1) rfl hin (by decide) (by decide) (by decide) ?_
      show Steps p.tables e below (T0.setTop (mkF m 84 #[.val (.int (74 : Int32))] [])) _
      refine XS.bipush X0.here hx rfl (hb hby d2_84) ?_
      show Steps p.tables e below (T0.setTop (mkF m 86 #[.val (.int (74 : Int32))] [(.int (8 : Int32))])) _
      exact retI X0 hx hret (hb hby d2_86) hr
    · rw [show own_by (75 : Int32) = (1 : Int32) from by decide] at hr
      refine XS.tswIn X0.here hx rfl (pc0 := 1) (pc' := 91) (o := 90) rfl (hb hby d2_1) rfl hin (by decide) (by decide) (by decide) ?_
      show Steps p.tables e below (T0.setTop (mkF m 91 #[.val (.int (75 : Int32))] [])) _
      refine XS.iconst X0.here hx rfl (hb hby d2_91) ?_
      show Steps p.tables e below (T0.setTop (mkF m 92 #[.val (.int (75 : Int32))] [(.int (1 : Int32))])) _
      exact retI X0 hx hret (hb hby d2_92) hr
    · rw [show own_by (76 : Int32) = (1 : Int32) from by decide] at hr
      refine XS.tswIn X0.here hx rfl (pc0 := 1) (pc' := 91) (o := 90) rfl (hb hby d2_1) rfl hin (by decide) (by decide) (by decide) ?_
      show Steps p.tables e below (T0.setTop (mkF m 91 #[.val (.int (76 : Int32))] [])) _
      refine XS.iconst X0.here hx rfl (hb hby d2_91) ?_
      show Steps p.tables e below (T0.setTop (mkF m 92 #[.val (.int (76 : Int32))] [(.int (1 : Int32))])) _
      exact retI X0 hx hret (hb hby d2_92) hr
    · rw [show own_by (77 : Int32) = (1 : Int32) from by decide] at hr
      refine XS.tswIn X0.here hx rfl (pc0 := 1) (pc' := 91) (o := 90) rfl (hb hby d2_1) rfl hin (by decide) (by decide) (by decide) ?_
      show Steps p.tables e below (T0.setTop (mkF m 91 #[.val (.int (77 : Int32))] [])) _
      refine XS.iconst X0.here hx rfl (hb hby d2_91) ?_
      show Steps p.tables e below (T0.setTop (mkF m 92 #[.val (.int (77 : Int32))] [(.int (1 : Int32))])) _
      exact retI X0 hx hret (hb hby d2_92) hr
    · rw [show own_by (78 : Int32) = (1 : Int32) from by decide] at hr
      refine XS.tswIn X0.here hx rfl (pc0 := 1) (pc' := 91) (o := 90) rfl (hb hby d2_1) rfl hin (by decide) (by decide) (by decide) ?_
      show Steps p.tables e below (T0.setTop (mkF m 91 #[.val (.int (78 : Int32))] [])) _
      refine XS.iconst X0.here hx rfl (hb hby d2_91) ?_
      show Steps p.tables e below (T0.setTop (mkF m 92 #[.val (.int (78 : Int32))] [(.int (1 : Int32))])) _
      exact retI X0 hx hret (hb hby d2_92) hr
    · rw [show own_by (79 : Int32) = (1 : Int32) from by decide] at hr
      refine XS.tswIn X0.here hx rfl (pc0 := 1) (pc' := 91) (o := 90) rfl (hb hby d2_1) rfl hin (by decide) (by decide) (by decide) ?_
      show Steps p.tables e below (T0.setTop (mkF m 91 #[.val (.int (79 : Int32))] [])) _
      refine XS.iconst X0.here hx rfl (hb hby d2_91) ?_
      show Steps p.tables e below (T0.setTop (mkF m 92 #[.val (.int (79 : Int32))] [(.int (1 : Int32))])) _
      exact retI X0 hx hret (hb hby d2_92) hr
    · rw [show own_by (80 : Int32) = (1 : Int32) from by decide] at hr
      refine XS.tswIn X0.here hx rfl (pc0 := 1) (pc' := 91) (o := 90) rfl (hb hby d2_1) rfl hin (by decide) (by decide) (by decide) ?_
      show Steps p.tables e below (T0.setTop (mkF m 91 #[.val (.int (80 : Int32))] [])) _
      refine XS.iconst X0.here hx rfl (hb hby d2_91) ?_
      show Steps p.tables e below (T0.setTop (mkF m 92 #[.val (.int (80 : Int32))] [(.int (1 : Int32))])) _
      exact retI X0 hx hret (hb hby d2_92) hr
    · rw [show own_by (81 : Int32) = (1 : Int32) from by decide] at hr
      refine XS.tswIn X0.here hx rfl (pc0 := 1) (pc' := 91) (o := 90) rfl (hb hby d2_1) rfl hin (by decide) (by decide) (by decide) ?_
      show Steps p.tables e below (T0.setTop (mkF m 91 #[.val (.int (81 : Int32))] [])) _
      refine XS.iconst X0.here hx rfl (hb hby d2_91) ?_
      show Steps p.tables e below (T0.setTop (mkF m 92 #[.val (.int (81 : Int32))] [(.int (1 : Int32))])) _
      exact retI X0 hx hret (hb hby d2_92) hr
    · rw [show own_by (82 : Int32) = (1 : Int32) from by decide] at hr
      refine XS.tswIn X0.here hx rfl (pc0 := 1) (pc' := 91) (o := 90) rfl (hb hby d2_1) rfl hin (by decide) (by decide) (by decide) ?_
      show Steps p.tables e below (T0.setTop (mkF m 91 #[.val (.int (82 : Int32))] [])) _
      refine XS.iconst X0.here hx rfl (hb hby d2_91) ?_
      show Steps p.tables e below (T0.setTop (mkF m 92 #[.val (.int (82 : Int32))] [(.int (1 : Int32))])) _
      exact retI X0 hx hret (hb hby d2_92) hr
    · rw [show own_by (83 : Int32) = (2 : Int32) from by decide] at hr
      refine XS.tswIn X0.here hx rfl (pc0 := 1) (pc' := 89) (o := 88) rfl (hb hby d2_1) rfl hin (by decide) (by decide) (by decide) ?_
      show Steps p.tables e below (T0.setTop (mkF m 89 #[.val (.int (83 : Int32))] [])) _
      refine XS.iconst X0.here hx rfl (hb hby d2_89) ?_
      show Steps p.tables e below (T0.setTop (mkF m 90 #[.val (.int (83 : Int32))] [(.int (2 : Int32))])) _
      exact retI X0 hx hret (hb hby d2_90) hr
theorem ef_2 (m : MethodId) (p0 : Int32) : entryFrame m #[(.int p0)] 1 = mkF m 0 #[.val (.int p0)] [] := by first | (simp [entryFrame, mkF, argsToLocals, Value.category]; done) | rfl
theorem pn_2 : plainName "com/example/fleetwire/fleetwire/wire/ClassLayout" = true := by first | (simp [plainName, overriddenIn]; done) | decide +kernel
def Q2 (p0 : Int32) (h0 : Heap) (n0 : Nat) (v : Option Value) (h : Heap) (L : List Loc) : Prop := v = some (.int (own_by p0)) ∧ Fr n0 L ∧ h = h0
set_option maxRecDepth 65536 in
set_option maxHeartbeats 40000000 in
theorem rm2 (l : Launch) (Z : State) (t0 : Array Value) (hw : ∀ d ∈ tables_1, d.before t0 Z = true) (ws : List Jvm.Cond) (p0 : Int32) (h0 : Heap) (n0 : Nat) (Z0 : n0 ≤ h0.size)  :
    MetFree l (⟨"com/example/fleetwire/fleetwire/wire/ClassLayout", "bytesOf", "(C)I"⟩ : MethodName) (head1 (Jvm.Cond.code (⟨"com/example/fleetwire/fleetwire/wire/ClassLayout", "bytesOf", "(C)I"⟩ : MethodName) prog_79_method_5_code 1 (some .int) :: ws) ({ frames := 0, cells := 0, slots := 0, locals := 0 } : Room)) (fun a U => a = #[(.int p0)] ∧ Z.Warmed39 U.vm ∧ U.heap = h0) (fun _ _ _ _ _ => True) (fun _ U o U' => ∃ v L, o = .returned v ∧ Q2 p0 h0 n0 v U'.heap L ∧ FrameEnd U o U' L ({ frames := 0, cells := 0, slots := 0, locals := 0 } : Room).cells ({ frames := 0, cells := 0, slots := 0, locals := 0 } : Room).slots) := by
  refine MetFree.of_bodySF (plainFor_of_name pn_2) hisR ?_
  intro p e s m args below meth c s₁ Bd hml0 hP hK
  obtain ⟨rfl, hZ, hh⟩ := hP
  have hx := Bd.exec
  have hby := Bd.bytes
  have hml : c.maxLocals = 1 := hml0
  have hown : s.vm.findClass "com/example/fleetwire/fleetwire/wire/ClassLayout" = some m.cls := findClass_of_methodNamed Bd.named
  have hnm := (name_of_methodNamed Bd.named Bd.method).1
  have X0 : Stand p l e ({ frames := 0, cells := 0, slots := 0, locals := 0 } : Room) s m #[(.int p0)] below meth c s₁ [] 0 0 := Stand.of_body Bd
  have e0 : s₁.heap = h0 := by rw [← hh, Bd.state]; rfl
  have N0 := Fr.nil n0
  have pre0 : ∀ t, Steps p.tables e below (s₁.setTop (mkF m 0 #[.val (.int p0)] [])) t → Steps p.tables e below (s₁.setTop (entryFrame m #[(.int p0)] 1)) t := fun t k => castTop (ef_2 m p0) k
  obtain ⟨fs, hr, hrun, hended, hW, hsame⟩ := X0.leave (v := some (.int (own_by p0))) (fun h => by rw [Bd.returns] at h; cases h)
  refine ⟨_, _, pre0 _ ?_, hrun, hended, _, _, rfl, ?_, ⟨_, rfl⟩, hW, hsame.mono (by decide) (by decide)⟩
  · exact own2_b0 p0 X0 hx hZ hw hby hown e0  Bd.returns hr
  · show Q2 p0 h0 n0 _ s₁.heap _
    rw [e0]
    exact ⟨rfl, N0, rfl⟩
theorem d1_0 : decode method_3_code 0 = .ok (.iload_n 0, 1) := by decide +kernel
theorem d1_1 : decode method_3_code 1 = .ok (.aload_n 1, 1) := by decide +kernel
theorem d1_2 : decode method_3_code 2 = .ok (.iconst 0, 1) := by decide +kernel
theorem d1_3 : decode method_3_code 3 = .ok (.caload, 1) := by decide +kernel
theorem d1_4 : decode method_3_code 4 = .ok (.if_icmp .ne 7, 3) := by decide +kernel
theorem d1_7 : decode method_3_code 7 = .ok (.aload_n 2, 1) := by decide +kernel
theorem d1_8 : decode method_3_code 8 = .ok (.iconst 0, 1) := by decide +kernel
theorem d1_9 : decode method_3_code 9 = .ok (.iaload, 1) := by decide +kernel
theorem d1_10 : decode method_3_code 10 = .ok (.ireturn, 1) := by decide +kernel
theorem d1_11 : decode method_3_code 11 = .ok (.iload_n 0, 1) := by decide +kernel
theorem d1_12 : decode method_3_code 12 = .ok (.aload_n 1, 1) := by decide +kernel
theorem d1_13 : decode method_3_code 13 = .ok (.iconst 1, 1) := by decide +kernel
theorem d1_14 : decode method_3_code 14 = .ok (.caload, 1) := by decide +kernel
theorem d1_15 : decode method_3_code 15 = .ok (.if_icmp .ne 7, 3) := by decide +kernel
theorem d1_18 : decode method_3_code 18 = .ok (.aload_n 2, 1) := by decide +kernel
theorem d1_19 : decode method_3_code 19 = .ok (.iconst 1, 1) := by decide +kernel
theorem d1_20 : decode method_3_code 20 = .ok (.iaload, 1) := by decide +kernel
theorem d1_21 : decode method_3_code 21 = .ok (.ireturn, 1) := by decide +kernel
theorem d1_22 : decode method_3_code 22 = .ok (.iload_n 0, 1) := by decide +kernel
theorem d1_23 : decode method_3_code 23 = .ok (.aload_n 1, 1) := by decide +kernel
theorem d1_24 : decode method_3_code 24 = .ok (.iconst 2, 1) := by decide +kernel
theorem d1_25 : decode method_3_code 25 = .ok (.caload, 1) := by decide +kernel
theorem d1_26 : decode method_3_code 26 = .ok (.if_icmp .ne 7, 3) := by decide +kernel
theorem d1_29 : decode method_3_code 29 = .ok (.aload_n 2, 1) := by decide +kernel
theorem d1_30 : decode method_3_code 30 = .ok (.iconst 2, 1) := by decide +kernel
theorem d1_31 : decode method_3_code 31 = .ok (.iaload, 1) := by decide +kernel
theorem d1_32 : decode method_3_code 32 = .ok (.ireturn, 1) := by decide +kernel
theorem d1_33 : decode method_3_code 33 = .ok (.iload_n 0, 1) := by decide +kernel
theorem d1_34 : decode method_3_code 34 = .ok (.aload_n 1, 1) := by decide +kernel
theorem d1_35 : decode method_3_code 35 = .ok (.iconst 3, 1) := by decide +kernel
theorem d1_36 : decode method_3_code 36 = .ok (.caload, 1) := by decide +kernel
theorem d1_37 : decode method_3_code 37 = .ok (.if_icmp .ne 7, 3) := by decide +kernel
theorem d1_40 : decode method_3_code 40 = .ok (.aload_n 2, 1) := by decide +kernel
theorem d1_41 : decode method_3_code 41 = .ok (.iconst 3, 1) := by decide +kernel
theorem d1_42 : decode method_3_code 42 = .ok (.iaload, 1) := by decide +kernel
theorem d1_43 : decode method_3_code 43 = .ok (.ireturn, 1) := by decide +kernel
theorem d1_44 : decode method_3_code 44 = .ok (.iload_n 0, 1) := by decide +kernel
theorem d1_45 : decode method_3_code 45 = .ok (.aload_n 1, 1) := by decide +kernel
theorem d1_46 : decode method_3_code 46 = .ok (.iconst 4, 1) := by decide +kernel
theorem d1_47 : decode method_3_code 47 = .ok (.caload, 1) := by decide +kernel
theorem d1_48 : decode method_3_code 48 = .ok (.if_icmp .ne 7, 3) := by decide +kernel
theorem d1_51 : decode method_3_code 51 = .ok (.aload_n 2, 1) := by decide +kernel
theorem d1_52 : decode method_3_code 52 = .ok (.iconst 4, 1) := by decide +kernel
theorem d1_53 : decode method_3_code 53 = .ok (.iaload, 1) := by decide +kernel
theorem d1_54 : decode method_3_code 54 = .ok (.ireturn, 1) := by decide +kernel
theorem d1_55 : decode method_3_code 55 = .ok (.iload_n 0, 1) := by decide +kernel
theorem d1_56 : decode method_3_code 56 = .ok (.aload_n 1, 1) := by decide +kernel
theorem d1_57 : decode method_3_code 57 = .ok (.iconst 5, 1) := by decide +kernel
theorem d1_58 : decode method_3_code 58 = .ok (.caload, 1) := by decide +kernel
theorem d1_59 : decode method_3_code 59 = .ok (.if_icmp .ne 7, 3) := by decide +kernel
theorem d1_62 : decode method_3_code 62 = .ok (.aload_n 2, 1) := by decide +kernel
theorem d1_63 : decode method_3_code 63 = .ok (.iconst 5, 1) := by decide +kernel
theorem d1_64 : decode method_3_code 64 = .ok (.iaload, 1) := by decide +kernel
theorem d1_65 : decode method_3_code 65 = .ok (.ireturn, 1) := by decide +kernel
theorem d1_66 : decode method_3_code 66 = .ok (.iload_n 0, 1) := by decide +kernel
theorem d1_67 : decode method_3_code 67 = .ok (.aload_n 1, 1) := by decide +kernel
theorem d1_68 : decode method_3_code 68 = .ok (.bipush 6, 2) := by decide +kernel
theorem d1_70 : decode method_3_code 70 = .ok (.caload, 1) := by decide +kernel
theorem d1_71 : decode method_3_code 71 = .ok (.if_icmp .ne 8, 3) := by decide +kernel
theorem d1_74 : decode method_3_code 74 = .ok (.aload_n 2, 1) := by decide +kernel
theorem d1_75 : decode method_3_code 75 = .ok (.bipush 6, 2) := by decide +kernel
theorem d1_77 : decode method_3_code 77 = .ok (.iaload, 1) := by decide +kernel
theorem d1_78 : decode method_3_code 78 = .ok (.ireturn, 1) := by decide +kernel
theorem d1_79 : decode method_3_code 79 = .ok (.iload_n 0, 1) := by decide +kernel
theorem d1_80 : decode method_3_code 80 = .ok (.aload_n 1, 1) := by decide +kernel
theorem d1_81 : decode method_3_code 81 = .ok (.bipush 7, 2) := by decide +kernel
theorem d1_83 : decode method_3_code 83 = .ok (.caload, 1) := by decide +kernel
theorem d1_84 : decode method_3_code 84 = .ok (.if_icmp .ne 8, 3) := by decide +kernel
theorem d1_87 : decode method_3_code 87 = .ok (.aload_n 2, 1) := by decide +kernel
theorem d1_88 : decode method_3_code 88 = .ok (.bipush 7, 2) := by decide +kernel
theorem d1_90 : decode method_3_code 90 = .ok (.iaload, 1) := by decide +kernel
theorem d1_91 : decode method_3_code 91 = .ok (.ireturn, 1) := by decide +kernel
theorem d1_92 : decode method_3_code 92 = .ok (.iload_n 0, 1) := by decide +kernel
theorem d1_93 : decode method_3_code 93 = .ok (.aload_n 1, 1) := by decide +kernel
theorem d1_94 : decode method_3_code 94 = .ok (.bipush 8, 2) := by decide +kernel
theorem d1_96 : decode method_3_code 96 = .ok (.caload, 1) := by decide +kernel
theorem d1_97 : decode method_3_code 97 = .ok (.if_icmp .ne 8, 3) := by decide +kernel
theorem d1_100 : decode method_3_code 100 = .ok (.aload_n 2, 1) := by decide +kernel
theorem d1_101 : decode method_3_code 101 = .ok (.bipush 8, 2) := by decide +kernel
theorem d1_103 : decode method_3_code 103 = .ok (.iaload, 1) := by decide +kernel
theorem d1_104 : decode method_3_code 104 = .ok (.ireturn, 1) := by decide +kernel
theorem d1_105 : decode method_3_code 105 = .ok (.iconst 1, 1) := by decide +kernel
theorem d1_106 : decode method_3_code 106 = .ok (.ireturn, 1) := by decide +kernel
def own1_f0 (p0 : Int32) (a1 : Addr) (a2 : Addr) (cl1 : Cell) (cl2 : Cell) : Int32 := (if p0 = (90 : Int32) then (1 : Int32) else (if p0 = (66 : Int32) then (1 : Int32) else (if p0 = (67 : Int32) then (2 : Int32) else (if p0 = (83 : Int32) then (2 : Int32) else (if p0 = (73 : Int32) then (4 : Int32) else (if p0 = (74 : Int32) then (8 : Int32) else (if p0 = (70 : Int32) then (4 : Int32) else (if p0 = (68 : Int32) then (8 : Int32) else (if p0 = (76 : Int32) then (1 : Int32) else (1 : Int32))))))))))
theorem own1_e0 (p0 : Int32) (a1 : Addr) (a2 : Addr) (cl1 : Cell) (cl2 : Cell) : (own1_f0 p0 a1 a2 cl1 cl2) = (if p0 = (90 : Int32) then (1 : Int32) else (if p0 = (66 : Int32) then (1 : Int32) else (if p0 = (67 : Int32) then (2 : Int32) else (if p0 = (83 : Int32) then (2 : Int32) else (if p0 = (73 : Int32) then (4 : Int32) else (if p0 = (74 : Int32) then (8 : Int32) else (if p0 = (70 : Int32) then (4 : Int32) else (if p0 = (68 : Int32) then (8 : Int32) else (if p0 = (76 : Int32) then (1 : Int32) else (1 : Int32)))))))))) := rfl
set_option maxRecDepth 65536 in
set_option maxHeartbeats 40000000 in
theorem own1_b0 {p : Program} {l : Launch} {e : Env} {R : Room} {s : State} {m : MethodId} {args : Array Value} {below : List Frame} {meth : Method} {c : Code} {T0 : State} {locs : List Loc} {cells slots : Nat} {Z : State} {t0 : Array Value} {h0 : Heap} (p0 : Int32) (a1 : Addr) (a2 : Addr) (cl1 : Cell) (cl2 : Cell) (X0 : Stand p l e R s m args below meth c T0 locs cells slots) (hx : p.tables.exec = Jvm.exec) (hZ : Z.Warmed39 s.vm) (hw : ∀ d ∈ tables_1, d.before t0 Z = true) (hby : c.code = method_3_code) (hown : s.vm.findClass "com/example/fleetwire/fleetwire/wire/ClassLayoutBytesOfPinLaw" = some m.cls) (e0 : T0.heap = h0) (Ar1 : Arr Z h0 a1 cl1 .char) (S1 : cl1.slots.size = (9 : Int32).toNatClampNeg) (H1 : Has cl1 [(.int (90 : Int32)), (.int (66 : Int32)), (.int (67 : Int32)), (.int (83 : Int32)), (.int (73 : Int32)), (.int (74 : Int32)), (.int (70 : Int32)), (.int (68 : Int32)), (.int (76 : Int32))] (.int (0 : Int32))) (Ar2 : Arr Z h0 a2 cl2 .int) (S2 : cl2.slots.size = (9 : Int32).toNatClampNeg) (H2 : Has cl2 [(.int (1 : Int32)), (.int (1 : Int32)), (.int (2 : Int32)), (.int (2 : Int32)), (.int (4 : Int32)), (.int (8 : Int32)), (.int (4 : Int32)), (.int (8 : Int32)), (.int (1 : Int32))] (.int (0 : Int32))) (hret : meth.sig.returnType = some .int) {fs : List Frame} (hr : ∀ (f : JFrame) (acts : List Action), f.method = m → f.locked = none → f.entered = [] → (doReturn e (T0.setTop f) acts (some (.int (own1_f0 p0 a1 a2 cl1 cl2)))).1 = T0.setFrames fs) : Steps p.tables e below (T0.setTop (mkF m 0 #[.val (.int p0), .val (.ref a1), .val (.ref a2)] [])) (T0.setFrames fs) := by
  rw [own1_e0] at hr
  show Steps p.tables e below (T0.setTop (mkF m 0 #[.val (.int p0), .val (.ref a1), .val (.ref a2)] [])) _
  refine XS.iloadN X0.here hx rfl (hb hby d1_0) rfl ?_
  show Steps p.tables e below (T0.setTop (mkF m 1 #[.val (.int p0), .val (.ref a1), .val (.ref a2)] [(.int p0)])) _
  refine XS.aloadN X0.here hx rfl (hb hby d1_1) rfl rfl ?_
  show Steps p.tables e below (T0.setTop (mkF m 2 #[.val (.int p0), .val (.ref a1), .val (.ref a2)] [(.ref a1), (.int p0)])) _
  refine XS.iconst X0.here hx rfl (hb hby d1_2) ?_
  show Steps p.tables e below (T0.setTop (mkF m 3 #[.val (.int p0), .val (.ref a1), .val (.ref a2)] [(.int (0 : Int32)), (.ref a1), (.int p0)])) _
  refine X0.caload hx (j := (0 : Int32)) (v := (.int (90 : Int32))) (by rw [e0]; exact Ar1.1) (State.isArrayOf_alike hZ.alike Ar1.2.1) Ar1.2.2 (inb_of S1 ⟨by decide, by decide⟩) (Has.at H1 (inb_of S1 ⟨by decide, by decide⟩) rfl) (g := (mkF m 3 #[.val (.int p0), .val (.ref a1), .val (.ref a2)] [(.int (0 : Int32)), (.ref a1), (.int p0)])) rfl rfl (hb hby d1_3) _ ?_
  by_cases hc4 : p0 = (90 : Int32)
  · rw [if_pos hc4] at hr
    show Steps p.tables e below (T0.setTop (mkF m 4 #[.val (.int p0), .val (.ref a1), .val (.ref a2)] [(.int (90 : Int32)), (.int p0)])) _
    refine XS.icmpNo X0.here hx rfl (hb hby d1_4) rfl (teq hc4).2 ?_
    show Steps p.tables e below (T0.setTop (mkF m 7 #[.val (.int p0), .val (.ref a1), .val (.ref a2)] [])) _
    refine XS.aloadN X0.here hx rfl (hb hby d1_7) rfl rfl ?_
    show Steps p.tables e below (T0.setTop (mkF m 8 #[.val (.int p0), .val (.ref a1), .val (.ref a2)] [(.ref a2)])) _
    refine XS.iconst X0.here hx rfl (hb hby d1_8) ?_
    show Steps p.tables e below (T0.setTop (mkF m 9 #[.val (.int p0), .val (.ref a1), .val (.ref a2)] [(.int (0 : Int32)), (.ref a2)])) _
    refine X0.iaload hx (j := (0 : Int32)) (v := (.int (1 : Int32))) (by rw [e0]; exact Ar2.1) (State.isArrayOf_alike hZ.alike Ar2.2.1) Ar2.2.2 (inb_of S2 ⟨by decide, by decide⟩) (Has.at H2 (inb_of S2 ⟨by decide, by decide⟩) rfl) (g := (mkF m 9 #[.val (.int p0), .val (.ref a1), .val (.ref a2)] [(.int (0 : Int32)), (.ref a2)])) rfl rfl (hb hby d1_9) _ ?_
    show Steps p.tables e below (T0.setTop (mkF m 10 #[.val (.int p0), .val (.ref a1), .val (.ref a2)] [(.int (1 : Int32))])) _
    exact retI X0 hx hret (hb hby d1_10) hr
  · rw [if_neg hc4] at hr
    show Steps p.tables e below (T0.setTop (mkF m 4 #[.val (.int p0), .val (.ref a1), .val (.ref a2)] [(.int (90 : Int32)), (.int p0)])) _
    refine XS.icmpYes X0.here hx rfl (pc0 := 4) (pc' := 11) rfl (hb hby d1_4) rfl (feq hc4).2 (by decide) (by decide) ?_
    show Steps p.tables e below (T0.setTop (mkF m 11 #[.val (.int p0), .val (.ref a1), .val (.ref a2)] [])) _
    refine XS.iloadN X0.here hx rfl (hb hby d1_11) rfl ?_
    show Steps p.tables e below (T0.setTop (mkF m 12 #[.val (.int p0), .val (.ref a1), .val (.ref a2)] [(.int p0)])) _
    refine XS.aloadN X0.here hx rfl (hb hby d1_12) rfl rfl ?_
    show Steps p.tables e below (T0.setTop (mkF m 13 #[.val (.int p0), .val (.ref a1), .val (.ref a2)] [(.ref a1), (.int p0)])) _
    refine XS.iconst X0.here hx rfl (hb hby d1_13) ?_
    show Steps p.tables e below (T0.setTop (mkF m 14 #[.val (.int p0), .val (.ref a1), .val (.ref a2)] [(.int (1 : Int32)), (.ref a1), (.int p0)])) _
    refine X0.caload hx (j := (1 : Int32)) (v := (.int (66 : Int32))) (by rw [e0]; exact Ar1.1) (State.isArrayOf_alike hZ.alike Ar1.2.1) Ar1.2.2 (inb_of S1 ⟨by decide, by decide⟩) (Has.at H1 (inb_of S1 ⟨by decide, by decide⟩) rfl) (g := (mkF m 14 #[.val (.int p0), .val (.ref a1), .val (.ref a2)] [(.int (1 : Int32)), (.ref a1), (.int p0)])) rfl rfl (hb hby d1_14) _ ?_
    by_cases hc15 : p0 = (66 : Int32)
    · rw [if_pos hc15] at hr
      show Steps p.tables e below (T0.setTop (mkF m 15 #[.val (.int p0), .val (.ref a1), .val (.ref a2)] [(.int (66 : Int32)), (.int p0)])) _
      refine XS.icmpNo X0.here hx rfl (hb hby d1_15) rfl (teq hc15).2 ?_
      show Steps p.tables e below (T0.setTop (mkF m 18 #[.val (.int p0), .val (.ref a1), .val (.ref a2)] [])) _
      refine XS.aloadN X0.here hx rfl (hb hby d1_18) rfl rfl ?_
      show Steps p.tables e below (T0.setTop (mkF m 19 #[.val (.int p0), .val (.ref a1), .val (.ref a2)] [(.ref a2)])) _
      refine XS.iconst X0.here hx rfl (hb hby d1_19) ?_
      show Steps p.tables e below (T0.setTop (mkF m 20 #[.val (.int p0), .val (.ref a1), .val (.ref a2)] [(.int (1 : Int32)), (.ref a2)])) _
      refine X0.iaload hx (j := (1 : Int32)) (v := (.int (1 : Int32))) (by rw [e0]; exact Ar2.1) (State.isArrayOf_alike hZ.alike Ar2.2.1) Ar2.2.2 (inb_of S2 ⟨by decide, by decide⟩) (Has.at H2 (inb_of S2 ⟨by decide, by decide⟩) rfl) (g := (mkF m 20 #[.val (.int p0), .val (.ref a1), .val (.ref a2)] [(.int (1 : Int32)), (.ref a2)])) rfl rfl (hb hby d1_20) _ ?_
      show Steps p.tables e below (T0.setTop (mkF m 21 #[.val (.int p0), .val (.ref a1), .val (.ref a2)] [(.int (1 : Int32))])) _
      exact retI X0 hx hret (hb hby d1_21) hr
    · rw [if_neg hc15] at hr
      show Steps p.tables e below (T0.setTop (mkF m 15 #[.val (.int p0), .val (.ref a1), .val (.ref a2)] [(.int (66 : Int32)), (.int p0)])) _
      refine XS.icmpYes X0.here hx rfl (pc0 := 15) (pc' := 22) rfl (hb hby d1_15) rfl (feq hc15).2 (by decide) (by decide) ?_
      show Steps p.tables e below (T0.setTop (mkF m 22 #[.val (.int p0), .val (.ref a1), .val (.ref a2)] [])) _
      refine XS.iloadN X0.here hx rfl (hb hby d1_22) rfl ?_
      show Steps p.tables e below (T0.setTop (mkF m 23 #[.val (.int p0), .val (.ref a1), .val (.ref a2)] [(.int p0)])) _
      refine XS.aloadN X0.here hx rfl (hb hby d1_23) rfl rfl ?_
      show Steps p.tables e below (T0.setTop (mkF m 24 #[.val (.int p0), .val (.ref a1), .val (.ref a2)] [(.ref a1), (.int p0)])) _
      refine XS.iconst X0.here hx rfl (hb hby d1_24) ?_
      show Steps p.tables e below (T0.setTop (mkF m 25 #[.val (.int p0), .val (.ref a1), .val (.ref a2)] [(.int (2 : Int32)), (.ref a1), (.int p0)])) _
      refine X0.caload hx (j := (2 : Int32)) (v := (.int (67 : Int32))) (by rw [e0]; exact Ar1.1) (State.isArrayOf_alike hZ.alike Ar1.2.1) Ar1.2.2 (inb_of S1 ⟨by decide, by decide⟩) (Has.at H1 (inb_of S1 ⟨by decide, by decide⟩) rfl) (g := (mkF m 25 #[.val (.int p0), .val (.ref a1), .val (.ref a2)] [(.int (2 : Int32)), (.ref a1), (.int p0)])) rfl rfl (hb hby d1_25) _ ?_
      by_cases hc26 : p0 = (67 : Int32)
      · rw [if_pos hc26] at hr
        show Steps p.tables e below (T0.setTop (mkF m 26 #[.val (.int p0), .val (.ref a1), .val (.ref a2)] [(.int (67 : Int32)), (.int p0)])) _
        refine XS.icmpNo X0.here hx rfl (hb hby d1_26) rfl (teq hc26).2 ?_
        show Steps p.tables e below (T0.setTop (mkF m 29 #[.val (.int p0), .val (.ref a1), .val (.ref a2)] [])) _
        refine XS.aloadN X0.here hx rfl (hb hby d1_29) rfl rfl ?_
        show Steps p.tables e below (T0.setTop (mkF m 30 #[.val (.int p0), .val (.ref a1), .val (.ref a2)] [(.ref a2)])) _
        refine XS.iconst X0.here hx rfl (hb hby d1_30) ?_
        show Steps p.tables e below (T0.setTop (mkF m 31 #[.val (.int p0), .val (.ref a1), .val (.ref a2)] [(.int (2 : Int32)), (.ref a2)])) _
        refine X0.iaload hx (j := (2 : Int32)) (v := (.int (2 : Int32))) (by rw [e0]; exact Ar2.1) (State.isArrayOf_alike hZ.alike Ar2.2.1) Ar2.2.2 (inb_of S2 ⟨by decide, by decide⟩) (Has.at H2 (inb_of S2 ⟨by decide, by decide⟩) rfl) (g := (mkF m 31 #[.val (.int p0), .val (.ref a1), .val (.ref a2)] [(.int (2 : Int32)), (.ref a2)])) rfl rfl (hb hby d1_31) _ ?_
        show Steps p.tables e below (T0.setTop (mkF m 32 #[.val (.int p0), .val (.ref a1), .val (.ref a2)] [(.int (2 : Int32))])) _
        exact retI X0 hx hret (hb hby d1_32) hr
      · rw [if_neg hc26] at hr
        show Steps p.tables e below (T0.setTop (mkF m 26 #[.val (.int p0), .val (.ref a1), .val (.ref a2)] [(.int (67 : Int32)), (.int p0)])) _
        refine XS.icmpYes X0.here hx rfl (pc0 := 26) (pc' := 33) rfl (hb hby d1_26) rfl (feq hc26).2 (by decide) (by decide) ?_
        show Steps p.tables e below (T0.setTop (mkF m 33 #[.val (.int p0), .val (.ref a1), .val (.ref a2)] [])) _
        refine XS.iloadN X0.here hx rfl (hb hby d1_33) rfl ?_
        show Steps p.tables e below (T0.setTop (mkF m 34 #[.val (.int p0), .val (.ref a1), .val (.ref a2)] [(.int p0)])) _
        refine XS.aloadN X0.here hx rfl (hb hby d1_34) rfl rfl ?_
        show Steps p.tables e below (T0.setTop (mkF m 35 #[.val (.int p0), .val (.ref a1), .val (.ref a2)] [(.ref a1), (.int p0)])) _
        refine XS.iconst X0.here hx rfl (hb hby d1_35) ?_
        show Steps p.tables e below (T0.setTop (mkF m 36 #[.val (.int p0), .val (.ref a1), .val (.ref a2)] [(.int (3 : Int32)), (.ref a1), (.int p0)])) _
        refine X0.caload hx (j := (3 : Int32)) (v := (.int (83 : Int32))) (by rw [e0]; exact Ar1.1) (State.isArrayOf_alike hZ.alike Ar1.2.1) Ar1.2.2 (inb_of S1 ⟨by decide, by decide⟩) (Has.at H1 (inb_of S1 ⟨by decide, by decide⟩) rfl) (g := (mkF m 36 #[.val (.int p0), .val (.ref a1), .val (.ref a2)] [(.int (3 : Int32)), (.ref a1), (.int p0)])) rfl rfl (hb hby d1_36) _ ?_
        by_cases hc37 : p0 = (83 : Int32)
        · rw [if_pos hc37] at hr
          show Steps p.tables e below (T0.setTop (mkF m 37 #[.val (.int p0), .val (.ref a1), .val (.ref a2)] [(.int (83 : Int32)), (.int p0)])) _
          refine XS.icmpNo X0.here hx rfl (hb hby d1_37) rfl (teq hc37).2 ?_
          show Steps p.tables e below (T0.setTop (mkF m 40 #[.val (.int p0), .val (.ref a1), .val (.ref a2)] [])) _
          refine XS.aloadN X0.here hx rfl (hb hby d1_40) rfl rfl ?_
          show Steps p.tables e below (T0.setTop (mkF m 41 #[.val (.int p0), .val (.ref a1), .val (.ref a2)] [(.ref a2)])) _
          refine XS.iconst X0.here hx rfl (hb hby d1_41) ?_
          show Steps p.tables e below (T0.setTop (mkF m 42 #[.val (.int p0), .val (.ref a1), .val (.ref a2)] [(.int (3 : Int32)), (.ref a2)])) _
          refine X0.iaload hx (j := (3 : Int32)) (v := (.int (2 : Int32))) (by rw [e0]; exact Ar2.1) (State.isArrayOf_alike hZ.alike Ar2.2.1) Ar2.2.2 (inb_of S2 ⟨by decide, by decide⟩) (Has.at H2 (inb_of S2 ⟨by decide, by decide⟩) rfl) (g := (mkF m 42 #[.val (.int p0), .val (.ref a1), .val (.ref a2)] [(.int (3 : Int32)), (.ref a2)])) rfl rfl (hb hby d1_42) _ ?_
          show Steps p.tables e below (T0.setTop (mkF m 43 #[.val (.int p0), .val (.ref a1), .val (.ref a2)] [(.int (2 : Int32))])) _
          exact retI X0 hx hret (hb hby d1_43) hr
        · rw [if_neg hc37] at hr
          show Steps p.tables e below (T0.setTop (mkF m 37 #[.val (.int p0), .val (.ref a1), .val (.ref a2)] [(.int (83 : Int32)), (.int p0)])) _
          refine XS.icmpYes X0.here hx rfl (pc0 := 37) (pc' := 44) rfl (hb hby d1_37) rfl (feq hc37).2 (by decide) (by decide) ?_
          show Steps p.tables e below (T0.setTop (mkF m 44 #[.val (.int p0), .val (.ref a1), .val (.ref a2)] [])) _
          refine XS.iloadN X0.here hx rfl (hb hby d1_44) rfl ?_
          show Steps p.tables e below (T0.setTop (mkF m 45 #[.val (.int p0), .val (.ref a1), .val (.ref a2)] [(.int p0)])) _
          refine XS.aloadN X0.here hx rfl (hb hby d1_45) rfl rfl ?_
          show Steps p.tables e below (T0.setTop (mkF m 46 #[.val (.int p0), .val (.ref a1), .val (.ref a2)] [(.ref a1), (.int p0)])) _
          refine XS.iconst X0.here hx rfl (hb hby d1_46) ?_
          show Steps p.tables e below (T0.setTop (mkF m 47 #[.val (.int p0), .val (.ref a1), .val (.ref a2)] [(.int (4 : Int32)), (.ref a1), (.int p0)])) _
          refine X0.caload hx (j := (4 : Int32)) (v := (.int (73 : Int32))) (by rw [e0]; exact Ar1.1) (State.isArrayOf_alike hZ.alike Ar1.2.1) Ar1.2.2 (inb_of S1 ⟨by decide, by decide⟩) (Has.at H1 (inb_of S1 ⟨by decide, by decide⟩) rfl) (g := (mkF m 47 #[.val (.int p0), .val (.ref a1), .val (.ref a2)] [(.int (4 : Int32)), (.ref a1), (.int p0)])) rfl rfl (hb hby d1_47) _ ?_
          by_cases hc48 : p0 = (73 : Int32)
          · rw [if_pos hc48] at hr
            show Steps p.tables e below (T0.setTop (mkF m 48 #[.val (.int p0), .val (.ref a1), .val (.ref a2)] [(.int (73 : Int32)), (.int p0)])) _
            refine XS.icmpNo X0.here hx rfl (hb hby d1_48) rfl (teq hc48).2 ?_
            show Steps p.tables e below (T0.setTop (mkF m 51 #[.val (.int p0), .val (.ref a1), .val (.ref a2)] [])) _
            refine XS.aloadN X0.here hx rfl (hb hby d1_51) rfl rfl ?_
            show Steps p.tables e below (T0.setTop (mkF m 52 #[.val (.int p0), .val (.ref a1), .val (.ref a2)] [(.ref a2)])) _
            refine XS.iconst X0.here hx rfl (hb hby d1_52) ?_
            show Steps p.tables e below (T0.setTop (mkF m 53 #[.val (.int p0), .val (.ref a1), .val (.ref a2)] [(.int (4 : Int32)), (.ref a2)])) _
            refine X0.iaload hx (j := (4 : Int32)) (v := (.int (4 : Int32))) (by rw [e0]; exact Ar2.1) (State.isArrayOf_alike hZ.alike Ar2.2.1) Ar2.2.2 (inb_of S2 ⟨by decide, by decide⟩) (Has.at H2 (inb_of S2 ⟨by decide, by decide⟩) rfl) (g := (mkF m 53 #[.val (.int p0), .val (.ref a1), .val (.ref a2)] [(.int (4 : Int32)), (.ref a2)])) rfl rfl (hb hby d1_53) _ ?_
            show Steps p.tables e below (T0.setTop (mkF m 54 #[.val (.int p0), .val (.ref a1), .val (.ref a2)] [(.int (4 : Int32))])) _
            exact retI X0 hx hret (hb hby d1_54) hr
          · rw [if_neg hc48] at hr
            show Steps p.tables e below (T0.setTop (mkF m 48 #[.val (.int p0), .val (.ref a1), .val (.ref a2)] [(.int (73 : Int32)), (.int p0)])) _
            refine XS.icmpYes X0.here hx rfl (pc0 := 48) (pc' := 55) rfl (hb hby d1_48) rfl (feq hc48).2 (by decide) (by decide) ?_
            show Steps p.tables e below (T0.setTop (mkF m 55 #[.val (.int p0), .val (.ref a1), .val (.ref a2)] [])) _
            refine XS.iloadN X0.here hx rfl (hb hby d1_55) rfl ?_
            show Steps p.tables e below (T0.setTop (mkF m 56 #[.val (.int p0), .val (.ref a1), .val (.ref a2)] [(.int p0)])) _
            refine XS.aloadN X0.here hx rfl (hb hby d1_56) rfl rfl ?_
            show Steps p.tables e below (T0.setTop (mkF m 57 #[.val (.int p0), .val (.ref a1), .val (.ref a2)] [(.ref a1), (.int p0)])) _
            refine XS.iconst X0.here hx rfl (hb hby d1_57) ?_
            show Steps p.tables e below (T0.setTop (mkF m 58 #[.val (.int p0), .val (.ref a1), .val (.ref a2)] [(.int (5 : Int32)), (.ref a1), (.int p0)])) _
            refine X0.caload hx (j := (5 : Int32)) (v := (.int (74 : Int32))) (by rw [e0]; exact Ar1.1) (State.isArrayOf_alike hZ.alike Ar1.2.1) Ar1.2.2 (inb_of S1 ⟨by decide, by decide⟩) (Has.at H1 (inb_of S1 ⟨by decide, by decide⟩) rfl) (g := (mkF m 58 #[.val (.int p0), .val (.ref a1), .val (.ref a2)] [(.int (5 : Int32)), (.ref a1), (.int p0)])) rfl rfl (hb hby d1_58) _ ?_
            by_cases hc59 : p0 = (74 : Int32)
            · rw [if_pos hc59] at hr
              show Steps p.tables e below (T0.setTop (mkF m 59 #[.val (.int p0), .val (.ref a1), .val (.ref a2)] [(.int (74 : Int32)), (.int p0)])) _
              refine XS.icmpNo X0.here hx rfl (hb hby d1_59) rfl (teq hc59).2 ?_
              show Steps p.tables e below (T0.setTop (mkF m 62 #[.val (.int p0), .val (.ref a1), .val (.ref a2)] [])) _
              refine XS.aloadN X0.here hx rfl (hb hby d1_62) rfl rfl ?_
              show Steps p.tables e below (T0.setTop (mkF m 63 #[.val (.int p0), .val (.ref a1), .val (.ref a2)] [(.ref a2)])) _
              refine XS.iconst X0.here hx rfl (hb hby d1_63) ?_
              show Steps p.tables e below (T0.setTop (mkF m 64 #[.val (.int p0), .val (.ref a1), .val (.ref a2)] [(.int (5 : Int32)), (.ref a2)])) _
              refine X0.iaload hx (j := (5 : Int32)) (v := (.int (8 : Int32))) (by rw [e0]; exact Ar2.1) (State.isArrayOf_alike hZ.alike Ar2.2.1) Ar2.2.2 (inb_of S2 ⟨by decide, by decide⟩) (Has.at H2 (inb_of S2 ⟨by decide, by decide⟩) rfl) (g := (mkF m 64 #[.val (.int p0), .val (.ref a1), .val (.ref a2)] [(.int (5 : Int32)), (.ref a2)])) rfl rfl (hb hby d1_64) _ ?_
              show Steps p.tables e below (T0.setTop (mkF m 65 #[.val (.int p0), .val (.ref a1), .val (.ref a2)] [(.int (8 : Int32))])) _
              exact retI X0 hx hret (hb hby d1_65) hr
            · rw [if_neg hc59] at hr
              show Steps p.tables e below (T0.setTop (mkF m 59 #[.val (.int p0), .val (.ref a1), .val (.ref a2)] [(.int (74 : Int32)), (.int p0)])) _
              refine XS.icmpYes X0.here hx rfl (pc0 := 59) (pc' := 66) rfl (hb hby d1_59) rfl (feq hc59).2 (by decide) (by decide) ?_
              show Steps p.tables e below (T0.setTop (mkF m 66 #[.val (.int p0), .val (.ref a1), .val (.ref a2)] [])) _
              refine XS.iloadN X0.here hx rfl (hb hby d1_66) rfl ?_
              show Steps p.tables e below (T0.setTop (mkF m 67 #[.val (.int p0), .val (.ref a1), .val (.ref a2)] [(.int p0)])) _
              refine XS.aloadN X0.here hx rfl (hb hby d1_67) rfl rfl ?_
              show Steps p.tables e below (T0.setTop (mkF m 68 #[.val (.int p0), .val (.ref a1), .val (.ref a2)] [(.ref a1), (.int p0)])) _
              refine XS.bipush X0.here hx rfl (hb hby d1_68) ?_
              show Steps p.tables e below (T0.setTop (mkF m 70 #[.val (.int p0), .val (.ref a1), .val (.ref a2)] [(.int (6 : Int32)), (.ref a1), (.int p0)])) _
              refine X0.caload hx (j := (6 : Int32)) (v := (.int (70 : Int32))) (by rw [e0]; exact Ar1.1) (State.isArrayOf_alike hZ.alike Ar1.2.1) Ar1.2.2 (inb_of S1 ⟨by decide, by decide⟩) (Has.at H1 (inb_of S1 ⟨by decide, by decide⟩) rfl) (g := (mkF m 70 #[.val (.int p0), .val (.ref a1), .val (.ref a2)] [(.int (6 : Int32)), (.ref a1), (.int p0)])) rfl rfl (hb hby d1_70) _ ?_
              by_cases hc71 : p0 = (70 : Int32)
              · rw [if_pos hc71] at hr
                show Steps p.tables e below (T0.setTop (mkF m 71 #[.val (.int p0), .val (.ref a1), .val (.ref a2)] [(.int (70 : Int32)), (.int p0)])) _
                refine XS.icmpNo X0.here hx rfl (hb hby d1_71) rfl (teq hc71).2 ?_
                show Steps p.tables e below (T0.setTop (mkF m 74 #[.val (.int p0), .val (.ref a1), .val (.ref a2)] [])) _
                refine XS.aloadN X0.here hx rfl (hb hby d1_74) rfl rfl ?_
                show Steps p.tables e below (T0.setTop (mkF m 75 #[.val (.int p0), .val (.ref a1), .val (.ref a2)] [(.ref a2)])) _
                refine XS.bipush X0.here hx rfl (hb hby d1_75) ?_
                show Steps p.tables e below (T0.setTop (mkF m 77 #[.val (.int p0), .val (.ref a1), .val (.ref a2)] [(.int (6 : Int32)), (.ref a2)])) _
                refine X0.iaload hx (j := (6 : Int32)) (v := (.int (4 : Int32))) (by rw [e0]; exact Ar2.1) (State.isArrayOf_alike hZ.alike Ar2.2.1) Ar2.2.2 (inb_of S2 ⟨by decide, by decide⟩) (Has.at H2 (inb_of S2 ⟨by decide, by decide⟩) rfl) (g := (mkF m 77 #[.val (.int p0), .val (.ref a1), .val (.ref a2)] [(.int (6 : Int32)), (.ref a2)])) rfl rfl (hb hby d1_77) _ ?_
                show Steps p.tables e below (T0.setTop (mkF m 78 #[.val (.int p0), .val (.ref a1), .val (.ref a2)] [(.int (4 : Int32))])) _
                exact retI X0 hx hret (hb hby d1_78) hr
              · rw [if_neg hc71] at hr
                show Steps p.tables e below (T0.setTop (mkF m 71 #[.val (.int p0), .val (.ref a1), .val (.ref a2)] [(.int (70 : Int32)), (.int p0)])) _
                refine XS.icmpYes X0.here hx rfl (pc0 := 71) (pc' := 79) rfl (hb hby d1_71) rfl (feq hc71).2 (by decide) (by decide) ?_
                show Steps p.tables e below (T0.setTop (mkF m 79 #[.val (.int p0), .val (.ref a1), .val (.ref a2)] [])) _
                refine XS.iloadN X0.here hx rfl (hb hby d1_79) rfl ?_
                show Steps p.tables e below (T0.setTop (mkF m 80 #[.val (.int p0), .val (.ref a1), .val (.ref a2)] [(.int p0)])) _
                refine XS.aloadN X0.here hx rfl (hb hby d1_80) rfl rfl ?_
                show Steps p.tables e below (T0.setTop (mkF m 81 #[.val (.int p0), .val (.ref a1), .val (.ref a2)] [(.ref a1), (.int p0)])) _
                refine XS.bipush X0.here hx rfl (hb hby d1_81) ?_
                show Steps p.tables e below (T0.setTop (mkF m 83 #[.val (.int p0), .val (.ref a1), .val (.ref a2)] [(.int (7 : Int32)), (.ref a1), (.int p0)])) _
                refine X0.caload hx (j := (7 : Int32)) (v := (.int (68 : Int32))) (by rw [e0]; exact Ar1.1) (State.isArrayOf_alike hZ.alike Ar1.2.1) Ar1.2.2 (inb_of S1 ⟨by decide, by decide⟩) (Has.at H1 (inb_of S1 ⟨by decide, by decide⟩) rfl) (g := (mkF m 83 #[.val (.int p0), .val (.ref a1), .val (.ref a2)] [(.int (7 : Int32)), (.ref a1), (.int p0)])) rfl rfl (hb hby d1_83) _ ?_
                by_cases hc84 : p0 = (68 : Int32)
                · rw [if_pos hc84] at hr
                  show Steps p.tables e below (T0.setTop (mkF m 84 #[.val (.int p0), .val (.ref a1), .val (.ref a2)] [(.int (68 : Int32)), (.int p0)])) _
                  refine XS.icmpNo X0.here hx rfl (hb hby d1_84) rfl (teq hc84).2 ?_
                  show Steps p.tables e below (T0.setTop (mkF m 87 #[.val (.int p0), .val (.ref a1), .val (.ref a2)] [])) _
                  refine XS.aloadN X0.here hx rfl (hb hby d1_87) rfl rfl ?_
                  show Steps p.tables e below (T0.setTop (mkF m 88 #[.val (.int p0), .val (.ref a1), .val (.ref a2)] [(.ref a2)])) _
                  refine XS.bipush X0.here hx rfl (hb hby d1_88) ?_
                  show Steps p.tables e below (T0.setTop (mkF m 90 #[.val (.int p0), .val (.ref a1), .val (.ref a2)] [(.int (7 : Int32)), (.ref a2)])) _
                  refine X0.iaload hx (j := (7 : Int32)) (v := (.int (8 : Int32))) (by rw [e0]; exact Ar2.1) (State.isArrayOf_alike hZ.alike Ar2.2.1) Ar2.2.2 (inb_of S2 ⟨by decide, by decide⟩) (Has.at H2 (inb_of S2 ⟨by decide, by decide⟩) rfl) (g := (mkF m 90 #[.val (.int p0), .val (.ref a1), .val (.ref a2)] [(.int (7 : Int32)), (.ref a2)])) rfl rfl (hb hby d1_90) _ ?_
                  show Steps p.tables e below (T0.setTop (mkF m 91 #[.val (.int p0), .val (.ref a1), .val (.ref a2)] [(.int (8 : Int32))])) _
                  exact retI X0 hx hret (hb hby d1_91) hr
                · rw [if_neg hc84] at hr
                  show Steps p.tables e below (T0.setTop (mkF m 84 #[.val (.int p0), .val (.ref a1), .val (.ref a2)] [(.int (68 : Int32)), (.int p0)])) _
                  refine XS.icmpYes X0.here hx rfl (pc0 := 84) (pc' := 92) rfl (hb hby d1_84) rfl (feq hc84).2 (by decide) (by decide) ?_
                  show Steps p.tables e below (T0.setTop (mkF m 92 #[.val (.int p0), .val (.ref a1), .val (.ref a2)] [])) _
                  refine XS.iloadN X0.here hx rfl (hb hby d1_92) rfl ?_
                  show Steps p.tables e below (T0.setTop (mkF m 93 #[.val (.int p0), .val (.ref a1), .val (.ref a2)] [(.int p0)])) _
                  refine XS.aloadN X0.here hx rfl (hb hby d1_93) rfl rfl ?_
                  show Steps p.tables e below (T0.setTop (mkF m 94 #[.val (.int p0), .val (.ref a1), .val (.ref a2)] [(.ref a1), (.int p0)])) _
                  refine XS.bipush X0.here hx rfl (hb hby d1_94) ?_
                  show Steps p.tables e below (T0.setTop (mkF m 96 #[.val (.int p0), .val (.ref a1), .val (.ref a2)] [(.int (8 : Int32)), (.ref a1), (.int p0)])) _
                  refine X0.caload hx (j := (8 : Int32)) (v := (.int (76 : Int32))) (by rw [e0]; exact Ar1.1) (State.isArrayOf_alike hZ.alike Ar1.2.1) Ar1.2.2 (inb_of S1 ⟨by decide, by decide⟩) (Has.at H1 (inb_of S1 ⟨by decide, by decide⟩) rfl) (g := (mkF m 96 #[.val (.int p0), .val (.ref a1), .val (.ref a2)] [(.int (8 : Int32)), (.ref a1), (.int p0)])) rfl rfl (hb hby d1_96) _ ?_
                  by_cases hc97 : p0 = (76 : Int32)
                  · rw [if_pos hc97] at hr
                    show Steps p.tables e below (T0.setTop (mkF m 97 #[.val (.int p0), .val (.ref a1), .val (.ref a2)] [(.int (76 : Int32)), (.int p0)])) _
                    refine XS.icmpNo X0.here hx rfl (hb hby d1_97) rfl (teq hc97).2 ?_
                    show Steps p.tables e below (T0.setTop (mkF m 100 #[.val (.int p0), .val (.ref a1), .val (.ref a2)] [])) _
                    refine XS.aloadN X0.here hx rfl (hb hby d1_100) rfl rfl ?_
                    show Steps p.tables e below (T0.setTop (mkF m 101 #[.val (.int p0), .val (.ref a1), .val (.ref a2)] [(.ref a2)])) _
                    refine XS.bipush X0.here hx rfl (hb hby d1_101) ?_
                    show Steps p.tables e below (T0.setTop (mkF m 103 #[.val (.int p0), .val (.ref a1), .val (.ref a2)] [(.int (8 : Int32)), (.ref a2)])) _
                    refine X0.iaload hx (j := (8 : Int32)) (v := (.int (1 : Int32))) (by rw [e0]; exact Ar2.1) (State.isArrayOf_alike hZ.alike Ar2.2.1) Ar2.2.2 (inb_of S2 ⟨by decide, by decide⟩) (Has.at H2 (inb_of S2 ⟨by decide, by decide⟩) rfl) (g := (mkF m 103 #[.val (.int p0), .val (.ref a1), .val (.ref a2)] [(.int (8 : Int32)), (.ref a2)])) rfl rfl (hb hby d1_103) _ ?_
                    show Steps p.tables e below (T0.setTop (mkF m 104 #[.val (.int p0), .val (.ref a1), .val (.ref a2)] [(.int (1 : Int32))])) _
                    exact retI X0 hx hret (hb hby d1_104) hr
                  · rw [if_neg hc97] at hr
                    show Steps p.tables e below (T0.setTop (mkF m 97 #[.val (.int p0), .val (.ref a1), .val (.ref a2)] [(.int (76 : Int32)), (.int p0)])) _
                    refine XS.icmpYes X0.here hx rfl (pc0 := 97) (pc' := 105) rfl (hb hby d1_97) rfl (feq hc97).2 (by decide) (by decide) ?_
                    show Steps p.tables e below (T0.setTop (mkF m 105 #[.val (.int p0), .val (.ref a1), .val (.ref a2)] [])) _
                    refine XS.iconst X0.here hx rfl (hb hby d1_105) ?_
                    show Steps p.tables e below (T0.setTop (mkF m 106 #[.val (.int p0), .val (.ref a1), .val (.ref a2)] [(.int (1 : Int32))])) _
                    exact retI X0 hx hret (hb hby d1_106) hr
theorem own_eq (p0 : Int32) (a1 : Addr) (a2 : Addr) (cl1 : Cell) (cl2 : Cell) : (own1_f0 p0 a1 a2 cl1 cl2) = own_by p0 := by
  rw [own1_e0, own_bye]
  have hd : ∀ k : Int32, p0 = k ∨ ¬ p0 = k := fun k => Decidable.em _
  rcases hd 90 with rfl | h90
  · rfl
  rcases hd 66 with rfl | h66
  · rfl
  rcases hd 67 with rfl | h67
  · rfl
  rcases hd 83 with rfl | h83
  · rfl
  rcases hd 73 with rfl | h73
  · rfl
  rcases hd 74 with rfl | h74
  · rfl
  rcases hd 70 with rfl | h70
  · rfl
  rcases hd 68 with rfl | h68
  · rfl
  rcases hd 76 with rfl | h76
  · rfl
  rw [if_neg h90, if_neg h66, if_neg h67, if_neg h83, if_neg h73, if_neg h74, if_neg h70, if_neg h68, if_neg h76]
  rw [if_neg h67, if_neg h68, if_neg h70, if_neg h73, if_neg h74, if_neg h83]
theorem ef_1 (m : MethodId) (p0 : Int32) (a1 : Addr) (a2 : Addr) : entryFrame m #[(.int p0), (.ref a1), (.ref a2)] 3 = mkF m 0 #[.val (.int p0), .val (.ref a1), .val (.ref a2)] [] := by first | (simp [entryFrame, mkF, argsToLocals, Value.category]; done) | rfl
theorem pn_1 : plainName "com/example/fleetwire/fleetwire/wire/ClassLayoutBytesOfPinLaw" = true := by first | (simp [plainName, overriddenIn]; done) | decide +kernel
def Q1 (p0 : Int32) (a1 : Addr) (a2 : Addr) (cl1 : Cell) (cl2 : Cell) (h0 : Heap) (n0 : Nat) (v : Option Value) (h : Heap) (L : List Loc) : Prop := v = some (.int (own1_f0 p0 a1 a2 cl1 cl2)) ∧ Fr n0 L ∧ h = h0
set_option maxRecDepth 65536 in
set_option maxHeartbeats 40000000 in
theorem rm1 (l : Launch) (Z : State) (t0 : Array Value) (hw : ∀ d ∈ tables_1, d.before t0 Z = true) (ws : List Jvm.Cond) (p0 : Int32) (a1 : Addr) (a2 : Addr) (cl1 : Cell) (cl2 : Cell) (h0 : Heap) (n0 : Nat) (Z0 : n0 ≤ h0.size) (Ar1 : Arr Z h0 a1 cl1 .char) (S1 : cl1.slots.size = (9 : Int32).toNatClampNeg) (H1 : Has cl1 [(.int (90 : Int32)), (.int (66 : Int32)), (.int (67 : Int32)), (.int (83 : Int32)), (.int (73 : Int32)), (.int (74 : Int32)), (.int (70 : Int32)), (.int (68 : Int32)), (.int (76 : Int32))] (.int (0 : Int32))) (Ar2 : Arr Z h0 a2 cl2 .int) (S2 : cl2.slots.size = (9 : Int32).toNatClampNeg) (H2 : Has cl2 [(.int (1 : Int32)), (.int (1 : Int32)), (.int (2 : Int32)), (.int (2 : Int32)), (.int (4 : Int32)), (.int (8 : Int32)), (.int (4 : Int32)), (.int (8 : Int32)), (.int (1 : Int32))] (.int (0 : Int32))) :
    MetFree l (⟨"com/example/fleetwire/fleetwire/wire/ClassLayoutBytesOfPinLaw", "expectedFor", "(C[C[I)I"⟩ : MethodName) (head1 (Jvm.Cond.code (⟨"com/example/fleetwire/fleetwire/wire/ClassLayoutBytesOfPinLaw", "expectedFor", "(C[C[I)I"⟩ : MethodName) method_3_code 3 (some .int) :: ws) ({ frames := 0, cells := 0, slots := 0, locals := 0 } : Room)) (fun a U => a = #[(.int p0), (.ref a1), (.ref a2)] ∧ Z.Warmed39 U.vm ∧ U.heap = h0) (fun _ _ _ _ _ => True) (fun _ U o U' => ∃ v L, o = .returned v ∧ Q1 p0 a1 a2 cl1 cl2 h0 n0 v U'.heap L ∧ FrameEnd U o U' L ({ frames := 0, cells := 0, slots := 0, locals := 0 } : Room).cells ({ frames := 0, cells := 0, slots := 0, locals := 0 } : Room).slots) := by
  refine MetFree.of_bodySF (plainFor_of_name pn_1) hisR ?_
  intro p e s m args below meth c s₁ Bd hml0 hP hK
  obtain ⟨rfl, hZ, hh⟩ := hP
  have hx := Bd.exec
  have hby := Bd.bytes
  have hml : c.maxLocals = 3 := hml0
  have hown : s.vm.findClass "com/example/fleetwire/fleetwire/wire/ClassLayoutBytesOfPinLaw" = some m.cls := findClass_of_methodNamed Bd.named
  have hnm := (name_of_methodNamed Bd.named Bd.method).1
  have X0 : Stand p l e ({ frames := 0, cells := 0, slots := 0, locals := 0 } : Room) s m #[(.int p0), (.ref a1), (.ref a2)] below meth c s₁ [] 0 0 := Stand.of_body Bd
  have e0 : s₁.heap = h0 := by rw [← hh, Bd.state]; rfl
  have N0 := Fr.nil n0
  have pre0 : ∀ t, Steps p.tables e below (s₁.setTop (mkF m 0 #[.val (.int p0), .val (.ref a1), .val (.ref a2)] [])) t → Steps p.tables e below (s₁.setTop (entryFrame m #[(.int p0), (.ref a1), (.ref a2)] 3)) t := fun t k => castTop (ef_1 m p0 a1 a2) k
  obtain ⟨fs, hr, hrun, hended, hW, hsame⟩ := X0.leave (v := some (.int (own1_f0 p0 a1 a2 cl1 cl2))) (fun h => by rw [Bd.returns] at h; cases h)
  refine ⟨_, _, pre0 _ ?_, hrun, hended, _, _, rfl, ?_, ⟨_, rfl⟩, hW, hsame.mono (by decide) (by decide)⟩
  · exact own1_b0 p0 a1 a2 cl1 cl2 X0 hx hZ hw hby hown e0 Ar1 S1 H1 Ar2 S2 H2 Bd.returns hr
  · show Q1 p0 a1 a2 cl1 cl2 h0 n0 _ s₁.heap _
    rw [e0]
    exact ⟨rfl, N0, rfl⟩
theorem own_idx (z : Int32) : ¬ ((z &&& (2147483647 : Int32)) % (9 : Int32)) < 0 ∧ ((z &&& (2147483647 : Int32)) % (9 : Int32)) < (9 : Int32) := by
  have m1 := c_mask z (2147483647 : Int32) 31 (by decide) (by decide)
  have t31 : ((2 ^ 31 : Nat) : Int) = 2147483648 := by decide
  rw [t31] at m1
  have h := (c_irem (z &&& (2147483647 : Int32)) (9 : Int32) 9 (by decide)).1 (by omega)
  have z0 : (0 : Int32).toInt = 0 := by decide
  have z9 : (9 : Int32).toInt = 9 := by decide
  rw [Int32.lt_iff_toInt_lt, Int32.lt_iff_toInt_lt]
  omega
theorem pd_0_0 : parseMethodDescriptor "(C[C[I)I" = some ⟨[.char, (.array .char), (.array .int)], some .int⟩ := by decide +kernel
theorem pd_0_1 : parseMethodDescriptor "(C)I" = some ⟨[.char], some .int⟩ := by decide +kernel
theorem ef_0 (m : MethodId) (p0 : Int32) (p1 : Int32) : entryFrame m #[(.int p0), (.int p1)] maxLocals = mkF m 0 #[.val (.int p0), .val (.int p1), .unset, .unset, .unset, .unset] [] := by first | (simp [entryFrame, mkF, argsToLocals, Value.category, maxLocals]; done) | rfl
theorem pn_0 : plainName "com/example/fleetwire/fleetwire/wire/ClassLayoutBytesOfPinLaw" = true := by first | (simp [plainName, overriddenIn]; done) | decide +kernel
def Q0 (n0 : Nat) (v : Option Value) (L : List Loc) : Prop := v = some (.int (1 : Int32)) ∧ Fr n0 L
set_option maxRecDepth 65536 in
set_option maxHeartbeats 40000000 in
theorem rm0 (l : Launch) (Z : State) (t0 : Array Value) (hw : ∀ d ∈ tables_1, d.before t0 Z = true) (ws : List Jvm.Cond) (p0 : Int32) (p1 : Int32) (h0 : Heap) (n0 : Nat) (Z0 : n0 ≤ h0.size)  :
    MetFree l x (head1 (Jvm.Cond.code x code maxLocals ret :: ws) room_1) (fun a U => a = #[(.int p0), (.int p1)] ∧ Z.Warmed39 U.vm ∧ U.heap = h0) (fun _ _ _ _ _ => True) (fun _ U o U' => ∃ v L, o = .returned v ∧ Q0 n0 v L ∧ FrameEnd U o U' L room_1.cells room_1.slots) := by
  refine MetFree.of_bodySF (plainFor_of_name pn_0) hisR ?_
  intro p e s m args below meth c s₁ Bd hml0 hP hK
  obtain ⟨rfl, hZ, hh⟩ := hP
  have hx := Bd.exec
  have hby := Bd.bytes
  have hml : c.maxLocals = 6 := hml0
  have hown : s.vm.findClass "com/example/fleetwire/fleetwire/wire/ClassLayoutBytesOfPinLaw" = some m.cls := findClass_of_methodNamed Bd.named
  have hnm := (name_of_methodNamed Bd.named Bd.method).1
  have X0 : Stand p l e room_1 s m #[(.int p0), (.int p1)] below meth c s₁ [] 0 0 := Stand.of_body Bd
  have e0 : s₁.heap = h0 := by rw [← hh, Bd.state]; rfl
  have N0 := Fr.nil n0
  have pre0 : ∀ t, Steps p.tables e below (s₁.setTop (mkF m 0 #[.val (.int p0), .val (.int p1), .unset, .unset, .unset, .unset] [])) t → Steps p.tables e below (s₁.setTop (entryFrame m #[(.int p0), (.int p1)] maxLocals)) t := fun t k => castTop (ef_0 m p0 p1) k
  refine own_go pre0 ?_
  refine own_go (B := s₁.setTop (mkF m 2 #[.val (.int p0), .val (.int p1), .unset, .unset, .unset, .unset] [(.int (9 : Int32))])) (fun t kt => ?_) ?_
  · show Steps p.tables e below (s₁.setTop (mkF m 0 #[.val (.int p0), .val (.int p1), .unset, .unset, .unset, .unset] [])) _
    refine XS.bipush X0.here hx rfl (hb hby at_0) ?_
    exact kt
  obtain ⟨T1, h1, k1, X1, e1, E1, A1, st1⟩ := newP X0 hx hZ (hw _ (List.mem_of_getElem? (i := 0) rfl)) e0 (g := (mkF m 2 #[.val (.int p0), .val (.int p1), .unset, .unset, .unset, .unset] [(.int (9 : Int32))])) rfl (hb hby at_2) rfl (by decide) (cap := 9) (by decide) (by decide) (by decide) (by decide)
  obtain ⟨b1, g1⟩ : ∃ z, z = h0.size := ⟨_, rfl⟩
  rw [← g1] at A1 st1
  have g_b1 : n0 ≤ b1 := Nat.le_trans Z0 (Nat.le_of_eq g1.symm)
  have Z1 : n0 ≤ h1.size := Nat.le_trans Z0 E1.1
  have V_b1 : Arv Z h1 b1 k1 .char (9 : Int32) [(.int (0 : Int32)), (.int (0 : Int32)), (.int (0 : Int32)), (.int (0 : Int32)), (.int (0 : Int32)), (.int (0 : Int32)), (.int (0 : Int32)), (.int (0 : Int32)), (.int (0 : Int32))] (.int (0 : Int32)) := (Arv.new A1 (by decide)).pad (pad_rep [] (.int (0 : Int32)) 9)
  refine own_go (B := T1.setTop (mkF m 4 #[.val (.int p0), .val (.int p1), .unset, .unset, .unset, .unset] [(.ref b1)])) (fun t kt => st1 t kt) ?_
  refine own_go (B := T1.setTop (mkF m 8 #[.val (.int p0), .val (.int p1), .unset, .unset, .unset, .unset] [(.int (90 : Int32)), (.int (0 : Int32)), (.ref b1), (.ref b1)])) (fun t kt => ?_) ?_
  · show Steps p.tables e below (T1.setTop (mkF m 4 #[.val (.int p0), .val (.int p1), .unset, .unset, .unset, .unset] [(.ref b1)])) _
    refine XS.dup X1.here hx rfl (hb hby at_4) rfl rfl ?_
    show Steps p.tables e below (T1.setTop (mkF m 5 #[.val (.int p0), .val (.int p1), .unset, .unset, .unset, .unset] [(.ref b1), (.ref b1)])) _
    refine XS.iconst X1.here hx rfl (hb hby at_5) ?_
    show Steps p.tables e below (T1.setTop (mkF m 6 #[.val (.int p0), .val (.int p1), .unset, .unset, .unset, .unset] [(.int (0 : Int32)), (.ref b1), (.ref b1)])) _
    refine XS.bipush X1.here hx rfl (hb hby at_6) ?_
    exact kt
  obtain ⟨cl2, Ar2, q2, S2, M2, H2, G2⟩ := id V_b1
  obtain ⟨T3, h3, X3, e3, W3, st3⟩ := stC X1 hx hZ e1 Ar2 (j := (0 : Int32)) (inb_of S2 ⟨by decide, by decide⟩) (g := (mkF m 8 #[.val (.int p0), .val (.int p1), .unset, .unset, .unset, .unset] [(.int (90 : Int32)), (.int (0 : Int32)), (.ref b1), (.ref b1)])) rfl rfl (hb hby at_8)
  have V_b1_3 : Arv Z h3 b1 k1 .char (9 : Int32) [(.int (90 : Int32)), (.int (0 : Int32)), (.int (0 : Int32)), (.int (0 : Int32)), (.int (0 : Int32)), (.int (0 : Int32)), (.int (0 : Int32)), (.int (0 : Int32)), (.int (0 : Int32))] (.int (0 : Int32)) := Arv.set Ar2 q2 S2 M2 H2 G2 (fits_nar_char _) W3 0 rfl (Nat.le_of_ble_eq_true rfl)
  have Z3 : n0 ≤ h3.size := Nat.le_trans Z1 (Keep.of_wr W3).1
  have N3 := Fr.snoc X3 N0 g_b1
  refine own_go (B := T3.setTop (mkF m 9 #[.val (.int p0), .val (.int p1), .unset, .unset, .unset, .unset] [(.ref b1)])) (fun t kt => st3 t kt) ?_
  refine own_go (B := T3.setTop (mkF m 13 #[.val (.int p0), .val (.int p1), .unset, .unset, .unset, .unset] [(.int (66 : Int32)), (.int (1 : Int32)), (.ref b1), (.ref b1)])) (fun t kt => ?_) ?_
  · show Steps p.tables e below (T3.setTop (mkF m 9 #[.val (.int p0), .val (.int p1), .unset, .unset, .unset, .unset] [(.ref b1)])) _
    refine XS.dup X3.here hx rfl (hb hby at_9) rfl rfl ?_
    show Steps p.tables e below (T3.setTop (mkF m 10 #[.val (.int p0), .val (.int p1), .unset, .unset, .unset, .unset] [(.ref b1), (.ref b1)])) _
    refine XS.iconst X3.here hx rfl (hb hby at_10) ?_
    show Steps p.tables e below (T3.setTop (mkF m 11 #[.val (.int p0), .val (.int p1), .unset, .unset, .unset, .unset] [(.int (1 : Int32)), (.ref b1), (.ref b1)])) _
    refine XS.bipush X3.here hx rfl (hb hby at_11) ?_
    exact kt
  obtain ⟨cl4, Ar4, q4, S4, M4, H4, G4⟩ := id V_b1_3
  obtain ⟨T5, h5, X5, e5, W5, st5⟩ := stC X3 hx hZ e3 Ar4 (j := (1 : Int32)) (inb_of S4 ⟨by decide, by decide⟩) (g := (mkF m 13 #[.val (.int p0), .val (.int p1), .unset, .unset, .unset, .unset] [(.int (66 : Int32)), (.int (1 : Int32)), (.ref b1), (.ref b1)])) rfl rfl (hb hby at_13)
  have V_b1_5 : Arv Z h5 b1 k1 .char (9 : Int32) [(.int (90 : Int32)), (.int (66 : Int32)), (.int (0 : Int32)), (.int (0 : Int32)), (.int (0 : Int32)), (.int (0 : Int32)), (.int (0 : Int32)), (.int (0 : Int32)), (.int (0 : Int32))] (.int (0 : Int32)) := Arv.set Ar4 q4 S4 M4 H4 G4 (fits_nar_char _) W5 1 rfl (Nat.le_of_ble_eq_true rfl)
  have Z5 : n0 ≤ h5.size := Nat.le_trans Z3 (Keep.of_wr W5).1
  have N5 := Fr.snoc X5 N3 g_b1
  refine own_go (B := T5.setTop (mkF m 14 #[.val (.int p0), .val (.int p1), .unset, .unset, .unset, .unset] [(.ref b1)])) (fun t kt => st5 t kt) ?_
  refine own_go (B := T5.setTop (mkF m 18 #[.val (.int p0), .val (.int p1), .unset, .unset, .unset, .unset] [(.int (67 : Int32)), (.int (2 : Int32)), (.ref b1), (.ref b1)])) (fun t kt => ?_) ?_
  · show Steps p.tables e below (T5.setTop (mkF m 14 #[.val (.int p0), .val (.int p1), .unset, .unset, .unset, .unset] [(.ref b1)])) _
    refine XS.dup X5.here hx rfl (hb hby at_14) rfl rfl ?_
    show Steps p.tables e below (T5.setTop (mkF m 15 #[.val (.int p0), .val (.int p1), .unset, .unset, .unset, .unset] [(.ref b1), (.ref b1)])) _
    refine XS.iconst X5.here hx rfl (hb hby at_15) ?_
    show Steps p.tables e below (T5.setTop (mkF m 16 #[.val (.int p0), .val (.int p1), .unset, .unset, .unset, .unset] [(.int (2 : Int32)), (.ref b1), (.ref b1)])) _
    refine XS.bipush X5.here hx rfl (hb hby at_16) ?_
    exact kt
  obtain ⟨cl6, Ar6, q6, S6, M6, H6, G6⟩ := id V_b1_5
  obtain ⟨T7, h7, X7, e7, W7, st7⟩ := stC X5 hx hZ e5 Ar6 (j := (2 : Int32)) (inb_of S6 ⟨by decide, by decide⟩) (g := (mkF m 18 #[.val (.int p0), .val (.int p1), .unset, .unset, .unset, .unset] [(.int (67 : Int32)), (.int (2 : Int32)), (.ref b1), (.ref b1)])) rfl rfl (hb hby at_18)
  have V_b1_7 : Arv Z h7 b1 k1 .char (9 : Int32) [(.int (90 : Int32)), (.int (66 : Int32)), (.int (67 : Int32)), (.int (0 : Int32)), (.int (0 : Int32)), (.int (0 : Int32)), (.int (0 : Int32)), (.int (0 : Int32)), (.int (0 : Int32))] (.int (0 : Int32)) := Arv.set Ar6 q6 S6 M6 H6 G6 (fits_nar_char _) W7 2 rfl (Nat.le_of_ble_eq_true rfl)
  have Z7 : n0 ≤ h7.size := Nat.le_trans Z5 (Keep.of_wr W7).1
  have N7 := Fr.snoc X7 N5 g_b1
  refine own_go (B := T7.setTop (mkF m 19 #[.val (.int p0), .val (.int p1), .unset, .unset, .unset, .unset] [(.ref b1)])) (fun t kt => st7 t kt) ?_
  refine own_go (B := T7.setTop (mkF m 23 #[.val (.int p0), .val (.int p1), .unset, .unset, .unset, .unset] [(.int (83 : Int32)), (.int (3 : Int32)), (.ref b1), (.ref b1)])) (fun t kt => ?_) ?_
  · show Steps p.tables e below (T7.setTop (mkF m 19 #[.val (.int p0), .val (.int p1), .unset, .unset, .unset, .unset] [(.ref b1)])) _
    refine XS.dup X7.here hx rfl (hb hby at_19) rfl rfl ?_
    show Steps p.tables e below (T7.setTop (mkF m 20 #[.val (.int p0), .val (.int p1), .unset, .unset, .unset, .unset] [(.ref b1), (.ref b1)])) _
    refine XS.iconst X7.here hx rfl (hb hby at_20) ?_
    show Steps p.tables e below (T7.setTop (mkF m 21 #[.val (.int p0), .val (.int p1), .unset, .unset, .unset, .unset] [(.int (3 : Int32)), (.ref b1), (.ref b1)])) _
    refine XS.bipush X7.here hx rfl (hb hby at_21) ?_
    exact kt
  obtain ⟨cl8, Ar8, q8, S8, M8, H8, G8⟩ := id V_b1_7
  obtain ⟨T9, h9, X9, e9, W9, st9⟩ := stC X7 hx hZ e7 Ar8 (j := (3 : Int32)) (inb_of S8 ⟨by decide, by decide⟩) (g := (mkF m 23 #[.val (.int p0), .val (.int p1), .unset, .unset, .unset, .unset] [(.int (83 : Int32)), (.int (3 : Int32)), (.ref b1), (.ref b1)])) rfl rfl (hb hby at_23)
  have V_b1_9 : Arv Z h9 b1 k1 .char (9 : Int32) [(.int (90 : Int32)), (.int (66 : Int32)), (.int (67 : Int32)), (.int (83 : Int32)), (.int (0 : Int32)), (.int (0 : Int32)), (.int (0 : Int32)), (.int (0 : Int32)), (.int (0 : Int32))] (.int (0 : Int32)) := Arv.set Ar8 q8 S8 M8 H8 G8 (fits_nar_char _) W9 3 rfl (Nat.le_of_ble_eq_true rfl)
  have Z9 : n0 ≤ h9.size := Nat.le_trans Z7 (Keep.of_wr W9).1
  have N9 := Fr.snoc X9 N7 g_b1
  refine own_go (B := T9.setTop (mkF m 24 #[.val (.int p0), .val (.int p1), .unset, .unset, .unset, .unset] [(.ref b1)])) (fun t kt => st9 t kt) ?_
  refine own_go (B := T9.setTop (mkF m 28 #[.val (.int p0), .val (.int p1), .unset, .unset, .unset, .unset] [(.int (73 : Int32)), (.int (4 : Int32)), (.ref b1), (.ref b1)])) (fun t kt => ?_) ?_
  · show Steps p.tables e below (T9.setTop (mkF m 24 #[.val (.int p0), .val (.int p1), .unset, .unset, .unset, .unset] [(.ref b1)])) _
    refine XS.dup X9.here hx rfl (hb hby at_24) rfl rfl ?_
    show Steps p.tables e below (T9.setTop (mkF m 25 #[.val (.int p0), .val (.int p1), .unset, .unset, .unset, .unset] [(.ref b1), (.ref b1)])) _
    refine XS.iconst X9.here hx rfl (hb hby at_25) ?_
    show Steps p.tables e below (T9.setTop (mkF m 26 #[.val (.int p0), .val (.int p1), .unset, .unset, .unset, .unset] [(.int (4 : Int32)), (.ref b1), (.ref b1)])) _
    refine XS.bipush X9.here hx rfl (hb hby at_26) ?_
    exact kt
  obtain ⟨cl10, Ar10, q10, S10, M10, H10, G10⟩ := id V_b1_9
  obtain ⟨T11, h11, X11, e11, W11, st11⟩ := stC X9 hx hZ e9 Ar10 (j := (4 : Int32)) (inb_of S10 ⟨by decide, by decide⟩) (g := (mkF m 28 #[.val (.int p0), .val (.int p1), .unset, .unset, .unset, .unset] [(.int (73 : Int32)), (.int (4 : Int32)), (.ref b1), (.ref b1)])) rfl rfl (hb hby at_28)
  have V_b1_11 : Arv Z h11 b1 k1 .char (9 : Int32) [(.int (90 : Int32)), (.int (66 : Int32)), (.int (67 : Int32)), (.int (83 : Int32)), (.int (73 : Int32)), (.int (0 : Int32)), (.int (0 : Int32)), (.int (0 : Int32)), (.int (0 : Int32))] (.int (0 : Int32)) := Arv.set Ar10 q10 S10 M10 H10 G10 (fits_nar_char _) W11 4 rfl (Nat.le_of_ble_eq_true rfl)
  have Z11 : n0 ≤ h11.size := Nat.le_trans Z9 (Keep.of_wr W11).1
  have N11 := Fr.snoc X11 N9 g_b1
  refine own_go (B := T11.setTop (mkF m 29 #[.val (.int p0), .val (.int p1), .unset, .unset, .unset, .unset] [(.ref b1)])) (fun t kt => st11 t kt) ?_
  refine own_go (B := T11.setTop (mkF m 33 #[.val (.int p0), .val (.int p1), .unset, .unset, .unset, .unset] [(.int (74 : Int32)), (.int (5 : Int32)), (.ref b1), (.ref b1)])) (fun t kt => ?_) ?_
  · show Steps p.tables e below (T11.setTop (mkF m 29 #[.val (.int p0), .val (.int p1), .unset, .unset, .unset, .unset] [(.ref b1)])) _
    refine XS.dup X11.here hx rfl (hb hby at_29) rfl rfl ?_
    show Steps p.tables e below (T11.setTop (mkF m 30 #[.val (.int p0), .val (.int p1), .unset, .unset, .unset, .unset] [(.ref b1), (.ref b1)])) _
    refine XS.iconst X11.here hx rfl (hb hby at_30) ?_
    show Steps p.tables e below (T11.setTop (mkF m 31 #[.val (.int p0), .val (.int p1), .unset, .unset, .unset, .unset] [(.int (5 : Int32)), (.ref b1), (.ref b1)])) _
    refine XS.bipush X11.here hx rfl (hb hby at_31) ?_
    exact kt
  obtain ⟨cl12, Ar12, q12, S12, M12, H12, G12⟩ := id V_b1_11
  obtain ⟨T13, h13, X13, e13, W13, st13⟩ := stC X11 hx hZ e11 Ar12 (j := (5 : Int32)) (inb_of S12 ⟨by decide, by decide⟩) (g := (mkF m 33 #[.val (.int p0), .val (.int p1), .unset, .unset, .unset, .unset] [(.int (74 : Int32)), (.int (5 : Int32)), (.ref b1), (.ref b1)])) rfl rfl (hb hby at_33)
  have V_b1_13 : Arv Z h13 b1 k1 .char (9 : Int32) [(.int (90 : Int32)), (.int (66 : Int32)), (.int (67 : Int32)), (.int (83 : Int32)), (.int (73 : Int32)), (.int (74 : Int32)), (.int (0 : Int32)), (.int (0 : Int32)), (.int (0 : Int32))] (.int (0 : Int32)) := Arv.set Ar12 q12 S12 M12 H12 G12 (fits_nar_char _) W13 5 rfl (Nat.le_of_ble_eq_true rfl)
  have Z13 : n0 ≤ h13.size := Nat.le_trans Z11 (Keep.of_wr W13).1
  have N13 := Fr.snoc X13 N11 g_b1
  refine own_go (B := T13.setTop (mkF m 34 #[.val (.int p0), .val (.int p1), .unset, .unset, .unset, .unset] [(.ref b1)])) (fun t kt => st13 t kt) ?_
  refine own_go (B := T13.setTop (mkF m 39 #[.val (.int p0), .val (.int p1), .unset, .unset, .unset, .unset] [(.int (70 : Int32)), (.int (6 : Int32)), (.ref b1), (.ref b1)])) (fun t kt => ?_) ?_
  · show Steps p.tables e below (T13.setTop (mkF m 34 #[.val (.int p0), .val (.int p1), .unset, .unset, .unset, .unset] [(.ref b1)])) _
    refine XS.dup X13.here hx rfl (hb hby at_34) rfl rfl ?_
    show Steps p.tables e below (T13.setTop (mkF m 35 #[.val (.int p0), .val (.int p1), .unset, .unset, .unset, .unset] [(.ref b1), (.ref b1)])) _
    refine XS.bipush X13.here hx rfl (hb hby at_35) ?_
    show Steps p.tables e below (T13.setTop (mkF m 37 #[.val (.int p0), .val (.int p1), .unset, .unset, .unset, .unset] [(.int (6 : Int32)), (.ref b1), (.ref b1)])) _
    refine XS.bipush X13.here hx rfl (hb hby at_37) ?_
    exact kt
  obtain ⟨cl14, Ar14, q14, S14, M14, H14, G14⟩ := id V_b1_13
  obtain ⟨T15, h15, X15, e15, W15, st15⟩ := stC X13 hx hZ e13 Ar14 (j := (6 : Int32)) (inb_of S14 ⟨by decide, by decide⟩) (g := (mkF m 39 #[.val (.int p0), .val (.int p1), .unset, .unset, .unset, .unset] [(.int (70 : Int32)), (.int (6 : Int32)), (.ref b1), (.ref b1)])) rfl rfl (hb hby at_39)
  have V_b1_15 : Arv Z h15 b1 k1 .char (9 : Int32) [(.int (90 : Int32)), (.int (66 : Int32)), (.int (67 : Int32)), (.int (83 : Int32)), (.int (73 : Int32)), (.int (74 : Int32)), (.int (70 : Int32)), (.int (0 : Int32)), (.int (0 : Int32))] (.int (0 : Int32)) := Arv.set Ar14 q14 S14 M14 H14 G14 (fits_nar_char _) W15 6 rfl (Nat.le_of_ble_eq_true rfl)
  have Z15 : n0 ≤ h15.size := Nat.le_trans Z13 (Keep.of_wr W15).1
  have N15 := Fr.snoc X15 N13 g_b1
  refine own_go (B := T15.setTop (mkF m 40 #[.val (.int p0), .val (.int p1), .unset, .unset, .unset, .unset] [(.ref b1)])) (fun t kt => st15 t kt) ?_
  refine own_go (B := T15.setTop (mkF m 45 #[.val (.int p0), .val (.int p1), .unset, .unset, .unset, .unset] [(.int (68 : Int32)), (.int (7 : Int32)), (.ref b1), (.ref b1)])) (fun t kt => ?_) ?_
  · show Steps p.tables e below (T15.setTop (mkF m 40 #[.val (.int p0), .val (.int p1), .unset, .unset, .unset, .unset] [(.ref b1)])) _
    refine XS.dup X15.here hx rfl (hb hby at_40) rfl rfl ?_
    show Steps p.tables e below (T15.setTop (mkF m 41 #[.val (.int p0), .val (.int p1), .unset, .unset, .unset, .unset] [(.ref b1), (.ref b1)])) _
    refine XS.bipush X15.here hx rfl (hb hby at_41) ?_
    show Steps p.tables e below (T15.setTop (mkF m 43 #[.val (.int p0), .val (.int p1), .unset, .unset, .unset, .unset] [(.int (7 : Int32)), (.ref b1), (.ref b1)])) _
    refine XS.bipush X15.here hx rfl (hb hby at_43) ?_
    exact kt
  obtain ⟨cl16, Ar16, q16, S16, M16, H16, G16⟩ := id V_b1_15
  obtain ⟨T17, h17, X17, e17, W17, st17⟩ := stC X15 hx hZ e15 Ar16 (j := (7 : Int32)) (inb_of S16 ⟨by decide, by decide⟩) (g := (mkF m 45 #[.val (.int p0), .val (.int p1), .unset, .unset, .unset, .unset] [(.int (68 : Int32)), (.int (7 : Int32)), (.ref b1), (.ref b1)])) rfl rfl (hb hby at_45)
  have V_b1_17 : Arv Z h17 b1 k1 .char (9 : Int32) [(.int (90 : Int32)), (.int (66 : Int32)), (.int (67 : Int32)), (.int (83 : Int32)), (.int (73 : Int32)), (.int (74 : Int32)), (.int (70 : Int32)), (.int (68 : Int32)), (.int (0 : Int32))] (.int (0 : Int32)) := Arv.set Ar16 q16 S16 M16 H16 G16 (fits_nar_char _) W17 7 rfl (Nat.le_of_ble_eq_true rfl)
  have Z17 : n0 ≤ h17.size := Nat.le_trans Z15 (Keep.of_wr W17).1
  have N17 := Fr.snoc X17 N15 g_b1
  refine own_go (B := T17.setTop (mkF m 46 #[.val (.int p0), .val (.int p1), .unset, .unset, .unset, .unset] [(.ref b1)])) (fun t kt => st17 t kt) ?_
  refine own_go (B := T17.setTop (mkF m 51 #[.val (.int p0), .val (.int p1), .unset, .unset, .unset, .unset] [(.int (76 : Int32)), (.int (8 : Int32)), (.ref b1), (.ref b1)])) (fun t kt => ?_) ?_
  · show Steps p.tables e below (T17.setTop (mkF m 46 #[.val (.int p0), .val (.int p1), .unset, .unset, .unset, .unset] [(.ref b1)])) _
    refine XS.dup X17.here hx rfl (hb hby at_46) rfl rfl ?_
    show Steps p.tables e below (T17.setTop (mkF m 47 #[.val (.int p0), .val (.int p1), .unset, .unset, .unset, .unset] [(.ref b1), (.ref b1)])) _
    refine XS.bipush X17.here hx rfl (hb hby at_47) ?_
    show Steps p.tables e below (T17.setTop (mkF m 49 #[.val (.int p0), .val (.int p1), .unset, .unset, .unset, .unset] [(.int (8 : Int32)), (.ref b1), (.ref b1)])) _
    refine XS.bipush X17.here hx rfl (hb hby at_49) ?_
    exact kt
  obtain ⟨cl18, Ar18, q18, S18, M18, H18, G18⟩ := id V_b1_17
  obtain ⟨T19, h19, X19, e19, W19, st19⟩ := stC X17 hx hZ e17 Ar18 (j := (8 : Int32)) (inb_of S18 ⟨by decide, by decide⟩) (g := (mkF m 51 #[.val (.int p0), .val (.int p1), .unset, .unset, .unset, .unset] [(.int (76 : Int32)), (.int (8 : Int32)), (.ref b1), (.ref b1)])) rfl rfl (hb hby at_51)
  have V_b1_19 : Arv Z h19 b1 k1 .char (9 : Int32) [(.int (90 : Int32)), (.int (66 : Int32)), (.int (67 : Int32)), (.int (83 : Int32)), (.int (73 : Int32)), (.int (74 : Int32)), (.int (70 : Int32)), (.int (68 : Int32)), (.int (76 : Int32))] (.int (0 : Int32)) := Arv.set Ar18 q18 S18 M18 H18 G18 (fits_nar_char _) W19 8 rfl (Nat.le_of_ble_eq_true rfl)
  have Z19 : n0 ≤ h19.size := Nat.le_trans Z17 (Keep.of_wr W19).1
  have N19 := Fr.snoc X19 N17 g_b1
  refine own_go (B := T19.setTop (mkF m 52 #[.val (.int p0), .val (.int p1), .unset, .unset, .unset, .unset] [(.ref b1)])) (fun t kt => st19 t kt) ?_
  refine own_go (B := T19.setTop (mkF m 55 #[.val (.int p0), .val (.int p1), .val (.ref b1), .unset, .unset, .unset] [(.int (9 : Int32))])) (fun t kt => ?_) ?_
  · show Steps p.tables e below (T19.setTop (mkF m 52 #[.val (.int p0), .val (.int p1), .unset, .unset, .unset, .unset] [(.ref b1)])) _
    refine XS.astoreN X19.here hx rfl (hb hby at_52) rfl rfl (l' := #[.val (.int p0), .val (.int p1), .val (.ref b1), .unset, .unset, .unset]) rfl ?_
    show Steps p.tables e below (T19.setTop (mkF m 53 #[.val (.int p0), .val (.int p1), .val (.ref b1), .unset, .unset, .unset] [])) _
    refine XS.bipush X19.here hx rfl (hb hby at_53) ?_
    exact kt
  obtain ⟨T20, h20, k20, X20, e20, E20, A20, st20⟩ := newP X19 hx hZ (hw _ (List.mem_of_getElem? (i := 1) rfl)) e19 (g := (mkF m 55 #[.val (.int p0), .val (.int p1), .val (.ref b1), .unset, .unset, .unset] [(.int (9 : Int32))])) rfl (hb hby at_55) rfl (by decide) (cap := 9) (by decide) (by decide) (by decide) (by decide)
  obtain ⟨b20, g20⟩ : ∃ z, z = h19.size := ⟨_, rfl⟩
  rw [← g20] at A20 st20
  have g_b20 : n0 ≤ b20 := Nat.le_trans Z19 (Nat.le_of_eq g20.symm)
  have ne_b1_b20 : b1 ≠ b20 := Nat.ne_of_lt (Nat.lt_of_lt_of_le V_b1_19.lt (Nat.le_of_eq g20.symm))
  have V_b1_20 := V_b1_19.ext E20
  have Z20 : n0 ≤ h20.size := Nat.le_trans Z19 E20.1
  have V_b20 : Arv Z h20 b20 k20 .int (9 : Int32) [(.int (0 : Int32)), (.int (0 : Int32)), (.int (0 : Int32)), (.int (0 : Int32)), (.int (0 : Int32)), (.int (0 : Int32)), (.int (0 : Int32)), (.int (0 : Int32)), (.int (0 : Int32))] (.int (0 : Int32)) := (Arv.new A20 (by decide)).pad (pad_rep [] (.int (0 : Int32)) 9)
  refine own_go (B := T20.setTop (mkF m 57 #[.val (.int p0), .val (.int p1), .val (.ref b1), .unset, .unset, .unset] [(.ref b20)])) (fun t kt => st20 t kt) ?_
  refine own_go (B := T20.setTop (mkF m 60 #[.val (.int p0), .val (.int p1), .val (.ref b1), .unset, .unset, .unset] [(.int (1 : Int32)), (.int (0 : Int32)), (.ref b20), (.ref b20)])) (fun t kt => ?_) ?_
  · show Steps p.tables e below (T20.setTop (mkF m 57 #[.val (.int p0), .val (.int p1), .val (.ref b1), .unset, .unset, .unset] [(.ref b20)])) _
    refine XS.dup X20.here hx rfl (hb hby at_57) rfl rfl ?_
    show Steps p.tables e below (T20.setTop (mkF m 58 #[.val (.int p0), .val (.int p1), .val (.ref b1), .unset, .unset, .unset] [(.ref b20), (.ref b20)])) _
    refine XS.iconst X20.here hx rfl (hb hby at_58) ?_
    show Steps p.tables e below (T20.setTop (mkF m 59 #[.val (.int p0), .val (.int p1), .val (.ref b1), .unset, .unset, .unset] [(.int (0 : Int32)), (.ref b20), (.ref b20)])) _
    refine XS.iconst X20.here hx rfl (hb hby at_59) ?_
    exact kt
  obtain ⟨cl21, Ar21, q21, S21, M21, H21, G21⟩ := id V_b20
  obtain ⟨T22, h22, X22, e22, W22, st22⟩ := stI X20 hx hZ e20 Ar21 (j := (0 : Int32)) (inb_of S21 ⟨by decide, by decide⟩) (g := (mkF m 60 #[.val (.int p0), .val (.int p1), .val (.ref b1), .unset, .unset, .unset] [(.int (1 : Int32)), (.int (0 : Int32)), (.ref b20), (.ref b20)])) rfl rfl (hb hby at_60)
  have V_b20_22 : Arv Z h22 b20 k20 .int (9 : Int32) [(.int (1 : Int32)), (.int (0 : Int32)), (.int (0 : Int32)), (.int (0 : Int32)), (.int (0 : Int32)), (.int (0 : Int32)), (.int (0 : Int32)), (.int (0 : Int32)), (.int (0 : Int32))] (.int (0 : Int32)) := Arv.set Ar21 q21 S21 M21 H21 G21 rfl W22 0 rfl (Nat.le_of_ble_eq_true rfl)
  have V_b1_22 := V_b1_20.other W22 ne_b1_b20
  have Z22 : n0 ≤ h22.size := Nat.le_trans Z20 (Keep.of_wr W22).1
  have N22 := Fr.snoc X22 N19 g_b20
  refine own_go (B := T22.setTop (mkF m 61 #[.val (.int p0), .val (.int p1), .val (.ref b1), .unset, .unset, .unset] [(.ref b20)])) (fun t kt => st22 t kt) ?_
  refine own_go (B := T22.setTop (mkF m 64 #[.val (.int p0), .val (.int p1), .val (.ref b1), .unset, .unset, .unset] [(.int (1 : Int32)), (.int (1 : Int32)), (.ref b20), (.ref b20)])) (fun t kt => ?_) ?_
  · show Steps p.tables e below (T22.setTop (mkF m 61 #[.val (.int p0), .val (.int p1), .val (.ref b1), .unset, .unset, .unset] [(.ref b20)])) _
    refine XS.dup X22.here hx rfl (hb hby at_61) rfl rfl ?_
    show Steps p.tables e below (T22.setTop (mkF m 62 #[.val (.int p0), .val (.int p1), .val (.ref b1), .unset, .unset, .unset] [(.ref b20), (.ref b20)])) _
    refine XS.iconst X22.here hx rfl (hb hby at_62) ?_
    show Steps p.tables e below (T22.setTop (mkF m 63 #[.val (.int p0), .val (.int p1), .val (.ref b1), .unset, .unset, .unset] [(.int (1 : Int32)), (.ref b20), (.ref b20)])) _
    refine XS.iconst X22.here hx rfl (hb hby at_63) ?_
    exact kt
  obtain ⟨cl23, Ar23, q23, S23, M23, H23, G23⟩ := id V_b20_22
  obtain ⟨T24, h24, X24, e24, W24, st24⟩ := stI X22 hx hZ e22 Ar23 (j := (1 : Int32)) (inb_of S23 ⟨by decide, by decide⟩) (g := (mkF m 64 #[.val (.int p0), .val (.int p1), .val (.ref b1), .unset, .unset, .unset] [(.int (1 : Int32)), (.int (1 : Int32)), (.ref b20), (.ref b20)])) rfl rfl (hb hby at_64)
  have V_b20_24 : Arv Z h24 b20 k20 .int (9 : Int32) [(.int (1 : Int32)), (.int (1 : Int32)), (.int (0 : Int32)), (.int (0 : Int32)), (.int (0 : Int32)), (.int (0 : Int32)), (.int (0 : Int32)), (.int (0 : Int32)), (.int (0 : Int32))] (.int (0 : Int32)) := Arv.set Ar23 q23 S23 M23 H23 G23 rfl W24 1 rfl (Nat.le_of_ble_eq_true rfl)
  have V_b1_24 := V_b1_22.other W24 ne_b1_b20
  have Z24 : n0 ≤ h24.size := Nat.le_trans Z22 (Keep.of_wr W24).1
  have N24 := Fr.snoc X24 N22 g_b20
  refine own_go (B := T24.setTop (mkF m 65 #[.val (.int p0), .val (.int p1), .val (.ref b1), .unset, .unset, .unset] [(.ref b20)])) (fun t kt => st24 t kt) ?_
  refine own_go (B := T24.setTop (mkF m 68 #[.val (.int p0), .val (.int p1), .val (.ref b1), .unset, .unset, .unset] [(.int (2 : Int32)), (.int (2 : Int32)), (.ref b20), (.ref b20)])) (fun t kt => ?_) ?_
  · show Steps p.tables e below (T24.setTop (mkF m 65 #[.val (.int p0), .val (.int p1), .val (.ref b1), .unset, .unset, .unset] [(.ref b20)])) _
    refine XS.dup X24.here hx rfl (hb hby at_65) rfl rfl ?_
    show Steps p.tables e below (T24.setTop (mkF m 66 #[.val (.int p0), .val (.int p1), .val (.ref b1), .unset, .unset, .unset] [(.ref b20), (.ref b20)])) _
    refine XS.iconst X24.here hx rfl (hb hby at_66) ?_
    show Steps p.tables e below (T24.setTop (mkF m 67 #[.val (.int p0), .val (.int p1), .val (.ref b1), .unset, .unset, .unset] [(.int (2 : Int32)), (.ref b20), (.ref b20)])) _
    refine XS.iconst X24.here hx rfl (hb hby at_67) ?_
    exact kt
  obtain ⟨cl25, Ar25, q25, S25, M25, H25, G25⟩ := id V_b20_24
  obtain ⟨T26, h26, X26, e26, W26, st26⟩ := stI X24 hx hZ e24 Ar25 (j := (2 : Int32)) (inb_of S25 ⟨by decide, by decide⟩) (g := (mkF m 68 #[.val (.int p0), .val (.int p1), .val (.ref b1), .unset, .unset, .unset] [(.int (2 : Int32)), (.int (2 : Int32)), (.ref b20), (.ref b20)])) rfl rfl (hb hby at_68)
  have V_b20_26 : Arv Z h26 b20 k20 .int (9 : Int32) [(.int (1 : Int32)), (.int (1 : Int32)), (.int (2 : Int32)), (.int (0 : Int32)), (.int (0 : Int32)), (.int (0 : Int32)), (.int (0 : Int32)), (.int (0 : Int32)), (.int (0 : Int32))] (.int (0 : Int32)) := Arv.set Ar25 q25 S25 M25 H25 G25 rfl W26 2 rfl (Nat.le_of_ble_eq_true rfl)
  have V_b1_26 := V_b1_24.other W26 ne_b1_b20
  have Z26 : n0 ≤ h26.size := Nat.le_trans Z24 (Keep.of_wr W26).1
  have N26 := Fr.snoc X26 N24 g_b20
  refine own_go (B := T26.setTop (mkF m 69 #[.val (.int p0), .val (.int p1), .val (.ref b1), .unset, .unset, .unset] [(.ref b20)])) (fun t kt => st26 t kt) ?_
  refine own_go (B := T26.setTop (mkF m 72 #[.val (.int p0), .val (.int p1), .val (.ref b1), .unset, .unset, .unset] [(.int (2 : Int32)), (.int (3 : Int32)), (.ref b20), (.ref b20)])) (fun t kt => ?_) ?_
  · show Steps p.tables e below (T26.setTop (mkF m 69 #[.val (.int p0), .val (.int p1), .val (.ref b1), .unset, .unset, .unset] [(.ref b20)])) _
    refine XS.dup X26.here hx rfl (hb hby at_69) rfl rfl ?_
    show Steps p.tables e below (T26.setTop (mkF m 70 #[.val (.int p0), .val (.int p1), .val (.ref b1), .unset, .unset, .unset] [(.ref b20), (.ref b20)])) _
    refine XS.iconst X26.here hx rfl (hb hby at_70) ?_
    show Steps p.tables e below (T26.setTop (mkF m 71 #[.val (.int p0), .val (.int p1), .val (.ref b1), .unset, .unset, .unset] [(.int (3 : Int32)), (.ref b20), (.ref b20)])) _
    refine XS.iconst X26.here hx rfl (hb hby at_71) ?_
    exact kt
  obtain ⟨cl27, Ar27, q27, S27, M27, H27, G27⟩ := id V_b20_26
  obtain ⟨T28, h28, X28, e28, W28, st28⟩ := stI X26 hx hZ e26 Ar27 (j := (3 : Int32)) (inb_of S27 ⟨by decide, by decide⟩) (g := (mkF m 72 #[.val (.int p0), .val (.int p1), .val (.ref b1), .unset, .unset, .unset] [(.int (2 : Int32)), (.int (3 : Int32)), (.ref b20), (.ref b20)])) rfl rfl (hb hby at_72)
  have V_b20_28 : Arv Z h28 b20 k20 .int (9 : Int32) [(.int (1 : Int32)), (.int (1 : Int32)), (.int (2 : Int32)), (.int (2 : Int32)), (.int (0 : Int32)), (.int (0 : Int32)), (.int (0 : Int32)), (.int (0 : Int32)), (.int (0 : Int32))] (.int (0 : Int32)) := Arv.set Ar27 q27 S27 M27 H27 G27 rfl W28 3 rfl (Nat.le_of_ble_eq_true rfl)
  have V_b1_28 := V_b1_26.other W28 ne_b1_b20
  have Z28 : n0 ≤ h28.size := Nat.le_trans Z26 (Keep.of_wr W28).1
  have N28 := Fr.snoc X28 N26 g_b20
  refine own_go (B := T28.setTop (mkF m 73 #[.val (.int p0), .val (.int p1), .val (.ref b1), .unset, .unset, .unset] [(.ref b20)])) (fun t kt => st28 t kt) ?_
  refine own_go (B := T28.setTop (mkF m 76 #[.val (.int p0), .val (.int p1), .val (.ref b1), .unset, .unset, .unset] [(.int (4 : Int32)), (.int (4 : Int32)), (.ref b20), (.ref b20)])) (fun t kt => ?_) ?_
  · show Steps p.tables e below (T28.setTop (mkF m 73 #[.val (.int p0), .val (.int p1), .val (.ref b1), .unset, .unset, .unset] [(.ref b20)])) _
    refine XS.dup X28.here hx rfl (hb hby at_73) rfl rfl ?_
    show Steps p.tables e below (T28.setTop (mkF m 74 #[.val (.int p0), .val (.int p1), .val (.ref b1), .unset, .unset, .unset] [(.ref b20), (.ref b20)])) _
    refine XS.iconst X28.here hx rfl (hb hby at_74) ?_
    show Steps p.tables e below (T28.setTop (mkF m 75 #[.val (.int p0), .val (.int p1), .val (.ref b1), .unset, .unset, .unset] [(.int (4 : Int32)), (.ref b20), (.ref b20)])) _
    refine XS.iconst X28.here hx rfl (hb hby at_75) ?_
    exact kt
  obtain ⟨cl29, Ar29, q29, S29, M29, H29, G29⟩ := id V_b20_28
  obtain ⟨T30, h30, X30, e30, W30, st30⟩ := stI X28 hx hZ e28 Ar29 (j := (4 : Int32)) (inb_of S29 ⟨by decide, by decide⟩) (g := (mkF m 76 #[.val (.int p0), .val (.int p1), .val (.ref b1), .unset, .unset, .unset] [(.int (4 : Int32)), (.int (4 : Int32)), (.ref b20), (.ref b20)])) rfl rfl (hb hby at_76)
  have V_b20_30 : Arv Z h30 b20 k20 .int (9 : Int32) [(.int (1 : Int32)), (.int (1 : Int32)), (.int (2 : Int32)), (.int (2 : Int32)), (.int (4 : Int32)), (.int (0 : Int32)), (.int (0 : Int32)), (.int (0 : Int32)), (.int (0 : Int32))] (.int (0 : Int32)) := Arv.set Ar29 q29 S29 M29 H29 G29 rfl W30 4 rfl (Nat.le_of_ble_eq_true rfl)
  have V_b1_30 := V_b1_28.other W30 ne_b1_b20
  have Z30 : n0 ≤ h30.size := Nat.le_trans Z28 (Keep.of_wr W30).1
  have N30 := Fr.snoc X30 N28 g_b20
  refine own_go (B := T30.setTop (mkF m 77 #[.val (.int p0), .val (.int p1), .val (.ref b1), .unset, .unset, .unset] [(.ref b20)])) (fun t kt => st30 t kt) ?_
  refine own_go (B := T30.setTop (mkF m 81 #[.val (.int p0), .val (.int p1), .val (.ref b1), .unset, .unset, .unset] [(.int (8 : Int32)), (.int (5 : Int32)), (.ref b20), (.ref b20)])) (fun t kt => ?_) ?_
  · show Steps p.tables e below (T30.setTop (mkF m 77 #[.val (.int p0), .val (.int p1), .val (.ref b1), .unset, .unset, .unset] [(.ref b20)])) _
    refine XS.dup X30.here hx rfl (hb hby at_77) rfl rfl ?_
    show Steps p.tables e below (T30.setTop (mkF m 78 #[.val (.int p0), .val (.int p1), .val (.ref b1), .unset, .unset, .unset] [(.ref b20), (.ref b20)])) _
    refine XS.iconst X30.here hx rfl (hb hby at_78) ?_
    show Steps p.tables e below (T30.setTop (mkF m 79 #[.val (.int p0), .val (.int p1), .val (.ref b1), .unset, .unset, .unset] [(.int (5 : Int32)), (.ref b20), (.ref b20)])) _
    refine XS.bipush X30.here hx rfl (hb hby at_79) ?_
    exact kt
  obtain ⟨cl31, Ar31, q31, S31, M31, H31, G31⟩ := id V_b20_30
  obtain ⟨T32, h32, X32, e32, W32, st32⟩ := stI X30 hx hZ e30 Ar31 (j := (5 : Int32)) (inb_of S31 ⟨by decide, by decide⟩) (g := (mkF m 81 #[.val (.int p0), .val (.int p1), .val (.ref b1), .unset, .unset, .unset] [(.int (8 : Int32)), (.int (5 : Int32)), (.ref b20), (.ref b20)])) rfl rfl (hb hby at_81)
  have V_b20_32 : Arv Z h32 b20 k20 .int (9 : Int32) [(.int (1 : Int32)), (.int (1 : Int32)), (.int (2 : Int32)), (.int (2 : Int32)), (.int (4 : Int32)), (.int (8 : Int32)), (.int (0 : Int32)), (.int (0 : Int32)), (.int (0 : Int32))] (.int (0 : Int32)) := Arv.set Ar31 q31 S31 M31 H31 G31 rfl W32 5 rfl (Nat.le_of_ble_eq_true rfl)
  have V_b1_32 := V_b1_30.other W32 ne_b1_b20
  have Z32 : n0 ≤ h32.size := Nat.le_trans Z30 (Keep.of_wr W32).1
  have N32 := Fr.snoc X32 N30 g_b20
  refine own_go (B := T32.setTop (mkF m 82 #[.val (.int p0), .val (.int p1), .val (.ref b1), .unset, .unset, .unset] [(.ref b20)])) (fun t kt => st32 t kt) ?_
  refine own_go (B := T32.setTop (mkF m 86 #[.val (.int p0), .val (.int p1), .val (.ref b1), .unset, .unset, .unset] [(.int (4 : Int32)), (.int (6 : Int32)), (.ref b20), (.ref b20)])) (fun t kt => ?_) ?_
  · show Steps p.tables e below (T32.setTop (mkF m 82 #[.val (.int p0), .val (.int p1), .val (.ref b1), .unset, .unset, .unset] [(.ref b20)])) _
    refine XS.dup X32.here hx rfl (hb hby at_82) rfl rfl ?_
    show Steps p.tables e below (T32.setTop (mkF m 83 #[.val (.int p0), .val (.int p1), .val (.ref b1), .unset, .unset, .unset] [(.ref b20), (.ref b20)])) _
    refine XS.bipush X32.here hx rfl (hb hby at_83) ?_
    show Steps p.tables e below (T32.setTop (mkF m 85 #[.val (.int p0), .val (.int p1), .val (.ref b1), .unset, .unset, .unset] [(.int (6 : Int32)), (.ref b20), (.ref b20)])) _
    refine XS.iconst X32.here hx rfl (hb hby at_85) ?_
    exact kt
  obtain ⟨cl33, Ar33, q33, S33, M33, H33, G33⟩ := id V_b20_32
  obtain ⟨T34, h34, X34, e34, W34, st34⟩ := stI X32 hx hZ e32 Ar33 (j := (6 : Int32)) (inb_of S33 ⟨by decide, by decide⟩) (g := (mkF m 86 #[.val (.int p0), .val (.int p1), .val (.ref b1), .unset, .unset, .unset] [(.int (4 : Int32)), (.int (6 : Int32)), (.ref b20), (.ref b20)])) rfl rfl (hb hby at_86)
  have V_b20_34 : Arv Z h34 b20 k20 .int (9 : Int32) [(.int (1 : Int32)), (.int (1 : Int32)), (.int (2 : Int32)), (.int (2 : Int32)), (.int (4 : Int32)), (.int (8 : Int32)), (.int (4 : Int32)), (.int (0 : Int32)), (.int (0 : Int32))] (.int (0 : Int32)) := Arv.set Ar33 q33 S33 M33 H33 G33 rfl W34 6 rfl (Nat.le_of_ble_eq_true rfl)
  have V_b1_34 := V_b1_32.other W34 ne_b1_b20
  have Z34 : n0 ≤ h34.size := Nat.le_trans Z32 (Keep.of_wr W34).1
  have N34 := Fr.snoc X34 N32 g_b20
  refine own_go (B := T34.setTop (mkF m 87 #[.val (.int p0), .val (.int p1), .val (.ref b1), .unset, .unset, .unset] [(.ref b20)])) (fun t kt => st34 t kt) ?_
  refine own_go (B := T34.setTop (mkF m 92 #[.val (.int p0), .val (.int p1), .val (.ref b1), .unset, .unset, .unset] [(.int (8 : Int32)), (.int (7 : Int32)), (.ref b20), (.ref b20)])) (fun t kt => ?_) ?_
  · show Steps p.tables e below (T34.setTop (mkF m 87 #[.val (.int p0), .val (.int p1), .val (.ref b1), .unset, .unset, .unset] [(.ref b20)])) _
    refine XS.dup X34.here hx rfl (hb hby at_87) rfl rfl ?_
    show Steps p.tables e below (T34.setTop (mkF m 88 #[.val (.int p0), .val (.int p1), .val (.ref b1), .unset, .unset, .unset] [(.ref b20), (.ref b20)])) _
    refine XS.bipush X34.here hx rfl (hb hby at_88) ?_
    show Steps p.tables e below (T34.setTop (mkF m 90 #[.val (.int p0), .val (.int p1), .val (.ref b1), .unset, .unset, .unset] [(.int (7 : Int32)), (.ref b20), (.ref b20)])) _
    refine XS.bipush X34.here hx rfl (hb hby at_90) ?_
    exact kt
  obtain ⟨cl35, Ar35, q35, S35, M35, H35, G35⟩ := id V_b20_34
  obtain ⟨T36, h36, X36, e36, W36, st36⟩ := stI X34 hx hZ e34 Ar35 (j := (7 : Int32)) (inb_of S35 ⟨by decide, by decide⟩) (g := (mkF m 92 #[.val (.int p0), .val (.int p1), .val (.ref b1), .unset, .unset, .unset] [(.int (8 : Int32)), (.int (7 : Int32)), (.ref b20), (.ref b20)])) rfl rfl (hb hby at_92)
  have V_b20_36 : Arv Z h36 b20 k20 .int (9 : Int32) [(.int (1 : Int32)), (.int (1 : Int32)), (.int (2 : Int32)), (.int (2 : Int32)), (.int (4 : Int32)), (.int (8 : Int32)), (.int (4 : Int32)), (.int (8 : Int32)), (.int (0 : Int32))] (.int (0 : Int32)) := Arv.set Ar35 q35 S35 M35 H35 G35 rfl W36 7 rfl (Nat.le_of_ble_eq_true rfl)
  have V_b1_36 := V_b1_34.other W36 ne_b1_b20
  have Z36 : n0 ≤ h36.size := Nat.le_trans Z34 (Keep.of_wr W36).1
  have N36 := Fr.snoc X36 N34 g_b20
  refine own_go (B := T36.setTop (mkF m 93 #[.val (.int p0), .val (.int p1), .val (.ref b1), .unset, .unset, .unset] [(.ref b20)])) (fun t kt => st36 t kt) ?_
  refine own_go (B := T36.setTop (mkF m 97 #[.val (.int p0), .val (.int p1), .val (.ref b1), .unset, .unset, .unset] [(.int (1 : Int32)), (.int (8 : Int32)), (.ref b20), (.ref b20)])) (fun t kt => ?_) ?_
  · show Steps p.tables e below (T36.setTop (mkF m 93 #[.val (.int p0), .val (.int p1), .val (.ref b1), .unset, .unset, .unset] [(.ref b20)])) _
    refine XS.dup X36.here hx rfl (hb hby at_93) rfl rfl ?_
    show Steps p.tables e below (T36.setTop (mkF m 94 #[.val (.int p0), .val (.int p1), .val (.ref b1), .unset, .unset, .unset] [(.ref b20), (.ref b20)])) _
    refine XS.bipush X36.here hx rfl (hb hby at_94) ?_
    show Steps p.tables e below (T36.setTop (mkF m 96 #[.val (.int p0), .val (.int p1), .val (.ref b1), .unset, .unset, .unset] [(.int (8 : Int32)), (.ref b20), (.ref b20)])) _
    refine XS.iconst X36.here hx rfl (hb hby at_96) ?_
    exact kt
  obtain ⟨cl37, Ar37, q37, S37, M37, H37, G37⟩ := id V_b20_36
  obtain ⟨T38, h38, X38, e38, W38, st38⟩ := stI X36 hx hZ e36 Ar37 (j := (8 : Int32)) (inb_of S37 ⟨by decide, by decide⟩) (g := (mkF m 97 #[.val (.int p0), .val (.int p1), .val (.ref b1), .unset, .unset, .unset] [(.int (1 : Int32)), (.int (8 : Int32)), (.ref b20), (.ref b20)])) rfl rfl (hb hby at_97)
  have V_b20_38 : Arv Z h38 b20 k20 .int (9 : Int32) [(.int (1 : Int32)), (.int (1 : Int32)), (.int (2 : Int32)), (.int (2 : Int32)), (.int (4 : Int32)), (.int (8 : Int32)), (.int (4 : Int32)), (.int (8 : Int32)), (.int (1 : Int32))] (.int (0 : Int32)) := Arv.set Ar37 q37 S37 M37 H37 G37 rfl W38 8 rfl (Nat.le_of_ble_eq_true rfl)
  have V_b1_38 := V_b1_36.other W38 ne_b1_b20
  have Z38 : n0 ≤ h38.size := Nat.le_trans Z36 (Keep.of_wr W38).1
  have N38 := Fr.snoc X38 N36 g_b20
  refine own_go (B := T38.setTop (mkF m 98 #[.val (.int p0), .val (.int p1), .val (.ref b1), .unset, .unset, .unset] [(.ref b20)])) (fun t kt => st38 t kt) ?_
  refine own_go (B := T38.setTop (mkF m 99 #[.val (.int p0), .val (.int p1), .val (.ref b1), .val (.ref b20), .unset, .unset] [])) (fun t kt => ?_) ?_
  · show Steps p.tables e below (T38.setTop (mkF m 98 #[.val (.int p0), .val (.int p1), .val (.ref b1), .unset, .unset, .unset] [(.ref b20)])) _
    refine XS.astoreN X38.here hx rfl (hb hby at_98) rfl rfl (l' := #[.val (.int p0), .val (.int p1), .val (.ref b1), .val (.ref b20), .unset, .unset]) rfl ?_
    exact kt
  obtain ⟨cl39, Ar39, q39, S39, M39, H39, G39⟩ := id V_b1_38
  obtain ⟨cl40, Ar40, q40, S40, M40, H40, G40⟩ := id V_b20_38
  have hin : ¬ (((((p0.toUInt32 >>> ((1 : Int32) &&& 31).toUInt32).toInt32) &&& (2147483647 : Int32)) % (9 : Int32)) < 0 ∨ cl39.slots.size ≤ (((((p0.toUInt32 >>> ((1 : Int32) &&& 31).toUInt32).toInt32) &&& (2147483647 : Int32)) % (9 : Int32))).toNatClampNeg) := inb_of S39 (own_idx _)
  obtain ⟨we, hwe⟩ := fit_I (G39 (((((p0.toUInt32 >>> ((1 : Int32) &&& 31).toUInt32).toInt32) &&& (2147483647 : Int32)) % (9 : Int32))).toNatClampNeg (Nat.lt_of_not_le fun y => hin (Or.inr y))) (Or.inr (Or.inr (Or.inr (Or.inl rfl))))
  have hat : cl39.slots[(((((p0.toUInt32 >>> ((1 : Int32) &&& 31).toUInt32).toInt32) &&& (2147483647 : Int32)) % (9 : Int32))).toNatClampNeg]? = some (.int we) := Has.at H39 hin hwe
  refine own_go (B := T38.setTop (mkF m 109 #[.val (.int p0), .val (.int p1), .val (.ref b1), .val (.ref b20), .val (.int ((p1 &&& (65535 : Int32)).toUInt32.toUInt16.toUInt32.toInt32)), .unset] [(.int (p0 &&& (1 : Int32)))])) (fun t kt => ?_) ?_
  · show Steps p.tables e below (T38.setTop (mkF m 99 #[.val (.int p0), .val (.int p1), .val (.ref b1), .val (.ref b20), .unset, .unset] [])) _
    refine XS.iloadN X38.here hx rfl (hb hby at_99) rfl ?_
    show Steps p.tables e below (T38.setTop (mkF m 100 #[.val (.int p0), .val (.int p1), .val (.ref b1), .val (.ref b20), .unset, .unset] [(.int p1)])) _
    refine X38.ldcInt hx hown (mvT hZ (hw _ (List.mem_of_getElem? (i := 2) rfl))) (g := (mkF m 100 #[.val (.int p0), .val (.int p1), .val (.ref b1), .val (.ref b20), .unset, .unset] [(.int p1)])) rfl (hb hby at_100) _ ?_
    show Steps p.tables e below (T38.setTop (mkF m 102 #[.val (.int p0), .val (.int p1), .val (.ref b1), .val (.ref b20), .unset, .unset] [(.int (65535 : Int32)), (.int p1)])) _
    refine XS.iand X38.here hx rfl (hb hby at_102) rfl ?_
    show Steps p.tables e below (T38.setTop (mkF m 103 #[.val (.int p0), .val (.int p1), .val (.ref b1), .val (.ref b20), .unset, .unset] [(.int (p1 &&& (65535 : Int32)))])) _
    refine XS.i2c X38.here hx rfl (hb hby at_103) rfl ?_
    show Steps p.tables e below (T38.setTop (mkF m 104 #[.val (.int p0), .val (.int p1), .val (.ref b1), .val (.ref b20), .unset, .unset] [(.int ((p1 &&& (65535 : Int32)).toUInt32.toUInt16.toUInt32.toInt32))])) _
    refine XS.istore X38.here hx rfl (hb hby at_104) rfl (l' := #[.val (.int p0), .val (.int p1), .val (.ref b1), .val (.ref b20), .val (.int ((p1 &&& (65535 : Int32)).toUInt32.toUInt16.toUInt32.toInt32)), .unset]) rfl ?_
    show Steps p.tables e below (T38.setTop (mkF m 106 #[.val (.int p0), .val (.int p1), .val (.ref b1), .val (.ref b20), .val (.int ((p1 &&& (65535 : Int32)).toUInt32.toUInt16.toUInt32.toInt32)), .unset] [])) _
    refine XS.iloadN X38.here hx rfl (hb hby at_106) rfl ?_
    show Steps p.tables e below (T38.setTop (mkF m 107 #[.val (.int p0), .val (.int p1), .val (.ref b1), .val (.ref b20), .val (.int ((p1 &&& (65535 : Int32)).toUInt32.toUInt16.toUInt32.toInt32)), .unset] [(.int p0)])) _
    refine XS.iconst X38.here hx rfl (hb hby at_107) ?_
    show Steps p.tables e below (T38.setTop (mkF m 108 #[.val (.int p0), .val (.int p1), .val (.ref b1), .val (.ref b20), .val (.int ((p1 &&& (65535 : Int32)).toUInt32.toUInt16.toUInt32.toInt32)), .unset] [(.int (1 : Int32)), (.int p0)])) _
    refine XS.iand X38.here hx rfl (hb hby at_108) rfl ?_
    exact kt
  by_cases hc : (p0 &&& (1 : Int32)) = (0 : Int32)
  · refine own_go (B := T38.setTop (mkF m 133 #[.val (.int p0), .val (.int p1), .val (.ref b1), .val (.ref b20), .val (.int we), .val (.int ((((p0.toUInt32 >>> ((1 : Int32) &&& 31).toUInt32).toInt32) &&& (2147483647 : Int32)) % (9 : Int32)))] [(.ref b20), (.ref b1), (.int we)])) (fun t kt => ?_) ?_
    · show Steps p.tables e below (T38.setTop (mkF m 109 #[.val (.int p0), .val (.int p1), .val (.ref b1), .val (.ref b20), .val (.int ((p1 &&& (65535 : Int32)).toUInt32.toUInt16.toUInt32.toInt32)), .unset] [(.int (p0 &&& (1 : Int32)))])) _
      refine XS.ifNo X38.here hx rfl (hb hby at_109) rfl ((if0 _ _).trans (teq hc).2) ?_
      show Steps p.tables e below (T38.setTop (mkF m 112 #[.val (.int p0), .val (.int p1), .val (.ref b1), .val (.ref b20), .val (.int ((p1 &&& (65535 : Int32)).toUInt32.toUInt16.toUInt32.toInt32)), .unset] [])) _
      refine XS.iloadN X38.here hx rfl (hb hby at_112) rfl ?_
      show Steps p.tables e below (T38.setTop (mkF m 113 #[.val (.int p0), .val (.int p1), .val (.ref b1), .val (.ref b20), .val (.int ((p1 &&& (65535 : Int32)).toUInt32.toUInt16.toUInt32.toInt32)), .unset] [(.int p0)])) _
      refine XS.iconst X38.here hx rfl (hb hby at_113) ?_
      show Steps p.tables e below (T38.setTop (mkF m 114 #[.val (.int p0), .val (.int p1), .val (.ref b1), .val (.ref b20), .val (.int ((p1 &&& (65535 : Int32)).toUInt32.toUInt16.toUInt32.toInt32)), .unset] [(.int (1 : Int32)), (.int p0)])) _
      refine XS.iushr X38.here hx rfl (hb hby at_114) rfl ?_
      show Steps p.tables e below (T38.setTop (mkF m 115 #[.val (.int p0), .val (.int p1), .val (.ref b1), .val (.ref b20), .val (.int ((p1 &&& (65535 : Int32)).toUInt32.toUInt16.toUInt32.toInt32)), .unset] [(.int ((p0.toUInt32 >>> ((1 : Int32) &&& 31).toUInt32).toInt32))])) _
      refine X38.ldcInt hx hown (mvT hZ (hw _ (List.mem_of_getElem? (i := 3) rfl))) (g := (mkF m 115 #[.val (.int p0), .val (.int p1), .val (.ref b1), .val (.ref b20), .val (.int ((p1 &&& (65535 : Int32)).toUInt32.toUInt16.toUInt32.toInt32)), .unset] [(.int ((p0.toUInt32 >>> ((1 : Int32) &&& 31).toUInt32).toInt32))])) rfl (hb hby at_115) _ ?_
      show Steps p.tables e below (T38.setTop (mkF m 117 #[.val (.int p0), .val (.int p1), .val (.ref b1), .val (.ref b20), .val (.int ((p1 &&& (65535 : Int32)).toUInt32.toUInt16.toUInt32.toInt32)), .unset] [(.int (2147483647 : Int32)), (.int ((p0.toUInt32 >>> ((1 : Int32) &&& 31).toUInt32).toInt32))])) _
      refine XS.iand X38.here hx rfl (hb hby at_117) rfl ?_
      show Steps p.tables e below (T38.setTop (mkF m 118 #[.val (.int p0), .val (.int p1), .val (.ref b1), .val (.ref b20), .val (.int ((p1 &&& (65535 : Int32)).toUInt32.toUInt16.toUInt32.toInt32)), .unset] [(.int (((p0.toUInt32 >>> ((1 : Int32) &&& 31).toUInt32).toInt32) &&& (2147483647 : Int32)))])) _
      refine XS.bipush X38.here hx rfl (hb hby at_118) ?_
      show Steps p.tables e below (T38.setTop (mkF m 120 #[.val (.int p0), .val (.int p1), .val (.ref b1), .val (.ref b20), .val (.int ((p1 &&& (65535 : Int32)).toUInt32.toUInt16.toUInt32.toInt32)), .unset] [(.int (9 : Int32)), (.int (((p0.toUInt32 >>> ((1 : Int32) &&& 31).toUInt32).toInt32) &&& (2147483647 : Int32)))])) _
      refine Jvm.RoadKit.iremM (g := (mkF m 120 #[.val (.int p0), .val (.int p1), .val (.ref b1), .val (.ref b20), .val (.int ((p1 &&& (65535 : Int32)).toUInt32.toUInt16.toUInt32.toInt32)), .unset] [(.int (9 : Int32)), (.int (((p0.toUInt32 >>> ((1 : Int32) &&& 31).toUInt32).toInt32) &&& (2147483647 : Int32)))])) X38 hx rfl (hb hby at_120) rfl (by decide) ?_
      show Steps p.tables e below (T38.setTop (mkF m 121 #[.val (.int p0), .val (.int p1), .val (.ref b1), .val (.ref b20), .val (.int ((p1 &&& (65535 : Int32)).toUInt32.toUInt16.toUInt32.toInt32)), .unset] [(.int ((((p0.toUInt32 >>> ((1 : Int32) &&& 31).toUInt32).toInt32) &&& (2147483647 : Int32)) % (9 : Int32)))])) _
      refine XS.istore X38.here hx rfl (hb hby at_121) rfl (l' := #[.val (.int p0), .val (.int p1), .val (.ref b1), .val (.ref b20), .val (.int ((p1 &&& (65535 : Int32)).toUInt32.toUInt16.toUInt32.toInt32)), .val (.int ((((p0.toUInt32 >>> ((1 : Int32) &&& 31).toUInt32).toInt32) &&& (2147483647 : Int32)) % (9 : Int32)))]) rfl ?_
      show Steps p.tables e below (T38.setTop (mkF m 123 #[.val (.int p0), .val (.int p1), .val (.ref b1), .val (.ref b20), .val (.int ((p1 &&& (65535 : Int32)).toUInt32.toUInt16.toUInt32.toInt32)), .val (.int ((((p0.toUInt32 >>> ((1 : Int32) &&& 31).toUInt32).toInt32) &&& (2147483647 : Int32)) % (9 : Int32)))] [])) _
      refine XS.aloadN X38.here hx rfl (hb hby at_123) rfl rfl ?_
      show Steps p.tables e below (T38.setTop (mkF m 124 #[.val (.int p0), .val (.int p1), .val (.ref b1), .val (.ref b20), .val (.int ((p1 &&& (65535 : Int32)).toUInt32.toUInt16.toUInt32.toInt32)), .val (.int ((((p0.toUInt32 >>> ((1 : Int32) &&& 31).toUInt32).toInt32) &&& (2147483647 : Int32)) % (9 : Int32)))] [(.ref b1)])) _
      refine XS.iload X38.here hx rfl (hb hby at_124) rfl ?_
      show Steps p.tables e below (T38.setTop (mkF m 126 #[.val (.int p0), .val (.int p1), .val (.ref b1), .val (.ref b20), .val (.int ((p1 &&& (65535 : Int32)).toUInt32.toUInt16.toUInt32.toInt32)), .val (.int ((((p0.toUInt32 >>> ((1 : Int32) &&& 31).toUInt32).toInt32) &&& (2147483647 : Int32)) % (9 : Int32)))] [(.int ((((p0.toUInt32 >>> ((1 : Int32) &&& 31).toUInt32).toInt32) &&& (2147483647 : Int32)) % (9 : Int32))), (.ref b1)])) _
      refine X38.caload hx (j := ((((p0.toUInt32 >>> ((1 : Int32) &&& 31).toUInt32).toInt32) &&& (2147483647 : Int32)) % (9 : Int32))) (v := (.int we)) (by rw [e38]; exact Ar39.1) (State.isArrayOf_alike hZ.alike Ar39.2.1) Ar39.2.2 hin hat (g := (mkF m 126 #[.val (.int p0), .val (.int p1), .val (.ref b1), .val (.ref b20), .val (.int ((p1 &&& (65535 : Int32)).toUInt32.toUInt16.toUInt32.toInt32)), .val (.int ((((p0.toUInt32 >>> ((1 : Int32) &&& 31).toUInt32).toInt32) &&& (2147483647 : Int32)) % (9 : Int32)))] [(.int ((((p0.toUInt32 >>> ((1 : Int32) &&& 31).toUInt32).toInt32) &&& (2147483647 : Int32)) % (9 : Int32))), (.ref b1)])) rfl rfl (hb hby at_126) _ ?_
      show Steps p.tables e below (T38.setTop (mkF m 127 #[.val (.int p0), .val (.int p1), .val (.ref b1), .val (.ref b20), .val (.int ((p1 &&& (65535 : Int32)).toUInt32.toUInt16.toUInt32.toInt32)), .val (.int ((((p0.toUInt32 >>> ((1 : Int32) &&& 31).toUInt32).toInt32) &&& (2147483647 : Int32)) % (9 : Int32)))] [(.int we)])) _
      refine XS.istore X38.here hx rfl (hb hby at_127) rfl (l' := #[.val (.int p0), .val (.int p1), .val (.ref b1), .val (.ref b20), .val (.int we), .val (.int ((((p0.toUInt32 >>> ((1 : Int32) &&& 31).toUInt32).toInt32) &&& (2147483647 : Int32)) % (9 : Int32)))]) rfl ?_
      show Steps p.tables e below (T38.setTop (mkF m 129 #[.val (.int p0), .val (.int p1), .val (.ref b1), .val (.ref b20), .val (.int we), .val (.int ((((p0.toUInt32 >>> ((1 : Int32) &&& 31).toUInt32).toInt32) &&& (2147483647 : Int32)) % (9 : Int32)))] [])) _
      refine XS.iload X38.here hx rfl (hb hby at_129) rfl ?_
      show Steps p.tables e below (T38.setTop (mkF m 131 #[.val (.int p0), .val (.int p1), .val (.ref b1), .val (.ref b20), .val (.int we), .val (.int ((((p0.toUInt32 >>> ((1 : Int32) &&& 31).toUInt32).toInt32) &&& (2147483647 : Int32)) % (9 : Int32)))] [(.int we)])) _
      refine XS.aloadN X38.here hx rfl (hb hby at_131) rfl rfl ?_
      show Steps p.tables e below (T38.setTop (mkF m 132 #[.val (.int p0), .val (.int p1), .val (.ref b1), .val (.ref b20), .val (.int we), .val (.int ((((p0.toUInt32 >>> ((1 : Int32) &&& 31).toUInt32).toInt32) &&& (2147483647 : Int32)) % (9 : Int32)))] [(.ref b1), (.int we)])) _
      refine XS.aloadN X38.here hx rfl (hb hby at_132) rfl rfl ?_
      exact kt
    obtain ⟨_, _, ⟨T41, L41, k41, n41⟩, -, X41, ⟨Lc41, hQ41, l41, y41, z41⟩, st41⟩ := Jvm.LawKit.callS X38 hx (y := (⟨"com/example/fleetwire/fleetwire/wire/ClassLayoutBytesOfPinLaw", "expectedFor", "(C[C[I)I"⟩ : MethodName)) hown (mvT hZ (hw _ (List.mem_of_getElem? (i := 4) rfl))) (mvT hZ (hw _ (List.mem_of_getElem? (i := 5) rfl))) (mvT hZ (hw _ (List.mem_of_getElem? (i := 6) rfl))) (mvT hZ (hw _ (List.mem_of_getElem? (i := 7) rfl))) (by decide) (backOf (W := 0) (rm1 l Z t0 hw [] we b1 b20 cl39 cl40 h38 n0 Z38 Ar39 S39 H39 Ar40 S40 H40) hZ (hw _ (List.mem_of_getElem? (i := 7) rfl)) (hw _ (List.mem_of_getElem? (i := 6) rfl)) (by decide) (by decide)) (g := (mkF m 133 #[.val (.int p0), .val (.int p1), .val (.ref b1), .val (.ref b20), .val (.int we), .val (.int ((((p0.toUInt32 >>> ((1 : Int32) &&& 31).toUInt32).toInt32) &&& (2147483647 : Int32)) % (9 : Int32)))] [(.ref b20), (.ref b1), (.int we)])) rfl (by rw [hml]; rfl) (argsL := [(.int we), (.ref b1), (.ref b20)]) (rest := []) (lenOf pd_0_0 rfl) rfl (by show 2 * 0 + _ ≤ _; exact Nat.le_of_eq rfl) (hb hby at_133) (fun _ _ => ⟨rfl, e38, (by decide : 2 + 0 ≤ _), (by decide : 18 + 0 ≤ _)⟩)
    dsimp only [Pt.U, Pt.locs, Pt.cells, Pt.slots] at X41 l41 y41 z41 st41 hQ41
    subst l41 y41 z41
    obtain ⟨rfl, Nq41, hh41⟩ := hQ41
    have N41 := Fr.app N38 Nq41
    have e41 : T41.heap = h38 := hh41
    refine own_go (B := T41.setTop (mkF m 136 #[.val (.int p0), .val (.int p1), .val (.ref b1), .val (.ref b20), .val (.int we), .val (.int ((((p0.toUInt32 >>> ((1 : Int32) &&& 31).toUInt32).toInt32) &&& (2147483647 : Int32)) % (9 : Int32)))] [(.int (own1_f0 we b1 b20 cl39 cl40))])) (fun t kt => st41 t kt) ?_
    refine own_go (B := T41.setTop (mkF m 140 #[.val (.int p0), .val (.int p1), .val (.ref b1), .val (.ref b20), .val (.int we), .val (.int (own1_f0 we b1 b20 cl39 cl40))] [(.int we)])) (fun t kt => ?_) ?_
    · show Steps p.tables e below (T41.setTop (mkF m 136 #[.val (.int p0), .val (.int p1), .val (.ref b1), .val (.ref b20), .val (.int we), .val (.int ((((p0.toUInt32 >>> ((1 : Int32) &&& 31).toUInt32).toInt32) &&& (2147483647 : Int32)) % (9 : Int32)))] [(.int (own1_f0 we b1 b20 cl39 cl40))])) _
      refine XS.istore X41.here hx rfl (hb hby at_136) rfl (l' := #[.val (.int p0), .val (.int p1), .val (.ref b1), .val (.ref b20), .val (.int we), .val (.int (own1_f0 we b1 b20 cl39 cl40))]) rfl ?_
      show Steps p.tables e below (T41.setTop (mkF m 138 #[.val (.int p0), .val (.int p1), .val (.ref b1), .val (.ref b20), .val (.int we), .val (.int (own1_f0 we b1 b20 cl39 cl40))] [])) _
      refine XS.iload X41.here hx rfl (hb hby at_138) rfl ?_
      exact kt
    obtain ⟨_, _, ⟨T42, L42, k42, n42⟩, -, X42, ⟨Lc42, hQ42, l42, y42, z42⟩, st42⟩ := Jvm.LawKit.callS X41 hx (y := (⟨"com/example/fleetwire/fleetwire/wire/ClassLayout", "bytesOf", "(C)I"⟩ : MethodName)) hown (mvT hZ (hw _ (List.mem_of_getElem? (i := 8) rfl))) (mvT hZ (hw _ (List.mem_of_getElem? (i := 9) rfl))) (mvT hZ (hw _ (List.mem_of_getElem? (i := 10) rfl))) (mvT hZ (hw _ (List.mem_of_getElem? (i := 11) rfl))) (by decide) (backOf (W := 0) (rm2 l Z t0 hw [] we h38 n0 Z38) hZ (hw _ (List.mem_of_getElem? (i := 11) rfl)) (hw _ (List.mem_of_getElem? (i := 10) rfl)) (by decide) (by decide)) (g := (mkF m 140 #[.val (.int p0), .val (.int p1), .val (.ref b1), .val (.ref b20), .val (.int we), .val (.int (own1_f0 we b1 b20 cl39 cl40))] [(.int we)])) rfl (by rw [hml]; rfl) (argsL := [(.int we)]) (rest := []) (lenOf pd_0_1 rfl) rfl (by show 2 * 0 + _ ≤ _; exact Nat.le_of_eq rfl) (hb hby at_140) (fun _ _ => ⟨rfl, e41, (by decide : 2 + 0 ≤ _), (by decide : 18 + 0 ≤ _)⟩)
    dsimp only [Pt.U, Pt.locs, Pt.cells, Pt.slots] at X42 l42 y42 z42 st42 hQ42
    subst l42 y42 z42
    obtain ⟨rfl, Nq42, hh42⟩ := hQ42
    have N42 := Fr.app N41 Nq42
    have e42 : T42.heap = h38 := hh42
    refine own_go (B := T42.setTop (mkF m 143 #[.val (.int p0), .val (.int p1), .val (.ref b1), .val (.ref b20), .val (.int we), .val (.int (own1_f0 we b1 b20 cl39 cl40))] [(.int (own_by we))])) (fun t kt => st42 t kt) ?_
    refine own_go (B := T42.setTop (mkF m 153 #[.val (.int p0), .val (.int p1), .val (.ref b1), .val (.ref b20), .val (.int we), .val (.int (own1_f0 we b1 b20 cl39 cl40))] [(.int (1 : Int32))])) (fun t kt => ?_) ?_
    · show Steps p.tables e below (T42.setTop (mkF m 143 #[.val (.int p0), .val (.int p1), .val (.ref b1), .val (.ref b20), .val (.int we), .val (.int (own1_f0 we b1 b20 cl39 cl40))] [(.int (own_by we))])) _
      refine XS.iload X42.here hx rfl (hb hby at_143) rfl ?_
      show Steps p.tables e below (T42.setTop (mkF m 145 #[.val (.int p0), .val (.int p1), .val (.ref b1), .val (.ref b20), .val (.int we), .val (.int (own1_f0 we b1 b20 cl39 cl40))] [(.int (own1_f0 we b1 b20 cl39 cl40)), (.int (own_by we))])) _
      refine XS.icmpNo X42.here hx rfl (hb hby at_145) rfl (teq (own_eq we b1 b20 cl39 cl40).symm).2 ?_
      show Steps p.tables e below (T42.setTop (mkF m 148 #[.val (.int p0), .val (.int p1), .val (.ref b1), .val (.ref b20), .val (.int we), .val (.int (own1_f0 we b1 b20 cl39 cl40))] [])) _
      refine XS.iconst X42.here hx rfl (hb hby at_148) ?_
      show Steps p.tables e below (T42.setTop (mkF m 149 #[.val (.int p0), .val (.int p1), .val (.ref b1), .val (.ref b20), .val (.int we), .val (.int (own1_f0 we b1 b20 cl39 cl40))] [(.int (1 : Int32))])) _
      refine XS.goto X42.here hx rfl (pc0 := 149) (pc' := 153) rfl (hb hby at_149) (by decide) (by decide) ?_
      exact kt
    obtain ⟨fs, hr, hrun, hended, hW, hsame⟩ := X42.leave (v := some (.int (1 : Int32))) (fun h => by rw [Bd.returns] at h; cases h)
    refine ⟨_, _, ?_, hrun, hended, _, _, rfl, ?_, ⟨_, rfl⟩, hW, hsame.mono (by decide) (by decide)⟩
    · show Steps p.tables e below (T42.setTop (mkF m 153 #[.val (.int p0), .val (.int p1), .val (.ref b1), .val (.ref b20), .val (.int we), .val (.int (own1_f0 we b1 b20 cl39 cl40))] [(.int (1 : Int32))])) _
      exact retN X42 hx (t := .boolean) Bd.returns (by simp) (hb hby at_153) hr
    · show Q0 n0 _ _
      exact ⟨rfl, N42⟩
  · refine own_go (B := T38.setTop (mkF m 133 #[.val (.int p0), .val (.int p1), .val (.ref b1), .val (.ref b20), .val (.int ((p1 &&& (65535 : Int32)).toUInt32.toUInt16.toUInt32.toInt32)), .unset] [(.ref b20), (.ref b1), (.int ((p1 &&& (65535 : Int32)).toUInt32.toUInt16.toUInt32.toInt32))])) (fun t kt => ?_) ?_
    · show Steps p.tables e below (T38.setTop (mkF m 109 #[.val (.int p0), .val (.int p1), .val (.ref b1), .val (.ref b20), .val (.int ((p1 &&& (65535 : Int32)).toUInt32.toUInt16.toUInt32.toInt32)), .unset] [(.int (p0 &&& (1 : Int32)))])) _
      refine XS.ifYes X38.here hx rfl (pc0 := 109) (pc' := 129) rfl (hb hby at_109) rfl ((if0 _ _).trans (feq hc).2) (by decide) (by decide) ?_
      show Steps p.tables e below (T38.setTop (mkF m 129 #[.val (.int p0), .val (.int p1), .val (.ref b1), .val (.ref b20), .val (.int ((p1 &&& (65535 : Int32)).toUInt32.toUInt16.toUInt32.toInt32)), .unset] [])) _
      refine XS.iload X38.here hx rfl (hb hby at_129) rfl ?_
      show Steps p.tables e below (T38.setTop (mkF m 131 #[.val (.int p0), .val (.int p1), .val (.ref b1), .val (.ref b20), .val (.int ((p1 &&& (65535 : Int32)).toUInt32.toUInt16.toUInt32.toInt32)), .unset] [(.int ((p1 &&& (65535 : Int32)).toUInt32.toUInt16.toUInt32.toInt32))])) _
      refine XS.aloadN X38.here hx rfl (hb hby at_131) rfl rfl ?_
      show Steps p.tables e below (T38.setTop (mkF m 132 #[.val (.int p0), .val (.int p1), .val (.ref b1), .val (.ref b20), .val (.int ((p1 &&& (65535 : Int32)).toUInt32.toUInt16.toUInt32.toInt32)), .unset] [(.ref b1), (.int ((p1 &&& (65535 : Int32)).toUInt32.toUInt16.toUInt32.toInt32))])) _
      refine XS.aloadN X38.here hx rfl (hb hby at_132) rfl rfl ?_
      exact kt
    obtain ⟨_, _, ⟨T43, L43, k43, n43⟩, -, X43, ⟨Lc43, hQ43, l43, y43, z43⟩, st43⟩ := Jvm.LawKit.callS X38 hx (y := (⟨"com/example/fleetwire/fleetwire/wire/ClassLayoutBytesOfPinLaw", "expectedFor", "(C[C[I)I"⟩ : MethodName)) hown (mvT hZ (hw _ (List.mem_of_getElem? (i := 4) rfl))) (mvT hZ (hw _ (List.mem_of_getElem? (i := 5) rfl))) (mvT hZ (hw _ (List.mem_of_getElem? (i := 6) rfl))) (mvT hZ (hw _ (List.mem_of_getElem? (i := 7) rfl))) (by decide) (backOf (W := 0) (rm1 l Z t0 hw [] ((p1 &&& (65535 : Int32)).toUInt32.toUInt16.toUInt32.toInt32) b1 b20 cl39 cl40 h38 n0 Z38 Ar39 S39 H39 Ar40 S40 H40) hZ (hw _ (List.mem_of_getElem? (i := 7) rfl)) (hw _ (List.mem_of_getElem? (i := 6) rfl)) (by decide) (by decide)) (g := (mkF m 133 #[.val (.int p0), .val (.int p1), .val (.ref b1), .val (.ref b20), .val (.int ((p1 &&& (65535 : Int32)).toUInt32.toUInt16.toUInt32.toInt32)), .unset] [(.ref b20), (.ref b1), (.int ((p1 &&& (65535 : Int32)).toUInt32.toUInt16.toUInt32.toInt32))])) rfl (by rw [hml]; rfl) (argsL := [(.int ((p1 &&& (65535 : Int32)).toUInt32.toUInt16.toUInt32.toInt32)), (.ref b1), (.ref b20)]) (rest := []) (lenOf pd_0_0 rfl) rfl (by show 2 * 0 + _ ≤ _; exact Nat.le_of_eq rfl) (hb hby at_133) (fun _ _ => ⟨rfl, e38, (by decide : 2 + 0 ≤ _), (by decide : 18 + 0 ≤ _)⟩)
    dsimp only [Pt.U, Pt.locs, Pt.cells, Pt.slots] at X43 l43 y43 z43 st43 hQ43
    subst l43 y43 z43
    obtain ⟨rfl, Nq43, hh43⟩ := hQ43
    have N43 := Fr.app N38 Nq43
    have e43 : T43.heap = h38 := hh43
    refine own_go (B := T43.setTop (mkF m 136 #[.val (.int p0), .val (.int p1), .val (.ref b1), .val (.ref b20), .val (.int ((p1 &&& (65535 : Int32)).toUInt32.toUInt16.toUInt32.toInt32)), .unset] [(.int (own1_f0 ((p1 &&& (65535 : Int32)).toUInt32.toUInt16.toUInt32.toInt32) b1 b20 cl39 cl40))])) (fun t kt => st43 t kt) ?_
    refine own_go (B := T43.setTop (mkF m 140 #[.val (.int p0), .val (.int p1), .val (.ref b1), .val (.ref b20), .val (.int ((p1 &&& (65535 : Int32)).toUInt32.toUInt16.toUInt32.toInt32)), .val (.int (own1_f0 ((p1 &&& (65535 : Int32)).toUInt32.toUInt16.toUInt32.toInt32) b1 b20 cl39 cl40))] [(.int ((p1 &&& (65535 : Int32)).toUInt32.toUInt16.toUInt32.toInt32))])) (fun t kt => ?_) ?_
    · show Steps p.tables e below (T43.setTop (mkF m 136 #[.val (.int p0), .val (.int p1), .val (.ref b1), .val (.ref b20), .val (.int ((p1 &&& (65535 : Int32)).toUInt32.toUInt16.toUInt32.toInt32)), .unset] [(.int (own1_f0 ((p1 &&& (65535 : Int32)).toUInt32.toUInt16.toUInt32.toInt32) b1 b20 cl39 cl40))])) _
      refine XS.istore X43.here hx rfl (hb hby at_136) rfl (l' := #[.val (.int p0), .val (.int p1), .val (.ref b1), .val (.ref b20), .val (.int ((p1 &&& (65535 : Int32)).toUInt32.toUInt16.toUInt32.toInt32)), .val (.int (own1_f0 ((p1 &&& (65535 : Int32)).toUInt32.toUInt16.toUInt32.toInt32) b1 b20 cl39 cl40))]) rfl ?_
      show Steps p.tables e below (T43.setTop (mkF m 138 #[.val (.int p0), .val (.int p1), .val (.ref b1), .val (.ref b20), .val (.int ((p1 &&& (65535 : Int32)).toUInt32.toUInt16.toUInt32.toInt32)), .val (.int (own1_f0 ((p1 &&& (65535 : Int32)).toUInt32.toUInt16.toUInt32.toInt32) b1 b20 cl39 cl40))] [])) _
      refine XS.iload X43.here hx rfl (hb hby at_138) rfl ?_
      exact kt
    obtain ⟨_, _, ⟨T44, L44, k44, n44⟩, -, X44, ⟨Lc44, hQ44, l44, y44, z44⟩, st44⟩ := Jvm.LawKit.callS X43 hx (y := (⟨"com/example/fleetwire/fleetwire/wire/ClassLayout", "bytesOf", "(C)I"⟩ : MethodName)) hown (mvT hZ (hw _ (List.mem_of_getElem? (i := 8) rfl))) (mvT hZ (hw _ (List.mem_of_getElem? (i := 9) rfl))) (mvT hZ (hw _ (List.mem_of_getElem? (i := 10) rfl))) (mvT hZ (hw _ (List.mem_of_getElem? (i := 11) rfl))) (by decide) (backOf (W := 0) (rm2 l Z t0 hw [] ((p1 &&& (65535 : Int32)).toUInt32.toUInt16.toUInt32.toInt32) h38 n0 Z38) hZ (hw _ (List.mem_of_getElem? (i := 11) rfl)) (hw _ (List.mem_of_getElem? (i := 10) rfl)) (by decide) (by decide)) (g := (mkF m 140 #[.val (.int p0), .val (.int p1), .val (.ref b1), .val (.ref b20), .val (.int ((p1 &&& (65535 : Int32)).toUInt32.toUInt16.toUInt32.toInt32)), .val (.int (own1_f0 ((p1 &&& (65535 : Int32)).toUInt32.toUInt16.toUInt32.toInt32) b1 b20 cl39 cl40))] [(.int ((p1 &&& (65535 : Int32)).toUInt32.toUInt16.toUInt32.toInt32))])) rfl (by rw [hml]; rfl) (argsL := [(.int ((p1 &&& (65535 : Int32)).toUInt32.toUInt16.toUInt32.toInt32))]) (rest := []) (lenOf pd_0_1 rfl) rfl (by show 2 * 0 + _ ≤ _; exact Nat.le_of_eq rfl) (hb hby at_140) (fun _ _ => ⟨rfl, e43, (by decide : 2 + 0 ≤ _), (by decide : 18 + 0 ≤ _)⟩)
    dsimp only [Pt.U, Pt.locs, Pt.cells, Pt.slots] at X44 l44 y44 z44 st44 hQ44
    subst l44 y44 z44
    obtain ⟨rfl, Nq44, hh44⟩ := hQ44
    have N44 := Fr.app N43 Nq44
    have e44 : T44.heap = h38 := hh44
    refine own_go (B := T44.setTop (mkF m 143 #[.val (.int p0), .val (.int p1), .val (.ref b1), .val (.ref b20), .val (.int ((p1 &&& (65535 : Int32)).toUInt32.toUInt16.toUInt32.toInt32)), .val (.int (own1_f0 ((p1 &&& (65535 : Int32)).toUInt32.toUInt16.toUInt32.toInt32) b1 b20 cl39 cl40))] [(.int (own_by ((p1 &&& (65535 : Int32)).toUInt32.toUInt16.toUInt32.toInt32)))])) (fun t kt => st44 t kt) ?_
    refine own_go (B := T44.setTop (mkF m 153 #[.val (.int p0), .val (.int p1), .val (.ref b1), .val (.ref b20), .val (.int ((p1 &&& (65535 : Int32)).toUInt32.toUInt16.toUInt32.toInt32)), .val (.int (own1_f0 ((p1 &&& (65535 : Int32)).toUInt32.toUInt16.toUInt32.toInt32) b1 b20 cl39 cl40))] [(.int (1 : Int32))])) (fun t kt => ?_) ?_
    · show Steps p.tables e below (T44.setTop (mkF m 143 #[.val (.int p0), .val (.int p1), .val (.ref b1), .val (.ref b20), .val (.int ((p1 &&& (65535 : Int32)).toUInt32.toUInt16.toUInt32.toInt32)), .val (.int (own1_f0 ((p1 &&& (65535 : Int32)).toUInt32.toUInt16.toUInt32.toInt32) b1 b20 cl39 cl40))] [(.int (own_by ((p1 &&& (65535 : Int32)).toUInt32.toUInt16.toUInt32.toInt32)))])) _
      refine XS.iload X44.here hx rfl (hb hby at_143) rfl ?_
      show Steps p.tables e below (T44.setTop (mkF m 145 #[.val (.int p0), .val (.int p1), .val (.ref b1), .val (.ref b20), .val (.int ((p1 &&& (65535 : Int32)).toUInt32.toUInt16.toUInt32.toInt32)), .val (.int (own1_f0 ((p1 &&& (65535 : Int32)).toUInt32.toUInt16.toUInt32.toInt32) b1 b20 cl39 cl40))] [(.int (own1_f0 ((p1 &&& (65535 : Int32)).toUInt32.toUInt16.toUInt32.toInt32) b1 b20 cl39 cl40)), (.int (own_by ((p1 &&& (65535 : Int32)).toUInt32.toUInt16.toUInt32.toInt32)))])) _
      refine XS.icmpNo X44.here hx rfl (hb hby at_145) rfl (teq (own_eq ((p1 &&& (65535 : Int32)).toUInt32.toUInt16.toUInt32.toInt32) b1 b20 cl39 cl40).symm).2 ?_
      show Steps p.tables e below (T44.setTop (mkF m 148 #[.val (.int p0), .val (.int p1), .val (.ref b1), .val (.ref b20), .val (.int ((p1 &&& (65535 : Int32)).toUInt32.toUInt16.toUInt32.toInt32)), .val (.int (own1_f0 ((p1 &&& (65535 : Int32)).toUInt32.toUInt16.toUInt32.toInt32) b1 b20 cl39 cl40))] [])) _
      refine XS.iconst X44.here hx rfl (hb hby at_148) ?_
      show Steps p.tables e below (T44.setTop (mkF m 149 #[.val (.int p0), .val (.int p1), .val (.ref b1), .val (.ref b20), .val (.int ((p1 &&& (65535 : Int32)).toUInt32.toUInt16.toUInt32.toInt32)), .val (.int (own1_f0 ((p1 &&& (65535 : Int32)).toUInt32.toUInt16.toUInt32.toInt32) b1 b20 cl39 cl40))] [(.int (1 : Int32))])) _
      refine XS.goto X44.here hx rfl (pc0 := 149) (pc' := 153) rfl (hb hby at_149) (by decide) (by decide) ?_
      exact kt
    obtain ⟨fs, hr, hrun, hended, hW, hsame⟩ := X44.leave (v := some (.int (1 : Int32))) (fun h => by rw [Bd.returns] at h; cases h)
    refine ⟨_, _, ?_, hrun, hended, _, _, rfl, ?_, ⟨_, rfl⟩, hW, hsame.mono (by decide) (by decide)⟩
    · show Steps p.tables e below (T44.setTop (mkF m 153 #[.val (.int p0), .val (.int p1), .val (.ref b1), .val (.ref b20), .val (.int ((p1 &&& (65535 : Int32)).toUInt32.toUInt16.toUInt32.toInt32)), .val (.int (own1_f0 ((p1 &&& (65535 : Int32)).toUInt32.toUInt16.toUInt32.toInt32) b1 b20 cl39 cl40))] [(.int (1 : Int32))])) _
      exact retN X44 hx (t := .boolean) Bd.returns (by simp) (hb hby at_153) hr
    · show Q0 n0 _ _
      exact ⟨rfl, N44⟩
set_option maxRecDepth 65536 in
set_option maxHeartbeats 40000000 in
theorem comes_1 {Post : Tables → Env → Array Value → State → Outcome → State → Prop} (hpost : ∀ tb e args s v u, (limb_1_1.after args s (.returned v) u = true ∧ limb_1_2.after args s (.returned v) u = true ∧ True) → FrameEnd s (.returned v) u (Jvm.fieldLocs frame_1_writes args s ++ Jvm.arrayLocs frame_1_arrays args s ++ Jvm.staticLocs frame_1_statics s) 16 128 → Post tb e args s (.returned v) u) :
    ArmFor flags0 classFile x code maxLocals ret World_1 tables_1 room_1 Calls_1 rest_1 Pre_1 Post := by
  intro l hfl _ _ p e ha hc hk s m args below hf hA hF happ hP
  obtain ⟨hcalls, hrest, hpre⟩ := hP
  obtain ⟨-, -, -, hnamed, -, -, -, hat⟩ := (Spec.applies_iff hf).mp happ
  obtain ⟨hg, hn⟩ := and_e (Cond.before_iff.mp (show (Jvm.Cond.and given_1 narrow_1).before args s = true from hpre))
  obtain ⟨ga0, gb0⟩ := and_e hg
  obtain ⟨ga1, gb1⟩ := and_e gb0
  obtain ⟨w0, w1, rfl⟩ : ∃ w0 w1 : Value, args = #[w0, w1] := by
    have hs : args.size = 2 := by simpa [Cond.value, given_1] using ga0
    obtain ⟨L⟩ := args
    match L, hs with
    | [w0, w1], _ => exact ⟨w0, w1, rfl⟩
  have hw := fun d (hd : d ∈ tables_1) => atoms_spec (ws := Jvm.Cond.code x code maxLocals ret :: tables_1) hat d (List.mem_cons_of_mem _ hd)
  obtain ⟨i0, ei0⟩ := is_v ga1
  obtain rfl : w0 = (.int i0) := Option.some.inj ei0
  obtain ⟨i1, ei1⟩ := is_v gb1
  obtain rfl : w1 = (.int i1) := Option.some.inj ei1
  obtain ⟨n, o, h1, h2, h3, _, L, rfl, ⟨rfl, N⟩, hq⟩ := rm0 l s _ hw tables_1 i0 i1 s.heap s.heap.size (Nat.le_refl _)  p e ha hc hk s m _ below hf ((Spec.applies_iff_loose hf).mp happ).1 ⟨rfl, State.Warmed39.refl s, rfl⟩ trivial
  refine ⟨n, _, h1, h2, h3, hpost _ _ _ _ _ _ ⟨Cond.after_iff.mpr rfl, Cond.after_iff.mpr (eq_i res_at (Term.int_eval (1)) rfl), trivial⟩ ⟨hq.1, hq.2.1, (hq.2.2.sift fun y hy => Or.inr (N y hy)).mono (by decide) (by decide)⟩⟩
theorem main_1_1 : Claimed_1_1 := comes_1 fun _ _ _ _ _ _ h hF => ⟨h.1, hF⟩
theorem main_1_2 : Claimed_1_2 := comes_1 fun _ _ _ _ _ _ h hF => ⟨h.2.1, hF⟩
end Jvm.Pilot.@@N@@
namespace Jvm.Pilot.@@N@@
open Jvm Jvm.ClassFile Sem Op Lib Jvm.Free Jvm.Stand Jvm.Pilot.@@N@@.Jvm.D
/-! MADE BY PROGRAM (witnessworld.py) out of the Statement's table words and the real class files: 11 classes; the members and pool entries that the words name. The judged class is class 1, her method 1. -/
namespace start1
open Jvm.ClassFile
def u (s : String) : CpInfo := .utf8 (stringToUtf16 s)
/-- a pool by its gaps: so many unusable entries, then the entry; so many at the end -/
def gap : Nat → List CpInfo → List CpInfo
  | 0, r => r
  | n + 1, r => .unusable :: gap n r
def poolList (es : List (Nat × CpInfo)) (last : Nat) : List CpInfo := es.foldr (fun e r => gap e.1 (e.2 :: r)) (gap last [])
def pool (es : List (Nat × CpInfo)) (last : Nat) : Array CpInfo := ⟨poolList es last⟩
def fileOf (pool : Array CpInfo) (this : Nat) (attrs : Array Attribute := #[]) (ms : Array MethodInfo := #[]) (fl : Nat := 33) (sup : Nat := 0) (ifs : Array Nat := #[]) (fds : Array FieldInfo := #[]) : ClassFile where
  minorVersion := 0
  majorVersion := 65
  constantPool := pool
  accessFlags := fl
  thisClass := this
  superClass := sup
  interfaces := ifs
  fields := fds
  methods := ms
  attributes := attrs
def plain (name : String) (sup : Option ClassId) : Class where
  name := name
  kind := .ordinary
  loader := none
  accessFlags := 33
  super := sup
  interfaces := #[]
  cf := none
  fields := #[]
  methods := #[]
  instanceTypes := #[]
  staticTypes := #[]
  resolved := #[]
  callSites := []
  init := .initialized
  statics := none
  mirror := none

def pool0 : Array CpInfo := pool [(5, u "<init>"), (0, u "()V"), (1, .class_ 10), (1, u "java/lang/Object")] 113

def k0m0 : Method := { name := "<init>", desc := "()V", sig := { parameters := [], returnType := none }, accessFlags := 1, code := none }
/-- java/lang/Object -/
def k0 : Class := { plain "java/lang/Object" none with
  accessFlags := 33
  interfaces := #[]
  cf := some (fileOf pool0 8 #[] #[{ accessFlags := 1, nameIndex := 5, descriptorIndex := 6, attributes := #[] }] 33 0 #[] #[])
  fields := #[]
  methods := #[k0m0]
  instanceTypes := #[]
  staticTypes := #[]
  resolved := Array.replicate 124 none
  statics := none }

def pool1 : Array CpInfo := pool [(2, .class_ 4), (1, u "java/lang/Object"), (0, u "<init>"), (0, u "()V"), (0, .integer 65535), (0, .integer 2147483647), (0, .methodref 10 11), (0, .class_ 12), (0, .nameAndType 13 14), (0, u "com/example/fleetwire/fleetwire/wire/ClassLayoutBytesOfPinLaw"), (0, u "expectedFor"), (0, u "(C[C[I)I"), (0, .methodref 16 17), (0, .class_ 18), (0, .nameAndType 19 20), (0, u "com/example/fleetwire/fleetwire/wire/ClassLayout"), (0, u "bytesOf"), (0, u "(C)I"), (2, u "law"), (0, u "(II)Z")] 7

def k1m0 : Method := { name := "<init>", desc := "()V", sig := { parameters := [], returnType := none }, accessFlags := 2, code := none }
def k1c1 : Code := { maxStack := 4, maxLocals := 6, code := code, exceptionTable := #[], attributes := #[] }
def k1m1 : Method := { name := "law", desc := "(II)Z", sig := { parameters := [.int, .int], returnType := some .boolean }, accessFlags := 9, code := some k1c1 }
def k1c2 : Code := { maxStack := 3, maxLocals := 3, code := method_3_code, exceptionTable := #[], attributes := #[] }
def k1m2 : Method := { name := "expectedFor", desc := "(C[C[I)I", sig := { parameters := [.char, (.array .char), (.array .int)], returnType := some .int }, accessFlags := 10, code := some k1c2 }
/-- com/example/fleetwire/fleetwire/wire/ClassLayoutBytesOfPinLaw -/
def k1 : Class := { plain "com/example/fleetwire/fleetwire/wire/ClassLayoutBytesOfPinLaw" (some 0) with
  accessFlags := 49
  interfaces := #[]
  cf := some (fileOf pool1 10 #[] #[{ accessFlags := 2, nameIndex := 5, descriptorIndex := 6, attributes := #[] }, { accessFlags := 9, nameIndex := 23, descriptorIndex := 24, attributes := #[] }, { accessFlags := 10, nameIndex := 13, descriptorIndex := 14, attributes := #[] }] 49 2 #[] #[])
  fields := #[]
  methods := #[k1m0, k1m1, k1m2]
  instanceTypes := #[]
  staticTypes := #[]
  resolved := Array.replicate 32 none
  statics := none }

def pool2 : Array CpInfo := pool [(2, .class_ 4), (1, u "java/lang/Object"), (3, .class_ 10), (1, u "com/example/fleetwire/fleetwire/wire/ClassLayout"), (0, u "type"), (0, u "Ljava/lang/Class;"), (34, u "refusal"), (0, u "Ljava/lang/String;"), (12, u "levels"), (0, u "Ljava/util/List;"), (10, u "external"), (0, u "Z"), (18, u "fields"), (13, u "Lcom/example/fleetwire/fleetwire/wire/FieldList;"), (2, u "writeReplace"), (0, u "Ljava/lang/invoke/MethodHandle;"), (2, u "readResolve"), (5, u "reachesFieldsWhole"), (8, u "writesLevels"), (4, u "readsWhole"), (19, u "constructor"), (0, u "Ljava/lang/reflect/Constructor;"), (2, u "LAYOUTS"), (0, u "Ljava/lang/ClassValue;"), (101, u "NO_ARGUMENTS"), (0, u "[Ljava/lang/Object;"), (89, .class_ 353), (0, u "com/example/fleetwire/fleetwire/wire/ClassLayout$1"), (3, u "REFERENCE"), (0, u "C"), (17, u "bytesOf"), (0, u "(C)I")] 43

def k2c0 : Code := { maxStack := 1, maxLocals := 1, code := prog_79_method_5_code, exceptionTable := #[], attributes := #[] }
def k2m0 : Method := { name := "bytesOf", desc := "(C)I", sig := { parameters := [.char], returnType := some .int }, accessFlags := 8, code := some k2c0 }
/-- com/example/fleetwire/fleetwire/wire/ClassLayout -/
def k2 : Class := { plain "com/example/fleetwire/fleetwire/wire/ClassLayout" (some 0) with
  accessFlags := 48
  interfaces := #[]
  cf := some (fileOf pool2 8 #[.nestMembers #[352]] #[{ accessFlags := 8, nameIndex := 376, descriptorIndex := 377, attributes := #[] }] 48 2 #[] #[{ accessFlags := 26, nameIndex := 158, descriptorIndex := 159, attributes := #[] }, { accessFlags := 24, nameIndex := 357, descriptorIndex := 358, attributes := #[] }, { accessFlags := 26, nameIndex := 261, descriptorIndex := 262, attributes := #[] }, { accessFlags := 18, nameIndex := 11, descriptorIndex := 12, attributes := #[] }, { accessFlags := 18, nameIndex := 47, descriptorIndex := 48, attributes := #[] }, { accessFlags := 18, nameIndex := 61, descriptorIndex := 62, attributes := #[] }, { accessFlags := 18, nameIndex := 73, descriptorIndex := 74, attributes := #[] }, { accessFlags := 18, nameIndex := 93, descriptorIndex := 107, attributes := #[] }, { accessFlags := 18, nameIndex := 129, descriptorIndex := 74, attributes := #[] }, { accessFlags := 18, nameIndex := 120, descriptorIndex := 74, attributes := #[] }, { accessFlags := 18, nameIndex := 134, descriptorIndex := 74, attributes := #[] }, { accessFlags := 18, nameIndex := 110, descriptorIndex := 111, attributes := #[] }, { accessFlags := 18, nameIndex := 114, descriptorIndex := 111, attributes := #[] }, { accessFlags := 18, nameIndex := 154, descriptorIndex := 155, attributes := #[] }])
  fields := #[{ name := "LAYOUTS", type := (.object "java/lang/ClassValue"), accessFlags := 26, slot := 0, constantValue := 0 }, { name := "REFERENCE", type := .char, accessFlags := 24, slot := 1, constantValue := 0 }, { name := "NO_ARGUMENTS", type := (.array (.object "java/lang/Object")), accessFlags := 26, slot := 2, constantValue := 0 }, { name := "type", type := (.object "java/lang/Class"), accessFlags := 18, slot := 0, constantValue := 0 }, { name := "refusal", type := (.object "java/lang/String"), accessFlags := 18, slot := 1, constantValue := 0 }, { name := "levels", type := (.object "java/util/List"), accessFlags := 18, slot := 2, constantValue := 0 }, { name := "external", type := .boolean, accessFlags := 18, slot := 3, constantValue := 0 }, { name := "fields", type := (.object "com/example/fleetwire/fleetwire/wire/FieldList"), accessFlags := 18, slot := 4, constantValue := 0 }, { name := "writesLevels", type := .boolean, accessFlags := 18, slot := 5, constantValue := 0 }, { name := "reachesFieldsWhole", type := .boolean, accessFlags := 18, slot := 6, constantValue := 0 }, { name := "readsWhole", type := .boolean, accessFlags := 18, slot := 7, constantValue := 0 }, { name := "writeReplace", type := (.object "java/lang/invoke/MethodHandle"), accessFlags := 18, slot := 8, constantValue := 0 }, { name := "readResolve", type := (.object "java/lang/invoke/MethodHandle"), accessFlags := 18, slot := 9, constantValue := 0 }, { name := "constructor", type := (.object "java/lang/reflect/Constructor"), accessFlags := 18, slot := 10, constantValue := 0 }]
  methods := #[k2m0]
  instanceTypes := #[(.object "java/lang/Class"), (.object "java/lang/String"), (.object "java/util/List"), .boolean, (.object "com/example/fleetwire/fleetwire/wire/FieldList"), .boolean, .boolean, .boolean, (.object "java/lang/invoke/MethodHandle"), (.object "java/lang/invoke/MethodHandle"), (.object "java/lang/reflect/Constructor")]
  staticTypes := #[(.object "java/lang/ClassValue"), .char, (.array (.object "java/lang/Object"))]
  resolved := Array.replicate 421 none
  statics := none }

def pool3 : Array CpInfo := pool [(1, u "java/lang/Cloneable"), (0, .class_ 1), (0, u "java/lang/Object"), (0, .class_ 3)] 3

/-- java/lang/Cloneable -/
def k3 : Class := { plain "java/lang/Cloneable" (some 0) with
  accessFlags := 1537
  interfaces := #[]
  cf := some (fileOf pool3 2 #[] #[] 1537 4 #[] #[])
  fields := #[]
  methods := #[]
  instanceTypes := #[]
  staticTypes := #[]
  resolved := Array.replicate 8 none
  statics := none }

def pool4 : Array CpInfo := pool [(1, u "java/io/Serializable"), (0, .class_ 1), (0, u "java/lang/Object"), (0, .class_ 3)] 3

/-- java/io/Serializable -/
def k4 : Class := { plain "java/io/Serializable" (some 0) with
  accessFlags := 1537
  interfaces := #[]
  cf := some (fileOf pool4 2 #[] #[] 1537 4 #[] #[])
  fields := #[]
  methods := #[]
  instanceTypes := #[]
  staticTypes := #[]
  resolved := Array.replicate 8 none
  statics := none }

/-- the primitive byte -/
def k5 : Class := { plain "byte" none with kind := .primitive 'B', accessFlags := 0x411 }
/-- [B -/
def k6 : Class := { plain "[B" (some 0) with kind := .array 5 .byte, interfaces := #[3, 4], accessFlags := 1041 }

/-- the primitive char -/
def k7 : Class := { plain "char" none with kind := .primitive 'C', accessFlags := 0x411 }
/-- [C -/
def k8 : Class := { plain "[C" (some 0) with kind := .array 7 .char, interfaces := #[3, 4], accessFlags := 1041 }

/-- the primitive int -/
def k9 : Class := { plain "int" none with kind := .primitive 'I', accessFlags := 0x411 }
/-- [I -/
def k10 : Class := { plain "[I" (some 0) with kind := .array 9 .int, interfaces := #[3, 4], accessFlags := 1041 }

def heap : Heap := #[]
def classes : Array Class := #[k0, k1, k2, k3, k4, k5, k6, k7, k8, k9, k10]
def interned : List (Array UInt16 × Addr) := []
def slotsUsed : Nat := 0
def theMethod : MethodId := ⟨1, 1⟩
def args0 : Array Value := #[.int 4, .int 3]
def aboutOver (below : List Frame) : State where
  vm := { classes := classes, interned := interned.toArray }
  heap := heap
  slotsUsed := slotsUsed
  threads := #[{ frames := .invoking theMethod args0 :: below }]
def below0 : List Frame := [.native { method := ⟨0, 0⟩, args := #[] }]
def about1 : State := aboutOver below0
def p0 : Program := .bare "" "" ""
def e0 : Env := launch0.env 0 0 0
theorem w_frames : about1.frames = Frame.invoking theMethod args0 :: below0 := rfl
set_option maxRecDepth 65536 in
theorem w_args : argsFit about1.vm theMethod args0 = true := by decide +kernel
set_option maxRecDepth 65536 in
theorem w_heap : heapFits about1 = true := by decide +kernel
set_option maxRecDepth 65536 in
theorem w_runnable : about1.curStatus? = some .runnable := by decide +kernel
set_option maxRecDepth 65536 in
theorem w_alone : about1.alone = true := by decide +kernel
set_option maxRecDepth 65536 in
theorem w_named : about1.methodNamed? x = some theMethod := by decide +kernel
set_option maxRecDepth 65536 in
theorem w_hears : about1.hears theMethod below0 = true := by decide +kernel
set_option maxRecDepth 65536 in
theorem w_ripe : about1.ripe theMethod args0 below0 = true := by decide +kernel
theorem w_running : about1.status = .running := rfl
set_option maxRecDepth 65536 in
theorem w_room : about1.hasRoom e0.platform room_1 = true :=
  launch0.hasRoom_least _ room_1 (by decide +kernel) (by decide +kernel) (by decide +kernel) (by decide +kernel) (by decide +kernel) (by decide +kernel)
theorem allAtoms_all (ts : List Jvm.Cond) (a : Array Jvm.Value) (st : Jvm.State) : (allAtoms ts).before a st = ts.all (fun c => c.before a st) := by
  induction ts with
  | nil => rfl
  | cons c t ih =>
    show (Jvm.Cond.and c (allAtoms t)).before a st = _
    rw [Jvm.Cond.before_and, ih, List.all_cons]
def words1 : List Jvm.Cond := Jvm.Cond.code x code maxLocals ret :: tables_1
/-- a 'code' word, met by the world's own term for the bytes: nothing is compared byte by byte -/
theorem code_word {y : MethodName} {bytes : ByteArray} {mx : Nat} {rt : Option FieldType} {a : Array Value} {s : State} {m : MethodId} {meth : Method} {c : Code} (h1 : s.methodNamed? y = some m) (h2 : s.vm.method? m = some meth) (h3 : meth.code = some c) (h4 : c.code = bytes)
    (h5 : (c.maxLocals == mx && c.exceptionTable.isEmpty && decide (c.maxStack ≤ mostOperands) && decide (meth.sig.returnType = rt) && !meth.locks && decide (parseMethodDescriptor y.desc = some meth.sig)) = true) : (Jvm.Cond.code y bytes mx rt).before a s = true := by
  simp only [Bool.and_eq_true, beq_iff_eq, Bool.not_eq_true', decide_eq_true_eq] at h5
  obtain ⟨⟨⟨⟨⟨g1, g2⟩, g3⟩, g4⟩, g5⟩, g6⟩ := h5
  simp [Cond.before, Cond.holds, Cond.value, h1, h2, h3, h4, g1, g2, g3, g4, g5, g6]
def isCode : Jvm.Cond → Bool
  | .code _ _ _ _ => true
  | _ => false
theorem all_split {L : List Jvm.Cond} {P : Jvm.Cond → Bool} (h1 : L.all (fun c => isCode c || P c) = true) (h2 : ∀ c ∈ L.filter isCode, P c = true) : L.all P = true := by
  refine List.all_eq_true.mpr fun c hc => ?_
  have h := List.all_eq_true.mp h1 c hc
  rcases Bool.eq_false_or_eq_true (isCode c) with hi | hi
  · exact h2 c (List.mem_filter.mpr ⟨hc, hi⟩)
  · simpa [hi] using h
set_option maxRecDepth 65536 in
theorem w_c0 : (Jvm.Cond.code x code maxLocals ret).before args0 about1 = true := code_word (m := ⟨1, 1⟩) (meth := k1m1) (c := k1c1) (by decide +kernel) rfl rfl rfl (by decide +kernel)
set_option maxRecDepth 65536 in
theorem w_c1 : (Jvm.Cond.code ({ cls := "com/example/fleetwire/fleetwire/wire/ClassLayoutBytesOfPinLaw", name := "expectedFor", desc := "(C[C[I)I" } : Jvm.MethodName) method_3_code (3 : Nat) (Option.some Jvm.ClassFile.FieldType.int)).before args0 about1 = true := code_word (m := ⟨1, 2⟩) (meth := k1m2) (c := k1c2) (by decide +kernel) rfl rfl rfl (by decide +kernel)
set_option maxRecDepth 65536 in
theorem w_c2 : (Jvm.Cond.code ({ cls := "com/example/fleetwire/fleetwire/wire/ClassLayout", name := "bytesOf", desc := "(C)I" } : Jvm.MethodName) prog_79_method_5_code (1 : Nat) (Option.some Jvm.ClassFile.FieldType.int)).before args0 about1 = true := code_word (m := ⟨2, 0⟩) (meth := k2m0) (c := k2c0) (by decide +kernel) rfl rfl rfl (by decide +kernel)
def codes1 : List Jvm.Cond := [Jvm.Cond.code x code maxLocals ret, Jvm.Cond.code ({ cls := "com/example/fleetwire/fleetwire/wire/ClassLayoutBytesOfPinLaw", name := "expectedFor", desc := "(C[C[I)I" } : Jvm.MethodName) method_3_code (3 : Nat) (Option.some Jvm.ClassFile.FieldType.int), Jvm.Cond.code ({ cls := "com/example/fleetwire/fleetwire/wire/ClassLayout", name := "bytesOf", desc := "(C)I" } : Jvm.MethodName) prog_79_method_5_code (1 : Nat) (Option.some Jvm.ClassFile.FieldType.int)]
set_option maxRecDepth 65536 in
theorem codes_eq : words1.filter isCode = codes1 := rfl
theorem w_codes : ∀ c ∈ words1.filter isCode, c.before args0 about1 = true := by
  rw [codes_eq]
  intro c hc
  simp only [codes1, List.mem_cons, List.not_mem_nil, or_false] at hc
  rcases hc with rfl | rfl | rfl
  · exact w_c0
  · exact w_c1
  · exact w_c2
set_option maxRecDepth 65536 in
theorem w_t1 : words1.all (fun c => isCode c || c.before args0 about1) = true := by decide +kernel
theorem w_tables : (allAtoms (Jvm.Cond.code x code maxLocals ret :: tables_1)).before args0 about1 = true := by
  rw [allAtoms_all]
  show words1.all (fun c => c.before args0 about1) = true
  refine all_split ?_ w_codes
  rw [w_t1]
set_option maxRecDepth 65536 in
theorem w_case : (Jvm.Cond.and given_1 narrow_1).before args0 about1 = true := by decide +kernel
theorem w_applies : (headSpec (Jvm.Cond.code x code maxLocals ret :: tables_1) room_1).applies x e0.platform about1 = true :=
  (Spec.applies_iff w_frames).mpr ⟨w_running, w_runnable, w_alone, w_named, w_hears, w_ripe, w_room, w_tables⟩
theorem atStart : AtStart classFile x code maxLocals ret World_1 tables_1 room_1 Calls_1 rest_1 Pre_1 launch0 p0 e0 about1 theMethod args0 below0 :=
  ⟨lists_1, trivial, launch0.admits_env _ _ _, launch0.least_env, fairChoices_fair.cas, fairChoices_fair.clock, w_frames, w_args, w_heap, w_applies, trivial, trivial, w_case⟩
end start1
theorem witness_1 : WitnessClaimed_1 := ⟨start1.p0, start1.e0, start1.about1, start1.theMethod, start1.args0, start1.below0, start1.atStart⟩
end Jvm.Pilot.@@N@@
