import JvmDerived
import JvmDerived.Pilot.@@N@@Statement
import JvmDerived.Pilot.@@N@@Code
set_option linter.unusedVariables false
set_option linter.unusedSimpArgs false
namespace Jvm.RoadKit
open Sem ClassFile Op Lib Jvm.Stand Jvm.Free Jvm.LawKit
section New
variable {p : Program} {l : Launch} {e : Env} {R : Room} {s : State} {m : MethodId} {args : Array Value} {below : List Frame} {meth : Method} {c : Code} {T : State} {locs : List Loc} {cells slots : Nat}
theorem retI (X : Stand p l e R s m args below meth c T locs cells slots) (hx : p.tables.exec = Jvm.exec) {pc : Nat} {Ls : Array Slot} {z : Int32} {rest : List Value} (hret : meth.sig.returnType = some .int) (hd : decode c.code pc = .ok (.ireturn, 1)) {fs : List Frame}
    (hl : ∀ (f : JFrame) (acts : List Action), f.method = m → f.locked = none → f.entered = [] → (doReturn e (T.setTop f) acts (some (.int z))).1 = T.setFrames fs) : Steps p.tables e below (T.setTop (mkF m pc Ls (.int z :: rest))) (T.setFrames fs) := by
  have hm' : T.vm.method? m = some meth := X.method'
  have hn : narrow .int (.int z) = .int z := rfl
  show Steps p.tables e below (T.setTop { method := m, pc := pc, locals := Ls, stack := _ :: rest, locked := none }) _
  jvm_step X.here [X.here.top, hx, hd, hm', hret, hn]
  first | (intro acts; rw [hl _ acts rfl rfl rfl]) | rw [hl _ _ rfl rfl rfl]
  exact Steps.refl _
end New
end Jvm.RoadKit
namespace Jvm.Pilot.@@N@@
open Jvm Jvm.ClassFile Sem Op Lib Jvm.Free Jvm.Stand Jvm.LawKit Jvm.RoadKit Bundle Jvm.Pilot.@@N@@.Jvm.D
/-- a piece of the walk ahead of what is still to be reached -/
theorem own_go {tb : Tables} {e : Env} {below : List Frame} {A B : State} {P : State → Outcome → Prop} (st : ∀ t, Steps tb e below A t → Steps tb e below B t) (h : ∃ s₂ o, Steps tb e below A s₂ ∧ P s₂ o) : ∃ s₂ o, Steps tb e below B s₂ ∧ P s₂ o := by
  obtain ⟨s₂, o, h1, h2⟩ := h
  exact ⟨s₂, o, st _ h1, h2⟩
theorem d2_0 : decode method_2_code 0 = .ok (.iload_n 0, 1) := by decide +kernel
theorem d2_1 : decode method_2_code 1 = .ok (.bipush 33, 2) := by decide +kernel
theorem d2_3 : decode method_2_code 3 = .ok (.if_icmp .lt 13, 3) := by decide +kernel
theorem d2_6 : decode method_2_code 6 = .ok (.iload_n 0, 1) := by decide +kernel
theorem d2_7 : decode method_2_code 7 = .ok (.bipush 37, 2) := by decide +kernel
theorem d2_9 : decode method_2_code 9 = .ok (.if_icmp .gt 7, 3) := by decide +kernel
theorem d2_12 : decode method_2_code 12 = .ok (.iconst 1, 1) := by decide +kernel
theorem d2_13 : decode method_2_code 13 = .ok (.goto 4, 3) := by decide +kernel
theorem d2_16 : decode method_2_code 16 = .ok (.iconst 0, 1) := by decide +kernel
theorem d2_17 : decode method_2_code 17 = .ok (.istore_n 1, 1) := by decide +kernel
theorem d2_18 : decode method_2_code 18 = .ok (.iload_n 0, 1) := by decide +kernel
theorem d2_19 : decode method_2_code 19 = .ok (.bipush 86, 2) := by decide +kernel
theorem d2_21 : decode method_2_code 21 = .ok (.if_icmp .lt 13, 3) := by decide +kernel
theorem d2_24 : decode method_2_code 24 = .ok (.iload_n 0, 1) := by decide +kernel
theorem d2_25 : decode method_2_code 25 = .ok (.bipush 93, 2) := by decide +kernel
theorem d2_27 : decode method_2_code 27 = .ok (.if_icmp .gt 7, 3) := by decide +kernel
theorem d2_30 : decode method_2_code 30 = .ok (.iconst 1, 1) := by decide +kernel
theorem d2_31 : decode method_2_code 31 = .ok (.goto 4, 3) := by decide +kernel
theorem d2_34 : decode method_2_code 34 = .ok (.iconst 0, 1) := by decide +kernel
theorem d2_35 : decode method_2_code 35 = .ok (.istore_n 2, 1) := by decide +kernel
theorem d2_36 : decode method_2_code 36 = .ok (.iload_n 1, 1) := by decide +kernel
theorem d2_37 : decode method_2_code 37 = .ok (.ifCond .ne 7, 3) := by decide +kernel
theorem d2_40 : decode method_2_code 40 = .ok (.iload_n 2, 1) := by decide +kernel
theorem d2_41 : decode method_2_code 41 = .ok (.ifCond .eq 7, 3) := by decide +kernel
theorem d2_44 : decode method_2_code 44 = .ok (.iconst 1, 1) := by decide +kernel
theorem d2_45 : decode method_2_code 45 = .ok (.goto 4, 3) := by decide +kernel
theorem d2_48 : decode method_2_code 48 = .ok (.iconst 0, 1) := by decide +kernel
theorem d2_49 : decode method_2_code 49 = .ok (.ireturn, 1) := by decide +kernel
theorem pn_2 : plainName "com/example/kelpie/kelpie/engine/CodeFlowIsJumpPinLaw" = true := by first | (simp [plainName, overriddenIn]; done) | decide +kernel
theorem ef_2 (m : MethodId) (p1 : Int32) : entryFrame m #[(.int p1)] 3 = mkF m 0 #[.val (.int p1), .unset, .unset] [] := by first | (simp [entryFrame, mkF, argsToLocals, Value.category]; done) | rfl
def F2_0 (p1 : Int32) : Int32 := (if p1 < (33 : Int32) then (if p1 < (86 : Int32) then (0 : Int32) else (if (93 : Int32) < p1 then (0 : Int32) else (1 : Int32))) else (if (37 : Int32) < p1 then (if p1 < (86 : Int32) then (0 : Int32) else (if (93 : Int32) < p1 then (0 : Int32) else (1 : Int32))) else (if p1 < (86 : Int32) then (1 : Int32) else (if (93 : Int32) < p1 then (1 : Int32) else (1 : Int32)))))
set_option maxRecDepth 65536 in
set_option maxHeartbeats 40000000 in
theorem bk2_0 {p : Program} {l : Launch} {e : Env} {R : Room} {s : State} {m : MethodId} {args : Array Value} {below : List Frame} {meth : Method} {c : Code} {T0 : State} {locs : List Loc} {cells slots : Nat} {Z : State} {a0 : Array Value} (p1 : Int32)
    (X0 : Stand p l e R s m args below meth c T0 locs cells slots) (hx : p.tables.exec = Jvm.exec) (hZ : Z.Warmed39 s.vm) (hw : ∀ d ∈ tables_1, d.before a0 Z = true) (hby : c.code = method_2_code) (hown : s.vm.findClass "com/example/kelpie/kelpie/engine/CodeFlowIsJumpPinLaw" = some m.cls) (hret : meth.sig.returnType = some .boolean) {fs : List Frame}
    (hr : ∀ (f : JFrame) (acts : List Action), f.method = m → f.locked = none → f.entered = [] → (doReturn e (T0.setTop f) acts (some (.int (F2_0 p1)))).1 = T0.setFrames fs) :
    Steps p.tables e below (T0.setTop (mkF m 0 #[.val (.int p1), .unset, .unset] [])) (T0.setFrames fs) := by
  show Steps p.tables e below (T0.setTop (mkF m 0 #[.val (.int p1), .unset, .unset] [])) _
  refine XS.iloadN X0.here hx rfl (hb hby d2_0) rfl ?_
  show Steps p.tables e below (T0.setTop (mkF m 1 #[.val (.int p1), .unset, .unset] [(.int p1)])) _
  refine XS.bipush X0.here hx rfl (hb hby d2_1) ?_
  show Steps p.tables e below (T0.setTop (mkF m 3 #[.val (.int p1), .unset, .unset] [(.int (33 : Int32)), (.int p1)])) _
  by_cases hc3 : p1 < (33 : Int32)
  · refine XS.icmpYes X0.here hx rfl (pc0 := 3) (pc' := 16) rfl (hb hby d2_3) rfl (tlt hc3).1 (by decide) (by decide) ?_
    show Steps p.tables e below (T0.setTop (mkF m 16 #[.val (.int p1), .unset, .unset] [])) _
    refine XS.iconst X0.here hx rfl (hb hby d2_16) ?_
    show Steps p.tables e below (T0.setTop (mkF m 17 #[.val (.int p1), .unset, .unset] [(.int (0 : Int32))])) _
    refine XS.istoreN X0.here hx rfl (hb hby d2_17) rfl (l' := #[.val (.int p1), .val (.int (0 : Int32)), .unset]) rfl ?_
    show Steps p.tables e below (T0.setTop (mkF m 18 #[.val (.int p1), .val (.int (0 : Int32)), .unset] [])) _
    refine XS.iloadN X0.here hx rfl (hb hby d2_18) rfl ?_
    show Steps p.tables e below (T0.setTop (mkF m 19 #[.val (.int p1), .val (.int (0 : Int32)), .unset] [(.int p1)])) _
    refine XS.bipush X0.here hx rfl (hb hby d2_19) ?_
    show Steps p.tables e below (T0.setTop (mkF m 21 #[.val (.int p1), .val (.int (0 : Int32)), .unset] [(.int (86 : Int32)), (.int p1)])) _
    by_cases hc21 : p1 < (86 : Int32)
    · refine XS.icmpYes X0.here hx rfl (pc0 := 21) (pc' := 34) rfl (hb hby d2_21) rfl (tlt hc21).1 (by decide) (by decide) ?_
      show Steps p.tables e below (T0.setTop (mkF m 34 #[.val (.int p1), .val (.int (0 : Int32)), .unset] [])) _
      refine XS.iconst X0.here hx rfl (hb hby d2_34) ?_
      show Steps p.tables e below (T0.setTop (mkF m 35 #[.val (.int p1), .val (.int (0 : Int32)), .unset] [(.int (0 : Int32))])) _
      refine XS.istoreN X0.here hx rfl (hb hby d2_35) rfl (l' := #[.val (.int p1), .val (.int (0 : Int32)), .val (.int (0 : Int32))]) rfl ?_
      show Steps p.tables e below (T0.setTop (mkF m 36 #[.val (.int p1), .val (.int (0 : Int32)), .val (.int (0 : Int32))] [])) _
      refine XS.iloadN X0.here hx rfl (hb hby d2_36) rfl ?_
      show Steps p.tables e below (T0.setTop (mkF m 37 #[.val (.int p1), .val (.int (0 : Int32)), .val (.int (0 : Int32))] [(.int (0 : Int32))])) _
      refine XS.ifNo X0.here hx rfl (hb hby d2_37) rfl ((if0 _ _).trans (teq (by decide : (0 : Int32) = (0 : Int32))).2) ?_
      show Steps p.tables e below (T0.setTop (mkF m 40 #[.val (.int p1), .val (.int (0 : Int32)), .val (.int (0 : Int32))] [])) _
      refine XS.iloadN X0.here hx rfl (hb hby d2_40) rfl ?_
      show Steps p.tables e below (T0.setTop (mkF m 41 #[.val (.int p1), .val (.int (0 : Int32)), .val (.int (0 : Int32))] [(.int (0 : Int32))])) _
      refine XS.ifYes X0.here hx rfl (pc0 := 41) (pc' := 48) rfl (hb hby d2_41) rfl ((if0 _ _).trans (teq (by decide : (0 : Int32) = (0 : Int32))).1) (by decide) (by decide) ?_
      show Steps p.tables e below (T0.setTop (mkF m 48 #[.val (.int p1), .val (.int (0 : Int32)), .val (.int (0 : Int32))] [])) _
      refine XS.iconst X0.here hx rfl (hb hby d2_48) ?_
      show Steps p.tables e below (T0.setTop (mkF m 49 #[.val (.int p1), .val (.int (0 : Int32)), .val (.int (0 : Int32))] [(.int (0 : Int32))])) _
      rw [show F2_0 p1 = (0 : Int32) from by unfold F2_0; rw [if_pos hc3, if_pos hc21]] at hr
      exact retN X0 hx (t := .boolean) hret (by simp) (hb hby d2_49) hr
    · refine XS.icmpNo X0.here hx rfl (hb hby d2_21) rfl (flt hc21).1 ?_
      show Steps p.tables e below (T0.setTop (mkF m 24 #[.val (.int p1), .val (.int (0 : Int32)), .unset] [])) _
      refine XS.iloadN X0.here hx rfl (hb hby d2_24) rfl ?_
      show Steps p.tables e below (T0.setTop (mkF m 25 #[.val (.int p1), .val (.int (0 : Int32)), .unset] [(.int p1)])) _
      refine XS.bipush X0.here hx rfl (hb hby d2_25) ?_
      show Steps p.tables e below (T0.setTop (mkF m 27 #[.val (.int p1), .val (.int (0 : Int32)), .unset] [(.int (93 : Int32)), (.int p1)])) _
      by_cases hc27 : (93 : Int32) < p1
      · refine XS.icmpYes X0.here hx rfl (pc0 := 27) (pc' := 34) rfl (hb hby d2_27) rfl (tlt hc27).2.2.1 (by decide) (by decide) ?_
        show Steps p.tables e below (T0.setTop (mkF m 34 #[.val (.int p1), .val (.int (0 : Int32)), .unset] [])) _
        refine XS.iconst X0.here hx rfl (hb hby d2_34) ?_
        show Steps p.tables e below (T0.setTop (mkF m 35 #[.val (.int p1), .val (.int (0 : Int32)), .unset] [(.int (0 : Int32))])) _
        refine XS.istoreN X0.here hx rfl (hb hby d2_35) rfl (l' := #[.val (.int p1), .val (.int (0 : Int32)), .val (.int (0 : Int32))]) rfl ?_
        show Steps p.tables e below (T0.setTop (mkF m 36 #[.val (.int p1), .val (.int (0 : Int32)), .val (.int (0 : Int32))] [])) _
        refine XS.iloadN X0.here hx rfl (hb hby d2_36) rfl ?_
        show Steps p.tables e below (T0.setTop (mkF m 37 #[.val (.int p1), .val (.int (0 : Int32)), .val (.int (0 : Int32))] [(.int (0 : Int32))])) _
        refine XS.ifNo X0.here hx rfl (hb hby d2_37) rfl ((if0 _ _).trans (teq (by decide : (0 : Int32) = (0 : Int32))).2) ?_
        show Steps p.tables e below (T0.setTop (mkF m 40 #[.val (.int p1), .val (.int (0 : Int32)), .val (.int (0 : Int32))] [])) _
        refine XS.iloadN X0.here hx rfl (hb hby d2_40) rfl ?_
        show Steps p.tables e below (T0.setTop (mkF m 41 #[.val (.int p1), .val (.int (0 : Int32)), .val (.int (0 : Int32))] [(.int (0 : Int32))])) _
        refine XS.ifYes X0.here hx rfl (pc0 := 41) (pc' := 48) rfl (hb hby d2_41) rfl ((if0 _ _).trans (teq (by decide : (0 : Int32) = (0 : Int32))).1) (by decide) (by decide) ?_
        show Steps p.tables e below (T0.setTop (mkF m 48 #[.val (.int p1), .val (.int (0 : Int32)), .val (.int (0 : Int32))] [])) _
        refine XS.iconst X0.here hx rfl (hb hby d2_48) ?_
        show Steps p.tables e below (T0.setTop (mkF m 49 #[.val (.int p1), .val (.int (0 : Int32)), .val (.int (0 : Int32))] [(.int (0 : Int32))])) _
        rw [show F2_0 p1 = (0 : Int32) from by unfold F2_0; rw [if_pos hc3, if_neg hc21, if_pos hc27]] at hr
        exact retN X0 hx (t := .boolean) hret (by simp) (hb hby d2_49) hr
      · refine XS.icmpNo X0.here hx rfl (hb hby d2_27) rfl (flt hc27).2.2.1 ?_
        show Steps p.tables e below (T0.setTop (mkF m 30 #[.val (.int p1), .val (.int (0 : Int32)), .unset] [])) _
        refine XS.iconst X0.here hx rfl (hb hby d2_30) ?_
        show Steps p.tables e below (T0.setTop (mkF m 31 #[.val (.int p1), .val (.int (0 : Int32)), .unset] [(.int (1 : Int32))])) _
        refine XS.goto X0.here hx rfl (pc0 := 31) (pc' := 35) rfl (hb hby d2_31) (by decide) (by decide) ?_
        show Steps p.tables e below (T0.setTop (mkF m 35 #[.val (.int p1), .val (.int (0 : Int32)), .unset] [(.int (1 : Int32))])) _
        refine XS.istoreN X0.here hx rfl (hb hby d2_35) rfl (l' := #[.val (.int p1), .val (.int (0 : Int32)), .val (.int (1 : Int32))]) rfl ?_
        show Steps p.tables e below (T0.setTop (mkF m 36 #[.val (.int p1), .val (.int (0 : Int32)), .val (.int (1 : Int32))] [])) _
        refine XS.iloadN X0.here hx rfl (hb hby d2_36) rfl ?_
        show Steps p.tables e below (T0.setTop (mkF m 37 #[.val (.int p1), .val (.int (0 : Int32)), .val (.int (1 : Int32))] [(.int (0 : Int32))])) _
        refine XS.ifNo X0.here hx rfl (hb hby d2_37) rfl ((if0 _ _).trans (teq (by decide : (0 : Int32) = (0 : Int32))).2) ?_
        show Steps p.tables e below (T0.setTop (mkF m 40 #[.val (.int p1), .val (.int (0 : Int32)), .val (.int (1 : Int32))] [])) _
        refine XS.iloadN X0.here hx rfl (hb hby d2_40) rfl ?_
        show Steps p.tables e below (T0.setTop (mkF m 41 #[.val (.int p1), .val (.int (0 : Int32)), .val (.int (1 : Int32))] [(.int (1 : Int32))])) _
        refine XS.ifNo X0.here hx rfl (hb hby d2_41) rfl ((if0 _ _).trans (feq (by decide : ¬ ((1 : Int32) = (0 : Int32)))).1) ?_
        show Steps p.tables e below (T0.setTop (mkF m 44 #[.val (.int p1), .val (.int (0 : Int32)), .val (.int (1 : Int32))] [])) _
        refine XS.iconst X0.here hx rfl (hb hby d2_44) ?_
        show Steps p.tables e below (T0.setTop (mkF m 45 #[.val (.int p1), .val (.int (0 : Int32)), .val (.int (1 : Int32))] [(.int (1 : Int32))])) _
        refine XS.goto X0.here hx rfl (pc0 := 45) (pc' := 49) rfl (hb hby d2_45) (by decide) (by decide) ?_
        show Steps p.tables e below (T0.setTop (mkF m 49 #[.val (.int p1), .val (.int (0 : Int32)), .val (.int (1 : Int32))] [(.int (1 : Int32))])) _
        rw [show F2_0 p1 = (1 : Int32) from by unfold F2_0; rw [if_pos hc3, if_neg hc21, if_neg hc27]] at hr
        exact retN X0 hx (t := .boolean) hret (by simp) (hb hby d2_49) hr
  · refine XS.icmpNo X0.here hx rfl (hb hby d2_3) rfl (flt hc3).1 ?_
    show Steps p.tables e below (T0.setTop (mkF m 6 #[.val (.int p1), .unset, .unset] [])) _
    refine XS.iloadN X0.here hx rfl (hb hby d2_6) rfl ?_
    show Steps p.tables e below (T0.setTop (mkF m 7 #[.val (.int p1), .unset, .unset] [(.int p1)])) _
    refine XS.bipush X0.here hx rfl (hb hby d2_7) ?_
    show Steps p.tables e below (T0.setTop (mkF m 9 #[.val (.int p1), .unset, .unset] [(.int (37 : Int32)), (.int p1)])) _
    by_cases hc9 : (37 : Int32) < p1
    · refine XS.icmpYes X0.here hx rfl (pc0 := 9) (pc' := 16) rfl (hb hby d2_9) rfl (tlt hc9).2.2.1 (by decide) (by decide) ?_
      show Steps p.tables e below (T0.setTop (mkF m 16 #[.val (.int p1), .unset, .unset] [])) _
      refine XS.iconst X0.here hx rfl (hb hby d2_16) ?_
      show Steps p.tables e below (T0.setTop (mkF m 17 #[.val (.int p1), .unset, .unset] [(.int (0 : Int32))])) _
      refine XS.istoreN X0.here hx rfl (hb hby d2_17) rfl (l' := #[.val (.int p1), .val (.int (0 : Int32)), .unset]) rfl ?_
      show Steps p.tables e below (T0.setTop (mkF m 18 #[.val (.int p1), .val (.int (0 : Int32)), .unset] [])) _
      refine XS.iloadN X0.here hx rfl (hb hby d2_18) rfl ?_
      show Steps p.tables e below (T0.setTop (mkF m 19 #[.val (.int p1), .val (.int (0 : Int32)), .unset] [(.int p1)])) _
      refine XS.bipush X0.here hx rfl (hb hby d2_19) ?_
      show Steps p.tables e below (T0.setTop (mkF m 21 #[.val (.int p1), .val (.int (0 : Int32)), .unset] [(.int (86 : Int32)), (.int p1)])) _
      by_cases hc21 : p1 < (86 : Int32)
      · refine XS.icmpYes X0.here hx rfl (pc0 := 21) (pc' := 34) rfl (hb hby d2_21) rfl (tlt hc21).1 (by decide) (by decide) ?_
        show Steps p.tables e below (T0.setTop (mkF m 34 #[.val (.int p1), .val (.int (0 : Int32)), .unset] [])) _
        refine XS.iconst X0.here hx rfl (hb hby d2_34) ?_
        show Steps p.tables e below (T0.setTop (mkF m 35 #[.val (.int p1), .val (.int (0 : Int32)), .unset] [(.int (0 : Int32))])) _
        refine XS.istoreN X0.here hx rfl (hb hby d2_35) rfl (l' := #[.val (.int p1), .val (.int (0 : Int32)), .val (.int (0 : Int32))]) rfl ?_
        show Steps p.tables e below (T0.setTop (mkF m 36 #[.val (.int p1), .val (.int (0 : Int32)), .val (.int (0 : Int32))] [])) _
        refine XS.iloadN X0.here hx rfl (hb hby d2_36) rfl ?_
        show Steps p.tables e below (T0.setTop (mkF m 37 #[.val (.int p1), .val (.int (0 : Int32)), .val (.int (0 : Int32))] [(.int (0 : Int32))])) _
        refine XS.ifNo X0.here hx rfl (hb hby d2_37) rfl ((if0 _ _).trans (teq (by decide : (0 : Int32) = (0 : Int32))).2) ?_
        show Steps p.tables e below (T0.setTop (mkF m 40 #[.val (.int p1), .val (.int (0 : Int32)), .val (.int (0 : Int32))] [])) _
        refine XS.iloadN X0.here hx rfl (hb hby d2_40) rfl ?_
        show Steps p.tables e below (T0.setTop (mkF m 41 #[.val (.int p1), .val (.int (0 : Int32)), .val (.int (0 : Int32))] [(.int (0 : Int32))])) _
        refine XS.ifYes X0.here hx rfl (pc0 := 41) (pc' := 48) rfl (hb hby d2_41) rfl ((if0 _ _).trans (teq (by decide : (0 : Int32) = (0 : Int32))).1) (by decide) (by decide) ?_
        show Steps p.tables e below (T0.setTop (mkF m 48 #[.val (.int p1), .val (.int (0 : Int32)), .val (.int (0 : Int32))] [])) _
        refine XS.iconst X0.here hx rfl (hb hby d2_48) ?_
        show Steps p.tables e below (T0.setTop (mkF m 49 #[.val (.int p1), .val (.int (0 : Int32)), .val (.int (0 : Int32))] [(.int (0 : Int32))])) _
        rw [show F2_0 p1 = (0 : Int32) from by unfold F2_0; rw [if_neg hc3, if_pos hc9, if_pos hc21]] at hr
        exact retN X0 hx (t := .boolean) hret (by simp) (hb hby d2_49) hr
      · refine XS.icmpNo X0.here hx rfl (hb hby d2_21) rfl (flt hc21).1 ?_
        show Steps p.tables e below (T0.setTop (mkF m 24 #[.val (.int p1), .val (.int (0 : Int32)), .unset] [])) _
        refine XS.iloadN X0.here hx rfl (hb hby d2_24) rfl ?_
        show Steps p.tables e below (T0.setTop (mkF m 25 #[.val (.int p1), .val (.int (0 : Int32)), .unset] [(.int p1)])) _
        refine XS.bipush X0.here hx rfl (hb hby d2_25) ?_
        show Steps p.tables e below (T0.setTop (mkF m 27 #[.val (.int p1), .val (.int (0 : Int32)), .unset] [(.int (93 : Int32)), (.int p1)])) _
        by_cases hc27 : (93 : Int32) < p1
        · refine XS.icmpYes X0.here hx rfl (pc0 := 27) (pc' := 34) rfl (hb hby d2_27) rfl (tlt hc27).2.2.1 (by decide) (by decide) ?_
          show Steps p.tables e below (T0.setTop (mkF m 34 #[.val (.int p1), .val (.int (0 : Int32)), .unset] [])) _
          refine XS.iconst X0.here hx rfl (hb hby d2_34) ?_
          show Steps p.tables e below (T0.setTop (mkF m 35 #[.val (.int p1), .val (.int (0 : Int32)), .unset] [(.int (0 : Int32))])) _
          refine XS.istoreN X0.here hx rfl (hb hby d2_35) rfl (l' := #[.val (.int p1), .val (.int (0 : Int32)), .val (.int (0 : Int32))]) rfl ?_
          show Steps p.tables e below (T0.setTop (mkF m 36 #[.val (.int p1), .val (.int (0 : Int32)), .val (.int (0 : Int32))] [])) _
          refine XS.iloadN X0.here hx rfl (hb hby d2_36) rfl ?_
          show Steps p.tables e below (T0.setTop (mkF m 37 #[.val (.int p1), .val (.int (0 : Int32)), .val (.int (0 : Int32))] [(.int (0 : Int32))])) _
          refine XS.ifNo X0.here hx rfl (hb hby d2_37) rfl ((if0 _ _).trans (teq (by decide : (0 : Int32) = (0 : Int32))).2) ?_
          show Steps p.tables e below (T0.setTop (mkF m 40 #[.val (.int p1), .val (.int (0 : Int32)), .val (.int (0 : Int32))] [])) _
          refine XS.iloadN X0.here hx rfl (hb hby d2_40) rfl ?_
          show Steps p.tables e below (T0.setTop (mkF m 41 #[.val (.int p1), .val (.int (0 : Int32)), .val (.int (0 : Int32))] [(.int (0 : Int32))])) _
          refine XS.ifYes X0.here hx rfl (pc0 := 41) (pc' := 48) rfl (hb hby d2_41) rfl ((if0 _ _).trans (teq (by decide : (0 : Int32) = (0 : Int32))).1) (by decide) (by decide) ?_
          show Steps p.tables e below (T0.setTop (mkF m 48 #[.val (.int p1), .val (.int (0 : Int32)), .val (.int (0 : Int32))] [])) _
          refine XS.iconst X0.here hx rfl (hb hby d2_48) ?_
          show Steps p.tables e below (T0.setTop (mkF m 49 #[.val (.int p1), .val (.int (0 : Int32)), .val (.int (0 : Int32))] [(.int (0 : Int32))])) _
          rw [show F2_0 p1 = (0 : Int32) from by unfold F2_0; rw [if_neg hc3, if_pos hc9, if_neg hc21, if_pos hc27]] at hr
          exact retN X0 hx (t := .boolean) hret (by simp) (hb hby d2_49) hr
        · refine XS.icmpNo X0.here hx rfl (hb hby d2_27) rfl (flt hc27).2.2.1 ?_
          show Steps p.tables e below (T0.setTop (mkF m 30 #[.val (.int p1), .val (.int (0 : Int32)), .unset] [])) _
          refine XS.iconst X0.here hx rfl (hb hby d2_30) ?_
          show Steps p.tables e below (T0.setTop (mkF m 31 #[.val (.int p1), .val (.int (0 : Int32)), .unset] [(.int (1 : Int32))])) _
          refine XS.goto X0.here hx rfl (pc0 := 31) (pc' := 35) rfl (hb hby d2_31) (by decide) (by decide) ?_
          show Steps p.tables e below (T0.setTop (mkF m 35 #[.val (.int p1), .val (.int (0 : Int32)), .unset] [(.int (1 : Int32))])) _
          refine XS.istoreN X0.here hx rfl (hb hby d2_35) rfl (l' := #[.val (.int p1), .val (.int (0 : Int32)), .val (.int (1 : Int32))]) rfl ?_
          show Steps p.tables e below (T0.setTop (mkF m 36 #[.val (.int p1), .val (.int (0 : Int32)), .val (.int (1 : Int32))] [])) _
          refine XS.iloadN X0.here hx rfl (hb hby d2_36) rfl ?_
          show Steps p.tables e below (T0.setTop (mkF m 37 #[.val (.int p1), .val (.int (0 : Int32)), .val (.int (1 : Int32))] [(.int (0 : Int32))])) _
          refine XS.ifNo X0.here hx rfl (hb hby d2_37) rfl ((if0 _ _).trans (teq (by decide : (0 : Int32) = (0 : Int32))).2) ?_
          show Steps p.tables e below (T0.setTop (mkF m 40 #[.val (.int p1), .val (.int (0 : Int32)), .val (.int (1 : Int32))] [])) _
          refine XS.iloadN X0.here hx rfl (hb hby d2_40) rfl ?_
          show Steps p.tables e below (T0.setTop (mkF m 41 #[.val (.int p1), .val (.int (0 : Int32)), .val (.int (1 : Int32))] [(.int (1 : Int32))])) _
          refine XS.ifNo X0.here hx rfl (hb hby d2_41) rfl ((if0 _ _).trans (feq (by decide : ¬ ((1 : Int32) = (0 : Int32)))).1) ?_
          show Steps p.tables e below (T0.setTop (mkF m 44 #[.val (.int p1), .val (.int (0 : Int32)), .val (.int (1 : Int32))] [])) _
          refine XS.iconst X0.here hx rfl (hb hby d2_44) ?_
          show Steps p.tables e below (T0.setTop (mkF m 45 #[.val (.int p1), .val (.int (0 : Int32)), .val (.int (1 : Int32))] [(.int (1 : Int32))])) _
          refine XS.goto X0.here hx rfl (pc0 := 45) (pc' := 49) rfl (hb hby d2_45) (by decide) (by decide) ?_
          show Steps p.tables e below (T0.setTop (mkF m 49 #[.val (.int p1), .val (.int (0 : Int32)), .val (.int (1 : Int32))] [(.int (1 : Int32))])) _
          rw [show F2_0 p1 = (1 : Int32) from by unfold F2_0; rw [if_neg hc3, if_pos hc9, if_neg hc21, if_neg hc27]] at hr
          exact retN X0 hx (t := .boolean) hret (by simp) (hb hby d2_49) hr
    · refine XS.icmpNo X0.here hx rfl (hb hby d2_9) rfl (flt hc9).2.2.1 ?_
      show Steps p.tables e below (T0.setTop (mkF m 12 #[.val (.int p1), .unset, .unset] [])) _
      refine XS.iconst X0.here hx rfl (hb hby d2_12) ?_
      show Steps p.tables e below (T0.setTop (mkF m 13 #[.val (.int p1), .unset, .unset] [(.int (1 : Int32))])) _
      refine XS.goto X0.here hx rfl (pc0 := 13) (pc' := 17) rfl (hb hby d2_13) (by decide) (by decide) ?_
      show Steps p.tables e below (T0.setTop (mkF m 17 #[.val (.int p1), .unset, .unset] [(.int (1 : Int32))])) _
      refine XS.istoreN X0.here hx rfl (hb hby d2_17) rfl (l' := #[.val (.int p1), .val (.int (1 : Int32)), .unset]) rfl ?_
      show Steps p.tables e below (T0.setTop (mkF m 18 #[.val (.int p1), .val (.int (1 : Int32)), .unset] [])) _
      refine XS.iloadN X0.here hx rfl (hb hby d2_18) rfl ?_
      show Steps p.tables e below (T0.setTop (mkF m 19 #[.val (.int p1), .val (.int (1 : Int32)), .unset] [(.int p1)])) _
      refine XS.bipush X0.here hx rfl (hb hby d2_19) ?_
      show Steps p.tables e below (T0.setTop (mkF m 21 #[.val (.int p1), .val (.int (1 : Int32)), .unset] [(.int (86 : Int32)), (.int p1)])) _
      by_cases hc21 : p1 < (86 : Int32)
      · refine XS.icmpYes X0.here hx rfl (pc0 := 21) (pc' := 34) rfl (hb hby d2_21) rfl (tlt hc21).1 (by decide) (by decide) ?_
        show Steps p.tables e below (T0.setTop (mkF m 34 #[.val (.int p1), .val (.int (1 : Int32)), .unset] [])) _
        refine XS.iconst X0.here hx rfl (hb hby d2_34) ?_
        show Steps p.tables e below (T0.setTop (mkF m 35 #[.val (.int p1), .val (.int (1 : Int32)), .unset] [(.int (0 : Int32))])) _
        refine XS.istoreN X0.here hx rfl (hb hby d2_35) rfl (l' := #[.val (.int p1), .val (.int (1 : Int32)), .val (.int (0 : Int32))]) rfl ?_
        show Steps p.tables e below (T0.setTop (mkF m 36 #[.val (.int p1), .val (.int (1 : Int32)), .val (.int (0 : Int32))] [])) _
        refine XS.iloadN X0.here hx rfl (hb hby d2_36) rfl ?_
        show Steps p.tables e below (T0.setTop (mkF m 37 #[.val (.int p1), .val (.int (1 : Int32)), .val (.int (0 : Int32))] [(.int (1 : Int32))])) _
        refine XS.ifYes X0.here hx rfl (pc0 := 37) (pc' := 44) rfl (hb hby d2_37) rfl ((if0 _ _).trans (feq (by decide : ¬ ((1 : Int32) = (0 : Int32)))).2) (by decide) (by decide) ?_
        show Steps p.tables e below (T0.setTop (mkF m 44 #[.val (.int p1), .val (.int (1 : Int32)), .val (.int (0 : Int32))] [])) _
        refine XS.iconst X0.here hx rfl (hb hby d2_44) ?_
        show Steps p.tables e below (T0.setTop (mkF m 45 #[.val (.int p1), .val (.int (1 : Int32)), .val (.int (0 : Int32))] [(.int (1 : Int32))])) _
        refine XS.goto X0.here hx rfl (pc0 := 45) (pc' := 49) rfl (hb hby d2_45) (by decide) (by decide) ?_
        show Steps p.tables e below (T0.setTop (mkF m 49 #[.val (.int p1), .val (.int (1 : Int32)), .val (.int (0 : Int32))] [(.int (1 : Int32))])) _
        rw [show F2_0 p1 = (1 : Int32) from by unfold F2_0; rw [if_neg hc3, if_neg hc9, if_pos hc21]] at hr
        exact retN X0 hx (t := .boolean) hret (by simp) (hb hby d2_49) hr
      · refine XS.icmpNo X0.here hx rfl (hb hby d2_21) rfl (flt hc21).1 ?_
        show Steps p.tables e below (T0.setTop (mkF m 24 #[.val (.int p1), .val (.int (1 : Int32)), .unset] [])) _
        refine XS.iloadN X0.here hx rfl (hb hby d2_24) rfl ?_
        show Steps p.tables e below (T0.setTop (mkF m 25 #[.val (.int p1), .val (.int (1 : Int32)), .unset] [(.int p1)])) _
        refine XS.bipush X0.here hx rfl (hb hby d2_25) ?_
        show Steps p.tables e below (T0.setTop (mkF m 27 #[.val (.int p1), .val (.int (1 : Int32)), .unset] [(.int (93 : Int32)), (.int p1)])) _
        by_cases hc27 : (93 : Int32) < p1
        · refine XS.icmpYes X0.here hx rfl (pc0 := 27) (pc' := 34) rfl (hb hby d2_27) rfl (tlt hc27).2.2.1 (by decide) (by decide) ?_
          show Steps p.tables e below (T0.setTop (mkF m 34 #[.val (.int p1), .val (.int (1 : Int32)), .unset] [])) _
          refine XS.iconst X0.here hx rfl (hb hby d2_34) ?_
          show Steps p.tables e below (T0.setTop (mkF m 35 #[.val (.int p1), .val (.int (1 : Int32)), .unset] [(.int (0 : Int32))])) _
          refine XS.istoreN X0.here hx rfl (hb hby d2_35) rfl (l' := #[.val (.int p1), .val (.int (1 : Int32)), .val (.int (0 : Int32))]) rfl ?_
          show Steps p.tables e below (T0.setTop (mkF m 36 #[.val (.int p1), .val (.int (1 : Int32)), .val (.int (0 : Int32))] [])) _
          refine XS.iloadN X0.here hx rfl (hb hby d2_36) rfl ?_
          show Steps p.tables e below (T0.setTop (mkF m 37 #[.val (.int p1), .val (.int (1 : Int32)), .val (.int (0 : Int32))] [(.int (1 : Int32))])) _
          refine XS.ifYes X0.here hx rfl (pc0 := 37) (pc' := 44) rfl (hb hby d2_37) rfl ((if0 _ _).trans (feq (by decide : ¬ ((1 : Int32) = (0 : Int32)))).2) (by decide) (by decide) ?_
          show Steps p.tables e below (T0.setTop (mkF m 44 #[.val (.int p1), .val (.int (1 : Int32)), .val (.int (0 : Int32))] [])) _
          refine XS.iconst X0.here hx rfl (hb hby d2_44) ?_
          show Steps p.tables e below (T0.setTop (mkF m 45 #[.val (.int p1), .val (.int (1 : Int32)), .val (.int (0 : Int32))] [(.int (1 : Int32))])) _
          refine XS.goto X0.here hx rfl (pc0 := 45) (pc' := 49) rfl (hb hby d2_45) (by decide) (by decide) ?_
          show Steps p.tables e below (T0.setTop (mkF m 49 #[.val (.int p1), .val (.int (1 : Int32)), .val (.int (0 : Int32))] [(.int (1 : Int32))])) _
          rw [show F2_0 p1 = (1 : Int32) from by unfold F2_0; rw [if_neg hc3, if_neg hc9, if_neg hc21, if_pos hc27]] at hr
          exact retN X0 hx (t := .boolean) hret (by simp) (hb hby d2_49) hr
        · refine XS.icmpNo X0.here hx rfl (hb hby d2_27) rfl (flt hc27).2.2.1 ?_
          show Steps p.tables e below (T0.setTop (mkF m 30 #[.val (.int p1), .val (.int (1 : Int32)), .unset] [])) _
          refine XS.iconst X0.here hx rfl (hb hby d2_30) ?_
          show Steps p.tables e below (T0.setTop (mkF m 31 #[.val (.int p1), .val (.int (1 : Int32)), .unset] [(.int (1 : Int32))])) _
          refine XS.goto X0.here hx rfl (pc0 := 31) (pc' := 35) rfl (hb hby d2_31) (by decide) (by decide) ?_
          show Steps p.tables e below (T0.setTop (mkF m 35 #[.val (.int p1), .val (.int (1 : Int32)), .unset] [(.int (1 : Int32))])) _
          refine XS.istoreN X0.here hx rfl (hb hby d2_35) rfl (l' := #[.val (.int p1), .val (.int (1 : Int32)), .val (.int (1 : Int32))]) rfl ?_
          show Steps p.tables e below (T0.setTop (mkF m 36 #[.val (.int p1), .val (.int (1 : Int32)), .val (.int (1 : Int32))] [])) _
          refine XS.iloadN X0.here hx rfl (hb hby d2_36) rfl ?_
          show Steps p.tables e below (T0.setTop (mkF m 37 #[.val (.int p1), .val (.int (1 : Int32)), .val (.int (1 : Int32))] [(.int (1 : Int32))])) _
          refine XS.ifYes X0.here hx rfl (pc0 := 37) (pc' := 44) rfl (hb hby d2_37) rfl ((if0 _ _).trans (feq (by decide : ¬ ((1 : Int32) = (0 : Int32)))).2) (by decide) (by decide) ?_
          show Steps p.tables e below (T0.setTop (mkF m 44 #[.val (.int p1), .val (.int (1 : Int32)), .val (.int (1 : Int32))] [])) _
          refine XS.iconst X0.here hx rfl (hb hby d2_44) ?_
          show Steps p.tables e below (T0.setTop (mkF m 45 #[.val (.int p1), .val (.int (1 : Int32)), .val (.int (1 : Int32))] [(.int (1 : Int32))])) _
          refine XS.goto X0.here hx rfl (pc0 := 45) (pc' := 49) rfl (hb hby d2_45) (by decide) (by decide) ?_
          show Steps p.tables e below (T0.setTop (mkF m 49 #[.val (.int p1), .val (.int (1 : Int32)), .val (.int (1 : Int32))] [(.int (1 : Int32))])) _
          rw [show F2_0 p1 = (1 : Int32) from by unfold F2_0; rw [if_neg hc3, if_neg hc9, if_neg hc21, if_neg hc27]] at hr
          exact retN X0 hx (t := .boolean) hret (by simp) (hb hby d2_49) hr
def Q2 (p1 : Int32) (h0 : Heap) (n0 : Nat) (v : Option Value) (h : Heap) (L : List Loc) : Prop := v = some (.int (F2_0 p1)) ∧ Fr n0 L ∧ h = h0
set_option maxRecDepth 65536 in
set_option maxHeartbeats 40000000 in
theorem rm2 (l : Launch) (Z : State) (a0 : Array Value) (hw : ∀ d ∈ tables_1, d.before a0 Z = true) (ws : List Jvm.Cond) (p1 : Int32) (h0 : Heap) (n0 : Nat) (Z0 : n0 ≤ h0.size) :
    MetFree l (⟨"com/example/kelpie/kelpie/engine/CodeFlowIsJumpPinLaw", "expected", "(I)Z"⟩ : MethodName) (head1 (Jvm.Cond.code (⟨"com/example/kelpie/kelpie/engine/CodeFlowIsJumpPinLaw", "expected", "(I)Z"⟩ : MethodName) method_2_code 3 (some .boolean) :: ws) ({ frames := 0, cells := 0, slots := 0, locals := 0 } : Room)) (fun a U => a = #[(.int p1)] ∧ Z.Warmed39 U.vm ∧ U.heap = h0) (fun _ _ _ _ _ => True) (fun _ U o U' => ∃ v L, o = .returned v ∧ Q2 p1 h0 n0 v U'.heap L ∧ FrameEnd U o U' L ({ frames := 0, cells := 0, slots := 0, locals := 0 } : Room).cells ({ frames := 0, cells := 0, slots := 0, locals := 0 } : Room).slots) := by
  refine MetFree.of_bodySF (plainFor_of_name pn_2) hisR ?_
  intro p e s m args below meth c s₁ Bd hml0 hP hK
  obtain ⟨rfl, hZ, hh⟩ := hP
  have hx := Bd.exec
  have hby := Bd.bytes
  have hml : c.maxLocals = 3 := hml0
  have hown : s.vm.findClass "com/example/kelpie/kelpie/engine/CodeFlowIsJumpPinLaw" = some m.cls := findClass_of_methodNamed Bd.named
  have hnm := (name_of_methodNamed Bd.named Bd.method).1
  have X0 : Stand p l e ({ frames := 0, cells := 0, slots := 0, locals := 0 } : Room) s m #[(.int p1)] below meth c s₁ [] 0 0 := Stand.of_body Bd
  have e0 : s₁.heap = h0 := by rw [← hh, Bd.state]; rfl
  have N0 := Fr.nil n0
  have pre0 : ∀ t, Steps p.tables e below (s₁.setTop (mkF m 0 #[.val (.int p1), .unset, .unset] [])) t → Steps p.tables e below (s₁.setTop (entryFrame m #[(.int p1)] 3)) t := fun t kt => castTop (ef_2 m p1) kt
  obtain ⟨fs, hr, hrun, hended, hW, hsame⟩ := X0.leave (v := some (.int (F2_0 p1))) (fun h => by rw [Bd.returns] at h; cases h)
  exact ⟨_, _, pre0 _ (bk2_0 p1 X0 hx hZ hw hby hown Bd.returns hr), hrun, hended, _, _, rfl, ⟨rfl, N0, by rw [← e0]; rfl⟩, ⟨_, rfl⟩, hW, hsame.mono (by decide) (by decide)⟩
theorem d3_0 : decode prog_21_method_9_code 0 = .ok (.iload_n 0, 1) := by decide +kernel
theorem d3_1 : decode prog_21_method_9_code 1 = .ok (.bipush 33, 2) := by decide +kernel
theorem d3_3 : decode prog_21_method_9_code 3 = .ok (.if_icmp .eq 39, 3) := by decide +kernel
theorem d3_6 : decode prog_21_method_9_code 6 = .ok (.iload_n 0, 1) := by decide +kernel
theorem d3_7 : decode prog_21_method_9_code 7 = .ok (.bipush 34, 2) := by decide +kernel
theorem d3_9 : decode prog_21_method_9_code 9 = .ok (.if_icmp .eq 33, 3) := by decide +kernel
theorem d3_12 : decode prog_21_method_9_code 12 = .ok (.iload_n 0, 1) := by decide +kernel
theorem d3_13 : decode prog_21_method_9_code 13 = .ok (.bipush 35, 2) := by decide +kernel
theorem d3_15 : decode prog_21_method_9_code 15 = .ok (.if_icmp .eq 27, 3) := by decide +kernel
theorem d3_18 : decode prog_21_method_9_code 18 = .ok (.iload_n 0, 1) := by decide +kernel
theorem d3_19 : decode prog_21_method_9_code 19 = .ok (.bipush 36, 2) := by decide +kernel
theorem d3_21 : decode prog_21_method_9_code 21 = .ok (.if_icmp .eq 21, 3) := by decide +kernel
theorem d3_24 : decode prog_21_method_9_code 24 = .ok (.iload_n 0, 1) := by decide +kernel
theorem d3_25 : decode prog_21_method_9_code 25 = .ok (.bipush 37, 2) := by decide +kernel
theorem d3_27 : decode prog_21_method_9_code 27 = .ok (.if_icmp .eq 15, 3) := by decide +kernel
theorem d3_30 : decode prog_21_method_9_code 30 = .ok (.iload_n 0, 1) := by decide +kernel
theorem d3_31 : decode prog_21_method_9_code 31 = .ok (.bipush 86, 2) := by decide +kernel
theorem d3_33 : decode prog_21_method_9_code 33 = .ok (.if_icmp .lt 13, 3) := by decide +kernel
theorem d3_36 : decode prog_21_method_9_code 36 = .ok (.iload_n 0, 1) := by decide +kernel
theorem d3_37 : decode prog_21_method_9_code 37 = .ok (.bipush 93, 2) := by decide +kernel
theorem d3_39 : decode prog_21_method_9_code 39 = .ok (.if_icmp .gt 7, 3) := by decide +kernel
theorem d3_42 : decode prog_21_method_9_code 42 = .ok (.iconst 1, 1) := by decide +kernel
theorem d3_43 : decode prog_21_method_9_code 43 = .ok (.goto 4, 3) := by decide +kernel
theorem d3_46 : decode prog_21_method_9_code 46 = .ok (.iconst 0, 1) := by decide +kernel
theorem d3_47 : decode prog_21_method_9_code 47 = .ok (.ireturn, 1) := by decide +kernel
theorem pn_3 : plainName "com/example/kelpie/kelpie/engine/CodeFlow" = true := by first | (simp [plainName, overriddenIn]; done) | decide +kernel
theorem ef_3 (m : MethodId) (p1 : Int32) : entryFrame m #[(.int p1)] 1 = mkF m 0 #[.val (.int p1)] [] := by first | (simp [entryFrame, mkF, argsToLocals, Value.category]; done) | rfl
def F3_0 (p1 : Int32) : Int32 := (if p1 = (33 : Int32) then (1 : Int32) else (if p1 = (34 : Int32) then (1 : Int32) else (if p1 = (35 : Int32) then (1 : Int32) else (if p1 = (36 : Int32) then (1 : Int32) else (if p1 = (37 : Int32) then (1 : Int32) else (if p1 < (86 : Int32) then (0 : Int32) else (if (93 : Int32) < p1 then (0 : Int32) else (1 : Int32))))))))
set_option maxRecDepth 65536 in
set_option maxHeartbeats 40000000 in
theorem bk3_0 {p : Program} {l : Launch} {e : Env} {R : Room} {s : State} {m : MethodId} {args : Array Value} {below : List Frame} {meth : Method} {c : Code} {T0 : State} {locs : List Loc} {cells slots : Nat} {Z : State} {a0 : Array Value} (p1 : Int32)
    (X0 : Stand p l e R s m args below meth c T0 locs cells slots) (hx : p.tables.exec = Jvm.exec) (hZ : Z.Warmed39 s.vm) (hw : ∀ d ∈ tables_1, d.before a0 Z = true) (hby : c.code = prog_21_method_9_code) (hown : s.vm.findClass "com/example/kelpie/kelpie/engine/CodeFlow" = some m.cls) (hret : meth.sig.returnType = some .boolean) {fs : List Frame}
    (hr : ∀ (f : JFrame) (acts : List Action), f.method = m → f.locked = none → f.entered = [] → (doReturn e (T0.setTop f) acts (some (.int (F3_0 p1)))).1 = T0.setFrames fs) :
    Steps p.tables e below (T0.setTop (mkF m 0 #[.val (.int p1)] [])) (T0.setFrames fs) := by
  show Steps p.tables e below (T0.setTop (mkF m 0 #[.val (.int p1)] [])) _
  refine XS.iloadN X0.here hx rfl (hb hby d3_0) rfl ?_
  show Steps p.tables e below (T0.setTop (mkF m 1 #[.val (.int p1)] [(.int p1)])) _
  refine XS.bipush X0.here hx rfl (hb hby d3_1) ?_
  show Steps p.tables e below (T0.setTop (mkF m 3 #[.val (.int p1)] [(.int (33 : Int32)), (.int p1)])) _
  by_cases hc3 : p1 = (33 : Int32)
  · refine XS.icmpYes X0.here hx rfl (pc0 := 3) (pc' := 42) rfl (hb hby d3_3) rfl (teq hc3).1 (by decide) (by decide) ?_
    show Steps p.tables e below (T0.setTop (mkF m 42 #[.val (.int p1)] [])) _
    refine XS.iconst X0.here hx rfl (hb hby d3_42) ?_
    show Steps p.tables e below (T0.setTop (mkF m 43 #[.val (.int p1)] [(.int (1 : Int32))])) _
    refine XS.goto X0.here hx rfl (pc0 := 43) (pc' := 47) rfl (hb hby d3_43) (by decide) (by decide) ?_
    show Steps p.tables e below (T0.setTop (mkF m 47 #[.val (.int p1)] [(.int (1 : Int32))])) _
    rw [show F3_0 p1 = (1 : Int32) from by unfold F3_0; rw [if_pos hc3]] at hr
    exact retN X0 hx (t := .boolean) hret (by simp) (hb hby d3_47) hr
  · refine XS.icmpNo X0.here hx rfl (hb hby d3_3) rfl (feq hc3).1 ?_
    show Steps p.tables e below (T0.setTop (mkF m 6 #[.val (.int p1)] [])) _
    refine XS.iloadN X0.here hx rfl (hb hby d3_6) rfl ?_
    show Steps p.tables e below (T0.setTop (mkF m 7 #[.val (.int p1)] [(.int p1)])) _
    refine XS.bipush X0.here hx rfl (hb hby d3_7) ?_
    show Steps p.tables e below (T0.setTop (mkF m 9 #[.val (.int p1)] [(.int (34 : Int32)), (.int p1)])) _
    by_cases hc9 : p1 = (34 : Int32)
    · refine XS.icmpYes X0.here hx rfl (pc0 := 9) (pc' := 42) rfl (hb hby d3_9) rfl (teq hc9).1 (by decide) (by decide) ?_
      show Steps p.tables e below (T0.setTop (mkF m 42 #[.val (.int p1)] [])) _
      refine XS.iconst X0.here hx rfl (hb hby d3_42) ?_
      show Steps p.tables e below (T0.setTop (mkF m 43 #[.val (.int p1)] [(.int (1 : Int32))])) _
      refine XS.goto X0.here hx rfl (pc0 := 43) (pc' := 47) rfl (hb hby d3_43) (by decide) (by decide) ?_
      show Steps p.tables e below (T0.setTop (mkF m 47 #[.val (.int p1)] [(.int (1 : Int32))])) _
      rw [show F3_0 p1 = (1 : Int32) from by unfold F3_0; rw [if_neg hc3, if_pos hc9]] at hr
      exact retN X0 hx (t := .boolean) hret (by simp) (hb hby d3_47) hr
    · refine XS.icmpNo X0.here hx rfl (hb hby d3_9) rfl (feq hc9).1 ?_
      show Steps p.tables e below (T0.setTop (mkF m 12 #[.val (.int p1)] [])) _
      refine XS.iloadN X0.here hx rfl (hb hby d3_12) rfl ?_
      show Steps p.tables e below (T0.setTop (mkF m 13 #[.val (.int p1)] [(.int p1)])) _
      refine XS.bipush X0.here hx rfl (hb hby d3_13) ?_
      show Steps p.tables e below (T0.setTop (mkF m 15 #[.val (.int p1)] [(.int (35 : Int32)), (.int p1)])) _
      by_cases hc15 : p1 = (35 : Int32)
      · refine XS.icmpYes X0.here hx rfl (pc0 := 15) (pc' := 42) rfl (hb hby d3_15) rfl (teq hc15).1 (by decide) (by decide) ?_
        show Steps p.tables e below (T0.setTop (mkF m 42 #[.val (.int p1)] [])) _
        refine XS.iconst X0.here hx rfl (hb hby d3_42) ?_
        show Steps p.tables e below (T0.setTop (mkF m 43 #[.val (.int p1)] [(.int (1 : Int32))])) _
        refine XS.goto X0.here hx rfl (pc0 := 43) (pc' := 47) rfl (hb hby d3_43) (by decide) (by decide) ?_
        show Steps p.tables e below (T0.setTop (mkF m 47 #[.val (.int p1)] [(.int (1 : Int32))])) _
        rw [show F3_0 p1 = (1 : Int32) from by unfold F3_0; rw [if_neg hc3, if_neg hc9, if_pos hc15]] at hr
        exact retN X0 hx (t := .boolean) hret (by simp) (hb hby d3_47) hr
      · refine XS.icmpNo X0.here hx rfl (hb hby d3_15) rfl (feq hc15).1 ?_
        show Steps p.tables e below (T0.setTop (mkF m 18 #[.val (.int p1)] [])) _
        refine XS.iloadN X0.here hx rfl (hb hby d3_18) rfl ?_
        show Steps p.tables e below (T0.setTop (mkF m 19 #[.val (.int p1)] [(.int p1)])) _
        refine XS.bipush X0.here hx rfl (hb hby d3_19) ?_
        show Steps p.tables e below (T0.setTop (mkF m 21 #[.val (.int p1)] [(.int (36 : Int32)), (.int p1)])) _
        by_cases hc21 : p1 = (36 : Int32)
        · refine XS.icmpYes X0.here hx rfl (pc0 := 21) (pc' := 42) rfl (hb hby d3_21) rfl (teq hc21).1 (by decide) (by decide) ?_
          show Steps p.tables e below (T0.setTop (mkF m 42 #[.val (.int p1)] [])) _
          refine XS.iconst X0.here hx rfl (hb hby d3_42) ?_
          show Steps p.tables e below (T0.setTop (mkF m 43 #[.val (.int p1)] [(.int (1 : Int32))])) _
          refine XS.goto X0.here hx rfl (pc0 := 43) (pc' := 47) rfl (hb hby d3_43) (by decide) (by decide) ?_
          show Steps p.tables e below (T0.setTop (mkF m 47 #[.val (.int p1)] [(.int (1 : Int32))])) _
          rw [show F3_0 p1 = (1 : Int32) from by unfold F3_0; rw [if_neg hc3, if_neg hc9, if_neg hc15, if_pos hc21]] at hr
          exact retN X0 hx (t := .boolean) hret (by simp) (hb hby d3_47) hr
        · refine XS.icmpNo X0.here hx rfl (hb hby d3_21) rfl (feq hc21).1 ?_
          show Steps p.tables e below (T0.setTop (mkF m 24 #[.val (.int p1)] [])) _
          refine XS.iloadN X0.here hx rfl (hb hby d3_24) rfl ?_
          show Steps p.tables e below (T0.setTop (mkF m 25 #[.val (.int p1)] [(.int p1)])) _
          refine XS.bipush X0.here hx rfl (hb hby d3_25) ?_
          show Steps p.tables e below (T0.setTop (mkF m 27 #[.val (.int p1)] [(.int (37 : Int32)), (.int p1)])) _
          by_cases hc27 : p1 = (37 : Int32)
          · refine XS.icmpYes X0.here hx rfl (pc0 := 27) (pc' := 42) rfl (hb hby d3_27) rfl (teq hc27).1 (by decide) (by decide) ?_
            show Steps p.tables e below (T0.setTop (mkF m 42 #[.val (.int p1)] [])) _
            refine XS.iconst X0.here hx rfl (hb hby d3_42) ?_
            show Steps p.tables e below (T0.setTop (mkF m 43 #[.val (.int p1)] [(.int (1 : Int32))])) _
            refine XS.goto X0.here hx rfl (pc0 := 43) (pc' := 47) rfl (hb hby d3_43) (by decide) (by decide) ?_
            show Steps p.tables e below (T0.setTop (mkF m 47 #[.val (.int p1)] [(.int (1 : Int32))])) _
            rw [show F3_0 p1 = (1 : Int32) from by unfold F3_0; rw [if_neg hc3, if_neg hc9, if_neg hc15, if_neg hc21, if_pos hc27]] at hr
            exact retN X0 hx (t := .boolean) hret (by simp) (hb hby d3_47) hr
          · refine XS.icmpNo X0.here hx rfl (hb hby d3_27) rfl (feq hc27).1 ?_
            show Steps p.tables e below (T0.setTop (mkF m 30 #[.val (.int p1)] [])) _
            refine XS.iloadN X0.here hx rfl (hb hby d3_30) rfl ?_
            show Steps p.tables e below (T0.setTop (mkF m 31 #[.val (.int p1)] [(.int p1)])) _
            refine XS.bipush X0.here hx rfl (hb hby d3_31) ?_
            show Steps p.tables e below (T0.setTop (mkF m 33 #[.val (.int p1)] [(.int (86 : Int32)), (.int p1)])) _
            by_cases hc33 : p1 < (86 : Int32)
            · refine XS.icmpYes X0.here hx rfl (pc0 := 33) (pc' := 46) rfl (hb hby d3_33) rfl (tlt hc33).1 (by decide) (by decide) ?_
              show Steps p.tables e below (T0.setTop (mkF m 46 #[.val (.int p1)] [])) _
              refine XS.iconst X0.here hx rfl (hb hby d3_46) ?_
              show Steps p.tables e below (T0.setTop (mkF m 47 #[.val (.int p1)] [(.int (0 : Int32))])) _
              rw [show F3_0 p1 = (0 : Int32) from by unfold F3_0; rw [if_neg hc3, if_neg hc9, if_neg hc15, if_neg hc21, if_neg hc27, if_pos hc33]] at hr
              exact retN X0 hx (t := .boolean) hret (by simp) (hb hby d3_47) hr
            · refine XS.icmpNo X0.here hx rfl (hb hby d3_33) rfl (flt hc33).1 ?_
              show Steps p.tables e below (T0.setTop (mkF m 36 #[.val (.int p1)] [])) _
              refine XS.iloadN X0.here hx rfl (hb hby d3_36) rfl ?_
              show Steps p.tables e below (T0.setTop (mkF m 37 #[.val (.int p1)] [(.int p1)])) _
              refine XS.bipush X0.here hx rfl (hb hby d3_37) ?_
              show Steps p.tables e below (T0.setTop (mkF m 39 #[.val (.int p1)] [(.int (93 : Int32)), (.int p1)])) _
              by_cases hc39 : (93 : Int32) < p1
              · refine XS.icmpYes X0.here hx rfl (pc0 := 39) (pc' := 46) rfl (hb hby d3_39) rfl (tlt hc39).2.2.1 (by decide) (by decide) ?_
                show Steps p.tables e below (T0.setTop (mkF m 46 #[.val (.int p1)] [])) _
                refine XS.iconst X0.here hx rfl (hb hby d3_46) ?_
                show Steps p.tables e below (T0.setTop (mkF m 47 #[.val (.int p1)] [(.int (0 : Int32))])) _
                rw [show F3_0 p1 = (0 : Int32) from by unfold F3_0; rw [if_neg hc3, if_neg hc9, if_neg hc15, if_neg hc21, if_neg hc27, if_neg hc33, if_pos hc39]] at hr
                exact retN X0 hx (t := .boolean) hret (by simp) (hb hby d3_47) hr
              · refine XS.icmpNo X0.here hx rfl (hb hby d3_39) rfl (flt hc39).2.2.1 ?_
                show Steps p.tables e below (T0.setTop (mkF m 42 #[.val (.int p1)] [])) _
                refine XS.iconst X0.here hx rfl (hb hby d3_42) ?_
                show Steps p.tables e below (T0.setTop (mkF m 43 #[.val (.int p1)] [(.int (1 : Int32))])) _
                refine XS.goto X0.here hx rfl (pc0 := 43) (pc' := 47) rfl (hb hby d3_43) (by decide) (by decide) ?_
                show Steps p.tables e below (T0.setTop (mkF m 47 #[.val (.int p1)] [(.int (1 : Int32))])) _
                rw [show F3_0 p1 = (1 : Int32) from by unfold F3_0; rw [if_neg hc3, if_neg hc9, if_neg hc15, if_neg hc21, if_neg hc27, if_neg hc33, if_neg hc39]] at hr
                exact retN X0 hx (t := .boolean) hret (by simp) (hb hby d3_47) hr
def Q3 (p1 : Int32) (h0 : Heap) (n0 : Nat) (v : Option Value) (h : Heap) (L : List Loc) : Prop := v = some (.int (F3_0 p1)) ∧ Fr n0 L ∧ h = h0
set_option maxRecDepth 65536 in
set_option maxHeartbeats 40000000 in
theorem rm3 (l : Launch) (Z : State) (a0 : Array Value) (hw : ∀ d ∈ tables_1, d.before a0 Z = true) (ws : List Jvm.Cond) (p1 : Int32) (h0 : Heap) (n0 : Nat) (Z0 : n0 ≤ h0.size) :
    MetFree l (⟨"com/example/kelpie/kelpie/engine/CodeFlow", "isJump", "(I)Z"⟩ : MethodName) (head1 (Jvm.Cond.code (⟨"com/example/kelpie/kelpie/engine/CodeFlow", "isJump", "(I)Z"⟩ : MethodName) prog_21_method_9_code 1 (some .boolean) :: ws) ({ frames := 0, cells := 0, slots := 0, locals := 0 } : Room)) (fun a U => a = #[(.int p1)] ∧ Z.Warmed39 U.vm ∧ U.heap = h0) (fun _ _ _ _ _ => True) (fun _ U o U' => ∃ v L, o = .returned v ∧ Q3 p1 h0 n0 v U'.heap L ∧ FrameEnd U o U' L ({ frames := 0, cells := 0, slots := 0, locals := 0 } : Room).cells ({ frames := 0, cells := 0, slots := 0, locals := 0 } : Room).slots) := by
  refine MetFree.of_bodySF (plainFor_of_name pn_3) hisR ?_
  intro p e s m args below meth c s₁ Bd hml0 hP hK
  obtain ⟨rfl, hZ, hh⟩ := hP
  have hx := Bd.exec
  have hby := Bd.bytes
  have hml : c.maxLocals = 1 := hml0
  have hown : s.vm.findClass "com/example/kelpie/kelpie/engine/CodeFlow" = some m.cls := findClass_of_methodNamed Bd.named
  have hnm := (name_of_methodNamed Bd.named Bd.method).1
  have X0 : Stand p l e ({ frames := 0, cells := 0, slots := 0, locals := 0 } : Room) s m #[(.int p1)] below meth c s₁ [] 0 0 := Stand.of_body Bd
  have e0 : s₁.heap = h0 := by rw [← hh, Bd.state]; rfl
  have N0 := Fr.nil n0
  have pre0 : ∀ t, Steps p.tables e below (s₁.setTop (mkF m 0 #[.val (.int p1)] [])) t → Steps p.tables e below (s₁.setTop (entryFrame m #[(.int p1)] 1)) t := fun t kt => castTop (ef_3 m p1) kt
  obtain ⟨fs, hr, hrun, hended, hW, hsame⟩ := X0.leave (v := some (.int (F3_0 p1))) (fun h => by rw [Bd.returns] at h; cases h)
  exact ⟨_, _, pre0 _ (bk3_0 p1 X0 hx hZ hw hby hown Bd.returns hr), hrun, hended, _, _, rfl, ⟨rfl, N0, by rw [← e0]; rfl⟩, ⟨_, rfl⟩, hW, hsame.mono (by decide) (by decide)⟩
theorem d4_0 : decode prog_20_method_5_code 0 = .ok (.iload_n 0, 1) := by decide +kernel
theorem d4_1 : decode prog_20_method_5_code 1 = .ok (.tableswitch 423 0 96 #[403, 423, 423, 423, 408, 403, 408, 423, 423, 423, 423, 423, 423, 423, 423, 423, 423, 423, 423, 423, 423, 423, 423, 423, 423, 423, 423, 423, 423, 423, 423, 423, 423, 403, 403, 403, 403, 403, 408, 423, 423, 403, 403, 408, 408, 423, 423, 403, 423, 423, 423, 423, 423, 408, 423, 423, 423, 423, 408, 403, 423, 403, 423, 423, 423, 403, 423, 403, 403, 413, 413, 423, 423, 423, 423, 408, 408, 413, 408, 418, 413, 413, 413, 413, 413, 413, 418, 418, 418, 418, 418, 418, 418, 418, 408, 403, 408], 403) := by decide +kernel
theorem d4_404 : decode prog_20_method_5_code 404 = .ok (.iconst 1, 1) := by decide +kernel
theorem d4_405 : decode prog_20_method_5_code 405 = .ok (.istore_n 1, 1) := by decide +kernel
theorem d4_406 : decode prog_20_method_5_code 406 = .ok (.goto 20, 3) := by decide +kernel
theorem d4_419 : decode prog_20_method_5_code 419 = .ok (.iconst 4, 1) := by decide +kernel
theorem d4_420 : decode prog_20_method_5_code 420 = .ok (.istore_n 1, 1) := by decide +kernel
theorem d4_421 : decode prog_20_method_5_code 421 = .ok (.goto 5, 3) := by decide +kernel
theorem d4_426 : decode prog_20_method_5_code 426 = .ok (.iconst 1, 1) := by decide +kernel
theorem d4_427 : decode prog_20_method_5_code 427 = .ok (.iload_n 1, 1) := by decide +kernel
theorem d4_428 : decode prog_20_method_5_code 428 = .ok (.iadd, 1) := by decide +kernel
theorem d4_429 : decode prog_20_method_5_code 429 = .ok (.ireturn, 1) := by decide +kernel
theorem pn_4 : plainName "com/example/kelpie/kelpie/engine/Code" = true := by first | (simp [plainName, overriddenIn]; done) | decide +kernel
theorem ef_4 (m : MethodId) (p1 : Int32) : entryFrame m #[(.int p1)] 2 = mkF m 0 #[.val (.int p1), .unset] [] := by first | (simp [entryFrame, mkF, argsToLocals, Value.category]; done) | rfl
set_option maxRecDepth 65536 in
set_option maxHeartbeats 40000000 in
theorem ln_33 {p : Program} {l : Launch} {e : Env} {R : Room} {s : State} {m : MethodId} {args : Array Value} {below : List Frame} {meth : Method} {c : Code} {T0 : State} {locs : List Loc} {cells slots : Nat}
    (X0 : Stand p l e R s m args below meth c T0 locs cells slots) (hx : p.tables.exec = Jvm.exec) (hby : c.code = prog_20_method_5_code) (hret : meth.sig.returnType = some .int) {fs : List Frame}
    (hr : ∀ (f : JFrame) (acts : List Action), f.method = m → f.locked = none → f.entered = [] → (doReturn e (T0.setTop f) acts (some (.int (2 : Int32)))).1 = T0.setFrames fs) :
    Steps p.tables e below (T0.setTop (mkF m 0 #[.val (.int (33 : Int32)), .unset] [])) (T0.setFrames fs) := by
  show Steps p.tables e below (T0.setTop (mkF m 0 #[.val (.int (33 : Int32)), .unset] [])) _
  refine XS.iloadN X0.here hx rfl (hb hby d4_0) rfl ?_
  show Steps p.tables e below (T0.setTop (mkF m 1 #[.val (.int (33 : Int32)), .unset] [(.int (33 : Int32))])) _
  refine XS.tswIn X0.here hx rfl (pc0 := 1) (pc' := 404) rfl (hb hby d4_1) rfl (by decide) (o := 403) (by decide) (by decide) (by decide) ?_
  show Steps p.tables e below (T0.setTop (mkF m 404 #[.val (.int (33 : Int32)), .unset] [])) _
  refine XS.iconst X0.here hx rfl (hb hby d4_404) ?_
  show Steps p.tables e below (T0.setTop (mkF m 405 #[.val (.int (33 : Int32)), .unset] [(.int (1 : Int32))])) _
  refine XS.istoreN X0.here hx rfl (hb hby d4_405) rfl (l' := #[.val (.int (33 : Int32)), .val (.int (1 : Int32))]) rfl ?_
  show Steps p.tables e below (T0.setTop (mkF m 406 #[.val (.int (33 : Int32)), .val (.int (1 : Int32))] [])) _
  refine XS.goto X0.here hx rfl (pc0 := 406) (pc' := 426) rfl (hb hby d4_406) (by decide) (by decide) ?_
  show Steps p.tables e below (T0.setTop (mkF m 426 #[.val (.int (33 : Int32)), .val (.int (1 : Int32))] [])) _
  refine XS.iconst X0.here hx rfl (hb hby d4_426) ?_
  show Steps p.tables e below (T0.setTop (mkF m 427 #[.val (.int (33 : Int32)), .val (.int (1 : Int32))] [(.int (1 : Int32))])) _
  refine XS.iloadN X0.here hx rfl (hb hby d4_427) rfl ?_
  show Steps p.tables e below (T0.setTop (mkF m 428 #[.val (.int (33 : Int32)), .val (.int (1 : Int32))] [(.int (1 : Int32)), (.int (1 : Int32))])) _
  refine XS.iadd X0.here hx rfl (hb hby d4_428) rfl ?_
  show Steps p.tables e below (T0.setTop (mkF m 429 #[.val (.int (33 : Int32)), .val (.int (1 : Int32))] [(.int ((1 : Int32) + (1 : Int32)))])) _
  exact retI X0 hx hret (hb hby d4_429) hr
set_option maxRecDepth 65536 in
set_option maxHeartbeats 40000000 in
theorem ln_34 {p : Program} {l : Launch} {e : Env} {R : Room} {s : State} {m : MethodId} {args : Array Value} {below : List Frame} {meth : Method} {c : Code} {T0 : State} {locs : List Loc} {cells slots : Nat}
    (X0 : Stand p l e R s m args below meth c T0 locs cells slots) (hx : p.tables.exec = Jvm.exec) (hby : c.code = prog_20_method_5_code) (hret : meth.sig.returnType = some .int) {fs : List Frame}
    (hr : ∀ (f : JFrame) (acts : List Action), f.method = m → f.locked = none → f.entered = [] → (doReturn e (T0.setTop f) acts (some (.int (2 : Int32)))).1 = T0.setFrames fs) :
    Steps p.tables e below (T0.setTop (mkF m 0 #[.val (.int (34 : Int32)), .unset] [])) (T0.setFrames fs) := by
  show Steps p.tables e below (T0.setTop (mkF m 0 #[.val (.int (34 : Int32)), .unset] [])) _
  refine XS.iloadN X0.here hx rfl (hb hby d4_0) rfl ?_
  show Steps p.tables e below (T0.setTop (mkF m 1 #[.val (.int (34 : Int32)), .unset] [(.int (34 : Int32))])) _
  refine XS.tswIn X0.here hx rfl (pc0 := 1) (pc' := 404) rfl (hb hby d4_1) rfl (by decide) (o := 403) (by decide) (by decide) (by decide) ?_
  show Steps p.tables e below (T0.setTop (mkF m 404 #[.val (.int (34 : Int32)), .unset] [])) _
  refine XS.iconst X0.here hx rfl (hb hby d4_404) ?_
  show Steps p.tables e below (T0.setTop (mkF m 405 #[.val (.int (34 : Int32)), .unset] [(.int (1 : Int32))])) _
  refine XS.istoreN X0.here hx rfl (hb hby d4_405) rfl (l' := #[.val (.int (34 : Int32)), .val (.int (1 : Int32))]) rfl ?_
  show Steps p.tables e below (T0.setTop (mkF m 406 #[.val (.int (34 : Int32)), .val (.int (1 : Int32))] [])) _
  refine XS.goto X0.here hx rfl (pc0 := 406) (pc' := 426) rfl (hb hby d4_406) (by decide) (by decide) ?_
  show Steps p.tables e below (T0.setTop (mkF m 426 #[.val (.int (34 : Int32)), .val (.int (1 : Int32))] [])) _
  refine XS.iconst X0.here hx rfl (hb hby d4_426) ?_
  show Steps p.tables e below (T0.setTop (mkF m 427 #[.val (.int (34 : Int32)), .val (.int (1 : Int32))] [(.int (1 : Int32))])) _
  refine XS.iloadN X0.here hx rfl (hb hby d4_427) rfl ?_
  show Steps p.tables e below (T0.setTop (mkF m 428 #[.val (.int (34 : Int32)), .val (.int (1 : Int32))] [(.int (1 : Int32)), (.int (1 : Int32))])) _
  refine XS.iadd X0.here hx rfl (hb hby d4_428) rfl ?_
  show Steps p.tables e below (T0.setTop (mkF m 429 #[.val (.int (34 : Int32)), .val (.int (1 : Int32))] [(.int ((1 : Int32) + (1 : Int32)))])) _
  exact retI X0 hx hret (hb hby d4_429) hr
set_option maxRecDepth 65536 in
set_option maxHeartbeats 40000000 in
theorem ln_35 {p : Program} {l : Launch} {e : Env} {R : Room} {s : State} {m : MethodId} {args : Array Value} {below : List Frame} {meth : Method} {c : Code} {T0 : State} {locs : List Loc} {cells slots : Nat}
    (X0 : Stand p l e R s m args below meth c T0 locs cells slots) (hx : p.tables.exec = Jvm.exec) (hby : c.code = prog_20_method_5_code) (hret : meth.sig.returnType = some .int) {fs : List Frame}
    (hr : ∀ (f : JFrame) (acts : List Action), f.method = m → f.locked = none → f.entered = [] → (doReturn e (T0.setTop f) acts (some (.int (2 : Int32)))).1 = T0.setFrames fs) :
    Steps p.tables e below (T0.setTop (mkF m 0 #[.val (.int (35 : Int32)), .unset] [])) (T0.setFrames fs) := by
  show Steps p.tables e below (T0.setTop (mkF m 0 #[.val (.int (35 : Int32)), .unset] [])) _
  refine XS.iloadN X0.here hx rfl (hb hby d4_0) rfl ?_
  show Steps p.tables e below (T0.setTop (mkF m 1 #[.val (.int (35 : Int32)), .unset] [(.int (35 : Int32))])) _
  refine XS.tswIn X0.here hx rfl (pc0 := 1) (pc' := 404) rfl (hb hby d4_1) rfl (by decide) (o := 403) (by decide) (by decide) (by decide) ?_
  show Steps p.tables e below (T0.setTop (mkF m 404 #[.val (.int (35 : Int32)), .unset] [])) _
  refine XS.iconst X0.here hx rfl (hb hby d4_404) ?_
  show Steps p.tables e below (T0.setTop (mkF m 405 #[.val (.int (35 : Int32)), .unset] [(.int (1 : Int32))])) _
  refine XS.istoreN X0.here hx rfl (hb hby d4_405) rfl (l' := #[.val (.int (35 : Int32)), .val (.int (1 : Int32))]) rfl ?_
  show Steps p.tables e below (T0.setTop (mkF m 406 #[.val (.int (35 : Int32)), .val (.int (1 : Int32))] [])) _
  refine XS.goto X0.here hx rfl (pc0 := 406) (pc' := 426) rfl (hb hby d4_406) (by decide) (by decide) ?_
  show Steps p.tables e below (T0.setTop (mkF m 426 #[.val (.int (35 : Int32)), .val (.int (1 : Int32))] [])) _
  refine XS.iconst X0.here hx rfl (hb hby d4_426) ?_
  show Steps p.tables e below (T0.setTop (mkF m 427 #[.val (.int (35 : Int32)), .val (.int (1 : Int32))] [(.int (1 : Int32))])) _
  refine XS.iloadN X0.here hx rfl (hb hby d4_427) rfl ?_
  show Steps p.tables e below (T0.setTop (mkF m 428 #[.val (.int (35 : Int32)), .val (.int (1 : Int32))] [(.int (1 : Int32)), (.int (1 : Int32))])) _
  refine XS.iadd X0.here hx rfl (hb hby d4_428) rfl ?_
  show Steps p.tables e below (T0.setTop (mkF m 429 #[.val (.int (35 : Int32)), .val (.int (1 : Int32))] [(.int ((1 : Int32) + (1 : Int32)))])) _
  exact retI X0 hx hret (hb hby d4_429) hr
set_option maxRecDepth 65536 in
set_option maxHeartbeats 40000000 in
theorem ln_36 {p : Program} {l : Launch} {e : Env} {R : Room} {s : State} {m : MethodId} {args : Array Value} {below : List Frame} {meth : Method} {c : Code} {T0 : State} {locs : List Loc} {cells slots : Nat}
    (X0 : Stand p l e R s m args below meth c T0 locs cells slots) (hx : p.tables.exec = Jvm.exec) (hby : c.code = prog_20_method_5_code) (hret : meth.sig.returnType = some .int) {fs : List Frame}
    (hr : ∀ (f : JFrame) (acts : List Action), f.method = m → f.locked = none → f.entered = [] → (doReturn e (T0.setTop f) acts (some (.int (2 : Int32)))).1 = T0.setFrames fs) :
    Steps p.tables e below (T0.setTop (mkF m 0 #[.val (.int (36 : Int32)), .unset] [])) (T0.setFrames fs) := by
  show Steps p.tables e below (T0.setTop (mkF m 0 #[.val (.int (36 : Int32)), .unset] [])) _
  refine XS.iloadN X0.here hx rfl (hb hby d4_0) rfl ?_
  show Steps p.tables e below (T0.setTop (mkF m 1 #[.val (.int (36 : Int32)), .unset] [(.int (36 : Int32))])) _
  refine XS.tswIn X0.here hx rfl (pc0 := 1) (pc' := 404) rfl (hb hby d4_1) rfl (by decide) (o := 403) (by decide) (by decide) (by decide) ?_
  show Steps p.tables e below (T0.setTop (mkF m 404 #[.val (.int (36 : Int32)), .unset] [])) _
  refine XS.iconst X0.here hx rfl (hb hby d4_404) ?_
  show Steps p.tables e below (T0.setTop (mkF m 405 #[.val (.int (36 : Int32)), .unset] [(.int (1 : Int32))])) _
  refine XS.istoreN X0.here hx rfl (hb hby d4_405) rfl (l' := #[.val (.int (36 : Int32)), .val (.int (1 : Int32))]) rfl ?_
  show Steps p.tables e below (T0.setTop (mkF m 406 #[.val (.int (36 : Int32)), .val (.int (1 : Int32))] [])) _
  refine XS.goto X0.here hx rfl (pc0 := 406) (pc' := 426) rfl (hb hby d4_406) (by decide) (by decide) ?_
  show Steps p.tables e below (T0.setTop (mkF m 426 #[.val (.int (36 : Int32)), .val (.int (1 : Int32))] [])) _
  refine XS.iconst X0.here hx rfl (hb hby d4_426) ?_
  show Steps p.tables e below (T0.setTop (mkF m 427 #[.val (.int (36 : Int32)), .val (.int (1 : Int32))] [(.int (1 : Int32))])) _
  refine XS.iloadN X0.here hx rfl (hb hby d4_427) rfl ?_
  show Steps p.tables e below (T0.setTop (mkF m 428 #[.val (.int (36 : Int32)), .val (.int (1 : Int32))] [(.int (1 : Int32)), (.int (1 : Int32))])) _
  refine XS.iadd X0.here hx rfl (hb hby d4_428) rfl ?_
  show Steps p.tables e below (T0.setTop (mkF m 429 #[.val (.int (36 : Int32)), .val (.int (1 : Int32))] [(.int ((1 : Int32) + (1 : Int32)))])) _
  exact retI X0 hx hret (hb hby d4_429) hr
set_option maxRecDepth 65536 in
set_option maxHeartbeats 40000000 in
theorem ln_37 {p : Program} {l : Launch} {e : Env} {R : Room} {s : State} {m : MethodId} {args : Array Value} {below : List Frame} {meth : Method} {c : Code} {T0 : State} {locs : List Loc} {cells slots : Nat}
    (X0 : Stand p l e R s m args below meth c T0 locs cells slots) (hx : p.tables.exec = Jvm.exec) (hby : c.code = prog_20_method_5_code) (hret : meth.sig.returnType = some .int) {fs : List Frame}
    (hr : ∀ (f : JFrame) (acts : List Action), f.method = m → f.locked = none → f.entered = [] → (doReturn e (T0.setTop f) acts (some (.int (2 : Int32)))).1 = T0.setFrames fs) :
    Steps p.tables e below (T0.setTop (mkF m 0 #[.val (.int (37 : Int32)), .unset] [])) (T0.setFrames fs) := by
  show Steps p.tables e below (T0.setTop (mkF m 0 #[.val (.int (37 : Int32)), .unset] [])) _
  refine XS.iloadN X0.here hx rfl (hb hby d4_0) rfl ?_
  show Steps p.tables e below (T0.setTop (mkF m 1 #[.val (.int (37 : Int32)), .unset] [(.int (37 : Int32))])) _
  refine XS.tswIn X0.here hx rfl (pc0 := 1) (pc' := 404) rfl (hb hby d4_1) rfl (by decide) (o := 403) (by decide) (by decide) (by decide) ?_
  show Steps p.tables e below (T0.setTop (mkF m 404 #[.val (.int (37 : Int32)), .unset] [])) _
  refine XS.iconst X0.here hx rfl (hb hby d4_404) ?_
  show Steps p.tables e below (T0.setTop (mkF m 405 #[.val (.int (37 : Int32)), .unset] [(.int (1 : Int32))])) _
  refine XS.istoreN X0.here hx rfl (hb hby d4_405) rfl (l' := #[.val (.int (37 : Int32)), .val (.int (1 : Int32))]) rfl ?_
  show Steps p.tables e below (T0.setTop (mkF m 406 #[.val (.int (37 : Int32)), .val (.int (1 : Int32))] [])) _
  refine XS.goto X0.here hx rfl (pc0 := 406) (pc' := 426) rfl (hb hby d4_406) (by decide) (by decide) ?_
  show Steps p.tables e below (T0.setTop (mkF m 426 #[.val (.int (37 : Int32)), .val (.int (1 : Int32))] [])) _
  refine XS.iconst X0.here hx rfl (hb hby d4_426) ?_
  show Steps p.tables e below (T0.setTop (mkF m 427 #[.val (.int (37 : Int32)), .val (.int (1 : Int32))] [(.int (1 : Int32))])) _
  refine XS.iloadN X0.here hx rfl (hb hby d4_427) rfl ?_
  show Steps p.tables e below (T0.setTop (mkF m 428 #[.val (.int (37 : Int32)), .val (.int (1 : Int32))] [(.int (1 : Int32)), (.int (1 : Int32))])) _
  refine XS.iadd X0.here hx rfl (hb hby d4_428) rfl ?_
  show Steps p.tables e below (T0.setTop (mkF m 429 #[.val (.int (37 : Int32)), .val (.int (1 : Int32))] [(.int ((1 : Int32) + (1 : Int32)))])) _
  exact retI X0 hx hret (hb hby d4_429) hr
set_option maxRecDepth 65536 in
set_option maxHeartbeats 40000000 in
theorem ln_86 {p : Program} {l : Launch} {e : Env} {R : Room} {s : State} {m : MethodId} {args : Array Value} {below : List Frame} {meth : Method} {c : Code} {T0 : State} {locs : List Loc} {cells slots : Nat}
    (X0 : Stand p l e R s m args below meth c T0 locs cells slots) (hx : p.tables.exec = Jvm.exec) (hby : c.code = prog_20_method_5_code) (hret : meth.sig.returnType = some .int) {fs : List Frame}
    (hr : ∀ (f : JFrame) (acts : List Action), f.method = m → f.locked = none → f.entered = [] → (doReturn e (T0.setTop f) acts (some (.int (5 : Int32)))).1 = T0.setFrames fs) :
    Steps p.tables e below (T0.setTop (mkF m 0 #[.val (.int (86 : Int32)), .unset] [])) (T0.setFrames fs) := by
  show Steps p.tables e below (T0.setTop (mkF m 0 #[.val (.int (86 : Int32)), .unset] [])) _
  refine XS.iloadN X0.here hx rfl (hb hby d4_0) rfl ?_
  show Steps p.tables e below (T0.setTop (mkF m 1 #[.val (.int (86 : Int32)), .unset] [(.int (86 : Int32))])) _
  refine XS.tswIn X0.here hx rfl (pc0 := 1) (pc' := 419) rfl (hb hby d4_1) rfl (by decide) (o := 418) (by decide) (by decide) (by decide) ?_
  show Steps p.tables e below (T0.setTop (mkF m 419 #[.val (.int (86 : Int32)), .unset] [])) _
  refine XS.iconst X0.here hx rfl (hb hby d4_419) ?_
  show Steps p.tables e below (T0.setTop (mkF m 420 #[.val (.int (86 : Int32)), .unset] [(.int (4 : Int32))])) _
  refine XS.istoreN X0.here hx rfl (hb hby d4_420) rfl (l' := #[.val (.int (86 : Int32)), .val (.int (4 : Int32))]) rfl ?_
  show Steps p.tables e below (T0.setTop (mkF m 421 #[.val (.int (86 : Int32)), .val (.int (4 : Int32))] [])) _
  refine XS.goto X0.here hx rfl (pc0 := 421) (pc' := 426) rfl (hb hby d4_421) (by decide) (by decide) ?_
  show Steps p.tables e below (T0.setTop (mkF m 426 #[.val (.int (86 : Int32)), .val (.int (4 : Int32))] [])) _
  refine XS.iconst X0.here hx rfl (hb hby d4_426) ?_
  show Steps p.tables e below (T0.setTop (mkF m 427 #[.val (.int (86 : Int32)), .val (.int (4 : Int32))] [(.int (1 : Int32))])) _
  refine XS.iloadN X0.here hx rfl (hb hby d4_427) rfl ?_
  show Steps p.tables e below (T0.setTop (mkF m 428 #[.val (.int (86 : Int32)), .val (.int (4 : Int32))] [(.int (4 : Int32)), (.int (1 : Int32))])) _
  refine XS.iadd X0.here hx rfl (hb hby d4_428) rfl ?_
  show Steps p.tables e below (T0.setTop (mkF m 429 #[.val (.int (86 : Int32)), .val (.int (4 : Int32))] [(.int ((1 : Int32) + (4 : Int32)))])) _
  exact retI X0 hx hret (hb hby d4_429) hr
set_option maxRecDepth 65536 in
set_option maxHeartbeats 40000000 in
theorem ln_87 {p : Program} {l : Launch} {e : Env} {R : Room} {s : State} {m : MethodId} {args : Array Value} {below : List Frame} {meth : Method} {c : Code} {T0 : State} {locs : List Loc} {cells slots : Nat}
    (X0 : Stand p l e R s m args below meth c T0 locs cells slots) (hx : p.tables.exec = Jvm.exec) (hby : c.code = prog_20_method_5_code) (hret : meth.sig.returnType = some .int) {fs : List Frame}
    (hr : ∀ (f : JFrame) (acts : List Action), f.method = m → f.locked = none → f.entered = [] → (doReturn e (T0.setTop f) acts (some (.int (5 : Int32)))).1 = T0.setFrames fs) :
    Steps p.tables e below (T0.setTop (mkF m 0 #[.val (.int (87 : Int32)), .unset] [])) (T0.setFrames fs) := by
  show Steps p.tables e below (T0.setTop (mkF m 0 #[.val (.int (87 : Int32)), .unset] [])) _
  refine XS.iloadN X0.here hx rfl (hb hby d4_0) rfl ?_
  show Steps p.tables e below (T0.setTop (mkF m 1 #[.val (.int (87 : Int32)), .unset] [(.int (87 : Int32))])) _
  refine XS.tswIn X0.here hx rfl (pc0 := 1) (pc' := 419) rfl (hb hby d4_1) rfl (by decide) (o := 418) (by decide) (by decide) (by decide) ?_
  show Steps p.tables e below (T0.setTop (mkF m 419 #[.val (.int (87 : Int32)), .unset] [])) _
  refine XS.iconst X0.here hx rfl (hb hby d4_419) ?_
  show Steps p.tables e below (T0.setTop (mkF m 420 #[.val (.int (87 : Int32)), .unset] [(.int (4 : Int32))])) _
  refine XS.istoreN X0.here hx rfl (hb hby d4_420) rfl (l' := #[.val (.int (87 : Int32)), .val (.int (4 : Int32))]) rfl ?_
  show Steps p.tables e below (T0.setTop (mkF m 421 #[.val (.int (87 : Int32)), .val (.int (4 : Int32))] [])) _
  refine XS.goto X0.here hx rfl (pc0 := 421) (pc' := 426) rfl (hb hby d4_421) (by decide) (by decide) ?_
  show Steps p.tables e below (T0.setTop (mkF m 426 #[.val (.int (87 : Int32)), .val (.int (4 : Int32))] [])) _
  refine XS.iconst X0.here hx rfl (hb hby d4_426) ?_
  show Steps p.tables e below (T0.setTop (mkF m 427 #[.val (.int (87 : Int32)), .val (.int (4 : Int32))] [(.int (1 : Int32))])) _
  refine XS.iloadN X0.here hx rfl (hb hby d4_427) rfl ?_
  show Steps p.tables e below (T0.setTop (mkF m 428 #[.val (.int (87 : Int32)), .val (.int (4 : Int32))] [(.int (4 : Int32)), (.int (1 : Int32))])) _
  refine XS.iadd X0.here hx rfl (hb hby d4_428) rfl ?_
  show Steps p.tables e below (T0.setTop (mkF m 429 #[.val (.int (87 : Int32)), .val (.int (4 : Int32))] [(.int ((1 : Int32) + (4 : Int32)))])) _
  exact retI X0 hx hret (hb hby d4_429) hr
set_option maxRecDepth 65536 in
set_option maxHeartbeats 40000000 in
theorem ln_88 {p : Program} {l : Launch} {e : Env} {R : Room} {s : State} {m : MethodId} {args : Array Value} {below : List Frame} {meth : Method} {c : Code} {T0 : State} {locs : List Loc} {cells slots : Nat}
    (X0 : Stand p l e R s m args below meth c T0 locs cells slots) (hx : p.tables.exec = Jvm.exec) (hby : c.code = prog_20_method_5_code) (hret : meth.sig.returnType = some .int) {fs : List Frame}
    (hr : ∀ (f : JFrame) (acts : List Action), f.method = m → f.locked = none → f.entered = [] → (doReturn e (T0.setTop f) acts (some (.int (5 : Int32)))).1 = T0.setFrames fs) :
    Steps p.tables e below (T0.setTop (mkF m 0 #[.val (.int (88 : Int32)), .unset] [])) (T0.setFrames fs) := by
  show Steps p.tables e below (T0.setTop (mkF m 0 #[.val (.int (88 : Int32)), .unset] [])) _
  refine XS.iloadN X0.here hx rfl (hb hby d4_0) rfl ?_
  show Steps p.tables e below (T0.setTop (mkF m 1 #[.val (.int (88 : Int32)), .unset] [(.int (88 : Int32))])) _
  refine XS.tswIn X0.here hx rfl (pc0 := 1) (pc' := 419) rfl (hb hby d4_1) rfl (by decide) (o := 418) (by decide) (by decide) (by decide) ?_
  show Steps p.tables e below (T0.setTop (mkF m 419 #[.val (.int (88 : Int32)), .unset] [])) _
  refine XS.iconst X0.here hx rfl (hb hby d4_419) ?_
  show Steps p.tables e below (T0.setTop (mkF m 420 #[.val (.int (88 : Int32)), .unset] [(.int (4 : Int32))])) _
  refine XS.istoreN X0.here hx rfl (hb hby d4_420) rfl (l' := #[.val (.int (88 : Int32)), .val (.int (4 : Int32))]) rfl ?_
  show Steps p.tables e below (T0.setTop (mkF m 421 #[.val (.int (88 : Int32)), .val (.int (4 : Int32))] [])) _
  refine XS.goto X0.here hx rfl (pc0 := 421) (pc' := 426) rfl (hb hby d4_421) (by decide) (by decide) ?_
  show Steps p.tables e below (T0.setTop (mkF m 426 #[.val (.int (88 : Int32)), .val (.int (4 : Int32))] [])) _
  refine XS.iconst X0.here hx rfl (hb hby d4_426) ?_
  show Steps p.tables e below (T0.setTop (mkF m 427 #[.val (.int (88 : Int32)), .val (.int (4 : Int32))] [(.int (1 : Int32))])) _
  refine XS.iloadN X0.here hx rfl (hb hby d4_427) rfl ?_
  show Steps p.tables e below (T0.setTop (mkF m 428 #[.val (.int (88 : Int32)), .val (.int (4 : Int32))] [(.int (4 : Int32)), (.int (1 : Int32))])) _
  refine XS.iadd X0.here hx rfl (hb hby d4_428) rfl ?_
  show Steps p.tables e below (T0.setTop (mkF m 429 #[.val (.int (88 : Int32)), .val (.int (4 : Int32))] [(.int ((1 : Int32) + (4 : Int32)))])) _
  exact retI X0 hx hret (hb hby d4_429) hr
set_option maxRecDepth 65536 in
set_option maxHeartbeats 40000000 in
theorem ln_89 {p : Program} {l : Launch} {e : Env} {R : Room} {s : State} {m : MethodId} {args : Array Value} {below : List Frame} {meth : Method} {c : Code} {T0 : State} {locs : List Loc} {cells slots : Nat}
    (X0 : Stand p l e R s m args below meth c T0 locs cells slots) (hx : p.tables.exec = Jvm.exec) (hby : c.code = prog_20_method_5_code) (hret : meth.sig.returnType = some .int) {fs : List Frame}
    (hr : ∀ (f : JFrame) (acts : List Action), f.method = m → f.locked = none → f.entered = [] → (doReturn e (T0.setTop f) acts (some (.int (5 : Int32)))).1 = T0.setFrames fs) :
    Steps p.tables e below (T0.setTop (mkF m 0 #[.val (.int (89 : Int32)), .unset] [])) (T0.setFrames fs) := by
  show Steps p.tables e below (T0.setTop (mkF m 0 #[.val (.int (89 : Int32)), .unset] [])) _
  refine XS.iloadN X0.here hx rfl (hb hby d4_0) rfl ?_
  show Steps p.tables e below (T0.setTop (mkF m 1 #[.val (.int (89 : Int32)), .unset] [(.int (89 : Int32))])) _
  refine XS.tswIn X0.here hx rfl (pc0 := 1) (pc' := 419) rfl (hb hby d4_1) rfl (by decide) (o := 418) (by decide) (by decide) (by decide) ?_
  show Steps p.tables e below (T0.setTop (mkF m 419 #[.val (.int (89 : Int32)), .unset] [])) _
  refine XS.iconst X0.here hx rfl (hb hby d4_419) ?_
  show Steps p.tables e below (T0.setTop (mkF m 420 #[.val (.int (89 : Int32)), .unset] [(.int (4 : Int32))])) _
  refine XS.istoreN X0.here hx rfl (hb hby d4_420) rfl (l' := #[.val (.int (89 : Int32)), .val (.int (4 : Int32))]) rfl ?_
  show Steps p.tables e below (T0.setTop (mkF m 421 #[.val (.int (89 : Int32)), .val (.int (4 : Int32))] [])) _
  refine XS.goto X0.here hx rfl (pc0 := 421) (pc' := 426) rfl (hb hby d4_421) (by decide) (by decide) ?_
  show Steps p.tables e below (T0.setTop (mkF m 426 #[.val (.int (89 : Int32)), .val (.int (4 : Int32))] [])) _
  refine XS.iconst X0.here hx rfl (hb hby d4_426) ?_
  show Steps p.tables e below (T0.setTop (mkF m 427 #[.val (.int (89 : Int32)), .val (.int (4 : Int32))] [(.int (1 : Int32))])) _
  refine XS.iloadN X0.here hx rfl (hb hby d4_427) rfl ?_
  show Steps p.tables e below (T0.setTop (mkF m 428 #[.val (.int (89 : Int32)), .val (.int (4 : Int32))] [(.int (4 : Int32)), (.int (1 : Int32))])) _
  refine XS.iadd X0.here hx rfl (hb hby d4_428) rfl ?_
  show Steps p.tables e below (T0.setTop (mkF m 429 #[.val (.int (89 : Int32)), .val (.int (4 : Int32))] [(.int ((1 : Int32) + (4 : Int32)))])) _
  exact retI X0 hx hret (hb hby d4_429) hr
set_option maxRecDepth 65536 in
set_option maxHeartbeats 40000000 in
theorem ln_90 {p : Program} {l : Launch} {e : Env} {R : Room} {s : State} {m : MethodId} {args : Array Value} {below : List Frame} {meth : Method} {c : Code} {T0 : State} {locs : List Loc} {cells slots : Nat}
    (X0 : Stand p l e R s m args below meth c T0 locs cells slots) (hx : p.tables.exec = Jvm.exec) (hby : c.code = prog_20_method_5_code) (hret : meth.sig.returnType = some .int) {fs : List Frame}
    (hr : ∀ (f : JFrame) (acts : List Action), f.method = m → f.locked = none → f.entered = [] → (doReturn e (T0.setTop f) acts (some (.int (5 : Int32)))).1 = T0.setFrames fs) :
    Steps p.tables e below (T0.setTop (mkF m 0 #[.val (.int (90 : Int32)), .unset] [])) (T0.setFrames fs) := by
  show Steps p.tables e below (T0.setTop (mkF m 0 #[.val (.int (90 : Int32)), .unset] [])) _
  refine XS.iloadN X0.here hx rfl (hb hby d4_0) rfl ?_
  show Steps p.tables e below (T0.setTop (mkF m 1 #[.val (.int (90 : Int32)), .unset] [(.int (90 : Int32))])) _
  refine XS.tswIn X0.here hx rfl (pc0 := 1) (pc' := 419) rfl (hb hby d4_1) rfl (by decide) (o := 418) (by decide) (by decide) (by decide) ?_
  show Steps p.tables e below (T0.setTop (mkF m 419 #[.val (.int (90 : Int32)), .unset] [])) _
  refine XS.iconst X0.here hx rfl (hb hby d4_419) ?_
  show Steps p.tables e below (T0.setTop (mkF m 420 #[.val (.int (90 : Int32)), .unset] [(.int (4 : Int32))])) _
  refine XS.istoreN X0.here hx rfl (hb hby d4_420) rfl (l' := #[.val (.int (90 : Int32)), .val (.int (4 : Int32))]) rfl ?_
  show Steps p.tables e below (T0.setTop (mkF m 421 #[.val (.int (90 : Int32)), .val (.int (4 : Int32))] [])) _
  refine XS.goto X0.here hx rfl (pc0 := 421) (pc' := 426) rfl (hb hby d4_421) (by decide) (by decide) ?_
  show Steps p.tables e below (T0.setTop (mkF m 426 #[.val (.int (90 : Int32)), .val (.int (4 : Int32))] [])) _
  refine XS.iconst X0.here hx rfl (hb hby d4_426) ?_
  show Steps p.tables e below (T0.setTop (mkF m 427 #[.val (.int (90 : Int32)), .val (.int (4 : Int32))] [(.int (1 : Int32))])) _
  refine XS.iloadN X0.here hx rfl (hb hby d4_427) rfl ?_
  show Steps p.tables e below (T0.setTop (mkF m 428 #[.val (.int (90 : Int32)), .val (.int (4 : Int32))] [(.int (4 : Int32)), (.int (1 : Int32))])) _
  refine XS.iadd X0.here hx rfl (hb hby d4_428) rfl ?_
  show Steps p.tables e below (T0.setTop (mkF m 429 #[.val (.int (90 : Int32)), .val (.int (4 : Int32))] [(.int ((1 : Int32) + (4 : Int32)))])) _
  exact retI X0 hx hret (hb hby d4_429) hr
set_option maxRecDepth 65536 in
set_option maxHeartbeats 40000000 in
theorem ln_91 {p : Program} {l : Launch} {e : Env} {R : Room} {s : State} {m : MethodId} {args : Array Value} {below : List Frame} {meth : Method} {c : Code} {T0 : State} {locs : List Loc} {cells slots : Nat}
    (X0 : Stand p l e R s m args below meth c T0 locs cells slots) (hx : p.tables.exec = Jvm.exec) (hby : c.code = prog_20_method_5_code) (hret : meth.sig.returnType = some .int) {fs : List Frame}
    (hr : ∀ (f : JFrame) (acts : List Action), f.method = m → f.locked = none → f.entered = [] → (doReturn e (T0.setTop f) acts (some (.int (5 : Int32)))).1 = T0.setFrames fs) :
    Steps p.tables e below (T0.setTop (mkF m 0 #[.val (.int (91 : Int32)), .unset] [])) (T0.setFrames fs) := by
  show Steps p.tables e below (T0.setTop (mkF m 0 #[.val (.int (91 : Int32)), .unset] [])) _
  refine XS.iloadN X0.here hx rfl (hb hby d4_0) rfl ?_
  show Steps p.tables e below (T0.setTop (mkF m 1 #[.val (.int (91 : Int32)), .unset] [(.int (91 : Int32))])) _
  refine XS.tswIn X0.here hx rfl (pc0 := 1) (pc' := 419) rfl (hb hby d4_1) rfl (by decide) (o := 418) (by decide) (by decide) (by decide) ?_
  show Steps p.tables e below (T0.setTop (mkF m 419 #[.val (.int (91 : Int32)), .unset] [])) _
  refine XS.iconst X0.here hx rfl (hb hby d4_419) ?_
  show Steps p.tables e below (T0.setTop (mkF m 420 #[.val (.int (91 : Int32)), .unset] [(.int (4 : Int32))])) _
  refine XS.istoreN X0.here hx rfl (hb hby d4_420) rfl (l' := #[.val (.int (91 : Int32)), .val (.int (4 : Int32))]) rfl ?_
  show Steps p.tables e below (T0.setTop (mkF m 421 #[.val (.int (91 : Int32)), .val (.int (4 : Int32))] [])) _
  refine XS.goto X0.here hx rfl (pc0 := 421) (pc' := 426) rfl (hb hby d4_421) (by decide) (by decide) ?_
  show Steps p.tables e below (T0.setTop (mkF m 426 #[.val (.int (91 : Int32)), .val (.int (4 : Int32))] [])) _
  refine XS.iconst X0.here hx rfl (hb hby d4_426) ?_
  show Steps p.tables e below (T0.setTop (mkF m 427 #[.val (.int (91 : Int32)), .val (.int (4 : Int32))] [(.int (1 : Int32))])) _
  refine XS.iloadN X0.here hx rfl (hb hby d4_427) rfl ?_
  show Steps p.tables e below (T0.setTop (mkF m 428 #[.val (.int (91 : Int32)), .val (.int (4 : Int32))] [(.int (4 : Int32)), (.int (1 : Int32))])) _
  refine XS.iadd X0.here hx rfl (hb hby d4_428) rfl ?_
  show Steps p.tables e below (T0.setTop (mkF m 429 #[.val (.int (91 : Int32)), .val (.int (4 : Int32))] [(.int ((1 : Int32) + (4 : Int32)))])) _
  exact retI X0 hx hret (hb hby d4_429) hr
set_option maxRecDepth 65536 in
set_option maxHeartbeats 40000000 in
theorem ln_92 {p : Program} {l : Launch} {e : Env} {R : Room} {s : State} {m : MethodId} {args : Array Value} {below : List Frame} {meth : Method} {c : Code} {T0 : State} {locs : List Loc} {cells slots : Nat}
    (X0 : Stand p l e R s m args below meth c T0 locs cells slots) (hx : p.tables.exec = Jvm.exec) (hby : c.code = prog_20_method_5_code) (hret : meth.sig.returnType = some .int) {fs : List Frame}
    (hr : ∀ (f : JFrame) (acts : List Action), f.method = m → f.locked = none → f.entered = [] → (doReturn e (T0.setTop f) acts (some (.int (5 : Int32)))).1 = T0.setFrames fs) :
    Steps p.tables e below (T0.setTop (mkF m 0 #[.val (.int (92 : Int32)), .unset] [])) (T0.setFrames fs) := by
  show Steps p.tables e below (T0.setTop (mkF m 0 #[.val (.int (92 : Int32)), .unset] [])) _
  refine XS.iloadN X0.here hx rfl (hb hby d4_0) rfl ?_
  show Steps p.tables e below (T0.setTop (mkF m 1 #[.val (.int (92 : Int32)), .unset] [(.int (92 : Int32))])) _
  refine XS.tswIn X0.here hx rfl (pc0 := 1) (pc' := 419) rfl (hb hby d4_1) rfl (by decide) (o := 418) (by decide) (by decide) (by decide) ?_
  show Steps p.tables e below (T0.setTop (mkF m 419 #[.val (.int (92 : Int32)), .unset] [])) _
  refine XS.iconst X0.here hx rfl (hb hby d4_419) ?_
  show Steps p.tables e below (T0.setTop (mkF m 420 #[.val (.int (92 : Int32)), .unset] [(.int (4 : Int32))])) _
  refine XS.istoreN X0.here hx rfl (hb hby d4_420) rfl (l' := #[.val (.int (92 : Int32)), .val (.int (4 : Int32))]) rfl ?_
  show Steps p.tables e below (T0.setTop (mkF m 421 #[.val (.int (92 : Int32)), .val (.int (4 : Int32))] [])) _
  refine XS.goto X0.here hx rfl (pc0 := 421) (pc' := 426) rfl (hb hby d4_421) (by decide) (by decide) ?_
  show Steps p.tables e below (T0.setTop (mkF m 426 #[.val (.int (92 : Int32)), .val (.int (4 : Int32))] [])) _
  refine XS.iconst X0.here hx rfl (hb hby d4_426) ?_
  show Steps p.tables e below (T0.setTop (mkF m 427 #[.val (.int (92 : Int32)), .val (.int (4 : Int32))] [(.int (1 : Int32))])) _
  refine XS.iloadN X0.here hx rfl (hb hby d4_427) rfl ?_
  show Steps p.tables e below (T0.setTop (mkF m 428 #[.val (.int (92 : Int32)), .val (.int (4 : Int32))] [(.int (4 : Int32)), (.int (1 : Int32))])) _
  refine XS.iadd X0.here hx rfl (hb hby d4_428) rfl ?_
  show Steps p.tables e below (T0.setTop (mkF m 429 #[.val (.int (92 : Int32)), .val (.int (4 : Int32))] [(.int ((1 : Int32) + (4 : Int32)))])) _
  exact retI X0 hx hret (hb hby d4_429) hr
set_option maxRecDepth 65536 in
set_option maxHeartbeats 40000000 in
theorem ln_93 {p : Program} {l : Launch} {e : Env} {R : Room} {s : State} {m : MethodId} {args : Array Value} {below : List Frame} {meth : Method} {c : Code} {T0 : State} {locs : List Loc} {cells slots : Nat}
    (X0 : Stand p l e R s m args below meth c T0 locs cells slots) (hx : p.tables.exec = Jvm.exec) (hby : c.code = prog_20_method_5_code) (hret : meth.sig.returnType = some .int) {fs : List Frame}
    (hr : ∀ (f : JFrame) (acts : List Action), f.method = m → f.locked = none → f.entered = [] → (doReturn e (T0.setTop f) acts (some (.int (5 : Int32)))).1 = T0.setFrames fs) :
    Steps p.tables e below (T0.setTop (mkF m 0 #[.val (.int (93 : Int32)), .unset] [])) (T0.setFrames fs) := by
  show Steps p.tables e below (T0.setTop (mkF m 0 #[.val (.int (93 : Int32)), .unset] [])) _
  refine XS.iloadN X0.here hx rfl (hb hby d4_0) rfl ?_
  show Steps p.tables e below (T0.setTop (mkF m 1 #[.val (.int (93 : Int32)), .unset] [(.int (93 : Int32))])) _
  refine XS.tswIn X0.here hx rfl (pc0 := 1) (pc' := 419) rfl (hb hby d4_1) rfl (by decide) (o := 418) (by decide) (by decide) (by decide) ?_
  show Steps p.tables e below (T0.setTop (mkF m 419 #[.val (.int (93 : Int32)), .unset] [])) _
  refine XS.iconst X0.here hx rfl (hb hby d4_419) ?_
  show Steps p.tables e below (T0.setTop (mkF m 420 #[.val (.int (93 : Int32)), .unset] [(.int (4 : Int32))])) _
  refine XS.istoreN X0.here hx rfl (hb hby d4_420) rfl (l' := #[.val (.int (93 : Int32)), .val (.int (4 : Int32))]) rfl ?_
  show Steps p.tables e below (T0.setTop (mkF m 421 #[.val (.int (93 : Int32)), .val (.int (4 : Int32))] [])) _
  refine XS.goto X0.here hx rfl (pc0 := 421) (pc' := 426) rfl (hb hby d4_421) (by decide) (by decide) ?_
  show Steps p.tables e below (T0.setTop (mkF m 426 #[.val (.int (93 : Int32)), .val (.int (4 : Int32))] [])) _
  refine XS.iconst X0.here hx rfl (hb hby d4_426) ?_
  show Steps p.tables e below (T0.setTop (mkF m 427 #[.val (.int (93 : Int32)), .val (.int (4 : Int32))] [(.int (1 : Int32))])) _
  refine XS.iloadN X0.here hx rfl (hb hby d4_427) rfl ?_
  show Steps p.tables e below (T0.setTop (mkF m 428 #[.val (.int (93 : Int32)), .val (.int (4 : Int32))] [(.int (4 : Int32)), (.int (1 : Int32))])) _
  refine XS.iadd X0.here hx rfl (hb hby d4_428) rfl ?_
  show Steps p.tables e below (T0.setTop (mkF m 429 #[.val (.int (93 : Int32)), .val (.int (4 : Int32))] [(.int ((1 : Int32) + (4 : Int32)))])) _
  exact retI X0 hx hret (hb hby d4_429) hr
/-- an opcode of a jump -/
def own_J (x : Int32) : Prop := x = 33 ∨ x = 34 ∨ x = 35 ∨ x = 36 ∨ x = 37 ∨ x = 86 ∨ x = 87 ∨ x = 88 ∨ x = 89 ∨ x = 90 ∨ x = 91 ∨ x = 92 ∨ x = 93
def Q4 (p1 : Int32) (h0 : Heap) (n0 : Nat) (v : Option Value) (h : Heap) (L : List Loc) : Prop := v = some (.int (if (37 : Int32) < p1 then (5 : Int32) else (2 : Int32))) ∧ Fr n0 L ∧ h = h0
set_option maxRecDepth 65536 in
set_option maxHeartbeats 40000000 in
theorem rm4 (l : Launch) (Z : State) (a0 : Array Value) (hw : ∀ d ∈ tables_1, d.before a0 Z = true) (ws : List Jvm.Cond) (p1 : Int32) (h0 : Heap) (n0 : Nat) (Z0 : n0 ≤ h0.size) (hJ : own_J p1) :
    MetFree l (⟨"com/example/kelpie/kelpie/engine/Code", "length", "(I)I"⟩ : MethodName) (head1 (Jvm.Cond.code (⟨"com/example/kelpie/kelpie/engine/Code", "length", "(I)I"⟩ : MethodName) prog_20_method_5_code 2 (some .int) :: ws) ({ frames := 0, cells := 0, slots := 0, locals := 0 } : Room)) (fun a U => a = #[(.int p1)] ∧ Z.Warmed39 U.vm ∧ U.heap = h0) (fun _ _ _ _ _ => True) (fun _ U o U' => ∃ v L, o = .returned v ∧ Q4 p1 h0 n0 v U'.heap L ∧ FrameEnd U o U' L ({ frames := 0, cells := 0, slots := 0, locals := 0 } : Room).cells ({ frames := 0, cells := 0, slots := 0, locals := 0 } : Room).slots) := by
  refine MetFree.of_bodySF (plainFor_of_name pn_4) hisR ?_
  intro p e s m args below meth c s₁ Bd hml0 hP hK
  obtain ⟨rfl, hZ, hh⟩ := hP
  have hx := Bd.exec
  have hby := Bd.bytes
  have hml : c.maxLocals = 2 := hml0
  have hown : s.vm.findClass "com/example/kelpie/kelpie/engine/Code" = some m.cls := findClass_of_methodNamed Bd.named
  have hnm := (name_of_methodNamed Bd.named Bd.method).1
  have X0 : Stand p l e ({ frames := 0, cells := 0, slots := 0, locals := 0 } : Room) s m #[(.int p1)] below meth c s₁ [] 0 0 := Stand.of_body Bd
  have e0 : s₁.heap = h0 := by rw [← hh, Bd.state]; rfl
  have N0 := Fr.nil n0
  have pre0 : ∀ t, Steps p.tables e below (s₁.setTop (mkF m 0 #[.val (.int p1), .unset] [])) t → Steps p.tables e below (s₁.setTop (entryFrame m #[(.int p1)] 2)) t := fun t kt => castTop (ef_4 m p1) kt
  obtain ⟨fs, hr, hrun, hended, hW, hsame⟩ := X0.leave (v := some (.int (if (37 : Int32) < p1 then (5 : Int32) else (2 : Int32)))) (fun h => by rw [Bd.returns] at h; cases h)
  refine ⟨_, _, pre0 _ ?_, hrun, hended, _, _, rfl, ⟨rfl, N0, by rw [← e0]; rfl⟩, ⟨_, rfl⟩, hW, hsame.mono (by decide) (by decide)⟩
  rcases hJ with rfl | rfl | rfl | rfl | rfl | rfl | rfl | rfl | rfl | rfl | rfl | rfl | rfl
  · exact ln_33 X0 hx hby Bd.returns hr
  · exact ln_34 X0 hx hby Bd.returns hr
  · exact ln_35 X0 hx hby Bd.returns hr
  · exact ln_36 X0 hx hby Bd.returns hr
  · exact ln_37 X0 hx hby Bd.returns hr
  · exact ln_86 X0 hx hby Bd.returns hr
  · exact ln_87 X0 hx hby Bd.returns hr
  · exact ln_88 X0 hx hby Bd.returns hr
  · exact ln_89 X0 hx hby Bd.returns hr
  · exact ln_90 X0 hx hby Bd.returns hr
  · exact ln_91 X0 hx hby Bd.returns hr
  · exact ln_92 X0 hx hby Bd.returns hr
  · exact ln_93 X0 hx hby Bd.returns hr
theorem own_same (x : Int32) : F3_0 x = F2_0 x := by
  simp only [F3_0, F2_0, Int32.lt_iff_toInt_lt, ← Int32.toInt_inj, Int32.reduceToInt]
  generalize x.toInt = z
  repeat' split
  all_goals first | rfl | (exfalso; omega)
theorem own_jump {x : Int32} (h : ¬ (F2_0 x = 0)) : own_J x := by
  simp only [own_J, ← Int32.toInt_inj, Int32.reduceToInt]
  have q : (33 ≤ x.toInt ∧ x.toInt ≤ 37) ∨ (86 ≤ x.toInt ∧ x.toInt ≤ 93) := by
    refine Classical.byContradiction fun n => h ?_
    simp only [F2_0, Int32.lt_iff_toInt_lt, Int32.reduceToInt]
    generalize x.toInt = z at *
    repeat' split
    all_goals first | rfl | (exfalso; omega)
  omega
theorem pd_2 : parseMethodDescriptor "(I)Z" = some ⟨[.int], some .boolean⟩ := by decide +kernel
theorem pd_3 : parseMethodDescriptor "(I)Z" = some ⟨[.int], some .boolean⟩ := by decide +kernel
theorem pd_4 : parseMethodDescriptor "(I)I" = some ⟨[.int], some .int⟩ := by decide +kernel
theorem pd_1 : parseMethodDescriptor "(I)Z" = some ⟨[.int], some .boolean⟩ := by decide +kernel
theorem d1_0 : decode method_3_code 0 = .ok (.iload_n 0, 1) := by decide +kernel
theorem d1_1 : decode method_3_code 1 = .ok (.invokestatic 9, 3) := by decide +kernel
theorem d1_4 : decode method_3_code 4 = .ok (.istore_n 1, 1) := by decide +kernel
theorem d1_5 : decode method_3_code 5 = .ok (.iload_n 0, 1) := by decide +kernel
theorem d1_6 : decode method_3_code 6 = .ok (.invokestatic 15, 3) := by decide +kernel
theorem d1_9 : decode method_3_code 9 = .ok (.istore_n 2, 1) := by decide +kernel
theorem d1_10 : decode method_3_code 10 = .ok (.iload_n 2, 1) := by decide +kernel
theorem d1_11 : decode method_3_code 11 = .ok (.iload_n 1, 1) := by decide +kernel
theorem d1_12 : decode method_3_code 12 = .ok (.if_icmp .eq 5, 3) := by decide +kernel
theorem d1_17 : decode method_3_code 17 = .ok (.iload_n 1, 1) := by decide +kernel
theorem d1_18 : decode method_3_code 18 = .ok (.ifCond .eq 33, 3) := by decide +kernel
theorem d1_21 : decode method_3_code 21 = .ok (.iload_n 0, 1) := by decide +kernel
theorem d1_22 : decode method_3_code 22 = .ok (.invokestatic 20, 3) := by decide +kernel
theorem d1_25 : decode method_3_code 25 = .ok (.istore_n 3, 1) := by decide +kernel
theorem d1_26 : decode method_3_code 26 = .ok (.iload_n 0, 1) := by decide +kernel
theorem d1_27 : decode method_3_code 27 = .ok (.bipush 37, 2) := by decide +kernel
theorem d1_29 : decode method_3_code 29 = .ok (.if_icmp .gt 7, 3) := by decide +kernel
theorem d1_32 : decode method_3_code 32 = .ok (.iconst 2, 1) := by decide +kernel
theorem d1_33 : decode method_3_code 33 = .ok (.goto 4, 3) := by decide +kernel
theorem d1_36 : decode method_3_code 36 = .ok (.iconst 5, 1) := by decide +kernel
theorem d1_37 : decode method_3_code 37 = .ok (.istore 4, 2) := by decide +kernel
theorem d1_39 : decode method_3_code 39 = .ok (.iload_n 3, 1) := by decide +kernel
theorem d1_40 : decode method_3_code 40 = .ok (.iload 4, 2) := by decide +kernel
theorem d1_42 : decode method_3_code 42 = .ok (.if_icmp .ne 7, 3) := by decide +kernel
theorem d1_45 : decode method_3_code 45 = .ok (.iconst 1, 1) := by decide +kernel
theorem d1_46 : decode method_3_code 46 = .ok (.goto 4, 3) := by decide +kernel
theorem d1_50 : decode method_3_code 50 = .ok (.ireturn, 1) := by decide +kernel
theorem d1_51 : decode method_3_code 51 = .ok (.iconst 1, 1) := by decide +kernel
theorem d1_52 : decode method_3_code 52 = .ok (.ireturn, 1) := by decide +kernel
theorem pn_1 : plainName "com/example/kelpie/kelpie/engine/CodeFlowIsJumpPinLaw" = true := by first | (simp [plainName, overriddenIn]; done) | decide +kernel
theorem ef_1 (m : MethodId) (p1 : Int32) : entryFrame m #[(.int p1)] 5 = mkF m 0 #[.val (.int p1), .unset, .unset, .unset, .unset] [] := by first | (simp [entryFrame, mkF, argsToLocals, Value.category]; done) | rfl
def Q1 (Z : State)  (h0 : Heap) (n0 : Nat) (v : Option Value) (h : Heap) (L : List Loc) : Prop := v = some (.int (1 : Int32)) ∧ Fr n0 L ∧ h = h0
set_option maxRecDepth 65536 in
set_option maxHeartbeats 40000000 in
theorem rm1 (l : Launch) (Z : State) (a0 : Array Value) (hw : ∀ d ∈ tables_1, d.before a0 Z = true) (ws : List Jvm.Cond) (p1 : Int32) (h0 : Heap) (n0 : Nat) (Z0 : n0 ≤ h0.size) :
    MetFree l (⟨"com/example/kelpie/kelpie/engine/CodeFlowIsJumpPinLaw", "check", "(I)Z"⟩ : MethodName) (head1 (Jvm.Cond.code (⟨"com/example/kelpie/kelpie/engine/CodeFlowIsJumpPinLaw", "check", "(I)Z"⟩ : MethodName) method_3_code 5 (some .boolean) :: ws) ({ frames := 1, cells := 0, slots := 0, locals := 14 } : Room)) (fun a U => a = #[(.int p1)] ∧ Z.Warmed39 U.vm ∧ U.heap = h0) (fun _ _ _ _ _ => True) (fun _ U o U' => ∃ v L, o = .returned v ∧ Q1 Z  h0 n0 v U'.heap L ∧ FrameEnd U o U' L ({ frames := 1, cells := 0, slots := 0, locals := 14 } : Room).cells ({ frames := 1, cells := 0, slots := 0, locals := 14 } : Room).slots) := by
  refine MetFree.of_bodySF (plainFor_of_name pn_1) hisR ?_
  intro p e s m args below meth c s₁ Bd hml0 hP hK
  obtain ⟨rfl, hZ, hh⟩ := hP
  have hx := Bd.exec
  have hby := Bd.bytes
  have hml : c.maxLocals = 5 := hml0
  have hown : s.vm.findClass "com/example/kelpie/kelpie/engine/CodeFlowIsJumpPinLaw" = some m.cls := findClass_of_methodNamed Bd.named
  have hnm := (name_of_methodNamed Bd.named Bd.method).1
  have X0 : Stand p l e ({ frames := 1, cells := 0, slots := 0, locals := 14 } : Room) s m #[(.int p1)] below meth c s₁ [] 0 0 := Stand.of_body Bd
  have e0 : s₁.heap = h0 := by rw [← hh, Bd.state]; rfl
  have N0 := Fr.nil n0
  have pre0 : ∀ t, Steps p.tables e below (s₁.setTop (mkF m 0 #[.val (.int p1), .unset, .unset, .unset, .unset] [])) t → Steps p.tables e below (s₁.setTop (entryFrame m #[(.int p1)] 5)) t := fun t kt => castTop (ef_1 m p1) kt
  refine own_go (A := s₁.setTop (mkF m 0 #[.val (.int p1), .unset, .unset, .unset, .unset] [])) pre0 ?_
  refine own_go (A := s₁.setTop (mkF m 1 #[.val (.int p1), .unset, .unset, .unset, .unset] [(.int p1)])) (fun t kt => XS.iloadN X0.here hx rfl (hb hby d1_0) rfl kt) ?_
  obtain ⟨_, _, ⟨T1, L1, k1, n1⟩, -, X1, ⟨Lc1, hQ1, l1, y1, z1⟩, st1⟩ := Jvm.LawKit.callS X0 hx (y := (⟨"com/example/kelpie/kelpie/engine/CodeFlowIsJumpPinLaw", "expected", "(I)Z"⟩ : MethodName)) hown (mvT hZ (hw _ (List.mem_of_getElem? (i := 4) rfl))) (mvT hZ (hw _ (List.mem_of_getElem? (i := 5) rfl))) (mvT hZ (hw _ (List.mem_of_getElem? (i := 2) rfl))) (mvT hZ (hw _ (List.mem_of_getElem? (i := 6) rfl))) (by decide) (backOf (W := 0) (rm2 l Z a0 hw [] p1 h0 n0 Z0) hZ (hw _ (List.mem_of_getElem? (i := 6) rfl)) (hw _ (List.mem_of_getElem? (i := 2) rfl)) (by decide) (by decide)) (g := (mkF m 1 #[.val (.int p1), .unset, .unset, .unset, .unset] [(.int p1)])) rfl (by rw [hml]; rfl) (argsL := [(.int p1)]) (rest := []) (lenOf pd_2 rfl) rfl (by show 2 * 0 + _ ≤ _; exact Nat.le_of_eq rfl) (hb hby d1_1) (fun _ _ => ⟨rfl, e0, (by decide : 0 + 0 ≤ _), (by decide : 0 + 0 ≤ _)⟩)
  dsimp only [Pt.U, Pt.locs, Pt.cells, Pt.slots] at X1 l1 y1 z1 st1 hQ1
  subst l1 y1 z1
  obtain ⟨rfl, N1q, g1⟩ := hQ1
  have N1 := Fr.app N0 N1q
  refine own_go (A := T1.setTop (mkF m 4 #[.val (.int p1), .unset, .unset, .unset, .unset] [(.int (F2_0 p1))])) st1 ?_
  refine own_go (A := T1.setTop (mkF m 5 #[.val (.int p1), .val (.int (F2_0 p1)), .unset, .unset, .unset] [])) (fun t kt => XS.istoreN X1.here hx rfl (hb hby d1_4) rfl (l' := #[.val (.int p1), .val (.int (F2_0 p1)), .unset, .unset, .unset]) rfl kt) ?_
  refine own_go (A := T1.setTop (mkF m 6 #[.val (.int p1), .val (.int (F2_0 p1)), .unset, .unset, .unset] [(.int p1)])) (fun t kt => XS.iloadN X1.here hx rfl (hb hby d1_5) rfl kt) ?_
  obtain ⟨_, _, ⟨T2, L2, k2, n2⟩, -, X2, ⟨Lc2, hQ2, l2, y2, z2⟩, st2⟩ := Jvm.LawKit.callS X1 hx (y := (⟨"com/example/kelpie/kelpie/engine/CodeFlow", "isJump", "(I)Z"⟩ : MethodName)) hown (mvT hZ (hw _ (List.mem_of_getElem? (i := 7) rfl))) (mvT hZ (hw _ (List.mem_of_getElem? (i := 8) rfl))) (mvT hZ (hw _ (List.mem_of_getElem? (i := 9) rfl))) (mvT hZ (hw _ (List.mem_of_getElem? (i := 10) rfl))) (by decide) (backOf (W := 0) (rm3 l Z a0 hw [] p1 h0 n0 Z0) hZ (hw _ (List.mem_of_getElem? (i := 10) rfl)) (hw _ (List.mem_of_getElem? (i := 9) rfl)) (by decide) (by decide)) (g := (mkF m 6 #[.val (.int p1), .val (.int (F2_0 p1)), .unset, .unset, .unset] [(.int p1)])) rfl (by rw [hml]; rfl) (argsL := [(.int p1)]) (rest := []) (lenOf pd_3 rfl) rfl (by show 2 * 0 + _ ≤ _; exact Nat.le_of_eq rfl) (hb hby d1_6) (fun _ _ => ⟨rfl, g1, (by decide : 0 + 0 ≤ _), (by decide : 0 + 0 ≤ _)⟩)
  dsimp only [Pt.U, Pt.locs, Pt.cells, Pt.slots] at X2 l2 y2 z2 st2 hQ2
  subst l2 y2 z2
  obtain ⟨rfl, N2q, g2⟩ := hQ2
  have N2 := Fr.app N1 N2q
  refine own_go (A := T2.setTop (mkF m 9 #[.val (.int p1), .val (.int (F2_0 p1)), .unset, .unset, .unset] [(.int (F3_0 p1))])) st2 ?_
  refine own_go (A := T2.setTop (mkF m 10 #[.val (.int p1), .val (.int (F2_0 p1)), .val (.int (F3_0 p1)), .unset, .unset] [])) (fun t kt => XS.istoreN X2.here hx rfl (hb hby d1_9) rfl (l' := #[.val (.int p1), .val (.int (F2_0 p1)), .val (.int (F3_0 p1)), .unset, .unset]) rfl kt) ?_
  refine own_go (A := T2.setTop (mkF m 11 #[.val (.int p1), .val (.int (F2_0 p1)), .val (.int (F3_0 p1)), .unset, .unset] [(.int (F3_0 p1))])) (fun t kt => XS.iloadN X2.here hx rfl (hb hby d1_10) rfl kt) ?_
  refine own_go (A := T2.setTop (mkF m 12 #[.val (.int p1), .val (.int (F2_0 p1)), .val (.int (F3_0 p1)), .unset, .unset] [(.int (F2_0 p1)), (.int (F3_0 p1))])) (fun t kt => XS.iloadN X2.here hx rfl (hb hby d1_11) rfl kt) ?_
  refine own_go (A := T2.setTop (mkF m 17 #[.val (.int p1), .val (.int (F2_0 p1)), .val (.int (F3_0 p1)), .unset, .unset] [])) (fun t kt => XS.icmpYes X2.here hx rfl (pc0 := 12) (pc' := 17) rfl (hb hby d1_12) rfl (teq (own_same _ : (F3_0 p1) = (F2_0 p1))).1 (by decide) (by decide) kt) ?_
  refine own_go (A := T2.setTop (mkF m 18 #[.val (.int p1), .val (.int (F2_0 p1)), .val (.int (F3_0 p1)), .unset, .unset] [(.int (F2_0 p1))])) (fun t kt => XS.iloadN X2.here hx rfl (hb hby d1_17) rfl kt) ?_
  by_cases hc18 : (F2_0 p1) = (0 : Int32)
  · refine own_go (A := T2.setTop (mkF m 51 #[.val (.int p1), .val (.int (F2_0 p1)), .val (.int (F3_0 p1)), .unset, .unset] [])) (fun t kt => XS.ifYes X2.here hx rfl (pc0 := 18) (pc' := 51) rfl (hb hby d1_18) rfl ((if0 _ _).trans (teq hc18).1) (by decide) (by decide) kt) ?_
    refine own_go (A := T2.setTop (mkF m 52 #[.val (.int p1), .val (.int (F2_0 p1)), .val (.int (F3_0 p1)), .unset, .unset] [(.int (1 : Int32))])) (fun t kt => XS.iconst X2.here hx rfl (hb hby d1_51) kt) ?_
    obtain ⟨fs, hr, hrun, hended, hW, hsame⟩ := X2.leave (v := some (.int (1 : Int32))) (fun h => by rw [Bd.returns] at h; cases h)
    exact ⟨_, _, retN X2 hx (t := .boolean) Bd.returns (by simp) (hb hby d1_52) hr, hrun, hended, _, _, rfl, ⟨rfl, N2, g2⟩, ⟨_, rfl⟩, hW, hsame.mono (by decide) (by decide)⟩
  · refine own_go (A := T2.setTop (mkF m 21 #[.val (.int p1), .val (.int (F2_0 p1)), .val (.int (F3_0 p1)), .unset, .unset] [])) (fun t kt => XS.ifNo X2.here hx rfl (hb hby d1_18) rfl ((if0 _ _).trans (feq hc18).1) kt) ?_
    refine own_go (A := T2.setTop (mkF m 22 #[.val (.int p1), .val (.int (F2_0 p1)), .val (.int (F3_0 p1)), .unset, .unset] [(.int p1)])) (fun t kt => XS.iloadN X2.here hx rfl (hb hby d1_21) rfl kt) ?_
    obtain ⟨_, _, ⟨T3, L3, k3, n3⟩, -, X3, ⟨Lc3, hQ3, l3, y3, z3⟩, st3⟩ := Jvm.LawKit.callS X2 hx (y := (⟨"com/example/kelpie/kelpie/engine/Code", "length", "(I)I"⟩ : MethodName)) hown (mvT hZ (hw _ (List.mem_of_getElem? (i := 11) rfl))) (mvT hZ (hw _ (List.mem_of_getElem? (i := 12) rfl))) (mvT hZ (hw _ (List.mem_of_getElem? (i := 13) rfl))) (mvT hZ (hw _ (List.mem_of_getElem? (i := 14) rfl))) (by decide) (backOf (W := 0) (rm4 l Z a0 hw [] p1 h0 n0 Z0 (own_jump hc18)) hZ (hw _ (List.mem_of_getElem? (i := 14) rfl)) (hw _ (List.mem_of_getElem? (i := 13) rfl)) (by decide) (by decide)) (g := (mkF m 22 #[.val (.int p1), .val (.int (F2_0 p1)), .val (.int (F3_0 p1)), .unset, .unset] [(.int p1)])) rfl (by rw [hml]; rfl) (argsL := [(.int p1)]) (rest := []) (lenOf pd_4 rfl) rfl (by show 2 * 0 + _ ≤ _; exact Nat.le_of_eq rfl) (hb hby d1_22) (fun _ _ => ⟨rfl, g2, (by decide : 0 + 0 ≤ _), (by decide : 0 + 0 ≤ _)⟩)
    dsimp only [Pt.U, Pt.locs, Pt.cells, Pt.slots] at X3 l3 y3 z3 st3 hQ3
    subst l3 y3 z3
    obtain ⟨rfl, N3q, g3⟩ := hQ3
    have N3 := Fr.app N2 N3q
    refine own_go (A := T3.setTop (mkF m 25 #[.val (.int p1), .val (.int (F2_0 p1)), .val (.int (F3_0 p1)), .unset, .unset] [(.int (if (37 : Int32) < p1 then (5 : Int32) else (2 : Int32)))])) st3 ?_
    refine own_go (A := T3.setTop (mkF m 26 #[.val (.int p1), .val (.int (F2_0 p1)), .val (.int (F3_0 p1)), .val (.int (if (37 : Int32) < p1 then (5 : Int32) else (2 : Int32))), .unset] [])) (fun t kt => XS.istoreN X3.here hx rfl (hb hby d1_25) rfl (l' := #[.val (.int p1), .val (.int (F2_0 p1)), .val (.int (F3_0 p1)), .val (.int (if (37 : Int32) < p1 then (5 : Int32) else (2 : Int32))), .unset]) rfl kt) ?_
    refine own_go (A := T3.setTop (mkF m 27 #[.val (.int p1), .val (.int (F2_0 p1)), .val (.int (F3_0 p1)), .val (.int (if (37 : Int32) < p1 then (5 : Int32) else (2 : Int32))), .unset] [(.int p1)])) (fun t kt => XS.iloadN X3.here hx rfl (hb hby d1_26) rfl kt) ?_
    refine own_go (A := T3.setTop (mkF m 29 #[.val (.int p1), .val (.int (F2_0 p1)), .val (.int (F3_0 p1)), .val (.int (if (37 : Int32) < p1 then (5 : Int32) else (2 : Int32))), .unset] [(.int (37 : Int32)), (.int p1)])) (fun t kt => XS.bipush X3.here hx rfl (hb hby d1_27) kt) ?_
    by_cases hc29 : (37 : Int32) < p1
    · refine own_go (A := T3.setTop (mkF m 36 #[.val (.int p1), .val (.int (F2_0 p1)), .val (.int (F3_0 p1)), .val (.int (if (37 : Int32) < p1 then (5 : Int32) else (2 : Int32))), .unset] [])) (fun t kt => XS.icmpYes X3.here hx rfl (pc0 := 29) (pc' := 36) rfl (hb hby d1_29) rfl (tlt hc29).2.2.1 (by decide) (by decide) kt) ?_
      refine own_go (A := T3.setTop (mkF m 37 #[.val (.int p1), .val (.int (F2_0 p1)), .val (.int (F3_0 p1)), .val (.int (if (37 : Int32) < p1 then (5 : Int32) else (2 : Int32))), .unset] [(.int (5 : Int32))])) (fun t kt => XS.iconst X3.here hx rfl (hb hby d1_36) kt) ?_
      refine own_go (A := T3.setTop (mkF m 39 #[.val (.int p1), .val (.int (F2_0 p1)), .val (.int (F3_0 p1)), .val (.int (if (37 : Int32) < p1 then (5 : Int32) else (2 : Int32))), .val (.int (5 : Int32))] [])) (fun t kt => XS.istore X3.here hx rfl (hb hby d1_37) rfl (l' := #[.val (.int p1), .val (.int (F2_0 p1)), .val (.int (F3_0 p1)), .val (.int (if (37 : Int32) < p1 then (5 : Int32) else (2 : Int32))), .val (.int (5 : Int32))]) rfl kt) ?_
      refine own_go (A := T3.setTop (mkF m 40 #[.val (.int p1), .val (.int (F2_0 p1)), .val (.int (F3_0 p1)), .val (.int (if (37 : Int32) < p1 then (5 : Int32) else (2 : Int32))), .val (.int (5 : Int32))] [(.int (if (37 : Int32) < p1 then (5 : Int32) else (2 : Int32)))])) (fun t kt => XS.iloadN X3.here hx rfl (hb hby d1_39) rfl kt) ?_
      refine own_go (A := T3.setTop (mkF m 42 #[.val (.int p1), .val (.int (F2_0 p1)), .val (.int (F3_0 p1)), .val (.int (if (37 : Int32) < p1 then (5 : Int32) else (2 : Int32))), .val (.int (5 : Int32))] [(.int (5 : Int32)), (.int (if (37 : Int32) < p1 then (5 : Int32) else (2 : Int32)))])) (fun t kt => XS.iload X3.here hx rfl (hb hby d1_40) rfl kt) ?_
      refine own_go (A := T3.setTop (mkF m 45 #[.val (.int p1), .val (.int (F2_0 p1)), .val (.int (F3_0 p1)), .val (.int (if (37 : Int32) < p1 then (5 : Int32) else (2 : Int32))), .val (.int (5 : Int32))] [])) (fun t kt => XS.icmpNo X3.here hx rfl (hb hby d1_42) rfl (teq (if_pos hc29 : (if (37 : Int32) < p1 then (5 : Int32) else (2 : Int32)) = (5 : Int32))).2 kt) ?_
      refine own_go (A := T3.setTop (mkF m 46 #[.val (.int p1), .val (.int (F2_0 p1)), .val (.int (F3_0 p1)), .val (.int (if (37 : Int32) < p1 then (5 : Int32) else (2 : Int32))), .val (.int (5 : Int32))] [(.int (1 : Int32))])) (fun t kt => XS.iconst X3.here hx rfl (hb hby d1_45) kt) ?_
      refine own_go (A := T3.setTop (mkF m 50 #[.val (.int p1), .val (.int (F2_0 p1)), .val (.int (F3_0 p1)), .val (.int (if (37 : Int32) < p1 then (5 : Int32) else (2 : Int32))), .val (.int (5 : Int32))] [(.int (1 : Int32))])) (fun t kt => XS.goto X3.here hx rfl (pc0 := 46) (pc' := 50) rfl (hb hby d1_46) (by decide) (by decide) kt) ?_
      obtain ⟨fs, hr, hrun, hended, hW, hsame⟩ := X3.leave (v := some (.int (1 : Int32))) (fun h => by rw [Bd.returns] at h; cases h)
      exact ⟨_, _, retN X3 hx (t := .boolean) Bd.returns (by simp) (hb hby d1_50) hr, hrun, hended, _, _, rfl, ⟨rfl, N3, g3⟩, ⟨_, rfl⟩, hW, hsame.mono (by decide) (by decide)⟩
    · refine own_go (A := T3.setTop (mkF m 32 #[.val (.int p1), .val (.int (F2_0 p1)), .val (.int (F3_0 p1)), .val (.int (if (37 : Int32) < p1 then (5 : Int32) else (2 : Int32))), .unset] [])) (fun t kt => XS.icmpNo X3.here hx rfl (hb hby d1_29) rfl (flt hc29).2.2.1 kt) ?_
      refine own_go (A := T3.setTop (mkF m 33 #[.val (.int p1), .val (.int (F2_0 p1)), .val (.int (F3_0 p1)), .val (.int (if (37 : Int32) < p1 then (5 : Int32) else (2 : Int32))), .unset] [(.int (2 : Int32))])) (fun t kt => XS.iconst X3.here hx rfl (hb hby d1_32) kt) ?_
      refine own_go (A := T3.setTop (mkF m 37 #[.val (.int p1), .val (.int (F2_0 p1)), .val (.int (F3_0 p1)), .val (.int (if (37 : Int32) < p1 then (5 : Int32) else (2 : Int32))), .unset] [(.int (2 : Int32))])) (fun t kt => XS.goto X3.here hx rfl (pc0 := 33) (pc' := 37) rfl (hb hby d1_33) (by decide) (by decide) kt) ?_
      refine own_go (A := T3.setTop (mkF m 39 #[.val (.int p1), .val (.int (F2_0 p1)), .val (.int (F3_0 p1)), .val (.int (if (37 : Int32) < p1 then (5 : Int32) else (2 : Int32))), .val (.int (2 : Int32))] [])) (fun t kt => XS.istore X3.here hx rfl (hb hby d1_37) rfl (l' := #[.val (.int p1), .val (.int (F2_0 p1)), .val (.int (F3_0 p1)), .val (.int (if (37 : Int32) < p1 then (5 : Int32) else (2 : Int32))), .val (.int (2 : Int32))]) rfl kt) ?_
      refine own_go (A := T3.setTop (mkF m 40 #[.val (.int p1), .val (.int (F2_0 p1)), .val (.int (F3_0 p1)), .val (.int (if (37 : Int32) < p1 then (5 : Int32) else (2 : Int32))), .val (.int (2 : Int32))] [(.int (if (37 : Int32) < p1 then (5 : Int32) else (2 : Int32)))])) (fun t kt => XS.iloadN X3.here hx rfl (hb hby d1_39) rfl kt) ?_
      refine own_go (A := T3.setTop (mkF m 42 #[.val (.int p1), .val (.int (F2_0 p1)), .val (.int (F3_0 p1)), .val (.int (if (37 : Int32) < p1 then (5 : Int32) else (2 : Int32))), .val (.int (2 : Int32))] [(.int (2 : Int32)), (.int (if (37 : Int32) < p1 then (5 : Int32) else (2 : Int32)))])) (fun t kt => XS.iload X3.here hx rfl (hb hby d1_40) rfl kt) ?_
      refine own_go (A := T3.setTop (mkF m 45 #[.val (.int p1), .val (.int (F2_0 p1)), .val (.int (F3_0 p1)), .val (.int (if (37 : Int32) < p1 then (5 : Int32) else (2 : Int32))), .val (.int (2 : Int32))] [])) (fun t kt => XS.icmpNo X3.here hx rfl (hb hby d1_42) rfl (teq (if_neg hc29 : (if (37 : Int32) < p1 then (5 : Int32) else (2 : Int32)) = (2 : Int32))).2 kt) ?_
      refine own_go (A := T3.setTop (mkF m 46 #[.val (.int p1), .val (.int (F2_0 p1)), .val (.int (F3_0 p1)), .val (.int (if (37 : Int32) < p1 then (5 : Int32) else (2 : Int32))), .val (.int (2 : Int32))] [(.int (1 : Int32))])) (fun t kt => XS.iconst X3.here hx rfl (hb hby d1_45) kt) ?_
      refine own_go (A := T3.setTop (mkF m 50 #[.val (.int p1), .val (.int (F2_0 p1)), .val (.int (F3_0 p1)), .val (.int (if (37 : Int32) < p1 then (5 : Int32) else (2 : Int32))), .val (.int (2 : Int32))] [(.int (1 : Int32))])) (fun t kt => XS.goto X3.here hx rfl (pc0 := 46) (pc' := 50) rfl (hb hby d1_46) (by decide) (by decide) kt) ?_
      obtain ⟨fs, hr, hrun, hended, hW, hsame⟩ := X3.leave (v := some (.int (1 : Int32))) (fun h => by rw [Bd.returns] at h; cases h)
      exact ⟨_, _, retN X3 hx (t := .boolean) Bd.returns (by simp) (hb hby d1_50) hr, hrun, hended, _, _, rfl, ⟨rfl, N3, g3⟩, ⟨_, rfl⟩, hW, hsame.mono (by decide) (by decide)⟩
theorem pn_0 : plainName "com/example/kelpie/kelpie/engine/CodeFlowIsJumpPinLaw" = true := by first | (simp [plainName, overriddenIn]; done) | decide +kernel
theorem ef_0 (m : MethodId) (p1 : Int32) : entryFrame m #[(.int p1)] maxLocals = mkF m 0 #[.val (.int p1)] [] := by first | (simp [entryFrame, mkF, argsToLocals, Value.category, maxLocals]; done) | rfl
set_option maxRecDepth 65536 in
set_option maxHeartbeats 40000000 in
theorem rm0 (l : Launch) (Z : State) (a0 : Array Value) (hw : ∀ d ∈ tables_1, d.before a0 Z = true) (ws : List Jvm.Cond) (p1 : Int32) (h0 : Heap) (n0 : Nat) (Z0 : n0 ≤ h0.size) :
    MetFree l x (head1 (Jvm.Cond.code x code maxLocals ret :: ws) room_1) (fun a U => a = #[(.int p1)] ∧ Z.Warmed39 U.vm ∧ U.heap = h0) (fun _ _ _ _ _ => True) (fun _ U o U' => ∃ v L, o = .returned v ∧ (v = some (.int (1 : Int32)) ∧ Fr n0 L) ∧ FrameEnd U o U' L room_1.cells room_1.slots) := by
  refine MetFree.of_bodySF (plainFor_of_name pn_0) hisR ?_
  intro p e s m args below meth c s₁ Bd hml0 hP hK
  obtain ⟨rfl, hZ, hh⟩ := hP
  have hx := Bd.exec
  have hby := Bd.bytes
  have hml : c.maxLocals = 1 := hml0
  have hown : s.vm.findClass "com/example/kelpie/kelpie/engine/CodeFlowIsJumpPinLaw" = some m.cls := findClass_of_methodNamed Bd.named
  have hnm := (name_of_methodNamed Bd.named Bd.method).1
  have X0 : Stand p l e room_1 s m #[(.int p1)] below meth c s₁ [] 0 0 := Stand.of_body Bd
  have e0 : s₁.heap = h0 := by rw [← hh, Bd.state]; rfl
  have N0 := Fr.nil n0
  have pre0 : ∀ t, Steps p.tables e below (s₁.setTop (mkF m 0 #[.val (.int p1)] [])) t → Steps p.tables e below (s₁.setTop (entryFrame m #[(.int p1)] maxLocals)) t := fun t kt => castTop (ef_0 m p1) kt
  refine own_go (A := s₁.setTop (mkF m 0 #[.val (.int p1)] [])) pre0 ?_
  refine own_go (A := s₁.setTop (mkF m 1 #[.val (.int p1)] [(.int p1)])) (fun t kt => XS.iloadN X0.here hx rfl (hb hby at_0) rfl kt) ?_
  obtain ⟨_, _, ⟨T1, L1, k1, n1⟩, -, X1, ⟨Lc1, hQ1, l1, y1, z1⟩, st1⟩ := Jvm.LawKit.callS X0 hx (y := (⟨"com/example/kelpie/kelpie/engine/CodeFlowIsJumpPinLaw", "check", "(I)Z"⟩ : MethodName)) hown (mvT hZ (hw _ (List.mem_of_getElem? (i := 0) rfl))) (mvT hZ (hw _ (List.mem_of_getElem? (i := 1) rfl))) (mvT hZ (hw _ (List.mem_of_getElem? (i := 2) rfl))) (mvT hZ (hw _ (List.mem_of_getElem? (i := 3) rfl))) (by decide) (backOf (W := 0) (rm1 l Z a0 hw [] p1 h0 n0 Z0) hZ (hw _ (List.mem_of_getElem? (i := 3) rfl)) (hw _ (List.mem_of_getElem? (i := 2) rfl)) (by decide) (by decide)) (g := (mkF m 1 #[.val (.int p1)] [(.int p1)])) rfl (by rw [hml]; rfl) (argsL := [(.int p1)]) (rest := []) (lenOf pd_1 rfl) rfl (by show 2 * 0 + _ ≤ _; exact Nat.le_of_eq rfl) (hb hby at_1) (fun _ _ => ⟨rfl, e0, (by decide : 0 + 0 ≤ _), (by decide : 0 + 0 ≤ _)⟩)
  dsimp only [Pt.U, Pt.locs, Pt.cells, Pt.slots] at X1 l1 y1 z1 st1 hQ1
  subst l1 y1 z1
  obtain ⟨rfl, N1q, g1⟩ := hQ1
  have N1 := Fr.app N0 N1q
  refine own_go (A := T1.setTop (mkF m 4 #[.val (.int p1)] [(.int (1 : Int32))])) st1 ?_
  refine own_go (A := T1.setTop (mkF m 7 #[.val (.int p1)] [])) (fun t kt => XS.ifNo X1.here hx rfl (hb hby at_4) rfl ((if0 _ _).trans (feq (by decide : ¬ ((1 : Int32) = (0 : Int32)))).1) kt) ?_
  refine own_go (A := T1.setTop (mkF m 8 #[.val (.int p1)] [(.int p1)])) (fun t kt => XS.iloadN X1.here hx rfl (hb hby at_7) rfl kt) ?_
  refine own_go (A := T1.setTop (mkF m 10 #[.val (.int p1)] [(.int (127 : Int32)), (.int p1)])) (fun t kt => XS.bipush X1.here hx rfl (hb hby at_8) kt) ?_
  refine own_go (A := T1.setTop (mkF m 11 #[.val (.int p1)] [(.int (p1 &&& (127 : Int32)))])) (fun t kt => XS.iand X1.here hx rfl (hb hby at_10) rfl kt) ?_
  obtain ⟨_, _, ⟨T2, L2, k2, n2⟩, -, X2, ⟨Lc2, hQ2, l2, y2, z2⟩, st2⟩ := Jvm.LawKit.callS X1 hx (y := (⟨"com/example/kelpie/kelpie/engine/CodeFlowIsJumpPinLaw", "check", "(I)Z"⟩ : MethodName)) hown (mvT hZ (hw _ (List.mem_of_getElem? (i := 0) rfl))) (mvT hZ (hw _ (List.mem_of_getElem? (i := 1) rfl))) (mvT hZ (hw _ (List.mem_of_getElem? (i := 2) rfl))) (mvT hZ (hw _ (List.mem_of_getElem? (i := 3) rfl))) (by decide) (backOf (W := 0) (rm1 l Z a0 hw [] (p1 &&& (127 : Int32)) h0 n0 Z0) hZ (hw _ (List.mem_of_getElem? (i := 3) rfl)) (hw _ (List.mem_of_getElem? (i := 2) rfl)) (by decide) (by decide)) (g := (mkF m 11 #[.val (.int p1)] [(.int (p1 &&& (127 : Int32)))])) rfl (by rw [hml]; rfl) (argsL := [(.int (p1 &&& (127 : Int32)))]) (rest := []) (lenOf pd_1 rfl) rfl (by show 2 * 0 + _ ≤ _; exact Nat.le_of_eq rfl) (hb hby at_11) (fun _ _ => ⟨rfl, g1, (by decide : 0 + 0 ≤ _), (by decide : 0 + 0 ≤ _)⟩)
  dsimp only [Pt.U, Pt.locs, Pt.cells, Pt.slots] at X2 l2 y2 z2 st2 hQ2
  subst l2 y2 z2
  obtain ⟨rfl, N2q, g2⟩ := hQ2
  have N2 := Fr.app N1 N2q
  refine own_go (A := T2.setTop (mkF m 14 #[.val (.int p1)] [(.int (1 : Int32))])) st2 ?_
  refine own_go (A := T2.setTop (mkF m 17 #[.val (.int p1)] [])) (fun t kt => XS.ifNo X2.here hx rfl (hb hby at_14) rfl ((if0 _ _).trans (feq (by decide : ¬ ((1 : Int32) = (0 : Int32)))).1) kt) ?_
  refine own_go (A := T2.setTop (mkF m 18 #[.val (.int p1)] [(.int (1 : Int32))])) (fun t kt => XS.iconst X2.here hx rfl (hb hby at_17) kt) ?_
  refine own_go (A := T2.setTop (mkF m 22 #[.val (.int p1)] [(.int (1 : Int32))])) (fun t kt => XS.goto X2.here hx rfl (pc0 := 18) (pc' := 22) rfl (hb hby at_18) (by decide) (by decide) kt) ?_
  obtain ⟨fs, hr, hrun, hended, hW, hsame⟩ := X2.leave (v := some (.int (1 : Int32))) (fun h => by rw [Bd.returns] at h; cases h)
  exact ⟨_, _, retN X2 hx (t := .boolean) Bd.returns (by simp) (hb hby at_22) hr, hrun, hended, _, _, rfl, ⟨rfl, N2⟩, ⟨_, rfl⟩, hW, hsame.mono (by decide) (by decide)⟩
set_option maxRecDepth 65536 in
set_option maxHeartbeats 40000000 in
theorem comes_1 {Post : Tables → Env → Array Value → State → Outcome → State → Prop} (hpost : ∀ tb e args s v u, (limb_1_1.after args s (.returned v) u = true ∧ limb_1_2.after args s (.returned v) u = true ∧ True) → FrameEnd s (.returned v) u (Jvm.fieldLocs frame_1_writes args s ++ Jvm.arrayLocs frame_1_arrays args s ++ Jvm.staticLocs frame_1_statics s) 0 0 → Post tb e args s (.returned v) u) :
    ArmFor flags0 classFile x code maxLocals ret World_1 tables_1 room_1 Calls_1 rest_1 Pre_1 Post := by
  intro l hfl _ _ p e ha hc hk s m args below hf hA hF happ hP
  obtain ⟨hcalls, hrest, hpre⟩ := hP
  obtain ⟨-, -, -, hnamed, -, -, -, hat⟩ := (Spec.applies_iff hf).mp happ
  obtain ⟨hg, hn⟩ := and_e (Cond.before_iff.mp (show (Jvm.Cond.and given_1 narrow_1).before args s = true from hpre))
  obtain ⟨gc, g0⟩ := and_e hg
  have ga0 := g0
  obtain ⟨w0, rfl⟩ : ∃ w0 : Value, args = #[w0] := by
    have hs : args.size = 1 := by simpa [Cond.value, given_1] using gc
    obtain ⟨L⟩ := args
    match L, hs with
    | [w0], _ => exact ⟨w0, rfl⟩
  have hw := fun d (hd : d ∈ tables_1) => atoms_spec (ws := Jvm.Cond.code x code maxLocals ret :: tables_1) hat d (List.mem_cons_of_mem _ hd)
  obtain ⟨i0, ei0⟩ := is_v ga0
  obtain rfl : w0 = (.int i0) := Option.some.inj ei0
  obtain ⟨n, o, h1, h2, h3, _, L, rfl, ⟨rfl, N⟩, hq⟩ := rm0 l s _ hw tables_1 i0 s.heap s.heap.size (Nat.le_refl _) p e ha hc hk s m _ below hf ((Spec.applies_iff_loose hf).mp happ).1 ⟨rfl, State.Warmed39.refl s, rfl⟩ trivial
  refine ⟨n, _, h1, h2, h3, hpost _ _ _ _ _ _ ⟨Cond.after_iff.mpr rfl, Cond.after_iff.mpr (eq_i res_at (Term.int_eval (1)) rfl), trivial⟩ ⟨hq.1, hq.2.1, (hq.2.2.sift fun y hy => Or.inr (N y hy)).mono (by decide) (by decide)⟩⟩
theorem main_1_1 : Claimed_1_1 := comes_1 fun _ _ _ _ _ _ h hF => ⟨h.1, hF⟩
theorem main_1_2 : Claimed_1_2 := comes_1 fun _ _ _ _ _ _ h hF => ⟨h.2.1, hF⟩
end Jvm.Pilot.@@N@@
namespace Jvm.Pilot.@@N@@
open Jvm Jvm.ClassFile Sem Op Lib Jvm.Free Jvm.Stand Jvm.Pilot.@@N@@.Jvm.D
/-! MADE BY PROGRAM (witnessworld.py) out of the Statement's table words and the real class files: 11 classes; the members and pool entries that the words name. The judged class is class 1, her method 3. -/
namespace start1
open Jvm.ClassFile
def u (s : String) : CpInfo := .utf8 (stringToUtf16 s)
/-- a pool by its gaps: so many unusable entries, then the entry; so many at the end -/
def gap : Nat → List CpInfo → List CpInfo
  | 0, r => r
  | n + 1, r => .unusable :: gap n r
def poolList (es : List (Nat × CpInfo)) (last : Nat) : List CpInfo := es.foldr (fun e r => gap e.1 (e.2 :: r)) (gap last [])
def pool (es : List (Nat × CpInfo)) (last : Nat) : Array CpInfo := ⟨poolList es last⟩
def fileOf (pool : Array CpInfo) (this : Nat) (attrs : Array Attribute := #[]) (ms : Array MethodInfo := #[]) (fl : Nat := 33) (sup : Nat := 0) (ifs : Array Nat := #[]) (fds : Array FieldInfo := #[]) : ClassFile where
  minorVersion := 0
  majorVersion := 65
  constantPool := pool
  accessFlags := fl
  thisClass := this
  superClass := sup
  interfaces := ifs
  fields := fds
  methods := ms
  attributes := attrs
def plain (name : String) (sup : Option ClassId) : Class where
  name := name
  kind := .ordinary
  loader := none
  accessFlags := 33
  super := sup
  interfaces := #[]
  cf := none
  fields := #[]
  methods := #[]
  instanceTypes := #[]
  staticTypes := #[]
  resolved := #[]
  callSites := []
  init := .initialized
  statics := none
  mirror := none

def pool0 : Array CpInfo := pool [(5, u "<init>"), (0, u "()V"), (1, .class_ 10), (1, u "java/lang/Object")] 113

def k0m0 : Method := { name := "<init>", desc := "()V", sig := { parameters := [], returnType := none }, accessFlags := 1, code := none }
/-- java/lang/Object -/
def k0 : Class := { plain "java/lang/Object" none with
  accessFlags := 33
  interfaces := #[]
  cf := some (fileOf pool0 8 #[] #[{ accessFlags := 1, nameIndex := 5, descriptorIndex := 6, attributes := #[] }] 33 0 #[] #[])
  fields := #[]
  methods := #[k0m0]
  instanceTypes := #[]
  staticTypes := #[]
  resolved := Array.replicate 124 none
  statics := none }

def pool1 : Array CpInfo := pool [(2, .class_ 4), (1, u "java/lang/Object"), (0, u "<init>"), (0, u "()V"), (0, .class_ 8), (0, u "com/example/kelpie/kelpie/engine/Code"), (0, .methodref 10 11), (0, .class_ 12), (0, .nameAndType 13 14), (0, u "com/example/kelpie/kelpie/engine/CodeFlowIsJumpPinLaw"), (0, u "expected"), (0, u "(I)Z"), (0, .methodref 16 17), (0, .class_ 18), (0, .nameAndType 19 14), (0, u "com/example/kelpie/kelpie/engine/CodeFlow"), (0, u "isJump"), (0, .methodref 7 21), (0, .nameAndType 22 23), (0, u "length"), (0, u "(I)I"), (0, .methodref 10 25), (0, .nameAndType 26 14), (0, u "check"), (3, u "law")] 2

def k1m0 : Method := { name := "<init>", desc := "()V", sig := { parameters := [], returnType := none }, accessFlags := 2, code := none }
def k1c1 : Code := { maxStack := 2, maxLocals := 3, code := method_2_code, exceptionTable := #[], attributes := #[] }
def k1m1 : Method := { name := "expected", desc := "(I)Z", sig := { parameters := [.int], returnType := some .boolean }, accessFlags := 10, code := some k1c1 }
def k1c2 : Code := { maxStack := 2, maxLocals := 5, code := method_3_code, exceptionTable := #[], attributes := #[] }
def k1m2 : Method := { name := "check", desc := "(I)Z", sig := { parameters := [.int], returnType := some .boolean }, accessFlags := 10, code := some k1c2 }
def k1c3 : Code := { maxStack := 2, maxLocals := 1, code := code, exceptionTable := #[], attributes := #[] }
def k1m3 : Method := { name := "law", desc := "(I)Z", sig := { parameters := [.int], returnType := some .boolean }, accessFlags := 9, code := some k1c3 }
/-- com/example/kelpie/kelpie/engine/CodeFlowIsJumpPinLaw -/
def k1 : Class := { plain "com/example/kelpie/kelpie/engine/CodeFlowIsJumpPinLaw" (some 0) with
  accessFlags := 49
  interfaces := #[]
  cf := some (fileOf pool1 10 #[] #[{ accessFlags := 2, nameIndex := 5, descriptorIndex := 6, attributes := #[] }, { accessFlags := 10, nameIndex := 13, descriptorIndex := 14, attributes := #[] }, { accessFlags := 10, nameIndex := 26, descriptorIndex := 14, attributes := #[] }, { accessFlags := 9, nameIndex := 30, descriptorIndex := 14, attributes := #[] }] 49 2 #[] #[])
  fields := #[]
  methods := #[k1m0, k1m1, k1m2, k1m3]
  instanceTypes := #[]
  staticTypes := #[]
  resolved := Array.replicate 33 none
  statics := none }

def pool2 : Array CpInfo := pool [(2, .class_ 4), (1, u "java/lang/Object"), (3, .class_ 10), (1, u "com/example/kelpie/kelpie/engine/CodeFlow"), (0, u "code"), (0, u "Lcom/example/kelpie/kelpie/engine/Code;"), (4, u "instructions"), (0, u "[I"), (3, u "depths"), (2, u "entries"), (0, u "[Z"), (22, u "isJump"), (0, u "(I)Z"), (39, u "I"), (25, u "variablesBefore"), (0, u "[[Z"), (2, u "variablesAfter"), (38, u "MOST_KEPT_VARIABLES")] 12

def k2c0 : Code := { maxStack := 2, maxLocals := 1, code := prog_21_method_9_code, exceptionTable := #[], attributes := #[] }
def k2m0 : Method := { name := "isJump", desc := "(I)Z", sig := { parameters := [.int], returnType := some .boolean }, accessFlags := 8, code := some k2c0 }
/-- com/example/kelpie/kelpie/engine/CodeFlow -/
def k2 : Class := { plain "com/example/kelpie/kelpie/engine/CodeFlow" (some 0) with
  accessFlags := 48
  interfaces := #[]
  cf := some (fileOf pool2 8 #[] #[{ accessFlags := 8, nameIndex := 49, descriptorIndex := 50, attributes := #[] }] 48 2 #[] #[{ accessFlags := 24, nameIndex := 159, descriptorIndex := 90, attributes := #[] }, { accessFlags := 16, nameIndex := 11, descriptorIndex := 12, attributes := #[] }, { accessFlags := 16, nameIndex := 17, descriptorIndex := 18, attributes := #[] }, { accessFlags := 16, nameIndex := 22, descriptorIndex := 18, attributes := #[] }, { accessFlags := 16, nameIndex := 25, descriptorIndex := 26, attributes := #[] }, { accessFlags := 0, nameIndex := 116, descriptorIndex := 117, attributes := #[] }, { accessFlags := 0, nameIndex := 120, descriptorIndex := 117, attributes := #[] }])
  fields := #[{ name := "MOST_KEPT_VARIABLES", type := .int, accessFlags := 24, slot := 0, constantValue := 0 }, { name := "code", type := (.object "com/example/kelpie/kelpie/engine/Code"), accessFlags := 16, slot := 0, constantValue := 0 }, { name := "instructions", type := (.array .int), accessFlags := 16, slot := 1, constantValue := 0 }, { name := "depths", type := (.array .int), accessFlags := 16, slot := 2, constantValue := 0 }, { name := "entries", type := (.array .boolean), accessFlags := 16, slot := 3, constantValue := 0 }, { name := "variablesBefore", type := (.array (.array .boolean)), accessFlags := 0, slot := 4, constantValue := 0 }, { name := "variablesAfter", type := (.array (.array .boolean)), accessFlags := 0, slot := 5, constantValue := 0 }]
  methods := #[k2m0]
  instanceTypes := #[(.object "com/example/kelpie/kelpie/engine/Code"), (.array .int), (.array .int), (.array .boolean), (.array (.array .boolean)), (.array (.array .boolean))]
  staticTypes := #[.int]
  resolved := Array.replicate 172 none
  statics := none }

def pool3 : Array CpInfo := pool [(1, .class_ 2), (0, u "com/example/kelpie/kelpie/engine/MemoryBudget$Held"), (0, .class_ 4), (0, u "java/lang/Object"), (5, .class_ 11), (0, u "com/example/kelpie/kelpie/engine/MemoryBudget")] 5

/-- com/example/kelpie/kelpie/engine/MemoryBudget$Held -/
def k3 : Class := { plain "com/example/kelpie/kelpie/engine/MemoryBudget$Held" (some 0) with
  accessFlags := 1536
  interfaces := #[]
  cf := some (fileOf pool3 1 #[.nestHost 10] #[] 1536 3 #[] #[])
  fields := #[]
  methods := #[]
  instanceTypes := #[]
  staticTypes := #[]
  resolved := Array.replicate 17 none
  statics := none }

def pool4 : Array CpInfo := pool [(2, .class_ 4), (1, u "java/lang/Object"), (3, .class_ 10), (1, u "com/example/kelpie/kelpie/engine/Code"), (0, u "name"), (0, u "Ljava/lang/String;"), (2, u "parameters"), (0, u "I"), (2, u "variables"), (0, u "[Ljava/lang/String;"), (2, u "selfSlot"), (2, u "argumentsSlot"), (2, u "instructions"), (0, u "[I"), (2, u "constants"), (0, u "[Ljava/lang/Object;"), (2, u "maxStack"), (2, u "cacheSites"), (2, u "handlers"), (2, u "innermostHandlers"), (5, u "lines"), (2, u "sourceName"), (2, u "source"), (2, u "start"), (2, u "end"), (2, u "charged"), (0, u "Z"), (16, u "bytes"), (0, u "J"), (25, u "NORMAL"), (0, u "Ljava/lang/Object;"), (2, u "UNINITIALIZED"), (0, .class_ 118), (0, u "com/example/kelpie/kelpie/engine/MemoryBudget$Held"), (0, u "CONST"), (2, u "UNDEFINED"), (1, u "POP"), (1, u "DUP"), (1, u "GET_NAME"), (1, u "TYPEOF_NAME"), (1, u "SET_NAME"), (1, u "ADD"), (1, u "SUB"), (1, u "MUL"), (1, u "DIV"), (1, u "MOD"), (1, u "SHL"), (1, u "SHR"), (1, u "USHR"), (1, u "BITAND"), (1, u "BITOR"), (1, u "BITXOR"), (1, u "EQ"), (1, u "NE"), (1, u "SEQ"), (1, u "SNE"), (1, u "LT"), (1, u "GT"), (1, u "LE"), (1, u "GE"), (1, u "NEG"), (1, u "TO_NUMBER"), (1, u "NOT"), (1, u "BITNOT"), (1, u "TYPEOF"), (1, u "INC"), (1, u "DEC"), (1, u "JUMP"), (1, u "JUMP_IF_FALSE"), (1, u "JUMP_IF_TRUE"), (1, u "AND"), (1, u "OR"), (1, u "CALL"), (1, u "RETURN"), (1, u "GET_MEMBER"), (1, u "GET_LOCAL"), (1, u "SET_LOCAL"), (1, u "GET_OUTER"), (1, u "SET_OUTER"), (1, u "ASSIGN_CONSTANT"), (1, u "THIS"), (1, u "CLOSURE"), (1, u "DUP2"), (1, u "DUP_X2"), (1, u "ROTATE"), (1, u "IN"), (1, u "INSTANCEOF"), (1, u "NEW"), (1, u "SET_MEMBER"), (1, u "DELETE_MEMBER"), (1, u "TO_KEY"), (1, u "NEW_OBJECT"), (1, u "INIT_PROPERTY"), (1, u "ARRAY"), (1, u "FOR_IN_START"), (1, u "FOR_IN_NEXT"), (1, u "THROW"), (1, u "ENTER_CATCH"), (1, u "LEAVE_SCOPE"), (1, u "GOTO_FINALLY"), (1, u "COMPLETE_RETURN"), (1, u "END_FINALLY"), (1, u "ENTER_BLOCK"), (1, u "GET_LEXICAL"), (1, u "SET_LEXICAL"), (1, u "COPY_SCOPE"), (1, u "ITERATOR"), (1, u "ITERATOR_NEXT"), (1, u "REQUIRE_COERCIBLE"), (1, u "STORE_LOCAL"), (1, u "STORE_NAME"), (1, u "STORE_MEMBER"), (1, u "UPDATE_LOCAL"), (1, u "UPDATE_NAME"), (1, u "ADD_REF"), (1, u "SUB_REF"), (1, u "MUL_REF"), (1, u "DIV_REF"), (1, u "MOD_REF"), (1, u "GET_MEMBER_REF"), (1, u "JUMP_EQ"), (1, u "JUMP_NE"), (1, u "JUMP_SEQ"), (1, u "JUMP_SNE"), (1, u "JUMP_LT"), (1, u "JUMP_GT"), (1, u "JUMP_LE"), (1, u "JUMP_GE"), (1, u "CALLEE_NAME"), (1, u "RETURN_REF"), (1, u "GET_METHOD"), (1, u "COMPLETION_SLOT"), (0, u "CACHES_SLOT"), (2, u "HANDLER_SIZE"), (0, u "HANDLER_END"), (0, u "HANDLER_TARGET"), (0, u "HANDLER_DEPTH"), (0, u "HANDLER_SCOPES"), (0, u "VALUE"), (0, u "GETTER"), (0, u "SETTER"), (0, u "heat"), (0, u "translated"), (0, u "Lcom/example/kelpie/kelpie/engine/TranslatedCode;"), (12, u "length"), (0, u "(I)I")] 13

def k4c0 : Code := { maxStack := 2, maxLocals := 2, code := prog_20_method_5_code, exceptionTable := #[], attributes := #[] }
def k4m0 : Method := { name := "length", desc := "(I)I", sig := { parameters := [.int], returnType := some .int }, accessFlags := 8, code := some k4c0 }
/-- com/example/kelpie/kelpie/engine/Code -/
def k4 : Class := { plain "com/example/kelpie/kelpie/engine/Code" (some 0) with
  accessFlags := 49
  interfaces := #[3]
  cf := some (fileOf pool4 8 #[] #[{ accessFlags := 8, nameIndex := 341, descriptorIndex := 342, attributes := #[] }] 49 2 #[117] #[{ accessFlags := 24, nameIndex := 119, descriptorIndex := 16, attributes := #[] }, { accessFlags := 24, nameIndex := 122, descriptorIndex := 16, attributes := #[] }, { accessFlags := 24, nameIndex := 124, descriptorIndex := 16, attributes := #[] }, { accessFlags := 24, nameIndex := 126, descriptorIndex := 16, attributes := #[] }, { accessFlags := 24, nameIndex := 128, descriptorIndex := 16, attributes := #[] }, { accessFlags := 24, nameIndex := 130, descriptorIndex := 16, attributes := #[] }, { accessFlags := 24, nameIndex := 132, descriptorIndex := 16, attributes := #[] }, { accessFlags := 24, nameIndex := 134, descriptorIndex := 16, attributes := #[] }, { accessFlags := 24, nameIndex := 136, descriptorIndex := 16, attributes := #[] }, { accessFlags := 24, nameIndex := 138, descriptorIndex := 16, attributes := #[] }, { accessFlags := 24, nameIndex := 140, descriptorIndex := 16, attributes := #[] }, { accessFlags := 24, nameIndex := 142, descriptorIndex := 16, attributes := #[] }, { accessFlags := 24, nameIndex := 144, descriptorIndex := 16, attributes := #[] }, { accessFlags := 24, nameIndex := 146, descriptorIndex := 16, attributes := #[] }, { accessFlags := 24, nameIndex := 148, descriptorIndex := 16, attributes := #[] }, { accessFlags := 24, nameIndex := 150, descriptorIndex := 16, attributes := #[] }, { accessFlags := 24, nameIndex := 152, descriptorIndex := 16, attributes := #[] }, { accessFlags := 24, nameIndex := 154, descriptorIndex := 16, attributes := #[] }, { accessFlags := 24, nameIndex := 156, descriptorIndex := 16, attributes := #[] }, { accessFlags := 24, nameIndex := 158, descriptorIndex := 16, attributes := #[] }, { accessFlags := 24, nameIndex := 160, descriptorIndex := 16, attributes := #[] }, { accessFlags := 24, nameIndex := 162, descriptorIndex := 16, attributes := #[] }, { accessFlags := 24, nameIndex := 164, descriptorIndex := 16, attributes := #[] }, { accessFlags := 24, nameIndex := 166, descriptorIndex := 16, attributes := #[] }, { accessFlags := 24, nameIndex := 168, descriptorIndex := 16, attributes := #[] }, { accessFlags := 24, nameIndex := 170, descriptorIndex := 16, attributes := #[] }, { accessFlags := 24, nameIndex := 172, descriptorIndex := 16, attributes := #[] }, { accessFlags := 24, nameIndex := 174, descriptorIndex := 16, attributes := #[] }, { accessFlags := 24, nameIndex := 176, descriptorIndex := 16, attributes := #[] }, { accessFlags := 24, nameIndex := 178, descriptorIndex := 16, attributes := #[] }, { accessFlags := 24, nameIndex := 180, descriptorIndex := 16, attributes := #[] }, { accessFlags := 24, nameIndex := 182, descriptorIndex := 16, attributes := #[] }, { accessFlags := 24, nameIndex := 184, descriptorIndex := 16, attributes := #[] }, { accessFlags := 24, nameIndex := 186, descriptorIndex := 16, attributes := #[] }, { accessFlags := 24, nameIndex := 188, descriptorIndex := 16, attributes := #[] }, { accessFlags := 24, nameIndex := 190, descriptorIndex := 16, attributes := #[] }, { accessFlags := 24, nameIndex := 192, descriptorIndex := 16, attributes := #[] }, { accessFlags := 24, nameIndex := 194, descriptorIndex := 16, attributes := #[] }, { accessFlags := 24, nameIndex := 196, descriptorIndex := 16, attributes := #[] }, { accessFlags := 24, nameIndex := 198, descriptorIndex := 16, attributes := #[] }, { accessFlags := 24, nameIndex := 200, descriptorIndex := 16, attributes := #[] }, { accessFlags := 24, nameIndex := 202, descriptorIndex := 16, attributes := #[] }, { accessFlags := 24, nameIndex := 204, descriptorIndex := 16, attributes := #[] }, { accessFlags := 24, nameIndex := 206, descriptorIndex := 16, attributes := #[] }, { accessFlags := 24, nameIndex := 208, descriptorIndex := 16, attributes := #[] }, { accessFlags := 24, nameIndex := 210, descriptorIndex := 16, attributes := #[] }, { accessFlags := 24, nameIndex := 212, descriptorIndex := 16, attributes := #[] }, { accessFlags := 24, nameIndex := 214, descriptorIndex := 16, attributes := #[] }, { accessFlags := 24, nameIndex := 216, descriptorIndex := 16, attributes := #[] }, { accessFlags := 24, nameIndex := 218, descriptorIndex := 16, attributes := #[] }, { accessFlags := 24, nameIndex := 220, descriptorIndex := 16, attributes := #[] }, { accessFlags := 24, nameIndex := 222, descriptorIndex := 16, attributes := #[] }, { accessFlags := 24, nameIndex := 224, descriptorIndex := 16, attributes := #[] }, { accessFlags := 24, nameIndex := 226, descriptorIndex := 16, attributes := #[] }, { accessFlags := 24, nameIndex := 228, descriptorIndex := 16, attributes := #[] }, { accessFlags := 24, nameIndex := 230, descriptorIndex := 16, attributes := #[] }, { accessFlags := 24, nameIndex := 232, descriptorIndex := 16, attributes := #[] }, { accessFlags := 24, nameIndex := 234, descriptorIndex := 16, attributes := #[] }, { accessFlags := 24, nameIndex := 236, descriptorIndex := 16, attributes := #[] }, { accessFlags := 24, nameIndex := 238, descriptorIndex := 16, attributes := #[] }, { accessFlags := 24, nameIndex := 240, descriptorIndex := 16, attributes := #[] }, { accessFlags := 24, nameIndex := 242, descriptorIndex := 16, attributes := #[] }, { accessFlags := 24, nameIndex := 244, descriptorIndex := 16, attributes := #[] }, { accessFlags := 24, nameIndex := 246, descriptorIndex := 16, attributes := #[] }, { accessFlags := 24, nameIndex := 248, descriptorIndex := 16, attributes := #[] }, { accessFlags := 24, nameIndex := 250, descriptorIndex := 16, attributes := #[] }, { accessFlags := 24, nameIndex := 252, descriptorIndex := 16, attributes := #[] }, { accessFlags := 24, nameIndex := 254, descriptorIndex := 16, attributes := #[] }, { accessFlags := 24, nameIndex := 256, descriptorIndex := 16, attributes := #[] }, { accessFlags := 24, nameIndex := 258, descriptorIndex := 16, attributes := #[] }, { accessFlags := 24, nameIndex := 260, descriptorIndex := 16, attributes := #[] }, { accessFlags := 24, nameIndex := 262, descriptorIndex := 16, attributes := #[] }, { accessFlags := 24, nameIndex := 264, descriptorIndex := 16, attributes := #[] }, { accessFlags := 24, nameIndex := 266, descriptorIndex := 16, attributes := #[] }, { accessFlags := 24, nameIndex := 268, descriptorIndex := 16, attributes := #[] }, { accessFlags := 24, nameIndex := 270, descriptorIndex := 16, attributes := #[] }, { accessFlags := 24, nameIndex := 272, descriptorIndex := 16, attributes := #[] }, { accessFlags := 24, nameIndex := 274, descriptorIndex := 16, attributes := #[] }, { accessFlags := 24, nameIndex := 276, descriptorIndex := 16, attributes := #[] }, { accessFlags := 24, nameIndex := 278, descriptorIndex := 16, attributes := #[] }, { accessFlags := 24, nameIndex := 280, descriptorIndex := 16, attributes := #[] }, { accessFlags := 24, nameIndex := 282, descriptorIndex := 16, attributes := #[] }, { accessFlags := 24, nameIndex := 284, descriptorIndex := 16, attributes := #[] }, { accessFlags := 24, nameIndex := 286, descriptorIndex := 16, attributes := #[] }, { accessFlags := 24, nameIndex := 288, descriptorIndex := 16, attributes := #[] }, { accessFlags := 24, nameIndex := 290, descriptorIndex := 16, attributes := #[] }, { accessFlags := 24, nameIndex := 292, descriptorIndex := 16, attributes := #[] }, { accessFlags := 24, nameIndex := 294, descriptorIndex := 16, attributes := #[] }, { accessFlags := 24, nameIndex := 296, descriptorIndex := 16, attributes := #[] }, { accessFlags := 24, nameIndex := 298, descriptorIndex := 16, attributes := #[] }, { accessFlags := 24, nameIndex := 300, descriptorIndex := 16, attributes := #[] }, { accessFlags := 24, nameIndex := 302, descriptorIndex := 16, attributes := #[] }, { accessFlags := 24, nameIndex := 304, descriptorIndex := 16, attributes := #[] }, { accessFlags := 24, nameIndex := 306, descriptorIndex := 16, attributes := #[] }, { accessFlags := 24, nameIndex := 308, descriptorIndex := 16, attributes := #[] }, { accessFlags := 24, nameIndex := 310, descriptorIndex := 16, attributes := #[] }, { accessFlags := 24, nameIndex := 312, descriptorIndex := 16, attributes := #[] }, { accessFlags := 24, nameIndex := 314, descriptorIndex := 16, attributes := #[] }, { accessFlags := 24, nameIndex := 315, descriptorIndex := 16, attributes := #[] }, { accessFlags := 24, nameIndex := 112, descriptorIndex := 113, attributes := #[] }, { accessFlags := 24, nameIndex := 116, descriptorIndex := 113, attributes := #[] }, { accessFlags := 24, nameIndex := 318, descriptorIndex := 16, attributes := #[] }, { accessFlags := 24, nameIndex := 319, descriptorIndex := 16, attributes := #[] }, { accessFlags := 24, nameIndex := 320, descriptorIndex := 16, attributes := #[] }, { accessFlags := 24, nameIndex := 321, descriptorIndex := 16, attributes := #[] }, { accessFlags := 24, nameIndex := 322, descriptorIndex := 16, attributes := #[] }, { accessFlags := 24, nameIndex := 323, descriptorIndex := 16, attributes := #[] }, { accessFlags := 24, nameIndex := 324, descriptorIndex := 16, attributes := #[] }, { accessFlags := 24, nameIndex := 325, descriptorIndex := 16, attributes := #[] }, { accessFlags := 16, nameIndex := 11, descriptorIndex := 12, attributes := #[] }, { accessFlags := 16, nameIndex := 15, descriptorIndex := 16, attributes := #[] }, { accessFlags := 16, nameIndex := 19, descriptorIndex := 20, attributes := #[] }, { accessFlags := 16, nameIndex := 23, descriptorIndex := 16, attributes := #[] }, { accessFlags := 16, nameIndex := 26, descriptorIndex := 16, attributes := #[] }, { accessFlags := 16, nameIndex := 29, descriptorIndex := 30, attributes := #[] }, { accessFlags := 16, nameIndex := 33, descriptorIndex := 34, attributes := #[] }, { accessFlags := 16, nameIndex := 37, descriptorIndex := 16, attributes := #[] }, { accessFlags := 16, nameIndex := 40, descriptorIndex := 16, attributes := #[] }, { accessFlags := 16, nameIndex := 43, descriptorIndex := 30, attributes := #[] }, { accessFlags := 18, nameIndex := 46, descriptorIndex := 30, attributes := #[] }, { accessFlags := 18, nameIndex := 52, descriptorIndex := 30, attributes := #[] }, { accessFlags := 16, nameIndex := 55, descriptorIndex := 12, attributes := #[] }, { accessFlags := 18, nameIndex := 58, descriptorIndex := 12, attributes := #[] }, { accessFlags := 18, nameIndex := 61, descriptorIndex := 16, attributes := #[] }, { accessFlags := 18, nameIndex := 64, descriptorIndex := 16, attributes := #[] }, { accessFlags := 16, nameIndex := 67, descriptorIndex := 68, attributes := #[] }, { accessFlags := 0, nameIndex := 326, descriptorIndex := 16, attributes := #[] }, { accessFlags := 0, nameIndex := 327, descriptorIndex := 328, attributes := #[] }, { accessFlags := 18, nameIndex := 85, descriptorIndex := 86, attributes := #[] }])
  fields := #[{ name := "CONST", type := .int, accessFlags := 24, slot := 0, constantValue := 0 }, { name := "UNDEFINED", type := .int, accessFlags := 24, slot := 1, constantValue := 0 }, { name := "POP", type := .int, accessFlags := 24, slot := 2, constantValue := 0 }, { name := "DUP", type := .int, accessFlags := 24, slot := 3, constantValue := 0 }, { name := "GET_NAME", type := .int, accessFlags := 24, slot := 4, constantValue := 0 }, { name := "TYPEOF_NAME", type := .int, accessFlags := 24, slot := 5, constantValue := 0 }, { name := "SET_NAME", type := .int, accessFlags := 24, slot := 6, constantValue := 0 }, { name := "ADD", type := .int, accessFlags := 24, slot := 7, constantValue := 0 }, { name := "SUB", type := .int, accessFlags := 24, slot := 8, constantValue := 0 }, { name := "MUL", type := .int, accessFlags := 24, slot := 9, constantValue := 0 }, { name := "DIV", type := .int, accessFlags := 24, slot := 10, constantValue := 0 }, { name := "MOD", type := .int, accessFlags := 24, slot := 11, constantValue := 0 }, { name := "SHL", type := .int, accessFlags := 24, slot := 12, constantValue := 0 }, { name := "SHR", type := .int, accessFlags := 24, slot := 13, constantValue := 0 }, { name := "USHR", type := .int, accessFlags := 24, slot := 14, constantValue := 0 }, { name := "BITAND", type := .int, accessFlags := 24, slot := 15, constantValue := 0 }, { name := "BITOR", type := .int, accessFlags := 24, slot := 16, constantValue := 0 }, { name := "BITXOR", type := .int, accessFlags := 24, slot := 17, constantValue := 0 }, { name := "EQ", type := .int, accessFlags := 24, slot := 18, constantValue := 0 }, { name := "NE", type := .int, accessFlags := 24, slot := 19, constantValue := 0 }, { name := "SEQ", type := .int, accessFlags := 24, slot := 20, constantValue := 0 }, { name := "SNE", type := .int, accessFlags := 24, slot := 21, constantValue := 0 }, { name := "LT", type := .int, accessFlags := 24, slot := 22, constantValue := 0 }, { name := "GT", type := .int, accessFlags := 24, slot := 23, constantValue := 0 }, { name := "LE", type := .int, accessFlags := 24, slot := 24, constantValue := 0 }, { name := "GE", type := .int, accessFlags := 24, slot := 25, constantValue := 0 }, { name := "NEG", type := .int, accessFlags := 24, slot := 26, constantValue := 0 }, { name := "TO_NUMBER", type := .int, accessFlags := 24, slot := 27, constantValue := 0 }, { name := "NOT", type := .int, accessFlags := 24, slot := 28, constantValue := 0 }, { name := "BITNOT", type := .int, accessFlags := 24, slot := 29, constantValue := 0 }, { name := "TYPEOF", type := .int, accessFlags := 24, slot := 30, constantValue := 0 }, { name := "INC", type := .int, accessFlags := 24, slot := 31, constantValue := 0 }, { name := "DEC", type := .int, accessFlags := 24, slot := 32, constantValue := 0 }, { name := "JUMP", type := .int, accessFlags := 24, slot := 33, constantValue := 0 }, { name := "JUMP_IF_FALSE", type := .int, accessFlags := 24, slot := 34, constantValue := 0 }, { name := "JUMP_IF_TRUE", type := .int, accessFlags := 24, slot := 35, constantValue := 0 }, { name := "AND", type := .int, accessFlags := 24, slot := 36, constantValue := 0 }, { name := "OR", type := .int, accessFlags := 24, slot := 37, constantValue := 0 }, { name := "CALL", type := .int, accessFlags := 24, slot := 38, constantValue := 0 }, { name := "RETURN", type := .int, accessFlags := 24, slot := 39, constantValue := 0 }, { name := "GET_MEMBER", type := .int, accessFlags := 24, slot := 40, constantValue := 0 }, { name := "GET_LOCAL", type := .int, accessFlags := 24, slot := 41, constantValue := 0 }, { name := "SET_LOCAL", type := .int, accessFlags := 24, slot := 42, constantValue := 0 }, { name := "GET_OUTER", type := .int, accessFlags := 24, slot := 43, constantValue := 0 }, { name := "SET_OUTER", type := .int, accessFlags := 24, slot := 44, constantValue := 0 }, { name := "ASSIGN_CONSTANT", type := .int, accessFlags := 24, slot := 45, constantValue := 0 }, { name := "THIS", type := .int, accessFlags := 24, slot := 46, constantValue := 0 }, { name := "CLOSURE", type := .int, accessFlags := 24, slot := 47, constantValue := 0 }, { name := "DUP2", type := .int, accessFlags := 24, slot := 48, constantValue := 0 }, { name := "DUP_X2", type := .int, accessFlags := 24, slot := 49, constantValue := 0 }, { name := "ROTATE", type := .int, accessFlags := 24, slot := 50, constantValue := 0 }, { name := "IN", type := .int, accessFlags := 24, slot := 51, constantValue := 0 }, { name := "INSTANCEOF", type := .int, accessFlags := 24, slot := 52, constantValue := 0 }, { name := "NEW", type := .int, accessFlags := 24, slot := 53, constantValue := 0 }, { name := "SET_MEMBER", type := .int, accessFlags := 24, slot := 54, constantValue := 0 }, { name := "DELETE_MEMBER", type := .int, accessFlags := 24, slot := 55, constantValue := 0 }, { name := "TO_KEY", type := .int, accessFlags := 24, slot := 56, constantValue := 0 }, { name := "NEW_OBJECT", type := .int, accessFlags := 24, slot := 57, constantValue := 0 }, { name := "INIT_PROPERTY", type := .int, accessFlags := 24, slot := 58, constantValue := 0 }, { name := "ARRAY", type := .int, accessFlags := 24, slot := 59, constantValue := 0 }, { name := "FOR_IN_START", type := .int, accessFlags := 24, slot := 60, constantValue := 0 }, { name := "FOR_IN_NEXT", type := .int, accessFlags := 24, slot := 61, constantValue := 0 }, { name := "THROW", type := .int, accessFlags := 24, slot := 62, constantValue := 0 }, { name := "ENTER_CATCH", type := .int, accessFlags := 24, slot := 63, constantValue := 0 }, { name := "LEAVE_SCOPE", type := .int, accessFlags := 24, slot := 64, constantValue := 0 }, { name := "GOTO_FINALLY", type := .int, accessFlags := 24, slot := 65, constantValue := 0 }, { name := "COMPLETE_RETURN", type := .int, accessFlags := 24, slot := 66, constantValue := 0 }, { name := "END_FINALLY", type := .int, accessFlags := 24, slot := 67, constantValue := 0 }, { name := "ENTER_BLOCK", type := .int, accessFlags := 24, slot := 68, constantValue := 0 }, { name := "GET_LEXICAL", type := .int, accessFlags := 24, slot := 69, constantValue := 0 }, { name := "SET_LEXICAL", type := .int, accessFlags := 24, slot := 70, constantValue := 0 }, { name := "COPY_SCOPE", type := .int, accessFlags := 24, slot := 71, constantValue := 0 }, { name := "ITERATOR", type := .int, accessFlags := 24, slot := 72, constantValue := 0 }, { name := "ITERATOR_NEXT", type := .int, accessFlags := 24, slot := 73, constantValue := 0 }, { name := "REQUIRE_COERCIBLE", type := .int, accessFlags := 24, slot := 74, constantValue := 0 }, { name := "STORE_LOCAL", type := .int, accessFlags := 24, slot := 75, constantValue := 0 }, { name := "STORE_NAME", type := .int, accessFlags := 24, slot := 76, constantValue := 0 }, { name := "STORE_MEMBER", type := .int, accessFlags := 24, slot := 77, constantValue := 0 }, { name := "UPDATE_LOCAL", type := .int, accessFlags := 24, slot := 78, constantValue := 0 }, { name := "UPDATE_NAME", type := .int, accessFlags := 24, slot := 79, constantValue := 0 }, { name := "ADD_REF", type := .int, accessFlags := 24, slot := 80, constantValue := 0 }, { name := "SUB_REF", type := .int, accessFlags := 24, slot := 81, constantValue := 0 }, { name := "MUL_REF", type := .int, accessFlags := 24, slot := 82, constantValue := 0 }, { name := "DIV_REF", type := .int, accessFlags := 24, slot := 83, constantValue := 0 }, { name := "MOD_REF", type := .int, accessFlags := 24, slot := 84, constantValue := 0 }, { name := "GET_MEMBER_REF", type := .int, accessFlags := 24, slot := 85, constantValue := 0 }, { name := "JUMP_EQ", type := .int, accessFlags := 24, slot := 86, constantValue := 0 }, { name := "JUMP_NE", type := .int, accessFlags := 24, slot := 87, constantValue := 0 }, { name := "JUMP_SEQ", type := .int, accessFlags := 24, slot := 88, constantValue := 0 }, { name := "JUMP_SNE", type := .int, accessFlags := 24, slot := 89, constantValue := 0 }, { name := "JUMP_LT", type := .int, accessFlags := 24, slot := 90, constantValue := 0 }, { name := "JUMP_GT", type := .int, accessFlags := 24, slot := 91, constantValue := 0 }, { name := "JUMP_LE", type := .int, accessFlags := 24, slot := 92, constantValue := 0 }, { name := "JUMP_GE", type := .int, accessFlags := 24, slot := 93, constantValue := 0 }, { name := "CALLEE_NAME", type := .int, accessFlags := 24, slot := 94, constantValue := 0 }, { name := "RETURN_REF", type := .int, accessFlags := 24, slot := 95, constantValue := 0 }, { name := "GET_METHOD", type := .int, accessFlags := 24, slot := 96, constantValue := 0 }, { name := "COMPLETION_SLOT", type := .int, accessFlags := 24, slot := 97, constantValue := 0 }, { name := "CACHES_SLOT", type := .int, accessFlags := 24, slot := 98, constantValue := 0 }, { name := "NORMAL", type := (.object "java/lang/Object"), accessFlags := 24, slot := 99, constantValue := 0 }, { name := "UNINITIALIZED", type := (.object "java/lang/Object"), accessFlags := 24, slot := 100, constantValue := 0 }, { name := "HANDLER_SIZE", type := .int, accessFlags := 24, slot := 101, constantValue := 0 }, { name := "HANDLER_END", type := .int, accessFlags := 24, slot := 102, constantValue := 0 }, { name := "HANDLER_TARGET", type := .int, accessFlags := 24, slot := 103, constantValue := 0 }, { name := "HANDLER_DEPTH", type := .int, accessFlags := 24, slot := 104, constantValue := 0 }, { name := "HANDLER_SCOPES", type := .int, accessFlags := 24, slot := 105, constantValue := 0 }, { name := "VALUE", type := .int, accessFlags := 24, slot := 106, constantValue := 0 }, { name := "GETTER", type := .int, accessFlags := 24, slot := 107, constantValue := 0 }, { name := "SETTER", type := .int, accessFlags := 24, slot := 108, constantValue := 0 }, { name := "name", type := (.object "java/lang/String"), accessFlags := 16, slot := 0, constantValue := 0 }, { name := "parameters", type := .int, accessFlags := 16, slot := 1, constantValue := 0 }, { name := "variables", type := (.array (.object "java/lang/String")), accessFlags := 16, slot := 2, constantValue := 0 }, { name := "selfSlot", type := .int, accessFlags := 16, slot := 3, constantValue := 0 }, { name := "argumentsSlot", type := .int, accessFlags := 16, slot := 4, constantValue := 0 }, { name := "instructions", type := (.array .int), accessFlags := 16, slot := 5, constantValue := 0 }, { name := "constants", type := (.array (.object "java/lang/Object")), accessFlags := 16, slot := 6, constantValue := 0 }, { name := "maxStack", type := .int, accessFlags := 16, slot := 7, constantValue := 0 }, { name := "cacheSites", type := .int, accessFlags := 16, slot := 8, constantValue := 0 }, { name := "handlers", type := (.array .int), accessFlags := 16, slot := 9, constantValue := 0 }, { name := "innermostHandlers", type := (.array .int), accessFlags := 18, slot := 10, constantValue := 0 }, { name := "lines", type := (.array .int), accessFlags := 18, slot := 11, constantValue := 0 }, { name := "sourceName", type := (.object "java/lang/String"), accessFlags := 16, slot := 12, constantValue := 0 }, { name := "source", type := (.object "java/lang/String"), accessFlags := 18, slot := 13, constantValue := 0 }, { name := "start", type := .int, accessFlags := 18, slot := 14, constantValue := 0 }, { name := "end", type := .int, accessFlags := 18, slot := 15, constantValue := 0 }, { name := "charged", type := .boolean, accessFlags := 16, slot := 16, constantValue := 0 }, { name := "heat", type := .int, accessFlags := 0, slot := 17, constantValue := 0 }, { name := "translated", type := (.object "com/example/kelpie/kelpie/engine/TranslatedCode"), accessFlags := 0, slot := 18, constantValue := 0 }, { name := "bytes", type := .long, accessFlags := 18, slot := 19, constantValue := 0 }]
  methods := #[k4m0]
  instanceTypes := #[(.object "java/lang/String"), .int, (.array (.object "java/lang/String")), .int, .int, (.array .int), (.array (.object "java/lang/Object")), .int, .int, (.array .int), (.array .int), (.array .int), (.object "java/lang/String"), (.object "java/lang/String"), .int, .int, .boolean, .int, (.object "com/example/kelpie/kelpie/engine/TranslatedCode"), .long]
  staticTypes := #[.int, .int, .int, .int, .int, .int, .int, .int, .int, .int, .int, .int, .int, .int, .int, .int, .int, .int, .int, .int, .int, .int, .int, .int, .int, .int, .int, .int, .int, .int, .int, .int, .int, .int, .int, .int, .int, .int, .int, .int, .int, .int, .int, .int, .int, .int, .int, .int, .int, .int, .int, .int, .int, .int, .int, .int, .int, .int, .int, .int, .int, .int, .int, .int, .int, .int, .int, .int, .int, .int, .int, .int, .int, .int, .int, .int, .int, .int, .int, .int, .int, .int, .int, .int, .int, .int, .int, .int, .int, .int, .int, .int, .int, .int, .int, .int, .int, .int, .int, (.object "java/lang/Object"), (.object "java/lang/Object"), .int, .int, .int, .int, .int, .int, .int, .int]
  resolved := Array.replicate 356 none
  statics := none }

def pool5 : Array CpInfo := pool [(1, u "java/lang/Cloneable"), (0, .class_ 1), (0, u "java/lang/Object"), (0, .class_ 3)] 3

/-- java/lang/Cloneable -/
def k5 : Class := { plain "java/lang/Cloneable" (some 0) with
  accessFlags := 1537
  interfaces := #[]
  cf := some (fileOf pool5 2 #[] #[] 1537 4 #[] #[])
  fields := #[]
  methods := #[]
  instanceTypes := #[]
  staticTypes := #[]
  resolved := Array.replicate 8 none
  statics := none }

def pool6 : Array CpInfo := pool [(1, u "java/io/Serializable"), (0, .class_ 1), (0, u "java/lang/Object"), (0, .class_ 3)] 3

/-- java/io/Serializable -/
def k6 : Class := { plain "java/io/Serializable" (some 0) with
  accessFlags := 1537
  interfaces := #[]
  cf := some (fileOf pool6 2 #[] #[] 1537 4 #[] #[])
  fields := #[]
  methods := #[]
  instanceTypes := #[]
  staticTypes := #[]
  resolved := Array.replicate 8 none
  statics := none }

/-- the primitive byte -/
def k7 : Class := { plain "byte" none with kind := .primitive 'B', accessFlags := 0x411 }
/-- [B -/
def k8 : Class := { plain "[B" (some 0) with kind := .array 7 .byte, interfaces := #[5, 6], accessFlags := 1041 }

/-- the primitive int -/
def k9 : Class := { plain "int" none with kind := .primitive 'I', accessFlags := 0x411 }
/-- [I -/
def k10 : Class := { plain "[I" (some 0) with kind := .array 9 .int, interfaces := #[5, 6], accessFlags := 1041 }

def heap : Heap := #[]
def classes : Array Class := #[k0, k1, k2, k3, k4, k5, k6, k7, k8, k9, k10]
def interned : List (Array UInt16 × Addr) := []
def slotsUsed : Nat := 0
def theMethod : MethodId := ⟨1, 3⟩
def args0 : Array Value := #[.int 5]
def aboutOver (below : List Frame) : State where
  vm := { classes := classes, interned := interned.toArray }
  heap := heap
  slotsUsed := slotsUsed
  threads := #[{ frames := .invoking theMethod args0 :: below }]
def below0 : List Frame := [.native { method := ⟨0, 0⟩, args := #[] }]
def about1 : State := aboutOver below0
def p0 : Program := .bare "" "" ""
def e0 : Env := launch0.env 0 0 0
theorem w_frames : about1.frames = Frame.invoking theMethod args0 :: below0 := rfl
set_option maxRecDepth 65536 in
theorem w_args : argsFit about1.vm theMethod args0 = true := by decide +kernel
set_option maxRecDepth 65536 in
theorem w_heap : heapFits about1 = true := by decide +kernel
set_option maxRecDepth 65536 in
theorem w_runnable : about1.curStatus? = some .runnable := by decide +kernel
set_option maxRecDepth 65536 in
theorem w_alone : about1.alone = true := by decide +kernel
set_option maxRecDepth 65536 in
theorem w_named : about1.methodNamed? x = some theMethod := by decide +kernel
set_option maxRecDepth 65536 in
theorem w_hears : about1.hears theMethod below0 = true := by decide +kernel
set_option maxRecDepth 65536 in
theorem w_ripe : about1.ripe theMethod args0 below0 = true := by decide +kernel
theorem w_running : about1.status = .running := rfl
set_option maxRecDepth 65536 in
theorem w_room : about1.hasRoom e0.platform room_1 = true :=
  launch0.hasRoom_least _ room_1 (by decide +kernel) (by decide +kernel) (by decide +kernel) (by decide +kernel) (by decide +kernel) (by decide +kernel)
theorem allAtoms_all (ts : List Jvm.Cond) (a : Array Jvm.Value) (st : Jvm.State) : (allAtoms ts).before a st = ts.all (fun c => c.before a st) := by
  induction ts with
  | nil => rfl
  | cons c t ih =>
    show (Jvm.Cond.and c (allAtoms t)).before a st = _
    rw [Jvm.Cond.before_and, ih, List.all_cons]
def words1 : List Jvm.Cond := Jvm.Cond.code x code maxLocals ret :: tables_1
/-- a 'code' word, met by the world's own term for the bytes: nothing is compared byte by byte -/
theorem code_word {y : MethodName} {bytes : ByteArray} {mx : Nat} {rt : Option FieldType} {a : Array Value} {s : State} {m : MethodId} {meth : Method} {c : Code} (h1 : s.methodNamed? y = some m) (h2 : s.vm.method? m = some meth) (h3 : meth.code = some c) (h4 : c.code = bytes)
    (h5 : (c.maxLocals == mx && c.exceptionTable.isEmpty && decide (c.maxStack ≤ mostOperands) && decide (meth.sig.returnType = rt) && !meth.locks && decide (parseMethodDescriptor y.desc = some meth.sig)) = true) : (Jvm.Cond.code y bytes mx rt).before a s = true := by
  simp only [Bool.and_eq_true, beq_iff_eq, Bool.not_eq_true', decide_eq_true_eq] at h5
  obtain ⟨⟨⟨⟨⟨g1, g2⟩, g3⟩, g4⟩, g5⟩, g6⟩ := h5
  simp [Cond.before, Cond.holds, Cond.value, h1, h2, h3, h4, g1, g2, g3, g4, g5, g6]
def isCode : Jvm.Cond → Bool
  | .code _ _ _ _ => true
  | _ => false
theorem all_split {L : List Jvm.Cond} {P : Jvm.Cond → Bool} (h1 : L.all (fun c => isCode c || P c) = true) (h2 : ∀ c ∈ L.filter isCode, P c = true) : L.all P = true := by
  refine List.all_eq_true.mpr fun c hc => ?_
  have h := List.all_eq_true.mp h1 c hc
  rcases Bool.eq_false_or_eq_true (isCode c) with hi | hi
  · exact h2 c (List.mem_filter.mpr ⟨hc, hi⟩)
  · simpa [hi] using h
set_option maxRecDepth 65536 in
theorem w_c0 : (Jvm.Cond.code x code maxLocals ret).before args0 about1 = true := code_word (m := ⟨1, 3⟩) (meth := k1m3) (c := k1c3) (by decide +kernel) rfl rfl rfl (by decide +kernel)
set_option maxRecDepth 65536 in
theorem w_c1 : (Jvm.Cond.code ({ cls := "com/example/kelpie/kelpie/engine/CodeFlowIsJumpPinLaw", name := "check", desc := "(I)Z" } : Jvm.MethodName) method_3_code (5 : Nat) (Option.some Jvm.ClassFile.FieldType.boolean)).before args0 about1 = true := code_word (m := ⟨1, 2⟩) (meth := k1m2) (c := k1c2) (by decide +kernel) rfl rfl rfl (by decide +kernel)
set_option maxRecDepth 65536 in
theorem w_c2 : (Jvm.Cond.code ({ cls := "com/example/kelpie/kelpie/engine/CodeFlowIsJumpPinLaw", name := "expected", desc := "(I)Z" } : Jvm.MethodName) method_2_code (3 : Nat) (Option.some Jvm.ClassFile.FieldType.boolean)).before args0 about1 = true := code_word (m := ⟨1, 1⟩) (meth := k1m1) (c := k1c1) (by decide +kernel) rfl rfl rfl (by decide +kernel)
set_option maxRecDepth 65536 in
theorem w_c3 : (Jvm.Cond.code ({ cls := "com/example/kelpie/kelpie/engine/CodeFlow", name := "isJump", desc := "(I)Z" } : Jvm.MethodName) prog_21_method_9_code (1 : Nat) (Option.some Jvm.ClassFile.FieldType.boolean)).before args0 about1 = true := code_word (m := ⟨2, 0⟩) (meth := k2m0) (c := k2c0) (by decide +kernel) rfl rfl rfl (by decide +kernel)
set_option maxRecDepth 65536 in
theorem w_c4 : (Jvm.Cond.code ({ cls := "com/example/kelpie/kelpie/engine/Code", name := "length", desc := "(I)I" } : Jvm.MethodName) prog_20_method_5_code (2 : Nat) (Option.some Jvm.ClassFile.FieldType.int)).before args0 about1 = true := code_word (m := ⟨4, 0⟩) (meth := k4m0) (c := k4c0) (by decide +kernel) rfl rfl rfl (by decide +kernel)
def codes1 : List Jvm.Cond := [Jvm.Cond.code x code maxLocals ret, Jvm.Cond.code ({ cls := "com/example/kelpie/kelpie/engine/CodeFlowIsJumpPinLaw", name := "check", desc := "(I)Z" } : Jvm.MethodName) method_3_code (5 : Nat) (Option.some Jvm.ClassFile.FieldType.boolean), Jvm.Cond.code ({ cls := "com/example/kelpie/kelpie/engine/CodeFlowIsJumpPinLaw", name := "expected", desc := "(I)Z" } : Jvm.MethodName) method_2_code (3 : Nat) (Option.some Jvm.ClassFile.FieldType.boolean), Jvm.Cond.code ({ cls := "com/example/kelpie/kelpie/engine/CodeFlow", name := "isJump", desc := "(I)Z" } : Jvm.MethodName) prog_21_method_9_code (1 : Nat) (Option.some Jvm.ClassFile.FieldType.boolean), Jvm.Cond.code ({ cls := "com/example/kelpie/kelpie/engine/Code", name := "length", desc := "(I)I" } : Jvm.MethodName) prog_20_method_5_code (2 : Nat) (Option.some Jvm.ClassFile.FieldType.int)]
set_option maxRecDepth 65536 in
theorem codes_eq : words1.filter isCode = codes1 := rfl
theorem w_codes : ∀ c ∈ words1.filter isCode, c.before args0 about1 = true := by
  rw [codes_eq]
  intro c hc
  simp only [codes1, List.mem_cons, List.not_mem_nil, or_false] at hc
  rcases hc with rfl | rfl | rfl | rfl | rfl
  · exact w_c0
  · exact w_c1
  · exact w_c2
  · exact w_c3
  · exact w_c4
set_option maxRecDepth 65536 in
theorem w_t1 : words1.all (fun c => isCode c || c.before args0 about1) = true := by decide +kernel
theorem w_tables : (allAtoms (Jvm.Cond.code x code maxLocals ret :: tables_1)).before args0 about1 = true := by
  rw [allAtoms_all]
  show words1.all (fun c => c.before args0 about1) = true
  refine all_split ?_ w_codes
  rw [w_t1]
set_option maxRecDepth 65536 in
theorem w_case : (Jvm.Cond.and given_1 narrow_1).before args0 about1 = true := by decide +kernel
theorem w_applies : (headSpec (Jvm.Cond.code x code maxLocals ret :: tables_1) room_1).applies x e0.platform about1 = true :=
  (Spec.applies_iff w_frames).mpr ⟨w_running, w_runnable, w_alone, w_named, w_hears, w_ripe, w_room, w_tables⟩
theorem atStart : AtStart classFile x code maxLocals ret World_1 tables_1 room_1 Calls_1 rest_1 Pre_1 launch0 p0 e0 about1 theMethod args0 below0 :=
  ⟨lists_1, trivial, launch0.admits_env _ _ _, launch0.least_env, fairChoices_fair.cas, fairChoices_fair.clock, w_frames, w_args, w_heap, w_applies, trivial, trivial, w_case⟩
end start1
theorem witness_1 : WitnessClaimed_1 := ⟨start1.p0, start1.e0, start1.about1, start1.theMethod, start1.args0, start1.below0, start1.atStart⟩
end Jvm.Pilot.@@N@@
