import JvmDerived
import JvmDerived.Pilot.@@N@@Statement
import JvmDerived.Pilot.@@N@@Code
set_option linter.unusedVariables false
set_option linter.unusedSimpArgs false
@@BLOCK:NumsL.lean.txt@@
namespace Jvm.RoadKit
open Sem ClassFile Op Lib Jvm.Stand Jvm.Free Jvm.LawKit
section New
variable {p : Program} {l : Launch} {e : Env} {R : Room} {s : State} {m : MethodId} {args : Array Value} {below : List Frame} {meth : Method} {c : Code} {T : State} {locs : List Loc} {cells slots : Nat}
theorem retI (X : Stand p l e R s m args below meth c T locs cells slots) (hx : p.tables.exec = Jvm.exec) {pc : Nat} {Ls : Array Slot} {z : Int32} {rest : List Value} (hret : meth.sig.returnType = some .int) (hd : decode c.code pc = .ok (.ireturn, 1)) {fs : List Frame}
    (hl : ∀ (f : JFrame) (acts : List Action), f.method = m → f.locked = none → f.entered = [] → (doReturn e (T.setTop f) acts (some (.int z))).1 = T.setFrames fs) : Steps p.tables e below (T.setTop (mkF m pc Ls (.int z :: rest))) (T.setFrames fs) := by
  have hm' : T.vm.method? m = some meth := X.method'
  have hn : narrow .int (.int z) = .int z := rfl
  show Steps p.tables e below (T.setTop { method := m, pc := pc, locals := Ls, stack := _ :: rest, locked := none }) _
  jvm_step X.here [X.here.top, hx, hd, hm', hret, hn]
  first | (intro acts; rw [hl _ acts rfl rfl rfl]) | rw [hl _ _ rfl rfl rfl]
  exact Steps.refl _
end New
end Jvm.RoadKit
namespace Jvm.Pilot.@@N@@
open Jvm Jvm.ClassFile Sem Op Lib Jvm.Free Jvm.Stand Jvm.LawKit Jvm.RoadKit Bundle Jvm.Pilot.@@N@@.Jvm.D
def fB (x : Int32) : Int32 := (if (32 : Int32) < x then (if x = (60 : Int32) then (0 : Int32) else (if x = (62 : Int32) then (0 : Int32) else (if x = (34 : Int32) then (0 : Int32) else (if x = (123 : Int32) then (0 : Int32) else (if x = (125 : Int32) then (0 : Int32) else (if x = (124 : Int32) then (0 : Int32) else (if x = (94 : Int32) then (0 : Int32) else (if x = (96 : Int32) then (0 : Int32) else (if x = (92 : Int32) then (0 : Int32) else (1 : Int32)))))))))) else (0 : Int32))
def Q_rmB (x : Int32) (h0 : Heap) (n0 : Nat) (v : Option Value) (h : Heap) (L : List Loc) : Prop := v = some (.int (fB x)) ∧ Fr n0 L ∧ h = h0
theorem pn_0 : plainName "querymill/rdf/TextScannerMayStandInIriPinLaw" = true := by first | (simp [plainName, overriddenIn]; done) | decide +kernel
theorem ef_rmB (m : MethodId) (x0 : Int32) : entryFrame m #[(.int x0)] 1 = mkF m 0 #[.val (.int x0)] [] := by first | (simp [entryFrame, mkF, argsToLocals, Value.category]; done) | rfl
theorem d2_0 : decode method_2_code 0 = .ok (.iload_n 0, 1) := by decide +kernel
theorem d2_1 : decode method_2_code 1 = .ok (.bipush 32, 2) := by decide +kernel
theorem d2_3 : decode method_2_code 3 = .ok (.if_icmp .gt 5, 3) := by decide +kernel
theorem d2_6 : decode method_2_code 6 = .ok (.iconst 0, 1) := by decide +kernel
theorem d2_7 : decode method_2_code 7 = .ok (.ireturn, 1) := by decide +kernel
theorem d2_8 : decode method_2_code 8 = .ok (.iload_n 0, 1) := by decide +kernel
theorem d2_9 : decode method_2_code 9 = .ok (.bipush 60, 2) := by decide +kernel
theorem d2_11 : decode method_2_code 11 = .ok (.if_icmp .eq 27, 3) := by decide +kernel
theorem d2_14 : decode method_2_code 14 = .ok (.iload_n 0, 1) := by decide +kernel
theorem d2_15 : decode method_2_code 15 = .ok (.bipush 62, 2) := by decide +kernel
theorem d2_17 : decode method_2_code 17 = .ok (.if_icmp .eq 21, 3) := by decide +kernel
theorem d2_20 : decode method_2_code 20 = .ok (.iload_n 0, 1) := by decide +kernel
theorem d2_21 : decode method_2_code 21 = .ok (.bipush 34, 2) := by decide +kernel
theorem d2_23 : decode method_2_code 23 = .ok (.if_icmp .eq 15, 3) := by decide +kernel
theorem d2_26 : decode method_2_code 26 = .ok (.iload_n 0, 1) := by decide +kernel
theorem d2_27 : decode method_2_code 27 = .ok (.bipush 123, 2) := by decide +kernel
theorem d2_29 : decode method_2_code 29 = .ok (.if_icmp .eq 9, 3) := by decide +kernel
theorem d2_32 : decode method_2_code 32 = .ok (.iload_n 0, 1) := by decide +kernel
theorem d2_33 : decode method_2_code 33 = .ok (.bipush 125, 2) := by decide +kernel
theorem d2_35 : decode method_2_code 35 = .ok (.if_icmp .ne 5, 3) := by decide +kernel
theorem d2_38 : decode method_2_code 38 = .ok (.iconst 0, 1) := by decide +kernel
theorem d2_39 : decode method_2_code 39 = .ok (.ireturn, 1) := by decide +kernel
theorem d2_40 : decode method_2_code 40 = .ok (.iload_n 0, 1) := by decide +kernel
theorem d2_41 : decode method_2_code 41 = .ok (.bipush 124, 2) := by decide +kernel
theorem d2_43 : decode method_2_code 43 = .ok (.if_icmp .eq 21, 3) := by decide +kernel
theorem d2_46 : decode method_2_code 46 = .ok (.iload_n 0, 1) := by decide +kernel
theorem d2_47 : decode method_2_code 47 = .ok (.bipush 94, 2) := by decide +kernel
theorem d2_49 : decode method_2_code 49 = .ok (.if_icmp .eq 15, 3) := by decide +kernel
theorem d2_52 : decode method_2_code 52 = .ok (.iload_n 0, 1) := by decide +kernel
theorem d2_53 : decode method_2_code 53 = .ok (.bipush 96, 2) := by decide +kernel
theorem d2_55 : decode method_2_code 55 = .ok (.if_icmp .eq 9, 3) := by decide +kernel
theorem d2_58 : decode method_2_code 58 = .ok (.iload_n 0, 1) := by decide +kernel
theorem d2_59 : decode method_2_code 59 = .ok (.bipush 92, 2) := by decide +kernel
theorem d2_61 : decode method_2_code 61 = .ok (.if_icmp .ne 5, 3) := by decide +kernel
theorem d2_64 : decode method_2_code 64 = .ok (.iconst 0, 1) := by decide +kernel
theorem d2_65 : decode method_2_code 65 = .ok (.ireturn, 1) := by decide +kernel
theorem d2_66 : decode method_2_code 66 = .ok (.iconst 1, 1) := by decide +kernel
theorem d2_67 : decode method_2_code 67 = .ok (.ireturn, 1) := by decide +kernel
set_option maxRecDepth 65536 in
set_option maxHeartbeats 40000000 in
theorem rmB (l : Launch) (Z : State) (a0 : Array Value) (hw : ∀ d ∈ tables_1, d.before a0 Z = true) (ws : List Jvm.Cond) (x : Int32)  (h0 : Heap) (n0 : Nat) (Z0 : n0 ≤ h0.size)  :
    MetFree l (⟨"querymill/rdf/TextScannerMayStandInIriPinLaw", "reference", "(I)Z"⟩ : MethodName) (head1 (Jvm.Cond.code (⟨"querymill/rdf/TextScannerMayStandInIriPinLaw", "reference", "(I)Z"⟩ : MethodName) method_2_code 1 (some .boolean) :: ws) ({ frames := 0, cells := 0, slots := 0, locals := 0 } : Room)) (fun a U => a = #[(.int x)] ∧ Z.Warmed39 U.vm ∧ U.heap = h0) (fun _ _ _ _ _ => True) (fun _ U o U' => ∃ v L, o = .returned v ∧ Q_rmB x h0 n0 v U'.heap L ∧ FrameEnd U o U' L ({ frames := 0, cells := 0, slots := 0, locals := 0 } : Room).cells ({ frames := 0, cells := 0, slots := 0, locals := 0 } : Room).slots) := by
  refine MetFree.of_bodySF (plainFor_of_name pn_0) hisR ?_
  intro p e s m args below meth c s₁ Bd hml0 hP hK
  obtain ⟨rfl, hZ, hh⟩ := hP
  have hx := Bd.exec
  have hby := Bd.bytes
  have hml : c.maxLocals = 1 := hml0
  have hown : s.vm.findClass "querymill/rdf/TextScannerMayStandInIriPinLaw" = some m.cls := findClass_of_methodNamed Bd.named
  have hnm := (name_of_methodNamed Bd.named Bd.method).1
  have X0 : Stand p l e ({ frames := 0, cells := 0, slots := 0, locals := 0 } : Room) s m #[(.int x)] below meth c s₁ [] 0 0 := Stand.of_body Bd
  have e0 : s₁.heap = h0 := by rw [← hh, Bd.state]; rfl
  have N0 := Fr.nil n0
  have pre0 : ∀ t, Steps p.tables e below (s₁.setTop (mkF m 0 #[.val (.int x)] [])) t → Steps p.tables e below (s₁.setTop (entryFrame m #[(.int x)] 1)) t := fun t k => castTop (ef_rmB m x) k
  obtain ⟨fs, hr, hrun, hended, hW, hsame⟩ := X0.leave (v := some (.int (fB x))) (fun h => by rw [Bd.returns] at h; cases h)
  have j1 : (0 : Int32) = fB x → Steps p.tables e below (s₁.setTop (mkF m 38 #[.val (.int x)] [])) (s₁.setFrames fs) := by
    intro hq
    show Steps p.tables e below (s₁.setTop (mkF m 38 #[.val (.int x)] [])) _
    refine XS.iconst X0.here hx rfl (hb hby d2_38) ?_
    have hr1 := hr
    rw [← hq] at hr1
    exact retN X0 hx (t := .boolean) Bd.returns (by simp) (hb hby d2_39) hr1
  have j2 : (0 : Int32) = fB x → Steps p.tables e below (s₁.setTop (mkF m 64 #[.val (.int x)] [])) (s₁.setFrames fs) := by
    intro hq
    show Steps p.tables e below (s₁.setTop (mkF m 64 #[.val (.int x)] [])) _
    refine XS.iconst X0.here hx rfl (hb hby d2_64) ?_
    have hr1 := hr
    rw [← hq] at hr1
    exact retN X0 hx (t := .boolean) Bd.returns (by simp) (hb hby d2_65) hr1
  refine ⟨_, _, pre0 _ ?_, hrun, hended, _, _, rfl, ?_, ⟨_, rfl⟩, hW, hsame.mono (by decide) (by decide)⟩
  · have hq0 : (if (32 : Int32) < x then (if x = (60 : Int32) then (0 : Int32) else (if x = (62 : Int32) then (0 : Int32) else (if x = (34 : Int32) then (0 : Int32) else (if x = (123 : Int32) then (0 : Int32) else (if x = (125 : Int32) then (0 : Int32) else (if x = (124 : Int32) then (0 : Int32) else (if x = (94 : Int32) then (0 : Int32) else (if x = (96 : Int32) then (0 : Int32) else (if x = (92 : Int32) then (0 : Int32) else (1 : Int32)))))))))) else (0 : Int32)) = fB x := rfl
    show Steps p.tables e below (s₁.setTop (mkF m 0 #[.val (.int x)] [])) _
    refine XS.iloadN X0.here hx rfl (hb hby d2_0) rfl ?_
    show Steps p.tables e below (s₁.setTop (mkF m 1 #[.val (.int x)] [(.int x)])) _
    refine XS.bipush X0.here hx rfl (hb hby d2_1) ?_
    show Steps p.tables e below (s₁.setTop (mkF m 3 #[.val (.int x)] [(.int (32 : Int32)), (.int x)])) _
    by_cases hc3 : (32 : Int32) < x
    · have hqhc30 : (if x = (60 : Int32) then (0 : Int32) else (if x = (62 : Int32) then (0 : Int32) else (if x = (34 : Int32) then (0 : Int32) else (if x = (123 : Int32) then (0 : Int32) else (if x = (125 : Int32) then (0 : Int32) else (if x = (124 : Int32) then (0 : Int32) else (if x = (94 : Int32) then (0 : Int32) else (if x = (96 : Int32) then (0 : Int32) else (if x = (92 : Int32) then (0 : Int32) else (1 : Int32)))))))))) = fB x := (if_pos hc3).symm.trans hq0
      refine XS.icmpYes X0.here hx rfl (pc0 := 3) (pc' := 8) rfl (hb hby d2_3) rfl (tlt hc3).2.2.1 (by decide) (by decide) ?_
      show Steps p.tables e below (s₁.setTop (mkF m 8 #[.val (.int x)] [])) _
      refine XS.iloadN X0.here hx rfl (hb hby d2_8) rfl ?_
      show Steps p.tables e below (s₁.setTop (mkF m 9 #[.val (.int x)] [(.int x)])) _
      refine XS.bipush X0.here hx rfl (hb hby d2_9) ?_
      show Steps p.tables e below (s₁.setTop (mkF m 11 #[.val (.int x)] [(.int (60 : Int32)), (.int x)])) _
      by_cases hc11 : x = (60 : Int32)
      · have hqhc110 : (0 : Int32) = fB x := (if_pos hc11).symm.trans hqhc30
        refine XS.icmpYes X0.here hx rfl (pc0 := 11) (pc' := 38) rfl (hb hby d2_11) rfl (teq hc11).1 (by decide) (by decide) ?_
        exact j1 hqhc110
      · have hqhc111 : (if x = (62 : Int32) then (0 : Int32) else (if x = (34 : Int32) then (0 : Int32) else (if x = (123 : Int32) then (0 : Int32) else (if x = (125 : Int32) then (0 : Int32) else (if x = (124 : Int32) then (0 : Int32) else (if x = (94 : Int32) then (0 : Int32) else (if x = (96 : Int32) then (0 : Int32) else (if x = (92 : Int32) then (0 : Int32) else (1 : Int32))))))))) = fB x := (if_neg hc11).symm.trans hqhc30
        refine XS.icmpNo X0.here hx rfl (hb hby d2_11) rfl (feq hc11).1 ?_
        show Steps p.tables e below (s₁.setTop (mkF m 14 #[.val (.int x)] [])) _
        refine XS.iloadN X0.here hx rfl (hb hby d2_14) rfl ?_
        show Steps p.tables e below (s₁.setTop (mkF m 15 #[.val (.int x)] [(.int x)])) _
        refine XS.bipush X0.here hx rfl (hb hby d2_15) ?_
        show Steps p.tables e below (s₁.setTop (mkF m 17 #[.val (.int x)] [(.int (62 : Int32)), (.int x)])) _
        by_cases hc17 : x = (62 : Int32)
        · have hqhc170 : (0 : Int32) = fB x := (if_pos hc17).symm.trans hqhc111
          refine XS.icmpYes X0.here hx rfl (pc0 := 17) (pc' := 38) rfl (hb hby d2_17) rfl (teq hc17).1 (by decide) (by decide) ?_
          exact j1 hqhc170
        · have hqhc171 : (if x = (34 : Int32) then (0 : Int32) else (if x = (123 : Int32) then (0 : Int32) else (if x = (125 : Int32) then (0 : Int32) else (if x = (124 : Int32) then (0 : Int32) else (if x = (94 : Int32) then (0 : Int32) else (if x = (96 : Int32) then (0 : Int32) else (if x = (92 : Int32) then (0 : Int32) else (1 : Int32)))))))) = fB x := (if_neg hc17).symm.trans hqhc111
          refine XS.icmpNo X0.here hx rfl (hb hby d2_17) rfl (feq hc17).1 ?_
          show Steps p.tables e below (s₁.setTop (mkF m 20 #[.val (.int x)] [])) _
          refine XS.iloadN X0.here hx rfl (hb hby d2_20) rfl ?_
          show Steps p.tables e below (s₁.setTop (mkF m 21 #[.val (.int x)] [(.int x)])) _
          refine XS.bipush X0.here hx rfl (hb hby d2_21) ?_
          show Steps p.tables e below (s₁.setTop (mkF m 23 #[.val (.int x)] [(.int (34 : Int32)), (.int x)])) _
          by_cases hc23 : x = (34 : Int32)
          · have hqhc230 : (0 : Int32) = fB x := (if_pos hc23).symm.trans hqhc171
            refine XS.icmpYes X0.here hx rfl (pc0 := 23) (pc' := 38) rfl (hb hby d2_23) rfl (teq hc23).1 (by decide) (by decide) ?_
            exact j1 hqhc230
          · have hqhc231 : (if x = (123 : Int32) then (0 : Int32) else (if x = (125 : Int32) then (0 : Int32) else (if x = (124 : Int32) then (0 : Int32) else (if x = (94 : Int32) then (0 : Int32) else (if x = (96 : Int32) then (0 : Int32) else (if x = (92 : Int32) then (0 : Int32) else (1 : Int32))))))) = fB x := (if_neg hc23).symm.trans hqhc171
            refine XS.icmpNo X0.here hx rfl (hb hby d2_23) rfl (feq hc23).1 ?_
            show Steps p.tables e below (s₁.setTop (mkF m 26 #[.val (.int x)] [])) _
            refine XS.iloadN X0.here hx rfl (hb hby d2_26) rfl ?_
            show Steps p.tables e below (s₁.setTop (mkF m 27 #[.val (.int x)] [(.int x)])) _
            refine XS.bipush X0.here hx rfl (hb hby d2_27) ?_
            show Steps p.tables e below (s₁.setTop (mkF m 29 #[.val (.int x)] [(.int (123 : Int32)), (.int x)])) _
            by_cases hc29 : x = (123 : Int32)
            · have hqhc290 : (0 : Int32) = fB x := (if_pos hc29).symm.trans hqhc231
              refine XS.icmpYes X0.here hx rfl (pc0 := 29) (pc' := 38) rfl (hb hby d2_29) rfl (teq hc29).1 (by decide) (by decide) ?_
              exact j1 hqhc290
            · have hqhc291 : (if x = (125 : Int32) then (0 : Int32) else (if x = (124 : Int32) then (0 : Int32) else (if x = (94 : Int32) then (0 : Int32) else (if x = (96 : Int32) then (0 : Int32) else (if x = (92 : Int32) then (0 : Int32) else (1 : Int32)))))) = fB x := (if_neg hc29).symm.trans hqhc231
              refine XS.icmpNo X0.here hx rfl (hb hby d2_29) rfl (feq hc29).1 ?_
              show Steps p.tables e below (s₁.setTop (mkF m 32 #[.val (.int x)] [])) _
              refine XS.iloadN X0.here hx rfl (hb hby d2_32) rfl ?_
              show Steps p.tables e below (s₁.setTop (mkF m 33 #[.val (.int x)] [(.int x)])) _
              refine XS.bipush X0.here hx rfl (hb hby d2_33) ?_
              show Steps p.tables e below (s₁.setTop (mkF m 35 #[.val (.int x)] [(.int (125 : Int32)), (.int x)])) _
              by_cases hc35 : x = (125 : Int32)
              · have hqhc350 : (0 : Int32) = fB x := (if_pos hc35).symm.trans hqhc291
                refine XS.icmpNo X0.here hx rfl (hb hby d2_35) rfl (teq hc35).2 ?_
                exact j1 hqhc350
              · have hqhc351 : (if x = (124 : Int32) then (0 : Int32) else (if x = (94 : Int32) then (0 : Int32) else (if x = (96 : Int32) then (0 : Int32) else (if x = (92 : Int32) then (0 : Int32) else (1 : Int32))))) = fB x := (if_neg hc35).symm.trans hqhc291
                refine XS.icmpYes X0.here hx rfl (pc0 := 35) (pc' := 40) rfl (hb hby d2_35) rfl (feq hc35).2 (by decide) (by decide) ?_
                show Steps p.tables e below (s₁.setTop (mkF m 40 #[.val (.int x)] [])) _
                refine XS.iloadN X0.here hx rfl (hb hby d2_40) rfl ?_
                show Steps p.tables e below (s₁.setTop (mkF m 41 #[.val (.int x)] [(.int x)])) _
                refine XS.bipush X0.here hx rfl (hb hby d2_41) ?_
                show Steps p.tables e below (s₁.setTop (mkF m 43 #[.val (.int x)] [(.int (124 : Int32)), (.int x)])) _
                by_cases hc43 : x = (124 : Int32)
                · have hqhc430 : (0 : Int32) = fB x := (if_pos hc43).symm.trans hqhc351
                  refine XS.icmpYes X0.here hx rfl (pc0 := 43) (pc' := 64) rfl (hb hby d2_43) rfl (teq hc43).1 (by decide) (by decide) ?_
                  exact j2 hqhc430
                · have hqhc431 : (if x = (94 : Int32) then (0 : Int32) else (if x = (96 : Int32) then (0 : Int32) else (if x = (92 : Int32) then (0 : Int32) else (1 : Int32)))) = fB x := (if_neg hc43).symm.trans hqhc351
                  refine XS.icmpNo X0.here hx rfl (hb hby d2_43) rfl (feq hc43).1 ?_
                  show Steps p.tables e below (s₁.setTop (mkF m 46 #[.val (.int x)] [])) _
                  refine XS.iloadN X0.here hx rfl (hb hby d2_46) rfl ?_
                  show Steps p.tables e below (s₁.setTop (mkF m 47 #[.val (.int x)] [(.int x)])) _
                  refine XS.bipush X0.here hx rfl (hb hby d2_47) ?_
                  show Steps p.tables e below (s₁.setTop (mkF m 49 #[.val (.int x)] [(.int (94 : Int32)), (.int x)])) _
                  by_cases hc49 : x = (94 : Int32)
                  · have hqhc490 : (0 : Int32) = fB x := (if_pos hc49).symm.trans hqhc431
                    refine XS.icmpYes X0.here hx rfl (pc0 := 49) (pc' := 64) rfl (hb hby d2_49) rfl (teq hc49).1 (by decide) (by decide) ?_
                    exact j2 hqhc490
                  · have hqhc491 : (if x = (96 : Int32) then (0 : Int32) else (if x = (92 : Int32) then (0 : Int32) else (1 : Int32))) = fB x := (if_neg hc49).symm.trans hqhc431
                    refine XS.icmpNo X0.here hx rfl (hb hby d2_49) rfl (feq hc49).1 ?_
                    show Steps p.tables e below (s₁.setTop (mkF m 52 #[.val (.int x)] [])) _
                    refine XS.iloadN X0.here hx rfl (hb hby d2_52) rfl ?_
                    show Steps p.tables e below (s₁.setTop (mkF m 53 #[.val (.int x)] [(.int x)])) _
                    refine XS.bipush X0.here hx rfl (hb hby d2_53) ?_
                    show Steps p.tables e below (s₁.setTop (mkF m 55 #[.val (.int x)] [(.int (96 : Int32)), (.int x)])) _
                    by_cases hc55 : x = (96 : Int32)
                    · have hqhc550 : (0 : Int32) = fB x := (if_pos hc55).symm.trans hqhc491
                      refine XS.icmpYes X0.here hx rfl (pc0 := 55) (pc' := 64) rfl (hb hby d2_55) rfl (teq hc55).1 (by decide) (by decide) ?_
                      exact j2 hqhc550
                    · have hqhc551 : (if x = (92 : Int32) then (0 : Int32) else (1 : Int32)) = fB x := (if_neg hc55).symm.trans hqhc491
                      refine XS.icmpNo X0.here hx rfl (hb hby d2_55) rfl (feq hc55).1 ?_
                      show Steps p.tables e below (s₁.setTop (mkF m 58 #[.val (.int x)] [])) _
                      refine XS.iloadN X0.here hx rfl (hb hby d2_58) rfl ?_
                      show Steps p.tables e below (s₁.setTop (mkF m 59 #[.val (.int x)] [(.int x)])) _
                      refine XS.bipush X0.here hx rfl (hb hby d2_59) ?_
                      show Steps p.tables e below (s₁.setTop (mkF m 61 #[.val (.int x)] [(.int (92 : Int32)), (.int x)])) _
                      by_cases hc61 : x = (92 : Int32)
                      · have hqhc610 : (0 : Int32) = fB x := (if_pos hc61).symm.trans hqhc551
                        refine XS.icmpNo X0.here hx rfl (hb hby d2_61) rfl (teq hc61).2 ?_
                        exact j2 hqhc610
                      · have hqhc611 : (1 : Int32) = fB x := (if_neg hc61).symm.trans hqhc551
                        refine XS.icmpYes X0.here hx rfl (pc0 := 61) (pc' := 66) rfl (hb hby d2_61) rfl (feq hc61).2 (by decide) (by decide) ?_
                        show Steps p.tables e below (s₁.setTop (mkF m 66 #[.val (.int x)] [])) _
                        refine XS.iconst X0.here hx rfl (hb hby d2_66) ?_
                        have hr1 := hr
                        rw [← hqhc611] at hr1
                        exact retN X0 hx (t := .boolean) Bd.returns (by simp) (hb hby d2_67) hr1
    · have hqhc31 : (0 : Int32) = fB x := (if_neg hc3).symm.trans hq0
      refine XS.icmpNo X0.here hx rfl (hb hby d2_3) rfl (flt hc3).2.2.1 ?_
      show Steps p.tables e below (s₁.setTop (mkF m 6 #[.val (.int x)] [])) _
      refine XS.iconst X0.here hx rfl (hb hby d2_6) ?_
      have hr1 := hr
      rw [← hqhc31] at hr1
      exact retN X0 hx (t := .boolean) Bd.returns (by simp) (hb hby d2_7) hr1
  · show Q_rmB x h0 n0 _ s₁.heap _
    rw [e0]
    exact ⟨rfl, N0, rfl⟩
def Q_rmA (Z : State) (rn : Int32) (ri : Addr) (cl : Cell) (h0 : Heap) (n0 : Nat) (v : Option Value) (h : Heap) (L : List Loc) : Prop := v = some (.int (if rn < (128 : Int32) then (if rn < (0 : Int32) then (0 : Int32) else (if (atv cl rn) = (0 : Int32) then (0 : Int32) else (1 : Int32))) else (1 : Int32))) ∧ Fr n0 L ∧ h = h0
theorem pn_1 : plainName "querymill/rdf/TextScanner" = true := by first | (simp [plainName, overriddenIn]; done) | decide +kernel
theorem ef_rmA (m : MethodId) (x0 : Int32) : entryFrame m #[(.int x0)] 2 = mkF m 0 #[.val (.int x0), .unset] [] := by first | (simp [entryFrame, mkF, argsToLocals, Value.category]; done) | rfl
theorem d1_0 : decode prog_117_method_65_code 0 = .ok (.iload_n 0, 1) := by decide +kernel
theorem d1_1 : decode prog_117_method_65_code 1 = .ok (.getstatic 481, 3) := by decide +kernel
theorem d1_4 : decode prog_117_method_65_code 4 = .ok (.arraylength, 1) := by decide +kernel
theorem d1_5 : decode prog_117_method_65_code 5 = .ok (.if_icmp .ge 24, 3) := by decide +kernel
theorem d1_8 : decode prog_117_method_65_code 8 = .ok (.iload_n 0, 1) := by decide +kernel
theorem d1_9 : decode prog_117_method_65_code 9 = .ok (.ifCond .lt 15, 3) := by decide +kernel
theorem d1_12 : decode prog_117_method_65_code 12 = .ok (.getstatic 481, 3) := by decide +kernel
theorem d1_15 : decode prog_117_method_65_code 15 = .ok (.iload_n 0, 1) := by decide +kernel
theorem d1_16 : decode prog_117_method_65_code 16 = .ok (.baload, 1) := by decide +kernel
theorem d1_17 : decode prog_117_method_65_code 17 = .ok (.ifCond .eq 7, 3) := by decide +kernel
theorem d1_20 : decode prog_117_method_65_code 20 = .ok (.iconst 1, 1) := by decide +kernel
theorem d1_21 : decode prog_117_method_65_code 21 = .ok (.goto 4, 3) := by decide +kernel
theorem d1_24 : decode prog_117_method_65_code 24 = .ok (.iconst 0, 1) := by decide +kernel
theorem d1_25 : decode prog_117_method_65_code 25 = .ok (.istore_n 1, 1) := by decide +kernel
theorem d1_26 : decode prog_117_method_65_code 26 = .ok (.goto 5, 3) := by decide +kernel
theorem d1_29 : decode prog_117_method_65_code 29 = .ok (.iconst 1, 1) := by decide +kernel
theorem d1_30 : decode prog_117_method_65_code 30 = .ok (.istore_n 1, 1) := by decide +kernel
theorem d1_31 : decode prog_117_method_65_code 31 = .ok (.iload_n 1, 1) := by decide +kernel
theorem d1_32 : decode prog_117_method_65_code 32 = .ok (.ireturn, 1) := by decide +kernel
set_option maxRecDepth 65536 in
set_option maxHeartbeats 40000000 in
theorem rmA (l : Launch) (Z : State) (a0 : Array Value) (hw : ∀ d ∈ tables_1, d.before a0 Z = true) (ws : List Jvm.Cond) (rn : Int32) (ri : Addr) (cl : Cell) (h0 : Heap) (n0 : Nat) (Z0 : n0 ≤ h0.size) (P0 : Sta Z h0 "querymill/rdf/TextScanner" "IN_IRI" "[Z" (.ref ri)) (TB : Tab Z h0 ri cl .boolean (128 : Int32)) :
    MetFree l (⟨"querymill/rdf/TextScanner", "mayStandInIri", "(I)Z"⟩ : MethodName) (head1 (Jvm.Cond.code (⟨"querymill/rdf/TextScanner", "mayStandInIri", "(I)Z"⟩ : MethodName) prog_117_method_65_code 2 (some .boolean) :: ws) ({ frames := 0, cells := 0, slots := 0, locals := 0 } : Room)) (fun a U => a = #[(.int rn)] ∧ Z.Warmed39 U.vm ∧ U.heap = h0) (fun _ _ _ _ _ => True) (fun _ U o U' => ∃ v L, o = .returned v ∧ Q_rmA Z rn ri cl h0 n0 v U'.heap L ∧ FrameEnd U o U' L ({ frames := 0, cells := 0, slots := 0, locals := 0 } : Room).cells ({ frames := 0, cells := 0, slots := 0, locals := 0 } : Room).slots) := by
  refine MetFree.of_bodySF (plainFor_of_name pn_1) hisR ?_
  intro p e s m args below meth c s₁ Bd hml0 hP hK
  obtain ⟨rfl, hZ, hh⟩ := hP
  have hx := Bd.exec
  have hby := Bd.bytes
  have hml : c.maxLocals = 2 := hml0
  have hown : s.vm.findClass "querymill/rdf/TextScanner" = some m.cls := findClass_of_methodNamed Bd.named
  have hnm := (name_of_methodNamed Bd.named Bd.method).1
  have X0 : Stand p l e ({ frames := 0, cells := 0, slots := 0, locals := 0 } : Room) s m #[(.int rn)] below meth c s₁ [] 0 0 := Stand.of_body Bd
  have e0 : s₁.heap = h0 := by rw [← hh, Bd.state]; rfl
  have N0 := Fr.nil n0
  have pre0 : ∀ t, Steps p.tables e below (s₁.setTop (mkF m 0 #[.val (.int rn), .unset] [])) t → Steps p.tables e below (s₁.setTop (entryFrame m #[(.int rn)] 2)) t := fun t k => castTop (ef_rmA m rn) k
  have sg1 : ∀ t, Steps p.tables e below (s₁.setTop (mkF m 1 #[.val (.int rn), .unset] [(.int rn)])) t → Steps p.tables e below (s₁.setTop (mkF m 0 #[.val (.int rn), .unset] [])) t := by
    intro t k
    show Steps p.tables e below (s₁.setTop (mkF m 0 #[.val (.int rn), .unset] [])) _
    refine XS.iloadN X0.here hx rfl (hb hby d1_0) rfl ?_
    exact k
  obtain ⟨T2, X2, e2, st2⟩ := getS2 X0 hx hZ hown (host := "") (Or.inl (hw _ (List.mem_of_getElem? (i := 4) rfl))) Via.refl e0 P0 (g := (mkF m 1 #[.val (.int rn), .unset] [(.int rn)])) rfl (hb hby d1_1)
  have sg3 : ∀ t, Steps p.tables e below (T2.setTop (mkF m 5 #[.val (.int rn), .unset] [(.int (128 : Int32)), (.int rn)])) t → Steps p.tables e below (T2.setTop (mkF m 4 #[.val (.int rn), .unset] [(.ref ri), (.int rn)])) t := by
    intro t k
    show Steps p.tables e below (T2.setTop (mkF m 4 #[.val (.int rn), .unset] [(.ref ri), (.int rn)])) _
    refine X2.arraylength hx (by rw [e2]; exact TB.1.1) (State.isArrayOf_alike hZ.alike TB.1.2.1) (g := (mkF m 4 #[.val (.int rn), .unset] [(.ref ri), (.int rn)])) rfl rfl (hb hby d1_4) _ ?_
    rw [len_of TB.2.1 TB.2.2.1]
    exact k
  have ch4 : ∀ t, Steps p.tables e below (T2.setTop (mkF m 5 #[.val (.int rn), .unset] [(.int (128 : Int32)), (.int rn)])) t → Steps p.tables e below (s₁.setTop (mkF m 0 #[.val (.int rn), .unset] [])) t := by
    intro t k
    refine sg1 _ ?_
    show Steps p.tables e below (s₁.setTop (mkF m 1 #[.val (.int rn), .unset] [(.int rn)])) _
    refine st2 _ ?_
    show Steps p.tables e below (T2.setTop (mkF m 4 #[.val (.int rn), .unset] [(.ref ri), (.int rn)])) _
    refine sg3 _ ?_
    show Steps p.tables e below (T2.setTop (mkF m 5 #[.val (.int rn), .unset] [(.int (128 : Int32)), (.int rn)])) _
    exact k
  by_cases hc5 : rn < (128 : Int32)
  · have sgf5 : ∀ t, Steps p.tables e below (T2.setTop (mkF m 8 #[.val (.int rn), .unset] [])) t → Steps p.tables e below (T2.setTop (mkF m 5 #[.val (.int rn), .unset] [(.int (128 : Int32)), (.int rn)])) t := fun t k => by
      refine XS.icmpNo X2.here hx rfl (hb hby d1_5) rfl (tlt hc5).2.1 ?_
      exact k
    have sg5 : ∀ t, Steps p.tables e below (T2.setTop (mkF m 9 #[.val (.int rn), .unset] [(.int rn)])) t → Steps p.tables e below (T2.setTop (mkF m 8 #[.val (.int rn), .unset] [])) t := by
      intro t k
      show Steps p.tables e below (T2.setTop (mkF m 8 #[.val (.int rn), .unset] [])) _
      refine XS.iloadN X2.here hx rfl (hb hby d1_8) rfl ?_
      exact k
    have ch6 : ∀ t, Steps p.tables e below (T2.setTop (mkF m 9 #[.val (.int rn), .unset] [(.int rn)])) t → Steps p.tables e below (s₁.setTop (mkF m 0 #[.val (.int rn), .unset] [])) t := by
      intro t k
      refine ch4 _ ?_
      show Steps p.tables e below (T2.setTop (mkF m 5 #[.val (.int rn), .unset] [(.int (128 : Int32)), (.int rn)])) _
      refine sgf5 _ ?_
      show Steps p.tables e below (T2.setTop (mkF m 8 #[.val (.int rn), .unset] [])) _
      refine sg5 _ ?_
      show Steps p.tables e below (T2.setTop (mkF m 9 #[.val (.int rn), .unset] [(.int rn)])) _
      exact k
    by_cases hc9 : rn < (0 : Int32)
    · have sgf9 : ∀ t, Steps p.tables e below (T2.setTop (mkF m 24 #[.val (.int rn), .unset] [])) t → Steps p.tables e below (T2.setTop (mkF m 9 #[.val (.int rn), .unset] [(.int rn)])) t := fun t k => by
        refine XS.ifYes X2.here hx rfl (pc0 := 9) (pc' := 24) rfl (hb hby d1_9) rfl ((if0 _ _).trans (tlt hc9).1) (by decide) (by decide) ?_
        exact k
      have sg7 : ∀ t, Steps p.tables e below (T2.setTop (mkF m 32 #[.val (.int rn), .val (.int (0 : Int32))] [(.int (0 : Int32))])) t → Steps p.tables e below (T2.setTop (mkF m 24 #[.val (.int rn), .unset] [])) t := by
        intro t k
        show Steps p.tables e below (T2.setTop (mkF m 24 #[.val (.int rn), .unset] [])) _
        refine XS.iconst X2.here hx rfl (hb hby d1_24) ?_
        show Steps p.tables e below (T2.setTop (mkF m 25 #[.val (.int rn), .unset] [(.int (0 : Int32))])) _
        refine XS.istoreN X2.here hx rfl (hb hby d1_25) rfl (l' := #[.val (.int rn), .val (.int (0 : Int32))]) rfl ?_
        show Steps p.tables e below (T2.setTop (mkF m 26 #[.val (.int rn), .val (.int (0 : Int32))] [])) _
        refine XS.goto X2.here hx rfl (pc0 := 26) (pc' := 31) rfl (hb hby d1_26) (by decide) (by decide) ?_
        show Steps p.tables e below (T2.setTop (mkF m 31 #[.val (.int rn), .val (.int (0 : Int32))] [])) _
        refine XS.iloadN X2.here hx rfl (hb hby d1_31) rfl ?_
        exact k
      obtain ⟨fs, hr, hrun, hended, hW, hsame⟩ := X2.leave (v := some (.int (0 : Int32))) (fun h => by rw [Bd.returns] at h; cases h)
      refine ⟨_, _, pre0 _ ?_, hrun, hended, _, _, rfl, ?_, ⟨_, rfl⟩, hW, hsame.mono (by decide) (by decide)⟩
      · show Steps p.tables e below (s₁.setTop (mkF m 0 #[.val (.int rn), .unset] [])) _
        refine ch6 _ ?_
        show Steps p.tables e below (T2.setTop (mkF m 9 #[.val (.int rn), .unset] [(.int rn)])) _
        refine sgf9 _ ?_
        show Steps p.tables e below (T2.setTop (mkF m 24 #[.val (.int rn), .unset] [])) _
        refine sg7 _ ?_
        show Steps p.tables e below (T2.setTop (mkF m 32 #[.val (.int rn), .val (.int (0 : Int32))] [(.int (0 : Int32))])) _
        exact retN X2 hx (t := .boolean) Bd.returns (by simp) (hb hby d1_32) hr
      · show Q_rmA Z rn ri cl h0 n0 _ T2.heap _
        rw [e2]
        exact ⟨(by rw [if_pos hc5, if_pos hc9]), N0, rfl⟩
    · have sgf9 : ∀ t, Steps p.tables e below (T2.setTop (mkF m 12 #[.val (.int rn), .unset] [])) t → Steps p.tables e below (T2.setTop (mkF m 9 #[.val (.int rn), .unset] [(.int rn)])) t := fun t k => by
        refine XS.ifNo X2.here hx rfl (hb hby d1_9) rfl ((if0 _ _).trans (flt hc9).1) ?_
        exact k
      obtain ⟨T8, X8, e8, st8⟩ := getS2 X2 hx hZ hown (host := "") (Or.inl (hw _ (List.mem_of_getElem? (i := 4) rfl))) Via.refl e2 P0 (g := (mkF m 12 #[.val (.int rn), .unset] [])) rfl (hb hby d1_12)
      have sg9 : ∀ t, Steps p.tables e below (T8.setTop (mkF m 17 #[.val (.int rn), .unset] [(.int (atv cl rn))])) t → Steps p.tables e below (T8.setTop (mkF m 15 #[.val (.int rn), .unset] [(.ref ri)])) t := by
        intro t k
        show Steps p.tables e below (T8.setTop (mkF m 15 #[.val (.int rn), .unset] [(.ref ri)])) _
        refine XS.iloadN X8.here hx rfl (hb hby d1_15) rfl ?_
        show Steps p.tables e below (T8.setTop (mkF m 16 #[.val (.int rn), .unset] [(.int rn), (.ref ri)])) _
        refine X8.baloadBooleans hx (j := rn) (v := (.int (atv cl rn))) (by rw [e8]; exact TB.1.1) (State.isArrayOf_alike hZ.alike TB.1.2.1) TB.1.2.2 (inb_of TB.2.1 ⟨hc9, hc5⟩) (TB.2.2.2 rn (inb_of TB.2.1 ⟨hc9, hc5⟩)) (g := (mkF m 16 #[.val (.int rn), .unset] [(.int rn), (.ref ri)])) rfl rfl (hb hby d1_16) _ ?_
        exact k
      have ch10 : ∀ t, Steps p.tables e below (T8.setTop (mkF m 17 #[.val (.int rn), .unset] [(.int (atv cl rn))])) t → Steps p.tables e below (s₁.setTop (mkF m 0 #[.val (.int rn), .unset] [])) t := by
        intro t k
        refine ch6 _ ?_
        show Steps p.tables e below (T2.setTop (mkF m 9 #[.val (.int rn), .unset] [(.int rn)])) _
        refine sgf9 _ ?_
        show Steps p.tables e below (T2.setTop (mkF m 12 #[.val (.int rn), .unset] [])) _
        refine st8 _ ?_
        show Steps p.tables e below (T8.setTop (mkF m 15 #[.val (.int rn), .unset] [(.ref ri)])) _
        refine sg9 _ ?_
        show Steps p.tables e below (T8.setTop (mkF m 17 #[.val (.int rn), .unset] [(.int (atv cl rn))])) _
        exact k
      by_cases hc17 : (atv cl rn) = (0 : Int32)
      · have sgf17 : ∀ t, Steps p.tables e below (T8.setTop (mkF m 24 #[.val (.int rn), .unset] [])) t → Steps p.tables e below (T8.setTop (mkF m 17 #[.val (.int rn), .unset] [(.int (atv cl rn))])) t := fun t k => by
          refine XS.ifYes X8.here hx rfl (pc0 := 17) (pc' := 24) rfl (hb hby d1_17) rfl ((if0 _ _).trans (teq hc17).1) (by decide) (by decide) ?_
          exact k
        have sg11 : ∀ t, Steps p.tables e below (T8.setTop (mkF m 32 #[.val (.int rn), .val (.int (0 : Int32))] [(.int (0 : Int32))])) t → Steps p.tables e below (T8.setTop (mkF m 24 #[.val (.int rn), .unset] [])) t := by
          intro t k
          show Steps p.tables e below (T8.setTop (mkF m 24 #[.val (.int rn), .unset] [])) _
          refine XS.iconst X8.here hx rfl (hb hby d1_24) ?_
          show Steps p.tables e below (T8.setTop (mkF m 25 #[.val (.int rn), .unset] [(.int (0 : Int32))])) _
          refine XS.istoreN X8.here hx rfl (hb hby d1_25) rfl (l' := #[.val (.int rn), .val (.int (0 : Int32))]) rfl ?_
          show Steps p.tables e below (T8.setTop (mkF m 26 #[.val (.int rn), .val (.int (0 : Int32))] [])) _
          refine XS.goto X8.here hx rfl (pc0 := 26) (pc' := 31) rfl (hb hby d1_26) (by decide) (by decide) ?_
          show Steps p.tables e below (T8.setTop (mkF m 31 #[.val (.int rn), .val (.int (0 : Int32))] [])) _
          refine XS.iloadN X8.here hx rfl (hb hby d1_31) rfl ?_
          exact k
        obtain ⟨fs, hr, hrun, hended, hW, hsame⟩ := X8.leave (v := some (.int (0 : Int32))) (fun h => by rw [Bd.returns] at h; cases h)
        refine ⟨_, _, pre0 _ ?_, hrun, hended, _, _, rfl, ?_, ⟨_, rfl⟩, hW, hsame.mono (by decide) (by decide)⟩
        · show Steps p.tables e below (s₁.setTop (mkF m 0 #[.val (.int rn), .unset] [])) _
          refine ch10 _ ?_
          show Steps p.tables e below (T8.setTop (mkF m 17 #[.val (.int rn), .unset] [(.int (atv cl rn))])) _
          refine sgf17 _ ?_
          show Steps p.tables e below (T8.setTop (mkF m 24 #[.val (.int rn), .unset] [])) _
          refine sg11 _ ?_
          show Steps p.tables e below (T8.setTop (mkF m 32 #[.val (.int rn), .val (.int (0 : Int32))] [(.int (0 : Int32))])) _
          exact retN X8 hx (t := .boolean) Bd.returns (by simp) (hb hby d1_32) hr
        · show Q_rmA Z rn ri cl h0 n0 _ T8.heap _
          rw [e8]
          exact ⟨(by rw [if_pos hc5, if_neg hc9, if_pos hc17]), N0, rfl⟩
      · have sgf17 : ∀ t, Steps p.tables e below (T8.setTop (mkF m 20 #[.val (.int rn), .unset] [])) t → Steps p.tables e below (T8.setTop (mkF m 17 #[.val (.int rn), .unset] [(.int (atv cl rn))])) t := fun t k => by
          refine XS.ifNo X8.here hx rfl (hb hby d1_17) rfl ((if0 _ _).trans (feq hc17).1) ?_
          exact k
        have sg12 : ∀ t, Steps p.tables e below (T8.setTop (mkF m 32 #[.val (.int rn), .val (.int (1 : Int32))] [(.int (1 : Int32))])) t → Steps p.tables e below (T8.setTop (mkF m 20 #[.val (.int rn), .unset] [])) t := by
          intro t k
          show Steps p.tables e below (T8.setTop (mkF m 20 #[.val (.int rn), .unset] [])) _
          refine XS.iconst X8.here hx rfl (hb hby d1_20) ?_
          show Steps p.tables e below (T8.setTop (mkF m 21 #[.val (.int rn), .unset] [(.int (1 : Int32))])) _
          refine XS.goto X8.here hx rfl (pc0 := 21) (pc' := 25) rfl (hb hby d1_21) (by decide) (by decide) ?_
          show Steps p.tables e below (T8.setTop (mkF m 25 #[.val (.int rn), .unset] [(.int (1 : Int32))])) _
          refine XS.istoreN X8.here hx rfl (hb hby d1_25) rfl (l' := #[.val (.int rn), .val (.int (1 : Int32))]) rfl ?_
          show Steps p.tables e below (T8.setTop (mkF m 26 #[.val (.int rn), .val (.int (1 : Int32))] [])) _
          refine XS.goto X8.here hx rfl (pc0 := 26) (pc' := 31) rfl (hb hby d1_26) (by decide) (by decide) ?_
          show Steps p.tables e below (T8.setTop (mkF m 31 #[.val (.int rn), .val (.int (1 : Int32))] [])) _
          refine XS.iloadN X8.here hx rfl (hb hby d1_31) rfl ?_
          exact k
        obtain ⟨fs, hr, hrun, hended, hW, hsame⟩ := X8.leave (v := some (.int (1 : Int32))) (fun h => by rw [Bd.returns] at h; cases h)
        refine ⟨_, _, pre0 _ ?_, hrun, hended, _, _, rfl, ?_, ⟨_, rfl⟩, hW, hsame.mono (by decide) (by decide)⟩
        · show Steps p.tables e below (s₁.setTop (mkF m 0 #[.val (.int rn), .unset] [])) _
          refine ch10 _ ?_
          show Steps p.tables e below (T8.setTop (mkF m 17 #[.val (.int rn), .unset] [(.int (atv cl rn))])) _
          refine sgf17 _ ?_
          show Steps p.tables e below (T8.setTop (mkF m 20 #[.val (.int rn), .unset] [])) _
          refine sg12 _ ?_
          show Steps p.tables e below (T8.setTop (mkF m 32 #[.val (.int rn), .val (.int (1 : Int32))] [(.int (1 : Int32))])) _
          exact retN X8 hx (t := .boolean) Bd.returns (by simp) (hb hby d1_32) hr
        · show Q_rmA Z rn ri cl h0 n0 _ T8.heap _
          rw [e8]
          exact ⟨(by rw [if_pos hc5, if_neg hc9, if_neg hc17]), N0, rfl⟩
  · have sgf5 : ∀ t, Steps p.tables e below (T2.setTop (mkF m 29 #[.val (.int rn), .unset] [])) t → Steps p.tables e below (T2.setTop (mkF m 5 #[.val (.int rn), .unset] [(.int (128 : Int32)), (.int rn)])) t := fun t k => by
      refine XS.icmpYes X2.here hx rfl (pc0 := 5) (pc' := 29) rfl (hb hby d1_5) rfl (flt hc5).2.1 (by decide) (by decide) ?_
      exact k
    have sg13 : ∀ t, Steps p.tables e below (T2.setTop (mkF m 32 #[.val (.int rn), .val (.int (1 : Int32))] [(.int (1 : Int32))])) t → Steps p.tables e below (T2.setTop (mkF m 29 #[.val (.int rn), .unset] [])) t := by
      intro t k
      show Steps p.tables e below (T2.setTop (mkF m 29 #[.val (.int rn), .unset] [])) _
      refine XS.iconst X2.here hx rfl (hb hby d1_29) ?_
      show Steps p.tables e below (T2.setTop (mkF m 30 #[.val (.int rn), .unset] [(.int (1 : Int32))])) _
      refine XS.istoreN X2.here hx rfl (hb hby d1_30) rfl (l' := #[.val (.int rn), .val (.int (1 : Int32))]) rfl ?_
      show Steps p.tables e below (T2.setTop (mkF m 31 #[.val (.int rn), .val (.int (1 : Int32))] [])) _
      refine XS.iloadN X2.here hx rfl (hb hby d1_31) rfl ?_
      exact k
    obtain ⟨fs, hr, hrun, hended, hW, hsame⟩ := X2.leave (v := some (.int (1 : Int32))) (fun h => by rw [Bd.returns] at h; cases h)
    refine ⟨_, _, pre0 _ ?_, hrun, hended, _, _, rfl, ?_, ⟨_, rfl⟩, hW, hsame.mono (by decide) (by decide)⟩
    · show Steps p.tables e below (s₁.setTop (mkF m 0 #[.val (.int rn), .unset] [])) _
      refine ch4 _ ?_
      show Steps p.tables e below (T2.setTop (mkF m 5 #[.val (.int rn), .unset] [(.int (128 : Int32)), (.int rn)])) _
      refine sgf5 _ ?_
      show Steps p.tables e below (T2.setTop (mkF m 29 #[.val (.int rn), .unset] [])) _
      refine sg13 _ ?_
      show Steps p.tables e below (T2.setTop (mkF m 32 #[.val (.int rn), .val (.int (1 : Int32))] [(.int (1 : Int32))])) _
      exact retN X2 hx (t := .boolean) Bd.returns (by simp) (hb hby d1_32) hr
    · show Q_rmA Z rn ri cl h0 n0 _ T2.heap _
      rw [e2]
      exact ⟨(by rw [if_neg hc5]), N0, rfl⟩
theorem own_ref (j : Int32) : fB j = if (33 ≤ j.toInt ∧ j.toInt ≠ 34 ∧ j.toInt ≠ 60 ∧ j.toInt ≠ 62 ∧ j.toInt ≠ 92 ∧ j.toInt ≠ 94 ∧ j.toInt ≠ 96 ∧ j.toInt ≠ 123 ∧ j.toInt ≠ 124 ∧ j.toInt ≠ 125) then (1 : Int32) else (0 : Int32) := by
  have l0 : (0 : Int32).toInt = 0 := rfl
  have l1 : (1 : Int32).toInt = 1 := rfl
  have l32 : (32 : Int32).toInt = 32 := rfl
  have l34 : (34 : Int32).toInt = 34 := rfl
  have l60 : (60 : Int32).toInt = 60 := rfl
  have l62 : (62 : Int32).toInt = 62 := rfl
  have l92 : (92 : Int32).toInt = 92 := rfl
  have l94 : (94 : Int32).toInt = 94 := rfl
  have l96 : (96 : Int32).toInt = 96 := rfl
  have l123 : (123 : Int32).toInt = 123 := rfl
  have l124 : (124 : Int32).toInt = 124 := rfl
  have l125 : (125 : Int32).toInt = 125 := rfl
  simp only [fB, Int32.lt_iff_toInt_lt, ← Int32.toInt_inj, l0, l1, l32, l34, l60, l62, l92, l94, l96, l123, l124, l125]
  generalize j.toInt = z
  repeat' split
  all_goals first | rfl | (exfalso; omega)
theorem own_law (cl : Cell) (HT : ∀ j : Int32, ¬ (j < (0 : Int32)) → j < (128 : Int32) → atv cl j = fB j) (rn : Int32) : (if rn < (128 : Int32) then (if rn < (0 : Int32) then (0 : Int32) else (if (atv cl rn) = (0 : Int32) then (0 : Int32) else (1 : Int32))) else (1 : Int32)) = fB rn := by
  by_cases h1 : rn < (128 : Int32)
  · rw [if_pos h1]
    by_cases h2 : rn < (0 : Int32)
    · rw [if_pos h2, own_ref, if_neg]
      rw [Int32.lt_iff_toInt_lt] at h2
      have l0 : (0 : Int32).toInt = 0 := rfl
      omega
    · rw [if_neg h2, HT rn h2 h1, own_ref]
      by_cases h3 : (33 ≤ rn.toInt ∧ rn.toInt ≠ 34 ∧ rn.toInt ≠ 60 ∧ rn.toInt ≠ 62 ∧ rn.toInt ≠ 92 ∧ rn.toInt ≠ 94 ∧ rn.toInt ≠ 96 ∧ rn.toInt ≠ 123 ∧ rn.toInt ≠ 124 ∧ rn.toInt ≠ 125)
      · rw [if_pos h3, if_neg (by decide)]
      · rw [if_neg h3, if_pos rfl]
  · rw [if_neg h1, own_ref, if_pos]
    rw [Int32.lt_iff_toInt_lt] at h1
    have l0 : (128 : Int32).toInt = 128 := rfl
    omega
section Sheet
variable {args : Array Value} {st : State} {t : Term} {ad : Addr} {cl : Cell}
theorem own_len {ty : FieldType} {k : Int32} (ht : t.eval args st none [] st = some (.ref ad)) (A : Arr st st.heap ad cl ty) (h : (Cond.eq (Term.length t) (Term.int k)).value args st none st [] = some true) : cl.slots.size < 2 ^ 31 ∧ cl.slots.size.toInt32 = k := by
  have h1 := eqv_i (Term.int_eval k) h
  have ha := A.fin (Vm.Alike.refl _)
  by_cases q : cl.slots.size < 2 ^ 31
  · rw [len_f ht ha q] at h1
    exact ⟨q, Value.int.inj (Option.some.inj h1)⟩
  · simp [Term.eval, ht, ha, q] at h1
theorem own_one {ty : FieldType} {k b : Int32} (ht : t.eval args st none [] st = some (.ref ad)) (A : Arr st st.heap ad cl ty) (h : (Cond.eq (Term.elem t (Term.int k)) (Term.int b)).value args st none st [] = some true) : atv cl k = b :=
  atv_of (elem_in (eqv_i (Term.int_eval b) h) ht (Term.int_eval k) A.1).2
theorem own_all1 {ty : FieldType} {G : Cond} {b : Int32} (et : ∀ idx, t.eval args st none idx st = some (.ref ad)) (A : Arr st st.heap ad cl ty) (h : (Cond.all t (Cond.or G (Cond.eq (Term.elem t (Term.index 0)) (Term.int b)))).value args st none st [] = some true) {j : Int32} (hj : ¬ (j < 0 ∨ cl.slots.size ≤ j.toNatClampNeg))
    (hG : G.value args st none st [j.toNatClampNeg] = some false) : atv cl j = b := by
  have nn : ¬ j < 0 := fun q => hj (Or.inl q)
  have h1 := Cond.all_elim (et []) (A.fin (Vm.Alike.refl _)) h j.toNatClampNeg (Nat.lt_of_not_le fun q => hj (Or.inr q))
  rw [Cond.or_of_right hG] at h1
  exact atv_of (elem_in (eqv_i (Term.int_eval b) h1) (et _) (idx_at nn) A.1).2
theorem own_all2 {ty : FieldType} {G G' : Cond} {b : Int32} (et : ∀ idx, t.eval args st none idx st = some (.ref ad)) (A : Arr st st.heap ad cl ty) (h : (Cond.all t (Cond.or G (Cond.or G' (Cond.eq (Term.elem t (Term.index 0)) (Term.int b))))).value args st none st [] = some true) {j : Int32} (hj : ¬ (j < 0 ∨ cl.slots.size ≤ j.toNatClampNeg))
    (hG : G.value args st none st [j.toNatClampNeg] = some false) (hG' : G'.value args st none st [j.toNatClampNeg] = some false) : atv cl j = b := by
  have nn : ¬ j < 0 := fun q => hj (Or.inl q)
  have h1 := Cond.all_elim (et []) (A.fin (Vm.Alike.refl _)) h j.toNatClampNeg (Nat.lt_of_not_le fun q => hj (Or.inr q))
  rw [Cond.or_of_right hG, Cond.or_of_right hG'] at h1
  exact atv_of (elem_in (eqv_i (Term.int_eval b) h1) (et _) (idx_at nn) A.1).2
end Sheet
def Q0 (Z : State) (p1 p2 : Int32) (ri : Addr) (cl : Cell) (h0 : Heap) (n0 : Nat) (v : Option Value) (h : Heap) (L : List Loc) : Prop := v = some (.int 1) ∧ Fr n0 L
theorem pd_0 : parseMethodDescriptor "(I)Z" = some ⟨[.int], some .boolean⟩ := by decide +kernel
theorem ef_rm0 (m : MethodId) (x0 : Int32) (x1 : Int32) : entryFrame m #[(.int x0), (.int x1)] maxLocals = mkF m 0 #[.val (.int x0), .val (.int x1), .unset, .unset, .unset] [] := by first | (simp [entryFrame, mkF, argsToLocals, Value.category, maxLocals]; done) | rfl
set_option maxRecDepth 65536 in
set_option maxHeartbeats 40000000 in
theorem rm0 (l : Launch) (Z : State) (a0 : Array Value) (hw : ∀ d ∈ tables_1, d.before a0 Z = true) (ws : List Jvm.Cond) (p1 : Int32) (p2 : Int32) (ri : Addr) (cl : Cell) (h0 : Heap) (n0 : Nat) (Z0 : n0 ≤ h0.size) (PS : Sta Z h0 "querymill/rdf/TextScanner" "IN_IRI" "[Z" (.ref ri)) (TB : Tab Z h0 ri cl .boolean (128 : Int32)) (HT : ∀ j : Int32, ¬ (j < (0 : Int32)) → j < (128 : Int32) → atv cl j = fB j) :
    MetFree l x (head1 (Jvm.Cond.code x code maxLocals ret :: ws) room_1) (fun a U => a = #[(.int p1), (.int p2)] ∧ Z.Warmed39 U.vm ∧ U.heap = h0) (fun _ _ _ _ _ => True) (fun _ U o U' => ∃ v L, o = .returned v ∧ Q0 Z p1 p2 ri cl h0 n0 v U'.heap L ∧ FrameEnd U o U' L 0 0) := by
  refine MetFree.of_bodySF (plainFor_of_name pn_0) hisR ?_
  intro p e s m args below meth c s₁ Bd hml0 hP hK
  obtain ⟨rfl, hZ, hh⟩ := hP
  have hx := Bd.exec
  have hby := Bd.bytes
  have hml : c.maxLocals = 5 := hml0
  have hown : s.vm.findClass "querymill/rdf/TextScannerMayStandInIriPinLaw" = some m.cls := findClass_of_methodNamed Bd.named
  have hnm := (name_of_methodNamed Bd.named Bd.method).1
  have X0 : Stand p l e room_1 s m #[(.int p1), (.int p2)] below meth c s₁ [] 0 0 := Stand.of_body Bd
  have e0 : s₁.heap = h0 := by rw [← hh, Bd.state]; rfl
  have N0 := Fr.nil n0
  have pre0 : ∀ t, Steps p.tables e below (s₁.setTop (mkF m 0 #[.val (.int p1), .val (.int p2), .unset, .unset, .unset] [])) t → Steps p.tables e below (s₁.setTop (entryFrame m #[(.int p1), (.int p2)] maxLocals)) t := fun t k => castTop (ef_rm0 m p1 p2) k
  have sg1 : ∀ t, Steps p.tables e below (s₁.setTop (mkF m 9 #[.val (.int p1), .val (.int p2), .val (.int ((p2 &&& (255 : Int32)) - (1 : Int32))), .unset, .unset] [(.int p1)])) t → Steps p.tables e below (s₁.setTop (mkF m 0 #[.val (.int p1), .val (.int p2), .unset, .unset, .unset] [])) t := by
    intro t k
    show Steps p.tables e below (s₁.setTop (mkF m 0 #[.val (.int p1), .val (.int p2), .unset, .unset, .unset] [])) _
    refine XS.iloadN X0.here hx rfl (hb hby at_0) rfl ?_
    show Steps p.tables e below (s₁.setTop (mkF m 1 #[.val (.int p1), .val (.int p2), .unset, .unset, .unset] [(.int p2)])) _
    refine XS.sipush X0.here hx rfl (hb hby at_1) ?_
    show Steps p.tables e below (s₁.setTop (mkF m 4 #[.val (.int p1), .val (.int p2), .unset, .unset, .unset] [(.int (255 : Int32)), (.int p2)])) _
    refine XS.iand X0.here hx rfl (hb hby at_4) rfl ?_
    show Steps p.tables e below (s₁.setTop (mkF m 5 #[.val (.int p1), .val (.int p2), .unset, .unset, .unset] [(.int (p2 &&& (255 : Int32)))])) _
    refine XS.iconst X0.here hx rfl (hb hby at_5) ?_
    show Steps p.tables e below (s₁.setTop (mkF m 6 #[.val (.int p1), .val (.int p2), .unset, .unset, .unset] [(.int (1 : Int32)), (.int (p2 &&& (255 : Int32)))])) _
    refine XS.isub X0.here hx rfl (hb hby at_6) rfl ?_
    show Steps p.tables e below (s₁.setTop (mkF m 7 #[.val (.int p1), .val (.int p2), .unset, .unset, .unset] [(.int ((p2 &&& (255 : Int32)) - (1 : Int32)))])) _
    refine XS.istoreN X0.here hx rfl (hb hby at_7) rfl (l' := #[.val (.int p1), .val (.int p2), .val (.int ((p2 &&& (255 : Int32)) - (1 : Int32))), .unset, .unset]) rfl ?_
    show Steps p.tables e below (s₁.setTop (mkF m 8 #[.val (.int p1), .val (.int p2), .val (.int ((p2 &&& (255 : Int32)) - (1 : Int32))), .unset, .unset] [])) _
    refine XS.iloadN X0.here hx rfl (hb hby at_8) rfl ?_
    exact k
  obtain ⟨_, _, ⟨T2, L2, k2, n2⟩, -, X2, ⟨Lc2, hQ2, l2, y2, z2⟩, st2⟩ := Jvm.LawKit.callS X0 hx (y := (⟨"querymill/rdf/TextScanner", "mayStandInIri", "(I)Z"⟩ : MethodName)) hown (mvT hZ (hw _ (List.mem_of_getElem? (i := 0) rfl))) (mvT hZ (hw _ (List.mem_of_getElem? (i := 1) rfl))) (mvT hZ (hw _ (List.mem_of_getElem? (i := 2) rfl))) (mvT hZ (hw _ (List.mem_of_getElem? (i := 3) rfl))) (by decide) (backOf (W := 0) (rmA l Z a0 hw [] p1 ri cl h0 n0 Z0 PS TB) hZ (hw _ (List.mem_of_getElem? (i := 3) rfl)) (hw _ (List.mem_of_getElem? (i := 2) rfl)) (by decide) (by decide)) (g := (mkF m 9 #[.val (.int p1), .val (.int p2), .val (.int ((p2 &&& (255 : Int32)) - (1 : Int32))), .unset, .unset] [(.int p1)])) rfl (by rw [hml]; rfl) (argsL := [(.int p1)]) (rest := []) (lenOf pd_0 rfl) rfl (by show 2 * 0 + _ ≤ _; exact Nat.le_of_eq rfl) (hb hby at_9) (fun _ _ => ⟨rfl, e0, (by decide : 0 + 0 ≤ _), (by decide : 0 + 0 ≤ _)⟩)
  dsimp only [Pt.U, Pt.locs, Pt.cells, Pt.slots] at X2 l2 y2 z2 st2 hQ2
  subst l2 y2 z2
  obtain ⟨rfl, N2q, e2⟩ := hQ2
  have N2 := Fr.app N0 N2q
  have sg3 : ∀ t, Steps p.tables e below (T2.setTop (mkF m 13 #[.val (.int p1), .val (.int p2), .val (.int ((p2 &&& (255 : Int32)) - (1 : Int32))), .unset, .unset] [(.int p1), (.int (if p1 < (128 : Int32) then (if p1 < (0 : Int32) then (0 : Int32) else (if (atv cl p1) = (0 : Int32) then (0 : Int32) else (1 : Int32))) else (1 : Int32)))])) t → Steps p.tables e below (T2.setTop (mkF m 12 #[.val (.int p1), .val (.int p2), .val (.int ((p2 &&& (255 : Int32)) - (1 : Int32))), .unset, .unset] [(.int (if p1 < (128 : Int32) then (if p1 < (0 : Int32) then (0 : Int32) else (if (atv cl p1) = (0 : Int32) then (0 : Int32) else (1 : Int32))) else (1 : Int32)))])) t := by
    intro t k
    show Steps p.tables e below (T2.setTop (mkF m 12 #[.val (.int p1), .val (.int p2), .val (.int ((p2 &&& (255 : Int32)) - (1 : Int32))), .unset, .unset] [(.int (if p1 < (128 : Int32) then (if p1 < (0 : Int32) then (0 : Int32) else (if (atv cl p1) = (0 : Int32) then (0 : Int32) else (1 : Int32))) else (1 : Int32)))])) _
    refine XS.iloadN X2.here hx rfl (hb hby at_12) rfl ?_
    exact k
  obtain ⟨_, _, ⟨T4, L4, k4, n4⟩, -, X4, ⟨Lc4, hQ4, l4, y4, z4⟩, st4⟩ := Jvm.LawKit.callS X2 hx (y := (⟨"querymill/rdf/TextScannerMayStandInIriPinLaw", "reference", "(I)Z"⟩ : MethodName)) hown (mvT hZ (hw _ (List.mem_of_getElem? (i := 6) rfl))) (mvT hZ (hw _ (List.mem_of_getElem? (i := 7) rfl))) (mvT hZ (hw _ (List.mem_of_getElem? (i := 8) rfl))) (mvT hZ (hw _ (List.mem_of_getElem? (i := 9) rfl))) (by decide) (backOf (W := 1) (rmB l Z a0 hw [] p1 h0 n0 Z0) hZ (hw _ (List.mem_of_getElem? (i := 9) rfl)) (hw _ (List.mem_of_getElem? (i := 8) rfl)) (by decide) (by decide)) (g := (mkF m 13 #[.val (.int p1), .val (.int p2), .val (.int ((p2 &&& (255 : Int32)) - (1 : Int32))), .unset, .unset] [(.int p1), (.int (if p1 < (128 : Int32) then (if p1 < (0 : Int32) then (0 : Int32) else (if (atv cl p1) = (0 : Int32) then (0 : Int32) else (1 : Int32))) else (1 : Int32)))])) rfl (by rw [hml]; rfl) (argsL := [(.int p1)]) (rest := [(.int (if p1 < (128 : Int32) then (if p1 < (0 : Int32) then (0 : Int32) else (if (atv cl p1) = (0 : Int32) then (0 : Int32) else (1 : Int32))) else (1 : Int32)))]) (lenOf pd_0 rfl) rfl (by show 2 * 0 + _ ≤ _; exact Nat.le_of_eq rfl) (hb hby at_13) (fun _ _ => ⟨rfl, e2, (by decide : 0 + 0 ≤ _), (by decide : 0 + 0 ≤ _)⟩)
  dsimp only [Pt.U, Pt.locs, Pt.cells, Pt.slots] at X4 l4 y4 z4 st4 hQ4
  subst l4 y4 z4
  obtain ⟨rfl, N4q, e4⟩ := hQ4
  have N4 := Fr.app N2 N4q
  have sg5 : ∀ t, Steps p.tables e below (T4.setTop (mkF m 26 #[.val (.int p1), .val (.int p2), .val (.int ((p2 &&& (255 : Int32)) - (1 : Int32))), .val (.int (1 : Int32)), .unset] [(.int ((p2 &&& (255 : Int32)) - (1 : Int32)))])) t → Steps p.tables e below (T4.setTop (mkF m 16 #[.val (.int p1), .val (.int p2), .val (.int ((p2 &&& (255 : Int32)) - (1 : Int32))), .unset, .unset] [(.int (fB p1)), (.int (if p1 < (128 : Int32) then (if p1 < (0 : Int32) then (0 : Int32) else (if (atv cl p1) = (0 : Int32) then (0 : Int32) else (1 : Int32))) else (1 : Int32)))])) t := by
    intro t k
    show Steps p.tables e below (T4.setTop (mkF m 16 #[.val (.int p1), .val (.int p2), .val (.int ((p2 &&& (255 : Int32)) - (1 : Int32))), .unset, .unset] [(.int (fB p1)), (.int (if p1 < (128 : Int32) then (if p1 < (0 : Int32) then (0 : Int32) else (if (atv cl p1) = (0 : Int32) then (0 : Int32) else (1 : Int32))) else (1 : Int32)))])) _
    refine XS.icmpNo X4.here hx rfl (hb hby at_16) rfl (teq ((own_law cl HT _) : (if p1 < (128 : Int32) then (if p1 < (0 : Int32) then (0 : Int32) else (if (atv cl p1) = (0 : Int32) then (0 : Int32) else (1 : Int32))) else (1 : Int32)) = (fB p1))).2 ?_
    show Steps p.tables e below (T4.setTop (mkF m 19 #[.val (.int p1), .val (.int p2), .val (.int ((p2 &&& (255 : Int32)) - (1 : Int32))), .unset, .unset] [])) _
    refine XS.iconst X4.here hx rfl (hb hby at_19) ?_
    show Steps p.tables e below (T4.setTop (mkF m 20 #[.val (.int p1), .val (.int p2), .val (.int ((p2 &&& (255 : Int32)) - (1 : Int32))), .unset, .unset] [(.int (1 : Int32))])) _
    refine XS.goto X4.here hx rfl (pc0 := 20) (pc' := 24) rfl (hb hby at_20) (by decide) (by decide) ?_
    show Steps p.tables e below (T4.setTop (mkF m 24 #[.val (.int p1), .val (.int p2), .val (.int ((p2 &&& (255 : Int32)) - (1 : Int32))), .unset, .unset] [(.int (1 : Int32))])) _
    refine XS.istoreN X4.here hx rfl (hb hby at_24) rfl (l' := #[.val (.int p1), .val (.int p2), .val (.int ((p2 &&& (255 : Int32)) - (1 : Int32))), .val (.int (1 : Int32)), .unset]) rfl ?_
    show Steps p.tables e below (T4.setTop (mkF m 25 #[.val (.int p1), .val (.int p2), .val (.int ((p2 &&& (255 : Int32)) - (1 : Int32))), .val (.int (1 : Int32)), .unset] [])) _
    refine XS.iloadN X4.here hx rfl (hb hby at_25) rfl ?_
    exact k
  obtain ⟨_, _, ⟨T6, L6, k6, n6⟩, -, X6, ⟨Lc6, hQ6, l6, y6, z6⟩, st6⟩ := Jvm.LawKit.callS X4 hx (y := (⟨"querymill/rdf/TextScanner", "mayStandInIri", "(I)Z"⟩ : MethodName)) hown (mvT hZ (hw _ (List.mem_of_getElem? (i := 0) rfl))) (mvT hZ (hw _ (List.mem_of_getElem? (i := 1) rfl))) (mvT hZ (hw _ (List.mem_of_getElem? (i := 2) rfl))) (mvT hZ (hw _ (List.mem_of_getElem? (i := 3) rfl))) (by decide) (backOf (W := 0) (rmA l Z a0 hw [] ((p2 &&& (255 : Int32)) - (1 : Int32)) ri cl h0 n0 Z0 PS TB) hZ (hw _ (List.mem_of_getElem? (i := 3) rfl)) (hw _ (List.mem_of_getElem? (i := 2) rfl)) (by decide) (by decide)) (g := (mkF m 26 #[.val (.int p1), .val (.int p2), .val (.int ((p2 &&& (255 : Int32)) - (1 : Int32))), .val (.int (1 : Int32)), .unset] [(.int ((p2 &&& (255 : Int32)) - (1 : Int32)))])) rfl (by rw [hml]; rfl) (argsL := [(.int ((p2 &&& (255 : Int32)) - (1 : Int32)))]) (rest := []) (lenOf pd_0 rfl) rfl (by show 2 * 0 + _ ≤ _; exact Nat.le_of_eq rfl) (hb hby at_26) (fun _ _ => ⟨rfl, e4, (by decide : 0 + 0 ≤ _), (by decide : 0 + 0 ≤ _)⟩)
  dsimp only [Pt.U, Pt.locs, Pt.cells, Pt.slots] at X6 l6 y6 z6 st6 hQ6
  subst l6 y6 z6
  obtain ⟨rfl, N6q, e6⟩ := hQ6
  have N6 := Fr.app N4 N6q
  have sg7 : ∀ t, Steps p.tables e below (T6.setTop (mkF m 30 #[.val (.int p1), .val (.int p2), .val (.int ((p2 &&& (255 : Int32)) - (1 : Int32))), .val (.int (1 : Int32)), .unset] [(.int ((p2 &&& (255 : Int32)) - (1 : Int32))), (.int (if ((p2 &&& (255 : Int32)) - (1 : Int32)) < (128 : Int32) then (if ((p2 &&& (255 : Int32)) - (1 : Int32)) < (0 : Int32) then (0 : Int32) else (if (atv cl ((p2 &&& (255 : Int32)) - (1 : Int32))) = (0 : Int32) then (0 : Int32) else (1 : Int32))) else (1 : Int32)))])) t → Steps p.tables e below (T6.setTop (mkF m 29 #[.val (.int p1), .val (.int p2), .val (.int ((p2 &&& (255 : Int32)) - (1 : Int32))), .val (.int (1 : Int32)), .unset] [(.int (if ((p2 &&& (255 : Int32)) - (1 : Int32)) < (128 : Int32) then (if ((p2 &&& (255 : Int32)) - (1 : Int32)) < (0 : Int32) then (0 : Int32) else (if (atv cl ((p2 &&& (255 : Int32)) - (1 : Int32))) = (0 : Int32) then (0 : Int32) else (1 : Int32))) else (1 : Int32)))])) t := by
    intro t k
    show Steps p.tables e below (T6.setTop (mkF m 29 #[.val (.int p1), .val (.int p2), .val (.int ((p2 &&& (255 : Int32)) - (1 : Int32))), .val (.int (1 : Int32)), .unset] [(.int (if ((p2 &&& (255 : Int32)) - (1 : Int32)) < (128 : Int32) then (if ((p2 &&& (255 : Int32)) - (1 : Int32)) < (0 : Int32) then (0 : Int32) else (if (atv cl ((p2 &&& (255 : Int32)) - (1 : Int32))) = (0 : Int32) then (0 : Int32) else (1 : Int32))) else (1 : Int32)))])) _
    refine XS.iloadN X6.here hx rfl (hb hby at_29) rfl ?_
    exact k
  obtain ⟨_, _, ⟨T8, L8, k8, n8⟩, -, X8, ⟨Lc8, hQ8, l8, y8, z8⟩, st8⟩ := Jvm.LawKit.callS X6 hx (y := (⟨"querymill/rdf/TextScannerMayStandInIriPinLaw", "reference", "(I)Z"⟩ : MethodName)) hown (mvT hZ (hw _ (List.mem_of_getElem? (i := 6) rfl))) (mvT hZ (hw _ (List.mem_of_getElem? (i := 7) rfl))) (mvT hZ (hw _ (List.mem_of_getElem? (i := 8) rfl))) (mvT hZ (hw _ (List.mem_of_getElem? (i := 9) rfl))) (by decide) (backOf (W := 1) (rmB l Z a0 hw [] ((p2 &&& (255 : Int32)) - (1 : Int32)) h0 n0 Z0) hZ (hw _ (List.mem_of_getElem? (i := 9) rfl)) (hw _ (List.mem_of_getElem? (i := 8) rfl)) (by decide) (by decide)) (g := (mkF m 30 #[.val (.int p1), .val (.int p2), .val (.int ((p2 &&& (255 : Int32)) - (1 : Int32))), .val (.int (1 : Int32)), .unset] [(.int ((p2 &&& (255 : Int32)) - (1 : Int32))), (.int (if ((p2 &&& (255 : Int32)) - (1 : Int32)) < (128 : Int32) then (if ((p2 &&& (255 : Int32)) - (1 : Int32)) < (0 : Int32) then (0 : Int32) else (if (atv cl ((p2 &&& (255 : Int32)) - (1 : Int32))) = (0 : Int32) then (0 : Int32) else (1 : Int32))) else (1 : Int32)))])) rfl (by rw [hml]; rfl) (argsL := [(.int ((p2 &&& (255 : Int32)) - (1 : Int32)))]) (rest := [(.int (if ((p2 &&& (255 : Int32)) - (1 : Int32)) < (128 : Int32) then (if ((p2 &&& (255 : Int32)) - (1 : Int32)) < (0 : Int32) then (0 : Int32) else (if (atv cl ((p2 &&& (255 : Int32)) - (1 : Int32))) = (0 : Int32) then (0 : Int32) else (1 : Int32))) else (1 : Int32)))]) (lenOf pd_0 rfl) rfl (by show 2 * 0 + _ ≤ _; exact Nat.le_of_eq rfl) (hb hby at_30) (fun _ _ => ⟨rfl, e6, (by decide : 0 + 0 ≤ _), (by decide : 0 + 0 ≤ _)⟩)
  dsimp only [Pt.U, Pt.locs, Pt.cells, Pt.slots] at X8 l8 y8 z8 st8 hQ8
  subst l8 y8 z8
  obtain ⟨rfl, N8q, e8⟩ := hQ8
  have N8 := Fr.app N6 N8q
  have sg9 : ∀ t, Steps p.tables e below (T8.setTop (mkF m 57 #[.val (.int p1), .val (.int p2), .val (.int ((p2 &&& (255 : Int32)) - (1 : Int32))), .val (.int (1 : Int32)), .val (.int (1 : Int32))] [(.int (1 : Int32))])) t → Steps p.tables e below (T8.setTop (mkF m 33 #[.val (.int p1), .val (.int p2), .val (.int ((p2 &&& (255 : Int32)) - (1 : Int32))), .val (.int (1 : Int32)), .unset] [(.int (fB ((p2 &&& (255 : Int32)) - (1 : Int32)))), (.int (if ((p2 &&& (255 : Int32)) - (1 : Int32)) < (128 : Int32) then (if ((p2 &&& (255 : Int32)) - (1 : Int32)) < (0 : Int32) then (0 : Int32) else (if (atv cl ((p2 &&& (255 : Int32)) - (1 : Int32))) = (0 : Int32) then (0 : Int32) else (1 : Int32))) else (1 : Int32)))])) t := by
    intro t k
    show Steps p.tables e below (T8.setTop (mkF m 33 #[.val (.int p1), .val (.int p2), .val (.int ((p2 &&& (255 : Int32)) - (1 : Int32))), .val (.int (1 : Int32)), .unset] [(.int (fB ((p2 &&& (255 : Int32)) - (1 : Int32)))), (.int (if ((p2 &&& (255 : Int32)) - (1 : Int32)) < (128 : Int32) then (if ((p2 &&& (255 : Int32)) - (1 : Int32)) < (0 : Int32) then (0 : Int32) else (if (atv cl ((p2 &&& (255 : Int32)) - (1 : Int32))) = (0 : Int32) then (0 : Int32) else (1 : Int32))) else (1 : Int32)))])) _
    refine XS.icmpNo X8.here hx rfl (hb hby at_33) rfl (teq ((own_law cl HT _) : (if ((p2 &&& (255 : Int32)) - (1 : Int32)) < (128 : Int32) then (if ((p2 &&& (255 : Int32)) - (1 : Int32)) < (0 : Int32) then (0 : Int32) else (if (atv cl ((p2 &&& (255 : Int32)) - (1 : Int32))) = (0 : Int32) then (0 : Int32) else (1 : Int32))) else (1 : Int32)) = (fB ((p2 &&& (255 : Int32)) - (1 : Int32))))).2 ?_
    show Steps p.tables e below (T8.setTop (mkF m 36 #[.val (.int p1), .val (.int p2), .val (.int ((p2 &&& (255 : Int32)) - (1 : Int32))), .val (.int (1 : Int32)), .unset] [])) _
    refine XS.iconst X8.here hx rfl (hb hby at_36) ?_
    show Steps p.tables e below (T8.setTop (mkF m 37 #[.val (.int p1), .val (.int p2), .val (.int ((p2 &&& (255 : Int32)) - (1 : Int32))), .val (.int (1 : Int32)), .unset] [(.int (1 : Int32))])) _
    refine XS.goto X8.here hx rfl (pc0 := 37) (pc' := 41) rfl (hb hby at_37) (by decide) (by decide) ?_
    show Steps p.tables e below (T8.setTop (mkF m 41 #[.val (.int p1), .val (.int p2), .val (.int ((p2 &&& (255 : Int32)) - (1 : Int32))), .val (.int (1 : Int32)), .unset] [(.int (1 : Int32))])) _
    refine XS.istore X8.here hx rfl (hb hby at_41) rfl (l' := #[.val (.int p1), .val (.int p2), .val (.int ((p2 &&& (255 : Int32)) - (1 : Int32))), .val (.int (1 : Int32)), .val (.int (1 : Int32))]) rfl ?_
    show Steps p.tables e below (T8.setTop (mkF m 43 #[.val (.int p1), .val (.int p2), .val (.int ((p2 &&& (255 : Int32)) - (1 : Int32))), .val (.int (1 : Int32)), .val (.int (1 : Int32))] [])) _
    refine XS.iloadN X8.here hx rfl (hb hby at_43) rfl ?_
    show Steps p.tables e below (T8.setTop (mkF m 44 #[.val (.int p1), .val (.int p2), .val (.int ((p2 &&& (255 : Int32)) - (1 : Int32))), .val (.int (1 : Int32)), .val (.int (1 : Int32))] [(.int (1 : Int32))])) _
    refine XS.ifNo X8.here hx rfl (hb hby at_44) rfl ((if0 _ _).trans (feq (by decide : ¬ ((1 : Int32) = (0 : Int32)))).1) ?_
    show Steps p.tables e below (T8.setTop (mkF m 47 #[.val (.int p1), .val (.int p2), .val (.int ((p2 &&& (255 : Int32)) - (1 : Int32))), .val (.int (1 : Int32)), .val (.int (1 : Int32))] [])) _
    refine XS.iload X8.here hx rfl (hb hby at_47) rfl ?_
    show Steps p.tables e below (T8.setTop (mkF m 49 #[.val (.int p1), .val (.int p2), .val (.int ((p2 &&& (255 : Int32)) - (1 : Int32))), .val (.int (1 : Int32)), .val (.int (1 : Int32))] [(.int (1 : Int32))])) _
    refine XS.ifNo X8.here hx rfl (hb hby at_49) rfl ((if0 _ _).trans (feq (by decide : ¬ ((1 : Int32) = (0 : Int32)))).1) ?_
    show Steps p.tables e below (T8.setTop (mkF m 52 #[.val (.int p1), .val (.int p2), .val (.int ((p2 &&& (255 : Int32)) - (1 : Int32))), .val (.int (1 : Int32)), .val (.int (1 : Int32))] [])) _
    refine XS.iconst X8.here hx rfl (hb hby at_52) ?_
    show Steps p.tables e below (T8.setTop (mkF m 53 #[.val (.int p1), .val (.int p2), .val (.int ((p2 &&& (255 : Int32)) - (1 : Int32))), .val (.int (1 : Int32)), .val (.int (1 : Int32))] [(.int (1 : Int32))])) _
    refine XS.goto X8.here hx rfl (pc0 := 53) (pc' := 57) rfl (hb hby at_53) (by decide) (by decide) ?_
    exact k
  obtain ⟨fs, hr, hrun, hended, hW, hsame⟩ := X8.leave (v := some (.int (1 : Int32))) (fun h => by rw [Bd.returns] at h; cases h)
  refine ⟨_, _, pre0 _ ?_, hrun, hended, _, _, rfl, ?_, ⟨_, rfl⟩, hW, hsame.mono (by decide) (by decide)⟩
  · show Steps p.tables e below (s₁.setTop (mkF m 0 #[.val (.int p1), .val (.int p2), .unset, .unset, .unset] [])) _
    refine sg1 _ ?_
    show Steps p.tables e below (s₁.setTop (mkF m 9 #[.val (.int p1), .val (.int p2), .val (.int ((p2 &&& (255 : Int32)) - (1 : Int32))), .unset, .unset] [(.int p1)])) _
    refine st2 _ ?_
    show Steps p.tables e below (T2.setTop (mkF m 12 #[.val (.int p1), .val (.int p2), .val (.int ((p2 &&& (255 : Int32)) - (1 : Int32))), .unset, .unset] [(.int (if p1 < (128 : Int32) then (if p1 < (0 : Int32) then (0 : Int32) else (if (atv cl p1) = (0 : Int32) then (0 : Int32) else (1 : Int32))) else (1 : Int32)))])) _
    refine sg3 _ ?_
    show Steps p.tables e below (T2.setTop (mkF m 13 #[.val (.int p1), .val (.int p2), .val (.int ((p2 &&& (255 : Int32)) - (1 : Int32))), .unset, .unset] [(.int p1), (.int (if p1 < (128 : Int32) then (if p1 < (0 : Int32) then (0 : Int32) else (if (atv cl p1) = (0 : Int32) then (0 : Int32) else (1 : Int32))) else (1 : Int32)))])) _
    refine st4 _ ?_
    show Steps p.tables e below (T4.setTop (mkF m 16 #[.val (.int p1), .val (.int p2), .val (.int ((p2 &&& (255 : Int32)) - (1 : Int32))), .unset, .unset] [(.int (fB p1)), (.int (if p1 < (128 : Int32) then (if p1 < (0 : Int32) then (0 : Int32) else (if (atv cl p1) = (0 : Int32) then (0 : Int32) else (1 : Int32))) else (1 : Int32)))])) _
    refine sg5 _ ?_
    show Steps p.tables e below (T4.setTop (mkF m 26 #[.val (.int p1), .val (.int p2), .val (.int ((p2 &&& (255 : Int32)) - (1 : Int32))), .val (.int (1 : Int32)), .unset] [(.int ((p2 &&& (255 : Int32)) - (1 : Int32)))])) _
    refine st6 _ ?_
    show Steps p.tables e below (T6.setTop (mkF m 29 #[.val (.int p1), .val (.int p2), .val (.int ((p2 &&& (255 : Int32)) - (1 : Int32))), .val (.int (1 : Int32)), .unset] [(.int (if ((p2 &&& (255 : Int32)) - (1 : Int32)) < (128 : Int32) then (if ((p2 &&& (255 : Int32)) - (1 : Int32)) < (0 : Int32) then (0 : Int32) else (if (atv cl ((p2 &&& (255 : Int32)) - (1 : Int32))) = (0 : Int32) then (0 : Int32) else (1 : Int32))) else (1 : Int32)))])) _
    refine sg7 _ ?_
    show Steps p.tables e below (T6.setTop (mkF m 30 #[.val (.int p1), .val (.int p2), .val (.int ((p2 &&& (255 : Int32)) - (1 : Int32))), .val (.int (1 : Int32)), .unset] [(.int ((p2 &&& (255 : Int32)) - (1 : Int32))), (.int (if ((p2 &&& (255 : Int32)) - (1 : Int32)) < (128 : Int32) then (if ((p2 &&& (255 : Int32)) - (1 : Int32)) < (0 : Int32) then (0 : Int32) else (if (atv cl ((p2 &&& (255 : Int32)) - (1 : Int32))) = (0 : Int32) then (0 : Int32) else (1 : Int32))) else (1 : Int32)))])) _
    refine st8 _ ?_
    show Steps p.tables e below (T8.setTop (mkF m 33 #[.val (.int p1), .val (.int p2), .val (.int ((p2 &&& (255 : Int32)) - (1 : Int32))), .val (.int (1 : Int32)), .unset] [(.int (fB ((p2 &&& (255 : Int32)) - (1 : Int32)))), (.int (if ((p2 &&& (255 : Int32)) - (1 : Int32)) < (128 : Int32) then (if ((p2 &&& (255 : Int32)) - (1 : Int32)) < (0 : Int32) then (0 : Int32) else (if (atv cl ((p2 &&& (255 : Int32)) - (1 : Int32))) = (0 : Int32) then (0 : Int32) else (1 : Int32))) else (1 : Int32)))])) _
    refine sg9 _ ?_
    show Steps p.tables e below (T8.setTop (mkF m 57 #[.val (.int p1), .val (.int p2), .val (.int ((p2 &&& (255 : Int32)) - (1 : Int32))), .val (.int (1 : Int32)), .val (.int (1 : Int32))] [(.int (1 : Int32))])) _
    exact retN X8 hx (t := .boolean) Bd.returns (by simp) (hb hby at_57) hr
  · show Q0 Z p1 p2 ri cl h0 n0 _ T8.heap _
    rw [e8]
    exact ⟨rfl, N8⟩
set_option maxRecDepth 65536 in
set_option maxHeartbeats 40000000 in
theorem comes_1 {Post : Tables → Env → Array Value → State → Outcome → State → Prop} (hpost : ∀ tb e args s v u, (limb_1_1.after args s (.returned v) u = true ∧ limb_1_2.after args s (.returned v) u = true ∧ True) → FrameEnd s (.returned v) u (Jvm.fieldLocs frame_1_writes args s ++ Jvm.arrayLocs frame_1_arrays args s ++ Jvm.staticLocs frame_1_statics s) 0 0 → Post tb e args s (.returned v) u) :
    ArmFor flags0 classFile x code maxLocals ret World_1 tables_1 room_1 Calls_1 rest_1 Pre_1 Post := by
  intro l hfl _ _ p e ha hc hk s m args below hf hA hF happ hP
  obtain ⟨hcalls, hrest, hpre⟩ := hP
  obtain ⟨-, -, -, hnamed, -, -, -, hat⟩ := (Spec.applies_iff hf).mp happ
  obtain ⟨hg, hn⟩ := and_e (Cond.before_iff.mp (show (Jvm.Cond.and given_1 narrow_1).before args s = true from hpre))
  obtain ⟨gc, gr0⟩ := and_e hg
  obtain ⟨ga0, gr1⟩ := and_e gr0
  have ga1 := gr1
  obtain ⟨w0, w1, rfl⟩ : ∃ w0 w1 : Value, args = #[w0, w1] := by
    have hs : args.size = 2 := by simpa [Cond.value, given_1] using gc
    obtain ⟨L⟩ := args
    match L, hs with
    | [w0, w1], _ => exact ⟨w0, w1, rfl⟩
  have hw := fun d (hd : d ∈ tables_1) => atoms_spec (ws := Jvm.Cond.code x code maxLocals ret :: tables_1) hat d (List.mem_cons_of_mem _ hd)
  have hfit : Fit s := fun {y c} hc i hi => by
    obtain ⟨ha, rfl⟩ := Array.getElem?_eq_some_iff.mp hc
    have q := List.all_eq_true.mp ((Array.all_eq_true_iff_forall_mem.mp hF) _ (Array.getElem_mem ha)) i (List.mem_range.mpr hi)
    simpa [Array.getElem?_eq_getElem hi] using q
  obtain ⟨i0, ei0⟩ := is_v ga0
  obtain rfl : w0 = (.int i0) := Option.some.inj ei0
  obtain ⟨i1, ei1⟩ := is_v ga1
  obtain rfl : w1 = (.int i1) := Option.some.inj ei1
  obtain ⟨nA, nr0⟩ := and_e hn
  obtain ⟨nLen, nr1⟩ := and_e nr0
  obtain ⟨nn0, nr2⟩ := and_e nr1
  obtain ⟨nn1, nr3⟩ := and_e nr2
  obtain ⟨nn2, nr4⟩ := and_e nr3
  obtain ⟨nn3, nr5⟩ := and_e nr4
  obtain ⟨nn4, nr6⟩ := and_e nr5
  obtain ⟨nn5, nr7⟩ := and_e nr6
  obtain ⟨nn6, nr8⟩ := and_e nr7
  obtain ⟨nn7, nr9⟩ := and_e nr8
  obtain ⟨nn8, nr10⟩ := and_e nr9
  obtain ⟨nn9, nr11⟩ := and_e nr10
  obtain ⟨nn10, nr12⟩ := and_e nr11
  obtain ⟨nn11, nr13⟩ := and_e nr12
  obtain ⟨nn12, nr14⟩ := and_e nr13
  obtain ⟨nn13, nr15⟩ := and_e nr14
  obtain ⟨nn14, nr16⟩ := and_e nr15
  obtain ⟨nn15, nr17⟩ := and_e nr16
  obtain ⟨nn16, nr18⟩ := and_e nr17
  obtain ⟨nn17, nr19⟩ := and_e nr18
  have nn18 := nr19
  obtain ⟨ri, evi⟩ := arr_v nA
  obtain ⟨cl, PA⟩ := Arr.start evi nA
  have et : ∀ idx, (Term.static "querymill/rdf/TextScanner" "IN_IRI" "[Z").eval #[Value.int i0, Value.int i1] s none idx s = some (.ref ri) := fun idx => evi
  obtain ⟨hq, hz⟩ := own_len evi PA nLen
  have TB := Tab.start hfit PA (Or.inr (Or.inl rfl)) hq hz (by decide)
  have Si : Sta s s.heap "querymill/rdf/TextScanner" "IN_IRI" "[Z" (.ref ri) := Sta.start evi (Or.inr ⟨hw _ (List.mem_of_getElem? (i := 2) rfl), hw _ (List.mem_of_getElem? (i := 5) rfl)⟩)
  have HT : ∀ j : Int32, ¬ (j < (0 : Int32)) → j < (128 : Int32) → atv cl j = fB j := by
    intro j h0 h1
    have hj : ¬ (j < 0 ∨ cl.slots.size ≤ j.toNatClampNeg) := inb_of TB.2.1 ⟨h0, h1⟩
    have b0 := h0
    have b1 := h1
    rw [Int32.lt_iff_toInt_lt] at b0 b1
    have l0 : (0 : Int32).toInt = 0 := rfl
    have l128 : (128 : Int32).toInt = 128 := rfl
    rw [own_ref]
    by_cases s0 : j.toInt < 33
    · refine (own_all1 et PA nn0 hj (nay (Cond.le_ints (Term.int_eval _) (idx_at h0)) ?_)).trans (if_neg (by omega)).symm
      rw [Int32.le_iff_toInt_le]; have : (33 : Int32).toInt = 33 := rfl; omega
    by_cases s1 : j = (33 : Int32)
    · subst s1; exact (own_one evi PA nn1).trans (by decide)
    have t1 : j.toInt ≠ 33 := fun q => s1 (Int32.toInt_inj.mp (q.trans rfl))
    by_cases s2 : j = (34 : Int32)
    · subst s2; exact (own_one evi PA nn2).trans (by decide)
    have t2 : j.toInt ≠ 34 := fun q => s2 (Int32.toInt_inj.mp (q.trans rfl))
    by_cases s3 : j.toInt < 60
    · refine (own_all2 et PA nn3 hj (nay (Cond.lt_ints (idx_at h0) (Term.int_eval _)) ?_) (nay (Cond.le_ints (Term.int_eval _) (idx_at h0)) ?_)).trans (if_pos (by omega)).symm
      · rw [Int32.lt_iff_toInt_lt]; have : (35 : Int32).toInt = 35 := rfl; omega
      · rw [Int32.le_iff_toInt_le]; have : (60 : Int32).toInt = 60 := rfl; omega
    by_cases s4 : j = (60 : Int32)
    · subst s4; exact (own_one evi PA nn4).trans (by decide)
    have t4 : j.toInt ≠ 60 := fun q => s4 (Int32.toInt_inj.mp (q.trans rfl))
    by_cases s5 : j = (61 : Int32)
    · subst s5; exact (own_one evi PA nn5).trans (by decide)
    have t5 : j.toInt ≠ 61 := fun q => s5 (Int32.toInt_inj.mp (q.trans rfl))
    by_cases s6 : j = (62 : Int32)
    · subst s6; exact (own_one evi PA nn6).trans (by decide)
    have t6 : j.toInt ≠ 62 := fun q => s6 (Int32.toInt_inj.mp (q.trans rfl))
    by_cases s7 : j.toInt < 92
    · refine (own_all2 et PA nn7 hj (nay (Cond.lt_ints (idx_at h0) (Term.int_eval _)) ?_) (nay (Cond.le_ints (Term.int_eval _) (idx_at h0)) ?_)).trans (if_pos (by omega)).symm
      · rw [Int32.lt_iff_toInt_lt]; have : (63 : Int32).toInt = 63 := rfl; omega
      · rw [Int32.le_iff_toInt_le]; have : (92 : Int32).toInt = 92 := rfl; omega
    by_cases s8 : j = (92 : Int32)
    · subst s8; exact (own_one evi PA nn8).trans (by decide)
    have t8 : j.toInt ≠ 92 := fun q => s8 (Int32.toInt_inj.mp (q.trans rfl))
    by_cases s9 : j = (93 : Int32)
    · subst s9; exact (own_one evi PA nn9).trans (by decide)
    have t9 : j.toInt ≠ 93 := fun q => s9 (Int32.toInt_inj.mp (q.trans rfl))
    by_cases s10 : j = (94 : Int32)
    · subst s10; exact (own_one evi PA nn10).trans (by decide)
    have t10 : j.toInt ≠ 94 := fun q => s10 (Int32.toInt_inj.mp (q.trans rfl))
    by_cases s11 : j = (95 : Int32)
    · subst s11; exact (own_one evi PA nn11).trans (by decide)
    have t11 : j.toInt ≠ 95 := fun q => s11 (Int32.toInt_inj.mp (q.trans rfl))
    by_cases s12 : j = (96 : Int32)
    · subst s12; exact (own_one evi PA nn12).trans (by decide)
    have t12 : j.toInt ≠ 96 := fun q => s12 (Int32.toInt_inj.mp (q.trans rfl))
    by_cases s13 : j.toInt < 123
    · refine (own_all2 et PA nn13 hj (nay (Cond.lt_ints (idx_at h0) (Term.int_eval _)) ?_) (nay (Cond.le_ints (Term.int_eval _) (idx_at h0)) ?_)).trans (if_pos (by omega)).symm
      · rw [Int32.lt_iff_toInt_lt]; have : (97 : Int32).toInt = 97 := rfl; omega
      · rw [Int32.le_iff_toInt_le]; have : (123 : Int32).toInt = 123 := rfl; omega
    by_cases s14 : j = (123 : Int32)
    · subst s14; exact (own_one evi PA nn14).trans (by decide)
    have t14 : j.toInt ≠ 123 := fun q => s14 (Int32.toInt_inj.mp (q.trans rfl))
    by_cases s15 : j = (124 : Int32)
    · subst s15; exact (own_one evi PA nn15).trans (by decide)
    have t15 : j.toInt ≠ 124 := fun q => s15 (Int32.toInt_inj.mp (q.trans rfl))
    by_cases s16 : j = (125 : Int32)
    · subst s16; exact (own_one evi PA nn16).trans (by decide)
    have t16 : j.toInt ≠ 125 := fun q => s16 (Int32.toInt_inj.mp (q.trans rfl))
    by_cases s17 : j = (126 : Int32)
    · subst s17; exact (own_one evi PA nn17).trans (by decide)
    have t17 : j.toInt ≠ 126 := fun q => s17 (Int32.toInt_inj.mp (q.trans rfl))
    have e : j = (127 : Int32) := Int32.toInt_inj.mp (by show j.toInt = 127; omega)
    subst e; exact (own_one evi PA nn18).trans (by decide)
  obtain ⟨n, o, h1, h2, h3, _, L, rfl, ⟨rfl, N⟩, hq⟩ := rm0 l s _ hw tables_1 i0 i1 ri cl s.heap s.heap.size (Nat.le_refl _) Si TB HT p e ha hc hk s m _ below hf ((Spec.applies_iff_loose hf).mp happ).1 ⟨rfl, State.Warmed39.refl s, rfl⟩ trivial
  refine ⟨n, _, h1, h2, h3, hpost _ _ _ _ _ _ ⟨Cond.after_iff.mpr rfl, Cond.after_iff.mpr (eq_i res_at (Term.int_eval (1)) rfl), trivial⟩ ⟨hq.1, hq.2.1, (hq.2.2.sift fun y hy => Or.inr (N y hy)).mono (by decide) (by decide)⟩⟩
theorem main_1_1 : Claimed_1_1 := comes_1 fun _ _ _ _ _ _ h hF => ⟨h.1, hF⟩
theorem main_1_2 : Claimed_1_2 := comes_1 fun _ _ _ _ _ _ h hF => ⟨h.2.1, hF⟩
end Jvm.Pilot.@@N@@
namespace Jvm.Pilot.@@N@@
open Jvm Jvm.ClassFile Sem Op Lib Jvm.Free Jvm.Stand Jvm.Pilot.@@N@@.Jvm.D
/-! MADE BY PROGRAM (witnessworld.py) out of the Statement's table words and the real class files: 9 classes; the members and pool entries that the words name. The judged class is class 1, her method 2. -/
namespace start1
open Jvm.ClassFile
def u (s : String) : CpInfo := .utf8 (stringToUtf16 s)
/-- a pool by its gaps: so many unusable entries, then the entry; so many at the end -/
def gap : Nat → List CpInfo → List CpInfo
  | 0, r => r
  | n + 1, r => .unusable :: gap n r
def poolList (es : List (Nat × CpInfo)) (last : Nat) : List CpInfo := es.foldr (fun e r => gap e.1 (e.2 :: r)) (gap last [])
def pool (es : List (Nat × CpInfo)) (last : Nat) : Array CpInfo := ⟨poolList es last⟩
def fileOf (pool : Array CpInfo) (this : Nat) (attrs : Array Attribute := #[]) (ms : Array MethodInfo := #[]) (fl : Nat := 33) (sup : Nat := 0) (ifs : Array Nat := #[]) (fds : Array FieldInfo := #[]) : ClassFile where
  minorVersion := 0
  majorVersion := 65
  constantPool := pool
  accessFlags := fl
  thisClass := this
  superClass := sup
  interfaces := ifs
  fields := fds
  methods := ms
  attributes := attrs
def plain (name : String) (sup : Option ClassId) : Class where
  name := name
  kind := .ordinary
  loader := none
  accessFlags := 33
  super := sup
  interfaces := #[]
  cf := none
  fields := #[]
  methods := #[]
  instanceTypes := #[]
  staticTypes := #[]
  resolved := #[]
  callSites := []
  init := .initialized
  statics := none
  mirror := none

def pool0 : Array CpInfo := pool [(5, u "<init>"), (0, u "()V"), (1, .class_ 10), (1, u "java/lang/Object")] 113

def k0m0 : Method := { name := "<init>", desc := "()V", sig := { parameters := [], returnType := none }, accessFlags := 1, code := none }
/-- java/lang/Object -/
def k0 : Class := { plain "java/lang/Object" none with
  accessFlags := 33
  interfaces := #[]
  cf := some (fileOf pool0 8 #[] #[{ accessFlags := 1, nameIndex := 5, descriptorIndex := 6, attributes := #[] }] 33 0 #[] #[])
  fields := #[]
  methods := #[k0m0]
  instanceTypes := #[]
  staticTypes := #[]
  resolved := Array.replicate 124 none
  statics := none }

def pool1 : Array CpInfo := pool [(2, .class_ 4), (1, u "java/lang/Object"), (0, u "<init>"), (0, u "()V"), (0, .methodref 8 9), (0, .class_ 10), (0, .nameAndType 11 12), (0, u "querymill/rdf/TextScanner"), (0, u "mayStandInIri"), (0, u "(I)Z"), (0, .methodref 14 15), (0, .class_ 16), (0, .nameAndType 17 12), (0, u "querymill/rdf/TextScannerMayStandInIriPinLaw"), (0, u "reference"), (3, u "law"), (0, u "(II)Z")] 2

def k1m0 : Method := { name := "<init>", desc := "()V", sig := { parameters := [], returnType := none }, accessFlags := 2, code := none }
def k1c1 : Code := { maxStack := 2, maxLocals := 1, code := method_2_code, exceptionTable := #[], attributes := #[] }
def k1m1 : Method := { name := "reference", desc := "(I)Z", sig := { parameters := [.int], returnType := some .boolean }, accessFlags := 10, code := some k1c1 }
def k1c2 : Code := { maxStack := 2, maxLocals := 5, code := code, exceptionTable := #[], attributes := #[] }
def k1m2 : Method := { name := "law", desc := "(II)Z", sig := { parameters := [.int, .int], returnType := some .boolean }, accessFlags := 9, code := some k1c2 }
/-- querymill/rdf/TextScannerMayStandInIriPinLaw -/
def k1 : Class := { plain "querymill/rdf/TextScannerMayStandInIriPinLaw" (some 0) with
  accessFlags := 49
  interfaces := #[]
  cf := some (fileOf pool1 14 #[] #[{ accessFlags := 2, nameIndex := 5, descriptorIndex := 6, attributes := #[] }, { accessFlags := 10, nameIndex := 17, descriptorIndex := 12, attributes := #[] }, { accessFlags := 9, nameIndex := 21, descriptorIndex := 22, attributes := #[] }] 49 2 #[] #[])
  fields := #[]
  methods := #[k1m0, k1m1, k1m2]
  instanceTypes := #[]
  staticTypes := #[]
  resolved := Array.replicate 25 none
  statics := none }

def pool2 : Array CpInfo := pool [(5, .class_ 6), (0, u "querymill/rdf/TextScanner"), (6, .class_ 15), (1, u "java/lang/Object"), (3, u "chars"), (0, u "[C"), (2, u "firstLine"), (0, u "I"), (4, u "end"), (0, u "Ljava/lang/String;"), (2, u "source"), (2, u "readBytes"), (10, u "length"), (16, .class_ 65), (0, u "querymill/rdf/TextScanner$Utf8Stream"), (6, .class_ 74), (1, u "querymill/rdf/TextScanner$DocumentReader"), (1, .class_ 77), (0, u "querymill/rdf/TextScanner$UncheckedInputException"), (91, u "stream"), (0, u "Lquerymill/rdf/TextScanner$Utf8Stream;"), (2, u "unread"), (0, u "Ljava/lang/RuntimeException;"), (2, u "position"), (2, u "firstColumn"), (5, .class_ 188), (1, u "querymill/rdf/TextScanner$Place"), (16, u "(I)Z"), (51, u "mayStandInIri"), (76, .class_ 336), (1, u "querymill/rdf/TextScanner$DatatypeReader"), (57, u "ASCII_NAMES"), (0, u "[B"), (85, .fieldref 5 482), (0, .nameAndType 483 484), (0, u "IN_IRI"), (0, u "[Z"), (75, u "READ_BYTES"), (1, u "INTEGER"), (0, u "DECIMAL"), (0, u "DOUBLE"), (0, u "NOT_UTF8"), (0, u "MAX_BUFFER"), (0, u "NOT_HEX"), (1, u "PAST_UNICODE"), (1, u "SURROGATE"), (1, u "PN_CHARS_BASE"), (0, u "B"), (1, u "PN_CHARS_U"), (1, u "PN_CHARS")] 77

def k2c0 : Code := { maxStack := 2, maxLocals := 2, code := prog_117_method_65_code, exceptionTable := #[], attributes := #[] }
def k2m0 : Method := { name := "mayStandInIri", desc := "(I)Z", sig := { parameters := [.int], returnType := some .boolean }, accessFlags := 9, code := some k2c0 }
/-- querymill/rdf/TextScanner -/
def k2 : Class := { plain "querymill/rdf/TextScanner" (some 0) with
  accessFlags := 49
  interfaces := #[]
  cf := some (fileOf pool2 5 #[.nestMembers #[64, 76, 186, 334, 72]] #[{ accessFlags := 9, nameIndex := 257, descriptorIndex := 205, attributes := #[] }] 49 13 #[] #[{ accessFlags := 26, nameIndex := 560, descriptorIndex := 24, attributes := #[] }, { accessFlags := 26, nameIndex := 562, descriptorIndex := 30, attributes := #[] }, { accessFlags := 26, nameIndex := 563, descriptorIndex := 30, attributes := #[] }, { accessFlags := 26, nameIndex := 564, descriptorIndex := 30, attributes := #[] }, { accessFlags := 26, nameIndex := 565, descriptorIndex := 30, attributes := #[] }, { accessFlags := 26, nameIndex := 566, descriptorIndex := 24, attributes := #[] }, { accessFlags := 26, nameIndex := 567, descriptorIndex := 24, attributes := #[] }, { accessFlags := 26, nameIndex := 569, descriptorIndex := 24, attributes := #[] }, { accessFlags := 26, nameIndex := 571, descriptorIndex := 24, attributes := #[] }, { accessFlags := 26, nameIndex := 483, descriptorIndex := 484, attributes := #[] }, { accessFlags := 26, nameIndex := 573, descriptorIndex := 574, attributes := #[] }, { accessFlags := 26, nameIndex := 576, descriptorIndex := 574, attributes := #[] }, { accessFlags := 26, nameIndex := 578, descriptorIndex := 574, attributes := #[] }, { accessFlags := 26, nameIndex := 394, descriptorIndex := 395, attributes := #[] }, { accessFlags := 18, nameIndex := 33, descriptorIndex := 30, attributes := #[] }, { accessFlags := 18, nameIndex := 36, descriptorIndex := 24, attributes := #[] }, { accessFlags := 2, nameIndex := 19, descriptorIndex := 20, attributes := #[] }, { accessFlags := 2, nameIndex := 47, descriptorIndex := 24, attributes := #[] }, { accessFlags := 2, nameIndex := 177, descriptorIndex := 24, attributes := #[] }, { accessFlags := 2, nameIndex := 169, descriptorIndex := 170, attributes := #[] }, { accessFlags := 2, nameIndex := 173, descriptorIndex := 174, attributes := #[] }, { accessFlags := 2, nameIndex := 23, descriptorIndex := 24, attributes := #[] }, { accessFlags := 2, nameIndex := 180, descriptorIndex := 24, attributes := #[] }, { accessFlags := 2, nameIndex := 29, descriptorIndex := 30, attributes := #[] }])
  fields := #[{ name := "READ_BYTES", type := .int, accessFlags := 26, slot := 0, constantValue := 0 }, { name := "INTEGER", type := (.object "java/lang/String"), accessFlags := 26, slot := 1, constantValue := 0 }, { name := "DECIMAL", type := (.object "java/lang/String"), accessFlags := 26, slot := 2, constantValue := 0 }, { name := "DOUBLE", type := (.object "java/lang/String"), accessFlags := 26, slot := 3, constantValue := 0 }, { name := "NOT_UTF8", type := (.object "java/lang/String"), accessFlags := 26, slot := 4, constantValue := 0 }, { name := "MAX_BUFFER", type := .int, accessFlags := 26, slot := 5, constantValue := 0 }, { name := "NOT_HEX", type := .int, accessFlags := 26, slot := 6, constantValue := 0 }, { name := "PAST_UNICODE", type := .int, accessFlags := 26, slot := 7, constantValue := 0 }, { name := "SURROGATE", type := .int, accessFlags := 26, slot := 8, constantValue := 0 }, { name := "IN_IRI", type := (.array .boolean), accessFlags := 26, slot := 9, constantValue := 0 }, { name := "PN_CHARS_BASE", type := .byte, accessFlags := 26, slot := 10, constantValue := 0 }, { name := "PN_CHARS_U", type := .byte, accessFlags := 26, slot := 11, constantValue := 0 }, { name := "PN_CHARS", type := .byte, accessFlags := 26, slot := 12, constantValue := 0 }, { name := "ASCII_NAMES", type := (.array .byte), accessFlags := 26, slot := 13, constantValue := 0 }, { name := "source", type := (.object "java/lang/String"), accessFlags := 18, slot := 0, constantValue := 0 }, { name := "readBytes", type := .int, accessFlags := 18, slot := 1, constantValue := 0 }, { name := "chars", type := (.array .char), accessFlags := 2, slot := 2, constantValue := 0 }, { name := "length", type := .int, accessFlags := 2, slot := 3, constantValue := 0 }, { name := "position", type := .int, accessFlags := 2, slot := 4, constantValue := 0 }, { name := "stream", type := (.object "querymill/rdf/TextScanner$Utf8Stream"), accessFlags := 2, slot := 5, constantValue := 0 }, { name := "unread", type := (.object "java/lang/RuntimeException"), accessFlags := 2, slot := 6, constantValue := 0 }, { name := "firstLine", type := .int, accessFlags := 2, slot := 7, constantValue := 0 }, { name := "firstColumn", type := .int, accessFlags := 2, slot := 8, constantValue := 0 }, { name := "end", type := (.object "java/lang/String"), accessFlags := 2, slot := 9, constantValue := 0 }]
  methods := #[k2m0]
  instanceTypes := #[(.object "java/lang/String"), .int, (.array .char), .int, .int, (.object "querymill/rdf/TextScanner$Utf8Stream"), (.object "java/lang/RuntimeException"), .int, .int, (.object "java/lang/String")]
  staticTypes := #[.int, (.object "java/lang/String"), (.object "java/lang/String"), (.object "java/lang/String"), (.object "java/lang/String"), .int, .int, .int, .int, (.array .boolean), .byte, .byte, .byte, (.array .byte)]
  resolved := Array.replicate 656 none
  statics := some 0 }

def pool3 : Array CpInfo := pool [(1, u "java/lang/Cloneable"), (0, .class_ 1), (0, u "java/lang/Object"), (0, .class_ 3)] 3

/-- java/lang/Cloneable -/
def k3 : Class := { plain "java/lang/Cloneable" (some 0) with
  accessFlags := 1537
  interfaces := #[]
  cf := some (fileOf pool3 2 #[] #[] 1537 4 #[] #[])
  fields := #[]
  methods := #[]
  instanceTypes := #[]
  staticTypes := #[]
  resolved := Array.replicate 8 none
  statics := none }

def pool4 : Array CpInfo := pool [(1, u "java/io/Serializable"), (0, .class_ 1), (0, u "java/lang/Object"), (0, .class_ 3)] 3

/-- java/io/Serializable -/
def k4 : Class := { plain "java/io/Serializable" (some 0) with
  accessFlags := 1537
  interfaces := #[]
  cf := some (fileOf pool4 2 #[] #[] 1537 4 #[] #[])
  fields := #[]
  methods := #[]
  instanceTypes := #[]
  staticTypes := #[]
  resolved := Array.replicate 8 none
  statics := none }

/-- the primitive boolean -/
def k5 : Class := { plain "boolean" none with kind := .primitive 'Z', accessFlags := 0x411 }
/-- [Z -/
def k6 : Class := { plain "[Z" (some 0) with kind := .array 5 .boolean, interfaces := #[3, 4], accessFlags := 1041 }

/-- the primitive byte -/
def k7 : Class := { plain "byte" none with kind := .primitive 'B', accessFlags := 0x411 }
/-- [B -/
def k8 : Class := { plain "[B" (some 0) with kind := .array 7 .byte, interfaces := #[3, 4], accessFlags := 1041 }

def heap : Heap := #[{ cls := 2, slots := #[.int 0, .null, .null, .null, .null, .int 0, .int 0, .int 0, .int 0, .ref 1, .int 0, .int 0, .int 0, .null], vm := .statics 2 },
  { cls := 6, slots := #[.int 0, .int 0, .int 0, .int 0, .int 0, .int 0, .int 0, .int 0, .int 0, .int 0, .int 0, .int 0, .int 0, .int 0, .int 0, .int 0, .int 0, .int 0, .int 0, .int 0, .int 0, .int 0, .int 0, .int 0, .int 0, .int 0, .int 0, .int 0, .int 0, .int 0, .int 0, .int 0, .int 0, .int 1, .int 0, .int 1, .int 1, .int 1, .int 1, .int 1, .int 1, .int 1, .int 1, .int 1, .int 1, .int 1, .int 1, .int 1, .int 1, .int 1, .int 1, .int 1, .int 1, .int 1, .int 1, .int 1, .int 1, .int 1, .int 1, .int 1, .int 0, .int 1, .int 0, .int 1, .int 1, .int 1, .int 1, .int 1, .int 1, .int 1, .int 1, .int 1, .int 1, .int 1, .int 1, .int 1, .int 1, .int 1, .int 1, .int 1, .int 1, .int 1, .int 1, .int 1, .int 1, .int 1, .int 1, .int 1, .int 1, .int 1, .int 1, .int 1, .int 0, .int 1, .int 0, .int 1, .int 0, .int 1, .int 1, .int 1, .int 1, .int 1, .int 1, .int 1, .int 1, .int 1, .int 1, .int 1, .int 1, .int 1, .int 1, .int 1, .int 1, .int 1, .int 1, .int 1, .int 1, .int 1, .int 1, .int 1, .int 1, .int 1, .int 1, .int 0, .int 0, .int 0, .int 1, .int 1], vm := .none }]
def classes : Array Class := #[k0, k1, k2, k3, k4, k5, k6, k7, k8]
def interned : List (Array UInt16 × Addr) := []
def slotsUsed : Nat := 142
def theMethod : MethodId := ⟨1, 2⟩
def args0 : Array Value := #[.int 5, .int 6]
def aboutOver (below : List Frame) : State where
  vm := { classes := classes, interned := interned.toArray }
  heap := heap
  slotsUsed := slotsUsed
  threads := #[{ frames := .invoking theMethod args0 :: below }]
def below0 : List Frame := [.native { method := ⟨0, 0⟩, args := #[] }]
def about1 : State := aboutOver below0
def p0 : Program := .bare "" "" ""
def e0 : Env := launch0.env 0 0 0
theorem w_frames : about1.frames = Frame.invoking theMethod args0 :: below0 := rfl
set_option maxRecDepth 65536 in
theorem w_args : argsFit about1.vm theMethod args0 = true := by decide +kernel
set_option maxRecDepth 65536 in
theorem w_heap : heapFits about1 = true := by decide +kernel
set_option maxRecDepth 65536 in
theorem w_runnable : about1.curStatus? = some .runnable := by decide +kernel
set_option maxRecDepth 65536 in
theorem w_alone : about1.alone = true := by decide +kernel
set_option maxRecDepth 65536 in
theorem w_named : about1.methodNamed? x = some theMethod := by decide +kernel
set_option maxRecDepth 65536 in
theorem w_hears : about1.hears theMethod below0 = true := by decide +kernel
set_option maxRecDepth 65536 in
theorem w_ripe : about1.ripe theMethod args0 below0 = true := by decide +kernel
theorem w_running : about1.status = .running := rfl
set_option maxRecDepth 65536 in
theorem w_room : about1.hasRoom e0.platform room_1 = true :=
  launch0.hasRoom_least _ room_1 (by decide +kernel) (by decide +kernel) (by decide +kernel) (by decide +kernel) (by decide +kernel) (by decide +kernel)
theorem allAtoms_all (ts : List Jvm.Cond) (a : Array Jvm.Value) (st : Jvm.State) : (allAtoms ts).before a st = ts.all (fun c => c.before a st) := by
  induction ts with
  | nil => rfl
  | cons c t ih =>
    show (Jvm.Cond.and c (allAtoms t)).before a st = _
    rw [Jvm.Cond.before_and, ih, List.all_cons]
def words1 : List Jvm.Cond := Jvm.Cond.code x code maxLocals ret :: tables_1
/-- a 'code' word, met by the world's own term for the bytes: nothing is compared byte by byte -/
theorem code_word {y : MethodName} {bytes : ByteArray} {mx : Nat} {rt : Option FieldType} {a : Array Value} {s : State} {m : MethodId} {meth : Method} {c : Code} (h1 : s.methodNamed? y = some m) (h2 : s.vm.method? m = some meth) (h3 : meth.code = some c) (h4 : c.code = bytes)
    (h5 : (c.maxLocals == mx && c.exceptionTable.isEmpty && decide (c.maxStack ≤ mostOperands) && decide (meth.sig.returnType = rt) && !meth.locks && decide (parseMethodDescriptor y.desc = some meth.sig)) = true) : (Jvm.Cond.code y bytes mx rt).before a s = true := by
  simp only [Bool.and_eq_true, beq_iff_eq, Bool.not_eq_true', decide_eq_true_eq] at h5
  obtain ⟨⟨⟨⟨⟨g1, g2⟩, g3⟩, g4⟩, g5⟩, g6⟩ := h5
  simp [Cond.before, Cond.holds, Cond.value, h1, h2, h3, h4, g1, g2, g3, g4, g5, g6]
def isCode : Jvm.Cond → Bool
  | .code _ _ _ _ => true
  | _ => false
theorem all_split {L : List Jvm.Cond} {P : Jvm.Cond → Bool} (h1 : L.all (fun c => isCode c || P c) = true) (h2 : ∀ c ∈ L.filter isCode, P c = true) : L.all P = true := by
  refine List.all_eq_true.mpr fun c hc => ?_
  have h := List.all_eq_true.mp h1 c hc
  rcases Bool.eq_false_or_eq_true (isCode c) with hi | hi
  · exact h2 c (List.mem_filter.mpr ⟨hc, hi⟩)
  · simpa [hi] using h
set_option maxRecDepth 65536 in
theorem w_c0 : (Jvm.Cond.code x code maxLocals ret).before args0 about1 = true := code_word (m := ⟨1, 2⟩) (meth := k1m2) (c := k1c2) (by decide +kernel) rfl rfl rfl (by decide +kernel)
set_option maxRecDepth 65536 in
theorem w_c1 : (Jvm.Cond.code ({ cls := "querymill/rdf/TextScanner", name := "mayStandInIri", desc := "(I)Z" } : Jvm.MethodName) prog_117_method_65_code (2 : Nat) (Option.some Jvm.ClassFile.FieldType.boolean)).before args0 about1 = true := code_word (m := ⟨2, 0⟩) (meth := k2m0) (c := k2c0) (by decide +kernel) rfl rfl rfl (by decide +kernel)
set_option maxRecDepth 65536 in
theorem w_c2 : (Jvm.Cond.code ({ cls := "querymill/rdf/TextScannerMayStandInIriPinLaw", name := "reference", desc := "(I)Z" } : Jvm.MethodName) method_2_code (1 : Nat) (Option.some Jvm.ClassFile.FieldType.boolean)).before args0 about1 = true := code_word (m := ⟨1, 1⟩) (meth := k1m1) (c := k1c1) (by decide +kernel) rfl rfl rfl (by decide +kernel)
def codes1 : List Jvm.Cond := [Jvm.Cond.code x code maxLocals ret, Jvm.Cond.code ({ cls := "querymill/rdf/TextScanner", name := "mayStandInIri", desc := "(I)Z" } : Jvm.MethodName) prog_117_method_65_code (2 : Nat) (Option.some Jvm.ClassFile.FieldType.boolean), Jvm.Cond.code ({ cls := "querymill/rdf/TextScannerMayStandInIriPinLaw", name := "reference", desc := "(I)Z" } : Jvm.MethodName) method_2_code (1 : Nat) (Option.some Jvm.ClassFile.FieldType.boolean)]
set_option maxRecDepth 65536 in
theorem codes_eq : words1.filter isCode = codes1 := rfl
theorem w_codes : ∀ c ∈ words1.filter isCode, c.before args0 about1 = true := by
  rw [codes_eq]
  intro c hc
  simp only [codes1, List.mem_cons, List.not_mem_nil, or_false] at hc
  rcases hc with rfl | rfl | rfl
  · exact w_c0
  · exact w_c1
  · exact w_c2
set_option maxRecDepth 65536 in
theorem w_t1 : words1.all (fun c => isCode c || c.before args0 about1) = true := by decide +kernel
theorem w_tables : (allAtoms (Jvm.Cond.code x code maxLocals ret :: tables_1)).before args0 about1 = true := by
  rw [allAtoms_all]
  show words1.all (fun c => c.before args0 about1) = true
  refine all_split ?_ w_codes
  rw [w_t1]
set_option maxRecDepth 65536 in
theorem w_case : (Jvm.Cond.and given_1 narrow_1).before args0 about1 = true := by decide +kernel
theorem w_applies : (headSpec (Jvm.Cond.code x code maxLocals ret :: tables_1) room_1).applies x e0.platform about1 = true :=
  (Spec.applies_iff w_frames).mpr ⟨w_running, w_runnable, w_alone, w_named, w_hears, w_ripe, w_room, w_tables⟩
theorem atStart : AtStart classFile x code maxLocals ret World_1 tables_1 room_1 Calls_1 rest_1 Pre_1 launch0 p0 e0 about1 theMethod args0 below0 :=
  ⟨lists_1, trivial, launch0.admits_env _ _ _, launch0.least_env, fairChoices_fair.cas, fairChoices_fair.clock, w_frames, w_args, w_heap, w_applies, trivial, trivial, w_case⟩
end start1
theorem witness_1 : WitnessClaimed_1 := ⟨start1.p0, start1.e0, start1.about1, start1.theMethod, start1.args0, start1.below0, start1.atStart⟩
end Jvm.Pilot.@@N@@
