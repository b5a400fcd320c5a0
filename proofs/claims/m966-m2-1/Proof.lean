import JvmDerived
import JvmDerived.Pilot.@@N@@Statement
import JvmDerived.Pilot.@@N@@Code
set_option linter.unusedVariables false
set_option linter.unusedSimpArgs false
@@BLOCK:NumsL.lean.txt@@
namespace Jvm.RoadKit
open Sem ClassFile Op Lib Jvm.Stand Jvm.Free Jvm.LawKit
section New
variable {p : Program} {l : Launch} {e : Env} {R : Room} {s : State} {m : MethodId} {args : Array Value} {below : List Frame} {meth : Method} {c : Code} {T : State} {locs : List Loc} {cells slots : Nat}
theorem retI (X : Stand p l e R s m args below meth c T locs cells slots) (hx : p.tables.exec = Jvm.exec) {pc : Nat} {Ls : Array Slot} {z : Int32} {rest : List Value} (hret : meth.sig.returnType = some .int) (hd : decode c.code pc = .ok (.ireturn, 1)) {fs : List Frame}
    (hl : ∀ (f : JFrame) (acts : List Action), f.method = m → f.locked = none → f.entered = [] → (doReturn e (T.setTop f) acts (some (.int z))).1 = T.setFrames fs) : Steps p.tables e below (T.setTop (mkF m pc Ls (.int z :: rest))) (T.setFrames fs) := by
  have hm' : T.vm.method? m = some meth := X.method'
  have hn : narrow .int (.int z) = .int z := rfl
  show Steps p.tables e below (T.setTop { method := m, pc := pc, locals := Ls, stack := _ :: rest, locked := none }) _
  jvm_step X.here [X.here.top, hx, hd, hm', hret, hn]
  first | (intro acts; rw [hl _ acts rfl rfl rfl]) | rw [hl _ _ rfl rfl rfl]
  exact Steps.refl _
theorem own_abs {k : Nat} (X : Stand p l e R s m args below meth c T locs cells slots) (N : Fr k locs) : ∃ lo, Stand p l e R s m args below meth c T lo cells slots ∧ Fr k lo := ⟨locs, X, N⟩
end New
end Jvm.RoadKit
namespace Jvm.Pilot.@@N@@
open Jvm Jvm.ClassFile Sem Op Lib Jvm.Free Jvm.Stand Jvm.LawKit Jvm.RoadKit Bundle Jvm.Pilot.@@N@@.Jvm.D
def fA_42 (x : Int32) : Int32 := (if x < (65536 : Int32) then (0 : Int32) else (if (1114111 : Int32) < x then (0 : Int32) else (1 : Int32)))
def fA_12 (x : Int32) : Int32 := (if x = (9 : Int32) then (1 : Int32) else (if x = (10 : Int32) then (1 : Int32) else (if x = (13 : Int32) then (1 : Int32) else (if x < (57344 : Int32) then (fA_42 x) else (if (65533 : Int32) < x then (fA_42 x) else (1 : Int32))))))
def fA (x : Int32) : Int32 := (if x < (32 : Int32) then (fA_12 x) else (if (55295 : Int32) < x then (fA_12 x) else (1 : Int32)))
def Q_rmA (x : Int32) (h0 : Heap) (n0 : Nat) (v : Option Value) (h : Heap) (L : List Loc) : Prop := v = some (.int (fA x)) ∧ Fr n0 L ∧ h = h0
theorem pn_0 : plainName "com/example/dongying/dongying/xml/XmlChars" = true := by first | (simp [plainName, overriddenIn]; done) | decide +kernel
theorem ef_rmA (m : MethodId) (x0 : Int32) : entryFrame m #[(.int x0)] 1 = mkF m 0 #[.val (.int x0)] [] := by first | (simp [entryFrame, mkF, argsToLocals, Value.category]; done) | rfl
theorem d1_0 : decode prog_81_method_2_code 0 = .ok (.iload_n 0, 1) := by decide +kernel
theorem d1_1 : decode prog_81_method_2_code 1 = .ok (.bipush 32, 2) := by decide +kernel
theorem d1_3 : decode prog_81_method_2_code 3 = .ok (.if_icmp .lt 9, 3) := by decide +kernel
theorem d1_6 : decode prog_81_method_2_code 6 = .ok (.iload_n 0, 1) := by decide +kernel
theorem d1_7 : decode prog_81_method_2_code 7 = .ok (.ldc 7, 2) := by decide +kernel
theorem d1_9 : decode prog_81_method_2_code 9 = .ok (.if_icmp .le 45, 3) := by decide +kernel
theorem d1_12 : decode prog_81_method_2_code 12 = .ok (.iload_n 0, 1) := by decide +kernel
theorem d1_13 : decode prog_81_method_2_code 13 = .ok (.bipush 9, 2) := by decide +kernel
theorem d1_15 : decode prog_81_method_2_code 15 = .ok (.if_icmp .eq 39, 3) := by decide +kernel
theorem d1_18 : decode prog_81_method_2_code 18 = .ok (.iload_n 0, 1) := by decide +kernel
theorem d1_19 : decode prog_81_method_2_code 19 = .ok (.bipush 10, 2) := by decide +kernel
theorem d1_21 : decode prog_81_method_2_code 21 = .ok (.if_icmp .eq 33, 3) := by decide +kernel
theorem d1_24 : decode prog_81_method_2_code 24 = .ok (.iload_n 0, 1) := by decide +kernel
theorem d1_25 : decode prog_81_method_2_code 25 = .ok (.bipush 13, 2) := by decide +kernel
theorem d1_27 : decode prog_81_method_2_code 27 = .ok (.if_icmp .eq 27, 3) := by decide +kernel
theorem d1_30 : decode prog_81_method_2_code 30 = .ok (.iload_n 0, 1) := by decide +kernel
theorem d1_31 : decode prog_81_method_2_code 31 = .ok (.ldc 8, 2) := by decide +kernel
theorem d1_33 : decode prog_81_method_2_code 33 = .ok (.if_icmp .lt 9, 3) := by decide +kernel
theorem d1_36 : decode prog_81_method_2_code 36 = .ok (.iload_n 0, 1) := by decide +kernel
theorem d1_37 : decode prog_81_method_2_code 37 = .ok (.ldc 9, 2) := by decide +kernel
theorem d1_39 : decode prog_81_method_2_code 39 = .ok (.if_icmp .le 15, 3) := by decide +kernel
theorem d1_42 : decode prog_81_method_2_code 42 = .ok (.iload_n 0, 1) := by decide +kernel
theorem d1_43 : decode prog_81_method_2_code 43 = .ok (.ldc 10, 2) := by decide +kernel
theorem d1_45 : decode prog_81_method_2_code 45 = .ok (.if_icmp .lt 13, 3) := by decide +kernel
theorem d1_48 : decode prog_81_method_2_code 48 = .ok (.iload_n 0, 1) := by decide +kernel
theorem d1_49 : decode prog_81_method_2_code 49 = .ok (.ldc 11, 2) := by decide +kernel
theorem d1_51 : decode prog_81_method_2_code 51 = .ok (.if_icmp .gt 7, 3) := by decide +kernel
theorem d1_54 : decode prog_81_method_2_code 54 = .ok (.iconst 1, 1) := by decide +kernel
theorem d1_55 : decode prog_81_method_2_code 55 = .ok (.goto 4, 3) := by decide +kernel
theorem d1_58 : decode prog_81_method_2_code 58 = .ok (.iconst 0, 1) := by decide +kernel
theorem d1_59 : decode prog_81_method_2_code 59 = .ok (.ireturn, 1) := by decide +kernel
set_option maxRecDepth 65536 in
set_option maxHeartbeats 40000000 in
theorem rmA (l : Launch) (Z : State) (a0 : Array Value) (hw : ∀ d ∈ tables_1, d.before a0 Z = true) (ws : List Jvm.Cond) (x : Int32)  (h0 : Heap) (n0 : Nat) (Z0 : n0 ≤ h0.size)  :
    MetFree l (⟨"com/example/dongying/dongying/xml/XmlChars", "isChar", "(I)Z"⟩ : MethodName) (head1 (Jvm.Cond.code (⟨"com/example/dongying/dongying/xml/XmlChars", "isChar", "(I)Z"⟩ : MethodName) prog_81_method_2_code 1 (some .boolean) :: ws) ({ frames := 0, cells := 0, slots := 0, locals := 0 } : Room)) (fun a U => a = #[(.int x)] ∧ Z.Warmed39 U.vm ∧ U.heap = h0) (fun _ _ _ _ _ => True) (fun _ U o U' => ∃ v L, o = .returned v ∧ Q_rmA x h0 n0 v U'.heap L ∧ FrameEnd U o U' L ({ frames := 0, cells := 0, slots := 0, locals := 0 } : Room).cells ({ frames := 0, cells := 0, slots := 0, locals := 0 } : Room).slots) := by
  refine MetFree.of_bodySF (plainFor_of_name pn_0) hisR ?_
  intro p e s m args below meth c s₁ Bd hml0 hP hK
  obtain ⟨rfl, hZ, hh⟩ := hP
  have hx := Bd.exec
  have hby := Bd.bytes
  have hml : c.maxLocals = 1 := hml0
  have hown : s.vm.findClass "com/example/dongying/dongying/xml/XmlChars" = some m.cls := findClass_of_methodNamed Bd.named
  have hnm := (name_of_methodNamed Bd.named Bd.method).1
  have hlk : meth.locks = false := by first | exact BodyLoose.notSynchronized Bd | exact Body.notSynchronized Bd
  have X0 : Stand p l e ({ frames := 0, cells := 0, slots := 0, locals := 0 } : Room) s m #[(.int x)] below meth c s₁ [] 0 0 := Stand.of_body Bd
  have e0 : s₁.heap = h0 := by rw [← hh, Bd.state]; rfl
  have N0 := Fr.nil n0
  have pre0 : ∀ t, Steps p.tables e below (s₁.setTop (mkF m 0 #[.val (.int x)] [])) t → Steps p.tables e below (s₁.setTop (entryFrame m #[(.int x)] 1)) t := fun t k => castTop (ef_rmA m x) k
  obtain ⟨fs, hr, hrun, hended, hW, hsame⟩ := X0.leave (v := some (.int (fA x))) (fun h => by rw [Bd.returns] at h; cases h) (hlocks := hlk)
  have j1 : (1 : Int32) = fA x → Steps p.tables e below (s₁.setTop (mkF m 54 #[.val (.int x)] [])) (s₁.setFrames fs) := by
    intro hq
    show Steps p.tables e below (s₁.setTop (mkF m 54 #[.val (.int x)] [])) _
    refine XS.iconst X0.here hx rfl (hb hby d1_54) ?_
    show Steps p.tables e below (s₁.setTop (mkF m 55 #[.val (.int x)] [(.int (1 : Int32))])) _
    refine XS.goto X0.here hx rfl (pc0 := 55) (pc' := 59) rfl (hb hby d1_55) (by decide) (by decide) ?_
    have hr1 := hr
    rw [← hq] at hr1
    exact retN X0 hx (t := .boolean) Bd.returns (by simp) (hb hby d1_59) hr1
  have j2 : (0 : Int32) = fA x → Steps p.tables e below (s₁.setTop (mkF m 58 #[.val (.int x)] [])) (s₁.setFrames fs) := by
    intro hq
    show Steps p.tables e below (s₁.setTop (mkF m 58 #[.val (.int x)] [])) _
    refine XS.iconst X0.here hx rfl (hb hby d1_58) ?_
    have hr1 := hr
    rw [← hq] at hr1
    exact retN X0 hx (t := .boolean) Bd.returns (by simp) (hb hby d1_59) hr1
  have j3 : (fA_42 x) = fA x → Steps p.tables e below (s₁.setTop (mkF m 42 #[.val (.int x)] [])) (s₁.setFrames fs) := by
    intro hq
    show Steps p.tables e below (s₁.setTop (mkF m 42 #[.val (.int x)] [])) _
    refine XS.iloadN X0.here hx rfl (hb hby d1_42) rfl ?_
    show Steps p.tables e below (s₁.setTop (mkF m 43 #[.val (.int x)] [(.int x)])) _
    refine X0.ldcInt hx hown (mvT hZ (hw _ (List.mem_of_getElem? (i := 18) rfl))) (g := (mkF m 43 #[.val (.int x)] [(.int x)])) rfl (hb hby d1_43) _ ?_
    show Steps p.tables e below (s₁.setTop (mkF m 45 #[.val (.int x)] [(.int (65536 : Int32)), (.int x)])) _
    by_cases hc45 : x < (65536 : Int32)
    · have hqhc450 : (0 : Int32) = fA x := (if_pos hc45).symm.trans hq
      refine XS.icmpYes X0.here hx rfl (pc0 := 45) (pc' := 58) rfl (hb hby d1_45) rfl (tlt hc45).1 (by decide) (by decide) ?_
      exact j2 hqhc450
    · have hqhc451 : (if (1114111 : Int32) < x then (0 : Int32) else (1 : Int32)) = fA x := (if_neg hc45).symm.trans hq
      refine XS.icmpNo X0.here hx rfl (hb hby d1_45) rfl (flt hc45).1 ?_
      show Steps p.tables e below (s₁.setTop (mkF m 48 #[.val (.int x)] [])) _
      refine XS.iloadN X0.here hx rfl (hb hby d1_48) rfl ?_
      show Steps p.tables e below (s₁.setTop (mkF m 49 #[.val (.int x)] [(.int x)])) _
      refine X0.ldcInt hx hown (mvT hZ (hw _ (List.mem_of_getElem? (i := 25) rfl))) (g := (mkF m 49 #[.val (.int x)] [(.int x)])) rfl (hb hby d1_49) _ ?_
      show Steps p.tables e below (s₁.setTop (mkF m 51 #[.val (.int x)] [(.int (1114111 : Int32)), (.int x)])) _
      by_cases hc51 : (1114111 : Int32) < x
      · have hqhc510 : (0 : Int32) = fA x := (if_pos hc51).symm.trans hqhc451
        refine XS.icmpYes X0.here hx rfl (pc0 := 51) (pc' := 58) rfl (hb hby d1_51) rfl (tlt hc51).2.2.1 (by decide) (by decide) ?_
        exact j2 hqhc510
      · have hqhc511 : (1 : Int32) = fA x := (if_neg hc51).symm.trans hqhc451
        refine XS.icmpNo X0.here hx rfl (hb hby d1_51) rfl (flt hc51).2.2.1 ?_
        exact j1 hqhc511
  have j4 : (fA_12 x) = fA x → Steps p.tables e below (s₁.setTop (mkF m 12 #[.val (.int x)] [])) (s₁.setFrames fs) := by
    intro hq
    show Steps p.tables e below (s₁.setTop (mkF m 12 #[.val (.int x)] [])) _
    refine XS.iloadN X0.here hx rfl (hb hby d1_12) rfl ?_
    show Steps p.tables e below (s₁.setTop (mkF m 13 #[.val (.int x)] [(.int x)])) _
    refine XS.bipush X0.here hx rfl (hb hby d1_13) ?_
    show Steps p.tables e below (s₁.setTop (mkF m 15 #[.val (.int x)] [(.int (9 : Int32)), (.int x)])) _
    by_cases hc15 : x = (9 : Int32)
    · have hqhc150 : (1 : Int32) = fA x := (if_pos hc15).symm.trans hq
      refine XS.icmpYes X0.here hx rfl (pc0 := 15) (pc' := 54) rfl (hb hby d1_15) rfl (teq hc15).1 (by decide) (by decide) ?_
      exact j1 hqhc150
    · have hqhc151 : (if x = (10 : Int32) then (1 : Int32) else (if x = (13 : Int32) then (1 : Int32) else (if x < (57344 : Int32) then (fA_42 x) else (if (65533 : Int32) < x then (fA_42 x) else (1 : Int32))))) = fA x := (if_neg hc15).symm.trans hq
      refine XS.icmpNo X0.here hx rfl (hb hby d1_15) rfl (feq hc15).1 ?_
      show Steps p.tables e below (s₁.setTop (mkF m 18 #[.val (.int x)] [])) _
      refine XS.iloadN X0.here hx rfl (hb hby d1_18) rfl ?_
      show Steps p.tables e below (s₁.setTop (mkF m 19 #[.val (.int x)] [(.int x)])) _
      refine XS.bipush X0.here hx rfl (hb hby d1_19) ?_
      show Steps p.tables e below (s₁.setTop (mkF m 21 #[.val (.int x)] [(.int (10 : Int32)), (.int x)])) _
      by_cases hc21 : x = (10 : Int32)
      · have hqhc210 : (1 : Int32) = fA x := (if_pos hc21).symm.trans hqhc151
        refine XS.icmpYes X0.here hx rfl (pc0 := 21) (pc' := 54) rfl (hb hby d1_21) rfl (teq hc21).1 (by decide) (by decide) ?_
        exact j1 hqhc210
      · have hqhc211 : (if x = (13 : Int32) then (1 : Int32) else (if x < (57344 : Int32) then (fA_42 x) else (if (65533 : Int32) < x then (fA_42 x) else (1 : Int32)))) = fA x := (if_neg hc21).symm.trans hqhc151
        refine XS.icmpNo X0.here hx rfl (hb hby d1_21) rfl (feq hc21).1 ?_
        show Steps p.tables e below (s₁.setTop (mkF m 24 #[.val (.int x)] [])) _
        refine XS.iloadN X0.here hx rfl (hb hby d1_24) rfl ?_
        show Steps p.tables e below (s₁.setTop (mkF m 25 #[.val (.int x)] [(.int x)])) _
        refine XS.bipush X0.here hx rfl (hb hby d1_25) ?_
        show Steps p.tables e below (s₁.setTop (mkF m 27 #[.val (.int x)] [(.int (13 : Int32)), (.int x)])) _
        by_cases hc27 : x = (13 : Int32)
        · have hqhc270 : (1 : Int32) = fA x := (if_pos hc27).symm.trans hqhc211
          refine XS.icmpYes X0.here hx rfl (pc0 := 27) (pc' := 54) rfl (hb hby d1_27) rfl (teq hc27).1 (by decide) (by decide) ?_
          exact j1 hqhc270
        · have hqhc271 : (if x < (57344 : Int32) then (fA_42 x) else (if (65533 : Int32) < x then (fA_42 x) else (1 : Int32))) = fA x := (if_neg hc27).symm.trans hqhc211
          refine XS.icmpNo X0.here hx rfl (hb hby d1_27) rfl (feq hc27).1 ?_
          show Steps p.tables e below (s₁.setTop (mkF m 30 #[.val (.int x)] [])) _
          refine XS.iloadN X0.here hx rfl (hb hby d1_30) rfl ?_
          show Steps p.tables e below (s₁.setTop (mkF m 31 #[.val (.int x)] [(.int x)])) _
          refine X0.ldcInt hx hown (mvT hZ (hw _ (List.mem_of_getElem? (i := 17) rfl))) (g := (mkF m 31 #[.val (.int x)] [(.int x)])) rfl (hb hby d1_31) _ ?_
          show Steps p.tables e below (s₁.setTop (mkF m 33 #[.val (.int x)] [(.int (57344 : Int32)), (.int x)])) _
          by_cases hc33 : x < (57344 : Int32)
          · have hqhc330 : (fA_42 x) = fA x := (if_pos hc33).symm.trans hqhc271
            refine XS.icmpYes X0.here hx rfl (pc0 := 33) (pc' := 42) rfl (hb hby d1_33) rfl (tlt hc33).1 (by decide) (by decide) ?_
            exact j3 hqhc330
          · have hqhc331 : (if (65533 : Int32) < x then (fA_42 x) else (1 : Int32)) = fA x := (if_neg hc33).symm.trans hqhc271
            refine XS.icmpNo X0.here hx rfl (hb hby d1_33) rfl (flt hc33).1 ?_
            show Steps p.tables e below (s₁.setTop (mkF m 36 #[.val (.int x)] [])) _
            refine XS.iloadN X0.here hx rfl (hb hby d1_36) rfl ?_
            show Steps p.tables e below (s₁.setTop (mkF m 37 #[.val (.int x)] [(.int x)])) _
            refine X0.ldcInt hx hown (mvT hZ (hw _ (List.mem_of_getElem? (i := 24) rfl))) (g := (mkF m 37 #[.val (.int x)] [(.int x)])) rfl (hb hby d1_37) _ ?_
            show Steps p.tables e below (s₁.setTop (mkF m 39 #[.val (.int x)] [(.int (65533 : Int32)), (.int x)])) _
            by_cases hc39 : (65533 : Int32) < x
            · have hqhc390 : (fA_42 x) = fA x := (if_pos hc39).symm.trans hqhc331
              refine XS.icmpNo X0.here hx rfl (hb hby d1_39) rfl (tlt hc39).2.2.2 ?_
              exact j3 hqhc390
            · have hqhc391 : (1 : Int32) = fA x := (if_neg hc39).symm.trans hqhc331
              refine XS.icmpYes X0.here hx rfl (pc0 := 39) (pc' := 54) rfl (hb hby d1_39) rfl (flt hc39).2.2.2 (by decide) (by decide) ?_
              exact j1 hqhc391
  refine ⟨_, _, pre0 _ ?_, hrun, hended, _, _, rfl, ?_, ⟨_, rfl⟩, hW, hsame.mono (by decide) (by decide)⟩
  · have hq0 : (if x < (32 : Int32) then (fA_12 x) else (if (55295 : Int32) < x then (fA_12 x) else (1 : Int32))) = fA x := rfl
    show Steps p.tables e below (s₁.setTop (mkF m 0 #[.val (.int x)] [])) _
    refine XS.iloadN X0.here hx rfl (hb hby d1_0) rfl ?_
    show Steps p.tables e below (s₁.setTop (mkF m 1 #[.val (.int x)] [(.int x)])) _
    refine XS.bipush X0.here hx rfl (hb hby d1_1) ?_
    show Steps p.tables e below (s₁.setTop (mkF m 3 #[.val (.int x)] [(.int (32 : Int32)), (.int x)])) _
    by_cases hc3 : x < (32 : Int32)
    · have hqhc30 : (fA_12 x) = fA x := (if_pos hc3).symm.trans hq0
      refine XS.icmpYes X0.here hx rfl (pc0 := 3) (pc' := 12) rfl (hb hby d1_3) rfl (tlt hc3).1 (by decide) (by decide) ?_
      exact j4 hqhc30
    · have hqhc31 : (if (55295 : Int32) < x then (fA_12 x) else (1 : Int32)) = fA x := (if_neg hc3).symm.trans hq0
      refine XS.icmpNo X0.here hx rfl (hb hby d1_3) rfl (flt hc3).1 ?_
      show Steps p.tables e below (s₁.setTop (mkF m 6 #[.val (.int x)] [])) _
      refine XS.iloadN X0.here hx rfl (hb hby d1_6) rfl ?_
      show Steps p.tables e below (s₁.setTop (mkF m 7 #[.val (.int x)] [(.int x)])) _
      refine X0.ldcInt hx hown (mvT hZ (hw _ (List.mem_of_getElem? (i := 23) rfl))) (g := (mkF m 7 #[.val (.int x)] [(.int x)])) rfl (hb hby d1_7) _ ?_
      show Steps p.tables e below (s₁.setTop (mkF m 9 #[.val (.int x)] [(.int (55295 : Int32)), (.int x)])) _
      by_cases hc9 : (55295 : Int32) < x
      · have hqhc90 : (fA_12 x) = fA x := (if_pos hc9).symm.trans hqhc31
        refine XS.icmpNo X0.here hx rfl (hb hby d1_9) rfl (tlt hc9).2.2.2 ?_
        exact j4 hqhc90
      · have hqhc91 : (1 : Int32) = fA x := (if_neg hc9).symm.trans hqhc31
        refine XS.icmpYes X0.here hx rfl (pc0 := 9) (pc' := 54) rfl (hb hby d1_9) rfl (flt hc9).2.2.2 (by decide) (by decide) ?_
        exact j1 hqhc91
  · show Q_rmA x h0 n0 _ s₁.heap _
    rw [e0]
    exact ⟨rfl, N0, rfl⟩
def fB_56 (x : Int32) : Int32 := (if x = (65534 : Int32) then (0 : Int32) else (if x = (65535 : Int32) then (0 : Int32) else (1 : Int32)))
def fB (x : Int32) : Int32 := (if x < (0 : Int32) then (0 : Int32) else (if (1114111 : Int32) < x then (0 : Int32) else (if x < (32 : Int32) then (if x = (9 : Int32) then (1 : Int32) else (if x = (10 : Int32) then (1 : Int32) else (if x = (13 : Int32) then (1 : Int32) else (0 : Int32)))) else (if x < (55296 : Int32) then (fB_56 x) else (if (57343 : Int32) < x then (fB_56 x) else (0 : Int32))))))
def Q_rmB (x : Int32) (h0 : Heap) (n0 : Nat) (v : Option Value) (h : Heap) (L : List Loc) : Prop := v = some (.int (fB x)) ∧ Fr n0 L ∧ h = h0
theorem pn_1 : plainName "com/example/dongying/dongying/xml/XmlCharsIsCharPinLaw" = true := by first | (simp [plainName, overriddenIn]; done) | decide +kernel
theorem ef_rmB (m : MethodId) (x0 : Int32) : entryFrame m #[(.int x0)] 1 = mkF m 0 #[.val (.int x0)] [] := by first | (simp [entryFrame, mkF, argsToLocals, Value.category]; done) | rfl
theorem d2_0 : decode method_2_code 0 = .ok (.iload_n 0, 1) := by decide +kernel
theorem d2_1 : decode method_2_code 1 = .ok (.ifCond .lt 9, 3) := by decide +kernel
theorem d2_4 : decode method_2_code 4 = .ok (.iload_n 0, 1) := by decide +kernel
theorem d2_5 : decode method_2_code 5 = .ok (.ldc 7, 2) := by decide +kernel
theorem d2_7 : decode method_2_code 7 = .ok (.if_icmp .le 5, 3) := by decide +kernel
theorem d2_10 : decode method_2_code 10 = .ok (.iconst 0, 1) := by decide +kernel
theorem d2_11 : decode method_2_code 11 = .ok (.ireturn, 1) := by decide +kernel
theorem d2_12 : decode method_2_code 12 = .ok (.iload_n 0, 1) := by decide +kernel
theorem d2_13 : decode method_2_code 13 = .ok (.bipush 32, 2) := by decide +kernel
theorem d2_15 : decode method_2_code 15 = .ok (.if_icmp .ge 27, 3) := by decide +kernel
theorem d2_18 : decode method_2_code 18 = .ok (.iload_n 0, 1) := by decide +kernel
theorem d2_19 : decode method_2_code 19 = .ok (.bipush 9, 2) := by decide +kernel
theorem d2_21 : decode method_2_code 21 = .ok (.if_icmp .eq 15, 3) := by decide +kernel
theorem d2_24 : decode method_2_code 24 = .ok (.iload_n 0, 1) := by decide +kernel
theorem d2_25 : decode method_2_code 25 = .ok (.bipush 10, 2) := by decide +kernel
theorem d2_27 : decode method_2_code 27 = .ok (.if_icmp .eq 9, 3) := by decide +kernel
theorem d2_30 : decode method_2_code 30 = .ok (.iload_n 0, 1) := by decide +kernel
theorem d2_31 : decode method_2_code 31 = .ok (.bipush 13, 2) := by decide +kernel
theorem d2_33 : decode method_2_code 33 = .ok (.if_icmp .ne 7, 3) := by decide +kernel
theorem d2_36 : decode method_2_code 36 = .ok (.iconst 1, 1) := by decide +kernel
theorem d2_37 : decode method_2_code 37 = .ok (.goto 4, 3) := by decide +kernel
theorem d2_40 : decode method_2_code 40 = .ok (.iconst 0, 1) := by decide +kernel
theorem d2_41 : decode method_2_code 41 = .ok (.ireturn, 1) := by decide +kernel
theorem d2_42 : decode method_2_code 42 = .ok (.iload_n 0, 1) := by decide +kernel
theorem d2_43 : decode method_2_code 43 = .ok (.ldc 8, 2) := by decide +kernel
theorem d2_45 : decode method_2_code 45 = .ok (.if_icmp .lt 11, 3) := by decide +kernel
theorem d2_48 : decode method_2_code 48 = .ok (.iload_n 0, 1) := by decide +kernel
theorem d2_49 : decode method_2_code 49 = .ok (.ldc 9, 2) := by decide +kernel
theorem d2_51 : decode method_2_code 51 = .ok (.if_icmp .gt 5, 3) := by decide +kernel
theorem d2_54 : decode method_2_code 54 = .ok (.iconst 0, 1) := by decide +kernel
theorem d2_55 : decode method_2_code 55 = .ok (.ireturn, 1) := by decide +kernel
theorem d2_56 : decode method_2_code 56 = .ok (.iload_n 0, 1) := by decide +kernel
theorem d2_57 : decode method_2_code 57 = .ok (.ldc 10, 2) := by decide +kernel
theorem d2_59 : decode method_2_code 59 = .ok (.if_icmp .eq 9, 3) := by decide +kernel
theorem d2_62 : decode method_2_code 62 = .ok (.iload_n 0, 1) := by decide +kernel
theorem d2_63 : decode method_2_code 63 = .ok (.ldc 11, 2) := by decide +kernel
theorem d2_65 : decode method_2_code 65 = .ok (.if_icmp .ne 5, 3) := by decide +kernel
theorem d2_68 : decode method_2_code 68 = .ok (.iconst 0, 1) := by decide +kernel
theorem d2_69 : decode method_2_code 69 = .ok (.ireturn, 1) := by decide +kernel
theorem d2_70 : decode method_2_code 70 = .ok (.iconst 1, 1) := by decide +kernel
theorem d2_71 : decode method_2_code 71 = .ok (.ireturn, 1) := by decide +kernel
set_option maxRecDepth 65536 in
set_option maxHeartbeats 40000000 in
theorem rmB (l : Launch) (Z : State) (a0 : Array Value) (hw : ∀ d ∈ tables_1, d.before a0 Z = true) (ws : List Jvm.Cond) (x : Int32)  (h0 : Heap) (n0 : Nat) (Z0 : n0 ≤ h0.size)  :
    MetFree l (⟨"com/example/dongying/dongying/xml/XmlCharsIsCharPinLaw", "expected", "(I)Z"⟩ : MethodName) (head1 (Jvm.Cond.code (⟨"com/example/dongying/dongying/xml/XmlCharsIsCharPinLaw", "expected", "(I)Z"⟩ : MethodName) method_2_code 1 (some .boolean) :: ws) ({ frames := 0, cells := 0, slots := 0, locals := 0 } : Room)) (fun a U => a = #[(.int x)] ∧ Z.Warmed39 U.vm ∧ U.heap = h0) (fun _ _ _ _ _ => True) (fun _ U o U' => ∃ v L, o = .returned v ∧ Q_rmB x h0 n0 v U'.heap L ∧ FrameEnd U o U' L ({ frames := 0, cells := 0, slots := 0, locals := 0 } : Room).cells ({ frames := 0, cells := 0, slots := 0, locals := 0 } : Room).slots) := by
  refine MetFree.of_bodySF (plainFor_of_name pn_1) hisR ?_
  intro p e s m args below meth c s₁ Bd hml0 hP hK
  obtain ⟨rfl, hZ, hh⟩ := hP
  have hx := Bd.exec
  have hby := Bd.bytes
  have hml : c.maxLocals = 1 := hml0
  have hown : s.vm.findClass "com/example/dongying/dongying/xml/XmlCharsIsCharPinLaw" = some m.cls := findClass_of_methodNamed Bd.named
  have hnm := (name_of_methodNamed Bd.named Bd.method).1
  have hlk : meth.locks = false := by first | exact BodyLoose.notSynchronized Bd | exact Body.notSynchronized Bd
  have X0 : Stand p l e ({ frames := 0, cells := 0, slots := 0, locals := 0 } : Room) s m #[(.int x)] below meth c s₁ [] 0 0 := Stand.of_body Bd
  have e0 : s₁.heap = h0 := by rw [← hh, Bd.state]; rfl
  have N0 := Fr.nil n0
  have pre0 : ∀ t, Steps p.tables e below (s₁.setTop (mkF m 0 #[.val (.int x)] [])) t → Steps p.tables e below (s₁.setTop (entryFrame m #[(.int x)] 1)) t := fun t k => castTop (ef_rmB m x) k
  obtain ⟨fs, hr, hrun, hended, hW, hsame⟩ := X0.leave (v := some (.int (fB x))) (fun h => by rw [Bd.returns] at h; cases h) (hlocks := hlk)
  have j1 : (0 : Int32) = fB x → Steps p.tables e below (s₁.setTop (mkF m 10 #[.val (.int x)] [])) (s₁.setFrames fs) := by
    intro hq
    show Steps p.tables e below (s₁.setTop (mkF m 10 #[.val (.int x)] [])) _
    refine XS.iconst X0.here hx rfl (hb hby d2_10) ?_
    have hr1 := hr
    rw [← hq] at hr1
    exact retN X0 hx (t := .boolean) Bd.returns (by simp) (hb hby d2_11) hr1
  have j2 : (1 : Int32) = fB x → Steps p.tables e below (s₁.setTop (mkF m 36 #[.val (.int x)] [])) (s₁.setFrames fs) := by
    intro hq
    show Steps p.tables e below (s₁.setTop (mkF m 36 #[.val (.int x)] [])) _
    refine XS.iconst X0.here hx rfl (hb hby d2_36) ?_
    show Steps p.tables e below (s₁.setTop (mkF m 37 #[.val (.int x)] [(.int (1 : Int32))])) _
    refine XS.goto X0.here hx rfl (pc0 := 37) (pc' := 41) rfl (hb hby d2_37) (by decide) (by decide) ?_
    have hr1 := hr
    rw [← hq] at hr1
    exact retN X0 hx (t := .boolean) Bd.returns (by simp) (hb hby d2_41) hr1
  have j3 : (0 : Int32) = fB x → Steps p.tables e below (s₁.setTop (mkF m 68 #[.val (.int x)] [])) (s₁.setFrames fs) := by
    intro hq
    show Steps p.tables e below (s₁.setTop (mkF m 68 #[.val (.int x)] [])) _
    refine XS.iconst X0.here hx rfl (hb hby d2_68) ?_
    have hr1 := hr
    rw [← hq] at hr1
    exact retN X0 hx (t := .boolean) Bd.returns (by simp) (hb hby d2_69) hr1
  have j4 : (fB_56 x) = fB x → Steps p.tables e below (s₁.setTop (mkF m 56 #[.val (.int x)] [])) (s₁.setFrames fs) := by
    intro hq
    show Steps p.tables e below (s₁.setTop (mkF m 56 #[.val (.int x)] [])) _
    refine XS.iloadN X0.here hx rfl (hb hby d2_56) rfl ?_
    show Steps p.tables e below (s₁.setTop (mkF m 57 #[.val (.int x)] [(.int x)])) _
    refine X0.ldcInt hx hown (mvT hZ (hw _ (List.mem_of_getElem? (i := 6) rfl))) (g := (mkF m 57 #[.val (.int x)] [(.int x)])) rfl (hb hby d2_57) _ ?_
    show Steps p.tables e below (s₁.setTop (mkF m 59 #[.val (.int x)] [(.int (65534 : Int32)), (.int x)])) _
    by_cases hc59 : x = (65534 : Int32)
    · have hqhc590 : (0 : Int32) = fB x := (if_pos hc59).symm.trans hq
      refine XS.icmpYes X0.here hx rfl (pc0 := 59) (pc' := 68) rfl (hb hby d2_59) rfl (teq hc59).1 (by decide) (by decide) ?_
      exact j3 hqhc590
    · have hqhc591 : (if x = (65535 : Int32) then (0 : Int32) else (1 : Int32)) = fB x := (if_neg hc59).symm.trans hq
      refine XS.icmpNo X0.here hx rfl (hb hby d2_59) rfl (feq hc59).1 ?_
      show Steps p.tables e below (s₁.setTop (mkF m 62 #[.val (.int x)] [])) _
      refine XS.iloadN X0.here hx rfl (hb hby d2_62) rfl ?_
      show Steps p.tables e below (s₁.setTop (mkF m 63 #[.val (.int x)] [(.int x)])) _
      refine X0.ldcInt hx hown (mvT hZ (hw _ (List.mem_of_getElem? (i := 7) rfl))) (g := (mkF m 63 #[.val (.int x)] [(.int x)])) rfl (hb hby d2_63) _ ?_
      show Steps p.tables e below (s₁.setTop (mkF m 65 #[.val (.int x)] [(.int (65535 : Int32)), (.int x)])) _
      by_cases hc65 : x = (65535 : Int32)
      · have hqhc650 : (0 : Int32) = fB x := (if_pos hc65).symm.trans hqhc591
        refine XS.icmpNo X0.here hx rfl (hb hby d2_65) rfl (teq hc65).2 ?_
        exact j3 hqhc650
      · have hqhc651 : (1 : Int32) = fB x := (if_neg hc65).symm.trans hqhc591
        refine XS.icmpYes X0.here hx rfl (pc0 := 65) (pc' := 70) rfl (hb hby d2_65) rfl (feq hc65).2 (by decide) (by decide) ?_
        show Steps p.tables e below (s₁.setTop (mkF m 70 #[.val (.int x)] [])) _
        refine XS.iconst X0.here hx rfl (hb hby d2_70) ?_
        have hr1 := hr
        rw [← hqhc651] at hr1
        exact retN X0 hx (t := .boolean) Bd.returns (by simp) (hb hby d2_71) hr1
  refine ⟨_, _, pre0 _ ?_, hrun, hended, _, _, rfl, ?_, ⟨_, rfl⟩, hW, hsame.mono (by decide) (by decide)⟩
  · have hq0 : (if x < (0 : Int32) then (0 : Int32) else (if (1114111 : Int32) < x then (0 : Int32) else (if x < (32 : Int32) then (if x = (9 : Int32) then (1 : Int32) else (if x = (10 : Int32) then (1 : Int32) else (if x = (13 : Int32) then (1 : Int32) else (0 : Int32)))) else (if x < (55296 : Int32) then (fB_56 x) else (if (57343 : Int32) < x then (fB_56 x) else (0 : Int32)))))) = fB x := rfl
    show Steps p.tables e below (s₁.setTop (mkF m 0 #[.val (.int x)] [])) _
    refine XS.iloadN X0.here hx rfl (hb hby d2_0) rfl ?_
    show Steps p.tables e below (s₁.setTop (mkF m 1 #[.val (.int x)] [(.int x)])) _
    by_cases hc1 : x < (0 : Int32)
    · have hqhc10 : (0 : Int32) = fB x := (if_pos hc1).symm.trans hq0
      refine XS.ifYes X0.here hx rfl (pc0 := 1) (pc' := 10) rfl (hb hby d2_1) rfl ((if0 _ _).trans (tlt hc1).1) (by decide) (by decide) ?_
      exact j1 hqhc10
    · have hqhc11 : (if (1114111 : Int32) < x then (0 : Int32) else (if x < (32 : Int32) then (if x = (9 : Int32) then (1 : Int32) else (if x = (10 : Int32) then (1 : Int32) else (if x = (13 : Int32) then (1 : Int32) else (0 : Int32)))) else (if x < (55296 : Int32) then (fB_56 x) else (if (57343 : Int32) < x then (fB_56 x) else (0 : Int32))))) = fB x := (if_neg hc1).symm.trans hq0
      refine XS.ifNo X0.here hx rfl (hb hby d2_1) rfl ((if0 _ _).trans (flt hc1).1) ?_
      show Steps p.tables e below (s₁.setTop (mkF m 4 #[.val (.int x)] [])) _
      refine XS.iloadN X0.here hx rfl (hb hby d2_4) rfl ?_
      show Steps p.tables e below (s₁.setTop (mkF m 5 #[.val (.int x)] [(.int x)])) _
      refine X0.ldcInt hx hown (mvT hZ (hw _ (List.mem_of_getElem? (i := 9) rfl))) (g := (mkF m 5 #[.val (.int x)] [(.int x)])) rfl (hb hby d2_5) _ ?_
      show Steps p.tables e below (s₁.setTop (mkF m 7 #[.val (.int x)] [(.int (1114111 : Int32)), (.int x)])) _
      by_cases hc7 : (1114111 : Int32) < x
      · have hqhc70 : (0 : Int32) = fB x := (if_pos hc7).symm.trans hqhc11
        refine XS.icmpNo X0.here hx rfl (hb hby d2_7) rfl (tlt hc7).2.2.2 ?_
        exact j1 hqhc70
      · have hqhc71 : (if x < (32 : Int32) then (if x = (9 : Int32) then (1 : Int32) else (if x = (10 : Int32) then (1 : Int32) else (if x = (13 : Int32) then (1 : Int32) else (0 : Int32)))) else (if x < (55296 : Int32) then (fB_56 x) else (if (57343 : Int32) < x then (fB_56 x) else (0 : Int32)))) = fB x := (if_neg hc7).symm.trans hqhc11
        refine XS.icmpYes X0.here hx rfl (pc0 := 7) (pc' := 12) rfl (hb hby d2_7) rfl (flt hc7).2.2.2 (by decide) (by decide) ?_
        show Steps p.tables e below (s₁.setTop (mkF m 12 #[.val (.int x)] [])) _
        refine XS.iloadN X0.here hx rfl (hb hby d2_12) rfl ?_
        show Steps p.tables e below (s₁.setTop (mkF m 13 #[.val (.int x)] [(.int x)])) _
        refine XS.bipush X0.here hx rfl (hb hby d2_13) ?_
        show Steps p.tables e below (s₁.setTop (mkF m 15 #[.val (.int x)] [(.int (32 : Int32)), (.int x)])) _
        by_cases hc15 : x < (32 : Int32)
        · have hqhc150 : (if x = (9 : Int32) then (1 : Int32) else (if x = (10 : Int32) then (1 : Int32) else (if x = (13 : Int32) then (1 : Int32) else (0 : Int32)))) = fB x := (if_pos hc15).symm.trans hqhc71
          refine XS.icmpNo X0.here hx rfl (hb hby d2_15) rfl (tlt hc15).2.1 ?_
          show Steps p.tables e below (s₁.setTop (mkF m 18 #[.val (.int x)] [])) _
          refine XS.iloadN X0.here hx rfl (hb hby d2_18) rfl ?_
          show Steps p.tables e below (s₁.setTop (mkF m 19 #[.val (.int x)] [(.int x)])) _
          refine XS.bipush X0.here hx rfl (hb hby d2_19) ?_
          show Steps p.tables e below (s₁.setTop (mkF m 21 #[.val (.int x)] [(.int (9 : Int32)), (.int x)])) _
          by_cases hc21 : x = (9 : Int32)
          · have hqhc210 : (1 : Int32) = fB x := (if_pos hc21).symm.trans hqhc150
            refine XS.icmpYes X0.here hx rfl (pc0 := 21) (pc' := 36) rfl (hb hby d2_21) rfl (teq hc21).1 (by decide) (by decide) ?_
            exact j2 hqhc210
          · have hqhc211 : (if x = (10 : Int32) then (1 : Int32) else (if x = (13 : Int32) then (1 : Int32) else (0 : Int32))) = fB x := (if_neg hc21).symm.trans hqhc150
            refine XS.icmpNo X0.here hx rfl (hb hby d2_21) rfl (feq hc21).1 ?_
            show Steps p.tables e below (s₁.setTop (mkF m 24 #[.val (.int x)] [])) _
            refine XS.iloadN X0.here hx rfl (hb hby d2_24) rfl ?_
            show Steps p.tables e below (s₁.setTop (mkF m 25 #[.val (.int x)] [(.int x)])) _
            refine XS.bipush X0.here hx rfl (hb hby d2_25) ?_
            show Steps p.tables e below (s₁.setTop (mkF m 27 #[.val (.int x)] [(.int (10 : Int32)), (.int x)])) _
            by_cases hc27 : x = (10 : Int32)
            · have hqhc270 : (1 : Int32) = fB x := (if_pos hc27).symm.trans hqhc211
              refine XS.icmpYes X0.here hx rfl (pc0 := 27) (pc' := 36) rfl (hb hby d2_27) rfl (teq hc27).1 (by decide) (by decide) ?_
              exact j2 hqhc270
            · have hqhc271 : (if x = (13 : Int32) then (1 : Int32) else (0 : Int32)) = fB x := (if_neg hc27).symm.trans hqhc211
              refine XS.icmpNo X0.here hx rfl (hb hby d2_27) rfl (feq hc27).1 ?_
              show Steps p.tables e below (s₁.setTop (mkF m 30 #[.val (.int x)] [])) _
              refine XS.iloadN X0.here hx rfl (hb hby d2_30) rfl ?_
              show Steps p.tables e below (s₁.setTop (mkF m 31 #[.val (.int x)] [(.int x)])) _
              refine XS.bipush X0.here hx rfl (hb hby d2_31) ?_
              show Steps p.tables e below (s₁.setTop (mkF m 33 #[.val (.int x)] [(.int (13 : Int32)), (.int x)])) _
              by_cases hc33 : x = (13 : Int32)
              · have hqhc330 : (1 : Int32) = fB x := (if_pos hc33).symm.trans hqhc271
                refine XS.icmpNo X0.here hx rfl (hb hby d2_33) rfl (teq hc33).2 ?_
                exact j2 hqhc330
              · have hqhc331 : (0 : Int32) = fB x := (if_neg hc33).symm.trans hqhc271
                refine XS.icmpYes X0.here hx rfl (pc0 := 33) (pc' := 40) rfl (hb hby d2_33) rfl (feq hc33).2 (by decide) (by decide) ?_
                show Steps p.tables e below (s₁.setTop (mkF m 40 #[.val (.int x)] [])) _
                refine XS.iconst X0.here hx rfl (hb hby d2_40) ?_
                have hr1 := hr
                rw [← hqhc331] at hr1
                exact retN X0 hx (t := .boolean) Bd.returns (by simp) (hb hby d2_41) hr1
        · have hqhc151 : (if x < (55296 : Int32) then (fB_56 x) else (if (57343 : Int32) < x then (fB_56 x) else (0 : Int32))) = fB x := (if_neg hc15).symm.trans hqhc71
          refine XS.icmpYes X0.here hx rfl (pc0 := 15) (pc' := 42) rfl (hb hby d2_15) rfl (flt hc15).2.1 (by decide) (by decide) ?_
          show Steps p.tables e below (s₁.setTop (mkF m 42 #[.val (.int x)] [])) _
          refine XS.iloadN X0.here hx rfl (hb hby d2_42) rfl ?_
          show Steps p.tables e below (s₁.setTop (mkF m 43 #[.val (.int x)] [(.int x)])) _
          refine X0.ldcInt hx hown (mvT hZ (hw _ (List.mem_of_getElem? (i := 2) rfl))) (g := (mkF m 43 #[.val (.int x)] [(.int x)])) rfl (hb hby d2_43) _ ?_
          show Steps p.tables e below (s₁.setTop (mkF m 45 #[.val (.int x)] [(.int (55296 : Int32)), (.int x)])) _
          by_cases hc45 : x < (55296 : Int32)
          · have hqhc450 : (fB_56 x) = fB x := (if_pos hc45).symm.trans hqhc151
            refine XS.icmpYes X0.here hx rfl (pc0 := 45) (pc' := 56) rfl (hb hby d2_45) rfl (tlt hc45).1 (by decide) (by decide) ?_
            exact j4 hqhc450
          · have hqhc451 : (if (57343 : Int32) < x then (fB_56 x) else (0 : Int32)) = fB x := (if_neg hc45).symm.trans hqhc151
            refine XS.icmpNo X0.here hx rfl (hb hby d2_45) rfl (flt hc45).1 ?_
            show Steps p.tables e below (s₁.setTop (mkF m 48 #[.val (.int x)] [])) _
            refine XS.iloadN X0.here hx rfl (hb hby d2_48) rfl ?_
            show Steps p.tables e below (s₁.setTop (mkF m 49 #[.val (.int x)] [(.int x)])) _
            refine X0.ldcInt hx hown (mvT hZ (hw _ (List.mem_of_getElem? (i := 3) rfl))) (g := (mkF m 49 #[.val (.int x)] [(.int x)])) rfl (hb hby d2_49) _ ?_
            show Steps p.tables e below (s₁.setTop (mkF m 51 #[.val (.int x)] [(.int (57343 : Int32)), (.int x)])) _
            by_cases hc51 : (57343 : Int32) < x
            · have hqhc510 : (fB_56 x) = fB x := (if_pos hc51).symm.trans hqhc451
              refine XS.icmpYes X0.here hx rfl (pc0 := 51) (pc' := 56) rfl (hb hby d2_51) rfl (tlt hc51).2.2.1 (by decide) (by decide) ?_
              exact j4 hqhc510
            · have hqhc511 : (0 : Int32) = fB x := (if_neg hc51).symm.trans hqhc451
              refine XS.icmpNo X0.here hx rfl (hb hby d2_51) rfl (flt hc51).2.2.1 ?_
              show Steps p.tables e below (s₁.setTop (mkF m 54 #[.val (.int x)] [])) _
              refine XS.iconst X0.here hx rfl (hb hby d2_54) ?_
              have hr1 := hr
              rw [← hqhc511] at hr1
              exact retN X0 hx (t := .boolean) Bd.returns (by simp) (hb hby d2_55) hr1
  · show Q_rmB x h0 n0 _ s₁.heap _
    rw [e0]
    exact ⟨rfl, N0, rfl⟩
theorem own_nlt {x c : Int32} {k : Int} (hk : c.toInt = k) (h : k ≤ x.toInt) : ¬ (x < c) := by rw [Int32.lt_iff_toInt_lt]; omega
theorem own_lt {x c : Int32} {k : Int} (hk : c.toInt = k) (h : x.toInt < k) : x < c := by rw [Int32.lt_iff_toInt_lt]; omega
theorem own_ngt {x c : Int32} {k : Int} (hk : c.toInt = k) (h : x.toInt ≤ k) : ¬ (c < x) := by rw [Int32.lt_iff_toInt_lt]; omega
theorem own_gt {x c : Int32} {k : Int} (hk : c.toInt = k) (h : k < x.toInt) : c < x := by rw [Int32.lt_iff_toInt_lt]; omega
theorem own_ne {x c : Int32} {k : Int} (hk : c.toInt = k) (h : x.toInt ≠ k) : ¬ (x = c) := fun q => h (q ▸ hk)
theorem own_eq {x c : Int32} {k : Int} (hk : c.toInt = k) (h : x.toInt = k) : x = c := Int32.toInt_inj.mp (h.trans hk.symm)
theorem own_law (x : Int32) : fA x = fB x := by
  have b0 := x.le_toInt
  have b1 := x.toInt_lt
  by_cases c0 : x.toInt ≤ -1
  · rw [fA, if_pos (own_lt (c := 32) (k := 32) rfl (by omega)), fA_12, if_neg (own_ne (c := 9) (k := 9) rfl (by omega)), if_neg (own_ne (c := 10) (k := 10) rfl (by omega)), if_neg (own_ne (c := 13) (k := 13) rfl (by omega)), if_pos (own_lt (c := 57344) (k := 57344) rfl (by omega)), fA_42, if_pos (own_lt (c := 65536) (k := 65536) rfl (by omega)), fB, if_pos (own_lt (c := 0) (k := 0) rfl (by omega))]
  by_cases c1 : x.toInt ≤ 8
  · rw [fA, if_pos (own_lt (c := 32) (k := 32) rfl (by omega)), fA_12, if_neg (own_ne (c := 9) (k := 9) rfl (by omega)), if_neg (own_ne (c := 10) (k := 10) rfl (by omega)), if_neg (own_ne (c := 13) (k := 13) rfl (by omega)), if_pos (own_lt (c := 57344) (k := 57344) rfl (by omega)), fA_42, if_pos (own_lt (c := 65536) (k := 65536) rfl (by omega)), fB, if_neg (own_nlt (c := 0) (k := 0) rfl (by omega)), if_neg (own_ngt (c := 1114111) (k := 1114111) rfl (by omega)), if_pos (own_lt (c := 32) (k := 32) rfl (by omega)), if_neg (own_ne (c := 9) (k := 9) rfl (by omega)), if_neg (own_ne (c := 10) (k := 10) rfl (by omega)), if_neg (own_ne (c := 13) (k := 13) rfl (by omega))]
  by_cases c2 : x.toInt ≤ 9
  · rw [fA, if_pos (own_lt (c := 32) (k := 32) rfl (by omega)), fA_12, if_pos (own_eq (c := 9) (k := 9) rfl (by omega)), fB, if_neg (own_nlt (c := 0) (k := 0) rfl (by omega)), if_neg (own_ngt (c := 1114111) (k := 1114111) rfl (by omega)), if_pos (own_lt (c := 32) (k := 32) rfl (by omega)), if_pos (own_eq (c := 9) (k := 9) rfl (by omega))]
  by_cases c3 : x.toInt ≤ 10
  · rw [fA, if_pos (own_lt (c := 32) (k := 32) rfl (by omega)), fA_12, if_neg (own_ne (c := 9) (k := 9) rfl (by omega)), if_pos (own_eq (c := 10) (k := 10) rfl (by omega)), fB, if_neg (own_nlt (c := 0) (k := 0) rfl (by omega)), if_neg (own_ngt (c := 1114111) (k := 1114111) rfl (by omega)), if_pos (own_lt (c := 32) (k := 32) rfl (by omega)), if_neg (own_ne (c := 9) (k := 9) rfl (by omega)), if_pos (own_eq (c := 10) (k := 10) rfl (by omega))]
  by_cases c4 : x.toInt ≤ 12
  · rw [fA, if_pos (own_lt (c := 32) (k := 32) rfl (by omega)), fA_12, if_neg (own_ne (c := 9) (k := 9) rfl (by omega)), if_neg (own_ne (c := 10) (k := 10) rfl (by omega)), if_neg (own_ne (c := 13) (k := 13) rfl (by omega)), if_pos (own_lt (c := 57344) (k := 57344) rfl (by omega)), fA_42, if_pos (own_lt (c := 65536) (k := 65536) rfl (by omega)), fB, if_neg (own_nlt (c := 0) (k := 0) rfl (by omega)), if_neg (own_ngt (c := 1114111) (k := 1114111) rfl (by omega)), if_pos (own_lt (c := 32) (k := 32) rfl (by omega)), if_neg (own_ne (c := 9) (k := 9) rfl (by omega)), if_neg (own_ne (c := 10) (k := 10) rfl (by omega)), if_neg (own_ne (c := 13) (k := 13) rfl (by omega))]
  by_cases c5 : x.toInt ≤ 13
  · rw [fA, if_pos (own_lt (c := 32) (k := 32) rfl (by omega)), fA_12, if_neg (own_ne (c := 9) (k := 9) rfl (by omega)), if_neg (own_ne (c := 10) (k := 10) rfl (by omega)), if_pos (own_eq (c := 13) (k := 13) rfl (by omega)), fB, if_neg (own_nlt (c := 0) (k := 0) rfl (by omega)), if_neg (own_ngt (c := 1114111) (k := 1114111) rfl (by omega)), if_pos (own_lt (c := 32) (k := 32) rfl (by omega)), if_neg (own_ne (c := 9) (k := 9) rfl (by omega)), if_neg (own_ne (c := 10) (k := 10) rfl (by omega)), if_pos (own_eq (c := 13) (k := 13) rfl (by omega))]
  by_cases c6 : x.toInt ≤ 31
  · rw [fA, if_pos (own_lt (c := 32) (k := 32) rfl (by omega)), fA_12, if_neg (own_ne (c := 9) (k := 9) rfl (by omega)), if_neg (own_ne (c := 10) (k := 10) rfl (by omega)), if_neg (own_ne (c := 13) (k := 13) rfl (by omega)), if_pos (own_lt (c := 57344) (k := 57344) rfl (by omega)), fA_42, if_pos (own_lt (c := 65536) (k := 65536) rfl (by omega)), fB, if_neg (own_nlt (c := 0) (k := 0) rfl (by omega)), if_neg (own_ngt (c := 1114111) (k := 1114111) rfl (by omega)), if_pos (own_lt (c := 32) (k := 32) rfl (by omega)), if_neg (own_ne (c := 9) (k := 9) rfl (by omega)), if_neg (own_ne (c := 10) (k := 10) rfl (by omega)), if_neg (own_ne (c := 13) (k := 13) rfl (by omega))]
  by_cases c7 : x.toInt ≤ 55295
  · rw [fA, if_neg (own_nlt (c := 32) (k := 32) rfl (by omega)), if_neg (own_ngt (c := 55295) (k := 55295) rfl (by omega)), fB, if_neg (own_nlt (c := 0) (k := 0) rfl (by omega)), if_neg (own_ngt (c := 1114111) (k := 1114111) rfl (by omega)), if_neg (own_nlt (c := 32) (k := 32) rfl (by omega)), if_pos (own_lt (c := 55296) (k := 55296) rfl (by omega)), fB_56, if_neg (own_ne (c := 65534) (k := 65534) rfl (by omega)), if_neg (own_ne (c := 65535) (k := 65535) rfl (by omega))]
  by_cases c8 : x.toInt ≤ 57343
  · rw [fA, if_neg (own_nlt (c := 32) (k := 32) rfl (by omega)), if_pos (own_gt (c := 55295) (k := 55295) rfl (by omega)), fA_12, if_neg (own_ne (c := 9) (k := 9) rfl (by omega)), if_neg (own_ne (c := 10) (k := 10) rfl (by omega)), if_neg (own_ne (c := 13) (k := 13) rfl (by omega)), if_pos (own_lt (c := 57344) (k := 57344) rfl (by omega)), fA_42, if_pos (own_lt (c := 65536) (k := 65536) rfl (by omega)), fB, if_neg (own_nlt (c := 0) (k := 0) rfl (by omega)), if_neg (own_ngt (c := 1114111) (k := 1114111) rfl (by omega)), if_neg (own_nlt (c := 32) (k := 32) rfl (by omega)), if_neg (own_nlt (c := 55296) (k := 55296) rfl (by omega)), if_neg (own_ngt (c := 57343) (k := 57343) rfl (by omega))]
  by_cases c9 : x.toInt ≤ 65533
  · rw [fA, if_neg (own_nlt (c := 32) (k := 32) rfl (by omega)), if_pos (own_gt (c := 55295) (k := 55295) rfl (by omega)), fA_12, if_neg (own_ne (c := 9) (k := 9) rfl (by omega)), if_neg (own_ne (c := 10) (k := 10) rfl (by omega)), if_neg (own_ne (c := 13) (k := 13) rfl (by omega)), if_neg (own_nlt (c := 57344) (k := 57344) rfl (by omega)), if_neg (own_ngt (c := 65533) (k := 65533) rfl (by omega)), fB, if_neg (own_nlt (c := 0) (k := 0) rfl (by omega)), if_neg (own_ngt (c := 1114111) (k := 1114111) rfl (by omega)), if_neg (own_nlt (c := 32) (k := 32) rfl (by omega)), if_neg (own_nlt (c := 55296) (k := 55296) rfl (by omega)), if_pos (own_gt (c := 57343) (k := 57343) rfl (by omega)), fB_56, if_neg (own_ne (c := 65534) (k := 65534) rfl (by omega)), if_neg (own_ne (c := 65535) (k := 65535) rfl (by omega))]
  by_cases c10 : x.toInt ≤ 65534
  · rw [fA, if_neg (own_nlt (c := 32) (k := 32) rfl (by omega)), if_pos (own_gt (c := 55295) (k := 55295) rfl (by omega)), fA_12, if_neg (own_ne (c := 9) (k := 9) rfl (by omega)), if_neg (own_ne (c := 10) (k := 10) rfl (by omega)), if_neg (own_ne (c := 13) (k := 13) rfl (by omega)), if_neg (own_nlt (c := 57344) (k := 57344) rfl (by omega)), if_pos (own_gt (c := 65533) (k := 65533) rfl (by omega)), fA_42, if_pos (own_lt (c := 65536) (k := 65536) rfl (by omega)), fB, if_neg (own_nlt (c := 0) (k := 0) rfl (by omega)), if_neg (own_ngt (c := 1114111) (k := 1114111) rfl (by omega)), if_neg (own_nlt (c := 32) (k := 32) rfl (by omega)), if_neg (own_nlt (c := 55296) (k := 55296) rfl (by omega)), if_pos (own_gt (c := 57343) (k := 57343) rfl (by omega)), fB_56, if_pos (own_eq (c := 65534) (k := 65534) rfl (by omega))]
  by_cases c11 : x.toInt ≤ 65535
  · rw [fA, if_neg (own_nlt (c := 32) (k := 32) rfl (by omega)), if_pos (own_gt (c := 55295) (k := 55295) rfl (by omega)), fA_12, if_neg (own_ne (c := 9) (k := 9) rfl (by omega)), if_neg (own_ne (c := 10) (k := 10) rfl (by omega)), if_neg (own_ne (c := 13) (k := 13) rfl (by omega)), if_neg (own_nlt (c := 57344) (k := 57344) rfl (by omega)), if_pos (own_gt (c := 65533) (k := 65533) rfl (by omega)), fA_42, if_pos (own_lt (c := 65536) (k := 65536) rfl (by omega)), fB, if_neg (own_nlt (c := 0) (k := 0) rfl (by omega)), if_neg (own_ngt (c := 1114111) (k := 1114111) rfl (by omega)), if_neg (own_nlt (c := 32) (k := 32) rfl (by omega)), if_neg (own_nlt (c := 55296) (k := 55296) rfl (by omega)), if_pos (own_gt (c := 57343) (k := 57343) rfl (by omega)), fB_56, if_neg (own_ne (c := 65534) (k := 65534) rfl (by omega)), if_pos (own_eq (c := 65535) (k := 65535) rfl (by omega))]
  by_cases c12 : x.toInt ≤ 1114111
  · rw [fA, if_neg (own_nlt (c := 32) (k := 32) rfl (by omega)), if_pos (own_gt (c := 55295) (k := 55295) rfl (by omega)), fA_12, if_neg (own_ne (c := 9) (k := 9) rfl (by omega)), if_neg (own_ne (c := 10) (k := 10) rfl (by omega)), if_neg (own_ne (c := 13) (k := 13) rfl (by omega)), if_neg (own_nlt (c := 57344) (k := 57344) rfl (by omega)), if_pos (own_gt (c := 65533) (k := 65533) rfl (by omega)), fA_42, if_neg (own_nlt (c := 65536) (k := 65536) rfl (by omega)), if_neg (own_ngt (c := 1114111) (k := 1114111) rfl (by omega)), fB, if_neg (own_nlt (c := 0) (k := 0) rfl (by omega)), if_neg (own_ngt (c := 1114111) (k := 1114111) rfl (by omega)), if_neg (own_nlt (c := 32) (k := 32) rfl (by omega)), if_neg (own_nlt (c := 55296) (k := 55296) rfl (by omega)), if_pos (own_gt (c := 57343) (k := 57343) rfl (by omega)), fB_56, if_neg (own_ne (c := 65534) (k := 65534) rfl (by omega)), if_neg (own_ne (c := 65535) (k := 65535) rfl (by omega))]
  rw [fA, if_neg (own_nlt (c := 32) (k := 32) rfl (by omega)), if_pos (own_gt (c := 55295) (k := 55295) rfl (by omega)), fA_12, if_neg (own_ne (c := 9) (k := 9) rfl (by omega)), if_neg (own_ne (c := 10) (k := 10) rfl (by omega)), if_neg (own_ne (c := 13) (k := 13) rfl (by omega)), if_neg (own_nlt (c := 57344) (k := 57344) rfl (by omega)), if_pos (own_gt (c := 65533) (k := 65533) rfl (by omega)), fA_42, if_neg (own_nlt (c := 65536) (k := 65536) rfl (by omega)), if_pos (own_gt (c := 1114111) (k := 1114111) rfl (by omega)), fB, if_neg (own_nlt (c := 0) (k := 0) rfl (by omega)), if_pos (own_gt (c := 1114111) (k := 1114111) rfl (by omega))]
def Q0 (Z : State) (p1 p2 : Int32) (h0 : Heap) (n0 : Nat) (v : Option Value) (h : Heap) (L : List Loc) : Prop := v = some (.int 1) ∧ Fr n0 L
theorem own_idx (y : Int32) : ¬ ((y &&& (2147483647 : Int32)) % (24 : Int32)) < 0 ∧ ((y &&& (2147483647 : Int32)) % (24 : Int32)) < (24 : Int32) := by
  have e := Jvm.Kit.i32_mask y 2147483647 (k := 31) (by decide) (by decide)
  have e3 := Jvm.Kit.i32_rem_nonneg (x := y &&& (2147483647 : Int32)) (y := 24) (by omega)
  rw [Int32.lt_iff_toInt_lt, Int32.lt_iff_toInt_lt]
  have e0 : (0 : Int32).toInt = 0 := rfl
  have e1 : (24 : Int32).toInt = 24 := rfl
  rw [e1] at e3
  omega
theorem pd_0 : parseMethodDescriptor "(I)Z" = some ⟨[.int], some .boolean⟩ := by decide +kernel
theorem ef_rm0 (m : MethodId) (x0 : Int32) (x1 : Int32) : entryFrame m #[(.int x0), (.int x1)] maxLocals = mkF m 0 #[.val (.int x0), .val (.int x1), .unset, .unset, .unset, .unset, .unset, .unset] [] := by first | (simp [entryFrame, mkF, argsToLocals, Value.category, maxLocals]; done) | rfl
set_option maxRecDepth 65536 in
set_option maxHeartbeats 40000000 in
theorem rm0 (l : Launch) (Z : State) (a0 : Array Value) (hw : ∀ d ∈ tables_1, d.before a0 Z = true) (ws : List Jvm.Cond) (p1 : Int32) (p2 : Int32)  (h0 : Heap) (n0 : Nat) (Z0 : n0 ≤ h0.size)  :
    MetFree l x (head1 (Jvm.Cond.code x code maxLocals ret :: ws) room_1) (fun a U => a = #[(.int p1), (.int p2)] ∧ Z.Warmed39 U.vm ∧ U.heap = h0) (fun _ _ _ _ _ => True) (fun _ U o U' => ∃ v L, o = .returned v ∧ Q0 Z p1 p2 h0 n0 v U'.heap L ∧ FrameEnd U o U' L 16 128) := by
  refine MetFree.of_bodySF (plainFor_of_name pn_1) hisR ?_
  intro p e s m args below meth c s₁ Bd hml0 hP hK
  obtain ⟨rfl, hZ, hh⟩ := hP
  have hx := Bd.exec
  have hby := Bd.bytes
  have hml : c.maxLocals = 8 := hml0
  have hown : s.vm.findClass "com/example/dongying/dongying/xml/XmlCharsIsCharPinLaw" = some m.cls := findClass_of_methodNamed Bd.named
  have hnm := (name_of_methodNamed Bd.named Bd.method).1
  have hlk : meth.locks = false := by first | exact BodyLoose.notSynchronized Bd | exact Body.notSynchronized Bd
  have X0 : Stand p l e room_1 s m #[(.int p1), (.int p2)] below meth c s₁ [] 0 0 := Stand.of_body Bd
  have e0 : s₁.heap = h0 := by rw [← hh, Bd.state]; rfl
  have N0 := Fr.nil n0
  have pre0 : ∀ t, Steps p.tables e below (s₁.setTop (mkF m 0 #[.val (.int p1), .val (.int p2), .unset, .unset, .unset, .unset, .unset, .unset] [])) t → Steps p.tables e below (s₁.setTop (entryFrame m #[(.int p1), (.int p2)] maxLocals)) t := fun t k => castTop (ef_rm0 m p1 p2) k
  have sg1 : ∀ t, Steps p.tables e below (s₁.setTop (mkF m 2 #[.val (.int p1), .val (.int p2), .unset, .unset, .unset, .unset, .unset, .unset] [(.int (24 : Int32))])) t → Steps p.tables e below (s₁.setTop (mkF m 0 #[.val (.int p1), .val (.int p2), .unset, .unset, .unset, .unset, .unset, .unset] [])) t := by
    intro t k
    show Steps p.tables e below (s₁.setTop (mkF m 0 #[.val (.int p1), .val (.int p2), .unset, .unset, .unset, .unset, .unset, .unset] [])) _
    refine XS.bipush X0.here hx rfl (hb hby at_0) ?_
    exact k
  obtain ⟨T2, h2, k2, X2, e2, E2, A2, st2⟩ := newP X0 hx hZ (hw _ (List.mem_of_getElem? (i := 0) rfl)) e0 (g := (mkF m 2 #[.val (.int p1), .val (.int p2), .unset, .unset, .unset, .unset, .unset, .unset] [(.int (24 : Int32))])) rfl (hb hby at_2) rfl (by decide) (cap := 24) (by decide) (by decide) (by decide) (by decide)
  obtain ⟨b2, g2⟩ : ∃ z, z = h0.size := ⟨_, rfl⟩
  rw [← g2] at A2 st2
  have gn_b2 : n0 ≤ b2 := Nat.le_trans Z0 (Nat.le_of_eq g2.symm)
  have z3 : n0 ≤ h2.size := Nat.le_trans Z0 E2.1
  have f4 : Arv Z h2 b2 k2 .int (24 : Int32) [(.int (0 : Int32)), (.int (0 : Int32)), (.int (0 : Int32)), (.int (0 : Int32)), (.int (0 : Int32)), (.int (0 : Int32)), (.int (0 : Int32)), (.int (0 : Int32)), (.int (0 : Int32)), (.int (0 : Int32)), (.int (0 : Int32)), (.int (0 : Int32)), (.int (0 : Int32)), (.int (0 : Int32)), (.int (0 : Int32)), (.int (0 : Int32)), (.int (0 : Int32)), (.int (0 : Int32)), (.int (0 : Int32)), (.int (0 : Int32)), (.int (0 : Int32)), (.int (0 : Int32)), (.int (0 : Int32)), (.int (0 : Int32))] (.int (0 : Int32)) := (Arv.new A2 (by decide)).pad (pad_rep [] (.int (0 : Int32)) 24)
  have sg5 : ∀ t, Steps p.tables e below (T2.setTop (mkF m 7 #[.val (.int p1), .val (.int p2), .unset, .unset, .unset, .unset, .unset, .unset] [(.int (0 : Int32)), (.int (0 : Int32)), (.ref b2), (.ref b2)])) t → Steps p.tables e below (T2.setTop (mkF m 4 #[.val (.int p1), .val (.int p2), .unset, .unset, .unset, .unset, .unset, .unset] [(.ref b2)])) t := by
    intro t k
    show Steps p.tables e below (T2.setTop (mkF m 4 #[.val (.int p1), .val (.int p2), .unset, .unset, .unset, .unset, .unset, .unset] [(.ref b2)])) _
    refine XS.dup X2.here hx rfl (hb hby at_4) rfl rfl ?_
    show Steps p.tables e below (T2.setTop (mkF m 5 #[.val (.int p1), .val (.int p2), .unset, .unset, .unset, .unset, .unset, .unset] [(.ref b2), (.ref b2)])) _
    refine XS.iconst X2.here hx rfl (hb hby at_5) ?_
    show Steps p.tables e below (T2.setTop (mkF m 6 #[.val (.int p1), .val (.int p2), .unset, .unset, .unset, .unset, .unset, .unset] [(.int (0 : Int32)), (.ref b2), (.ref b2)])) _
    refine XS.iconst X2.here hx rfl (hb hby at_6) ?_
    exact k
  obtain ⟨cl6, Ar6, q6, Sz6, Nn6, Hs6, G6⟩ := id f4
  have hin6 : ¬ ((0 : Int32) < 0 ∨ cl6.slots.size ≤ ((0 : Int32)).toNatClampNeg) := inb_of Sz6 ⟨by decide, by decide⟩
  obtain ⟨T6, h6, X6, e6, W6, st6⟩ := stI X2 hx hZ e2 Ar6 (j := (0 : Int32)) hin6 (g := (mkF m 7 #[.val (.int p1), .val (.int p2), .unset, .unset, .unset, .unset, .unset, .unset] [(.int (0 : Int32)), (.int (0 : Int32)), (.ref b2), (.ref b2)])) rfl rfl (hb hby at_7)
  have V6 : Arv Z h6 b2 k2 .int (24 : Int32) [(.int (0 : Int32)), (.int (0 : Int32)), (.int (0 : Int32)), (.int (0 : Int32)), (.int (0 : Int32)), (.int (0 : Int32)), (.int (0 : Int32)), (.int (0 : Int32)), (.int (0 : Int32)), (.int (0 : Int32)), (.int (0 : Int32)), (.int (0 : Int32)), (.int (0 : Int32)), (.int (0 : Int32)), (.int (0 : Int32)), (.int (0 : Int32)), (.int (0 : Int32)), (.int (0 : Int32)), (.int (0 : Int32)), (.int (0 : Int32)), (.int (0 : Int32)), (.int (0 : Int32)), (.int (0 : Int32)), (.int (0 : Int32))] (.int (0 : Int32)) := Arv.set Ar6 q6 Sz6 Nn6 Hs6 G6 rfl W6 0 rfl (Nat.le_of_ble_eq_true rfl)
  have N6 := Fr.snoc X6 N0 gn_b2
  have z7 : n0 ≤ h6.size := Nat.le_trans z3 (Keep.of_wr W6).1
  have sg8 : ∀ t, Steps p.tables e below (T6.setTop (mkF m 12 #[.val (.int p1), .val (.int p2), .unset, .unset, .unset, .unset, .unset, .unset] [(.int (8 : Int32)), (.int (1 : Int32)), (.ref b2), (.ref b2)])) t → Steps p.tables e below (T6.setTop (mkF m 8 #[.val (.int p1), .val (.int p2), .unset, .unset, .unset, .unset, .unset, .unset] [(.ref b2)])) t := by
    intro t k
    show Steps p.tables e below (T6.setTop (mkF m 8 #[.val (.int p1), .val (.int p2), .unset, .unset, .unset, .unset, .unset, .unset] [(.ref b2)])) _
    refine XS.dup X6.here hx rfl (hb hby at_8) rfl rfl ?_
    show Steps p.tables e below (T6.setTop (mkF m 9 #[.val (.int p1), .val (.int p2), .unset, .unset, .unset, .unset, .unset, .unset] [(.ref b2), (.ref b2)])) _
    refine XS.iconst X6.here hx rfl (hb hby at_9) ?_
    show Steps p.tables e below (T6.setTop (mkF m 10 #[.val (.int p1), .val (.int p2), .unset, .unset, .unset, .unset, .unset, .unset] [(.int (1 : Int32)), (.ref b2), (.ref b2)])) _
    refine XS.bipush X6.here hx rfl (hb hby at_10) ?_
    exact k
  obtain ⟨cl9, Ar9, q9, Sz9, Nn9, Hs9, G9⟩ := id V6
  have hin9 : ¬ ((1 : Int32) < 0 ∨ cl9.slots.size ≤ ((1 : Int32)).toNatClampNeg) := inb_of Sz9 ⟨by decide, by decide⟩
  obtain ⟨T9, h9, X9, e9, W9, st9⟩ := stI X6 hx hZ e6 Ar9 (j := (1 : Int32)) hin9 (g := (mkF m 12 #[.val (.int p1), .val (.int p2), .unset, .unset, .unset, .unset, .unset, .unset] [(.int (8 : Int32)), (.int (1 : Int32)), (.ref b2), (.ref b2)])) rfl rfl (hb hby at_12)
  have V9 : Arv Z h9 b2 k2 .int (24 : Int32) [(.int (0 : Int32)), (.int (8 : Int32)), (.int (0 : Int32)), (.int (0 : Int32)), (.int (0 : Int32)), (.int (0 : Int32)), (.int (0 : Int32)), (.int (0 : Int32)), (.int (0 : Int32)), (.int (0 : Int32)), (.int (0 : Int32)), (.int (0 : Int32)), (.int (0 : Int32)), (.int (0 : Int32)), (.int (0 : Int32)), (.int (0 : Int32)), (.int (0 : Int32)), (.int (0 : Int32)), (.int (0 : Int32)), (.int (0 : Int32)), (.int (0 : Int32)), (.int (0 : Int32)), (.int (0 : Int32)), (.int (0 : Int32))] (.int (0 : Int32)) := Arv.set Ar9 q9 Sz9 Nn9 Hs9 G9 rfl W9 1 rfl (Nat.le_of_ble_eq_true rfl)
  have N9 := Fr.snoc X9 N6 gn_b2
  have z10 : n0 ≤ h9.size := Nat.le_trans z7 (Keep.of_wr W9).1
  have sg11 : ∀ t, Steps p.tables e below (T9.setTop (mkF m 17 #[.val (.int p1), .val (.int p2), .unset, .unset, .unset, .unset, .unset, .unset] [(.int (9 : Int32)), (.int (2 : Int32)), (.ref b2), (.ref b2)])) t → Steps p.tables e below (T9.setTop (mkF m 13 #[.val (.int p1), .val (.int p2), .unset, .unset, .unset, .unset, .unset, .unset] [(.ref b2)])) t := by
    intro t k
    show Steps p.tables e below (T9.setTop (mkF m 13 #[.val (.int p1), .val (.int p2), .unset, .unset, .unset, .unset, .unset, .unset] [(.ref b2)])) _
    refine XS.dup X9.here hx rfl (hb hby at_13) rfl rfl ?_
    show Steps p.tables e below (T9.setTop (mkF m 14 #[.val (.int p1), .val (.int p2), .unset, .unset, .unset, .unset, .unset, .unset] [(.ref b2), (.ref b2)])) _
    refine XS.iconst X9.here hx rfl (hb hby at_14) ?_
    show Steps p.tables e below (T9.setTop (mkF m 15 #[.val (.int p1), .val (.int p2), .unset, .unset, .unset, .unset, .unset, .unset] [(.int (2 : Int32)), (.ref b2), (.ref b2)])) _
    refine XS.bipush X9.here hx rfl (hb hby at_15) ?_
    exact k
  obtain ⟨cl12, Ar12, q12, Sz12, Nn12, Hs12, G12⟩ := id V9
  have hin12 : ¬ ((2 : Int32) < 0 ∨ cl12.slots.size ≤ ((2 : Int32)).toNatClampNeg) := inb_of Sz12 ⟨by decide, by decide⟩
  obtain ⟨T12, h12, X12, e12, W12, st12⟩ := stI X9 hx hZ e9 Ar12 (j := (2 : Int32)) hin12 (g := (mkF m 17 #[.val (.int p1), .val (.int p2), .unset, .unset, .unset, .unset, .unset, .unset] [(.int (9 : Int32)), (.int (2 : Int32)), (.ref b2), (.ref b2)])) rfl rfl (hb hby at_17)
  have V12 : Arv Z h12 b2 k2 .int (24 : Int32) [(.int (0 : Int32)), (.int (8 : Int32)), (.int (9 : Int32)), (.int (0 : Int32)), (.int (0 : Int32)), (.int (0 : Int32)), (.int (0 : Int32)), (.int (0 : Int32)), (.int (0 : Int32)), (.int (0 : Int32)), (.int (0 : Int32)), (.int (0 : Int32)), (.int (0 : Int32)), (.int (0 : Int32)), (.int (0 : Int32)), (.int (0 : Int32)), (.int (0 : Int32)), (.int (0 : Int32)), (.int (0 : Int32)), (.int (0 : Int32)), (.int (0 : Int32)), (.int (0 : Int32)), (.int (0 : Int32)), (.int (0 : Int32))] (.int (0 : Int32)) := Arv.set Ar12 q12 Sz12 Nn12 Hs12 G12 rfl W12 2 rfl (Nat.le_of_ble_eq_true rfl)
  have N12 := Fr.snoc X12 N9 gn_b2
  have z13 : n0 ≤ h12.size := Nat.le_trans z10 (Keep.of_wr W12).1
  have sg14 : ∀ t, Steps p.tables e below (T12.setTop (mkF m 22 #[.val (.int p1), .val (.int p2), .unset, .unset, .unset, .unset, .unset, .unset] [(.int (10 : Int32)), (.int (3 : Int32)), (.ref b2), (.ref b2)])) t → Steps p.tables e below (T12.setTop (mkF m 18 #[.val (.int p1), .val (.int p2), .unset, .unset, .unset, .unset, .unset, .unset] [(.ref b2)])) t := by
    intro t k
    show Steps p.tables e below (T12.setTop (mkF m 18 #[.val (.int p1), .val (.int p2), .unset, .unset, .unset, .unset, .unset, .unset] [(.ref b2)])) _
    refine XS.dup X12.here hx rfl (hb hby at_18) rfl rfl ?_
    show Steps p.tables e below (T12.setTop (mkF m 19 #[.val (.int p1), .val (.int p2), .unset, .unset, .unset, .unset, .unset, .unset] [(.ref b2), (.ref b2)])) _
    refine XS.iconst X12.here hx rfl (hb hby at_19) ?_
    show Steps p.tables e below (T12.setTop (mkF m 20 #[.val (.int p1), .val (.int p2), .unset, .unset, .unset, .unset, .unset, .unset] [(.int (3 : Int32)), (.ref b2), (.ref b2)])) _
    refine XS.bipush X12.here hx rfl (hb hby at_20) ?_
    exact k
  obtain ⟨cl15, Ar15, q15, Sz15, Nn15, Hs15, G15⟩ := id V12
  have hin15 : ¬ ((3 : Int32) < 0 ∨ cl15.slots.size ≤ ((3 : Int32)).toNatClampNeg) := inb_of Sz15 ⟨by decide, by decide⟩
  obtain ⟨T15, h15, X15, e15, W15, st15⟩ := stI X12 hx hZ e12 Ar15 (j := (3 : Int32)) hin15 (g := (mkF m 22 #[.val (.int p1), .val (.int p2), .unset, .unset, .unset, .unset, .unset, .unset] [(.int (10 : Int32)), (.int (3 : Int32)), (.ref b2), (.ref b2)])) rfl rfl (hb hby at_22)
  have V15 : Arv Z h15 b2 k2 .int (24 : Int32) [(.int (0 : Int32)), (.int (8 : Int32)), (.int (9 : Int32)), (.int (10 : Int32)), (.int (0 : Int32)), (.int (0 : Int32)), (.int (0 : Int32)), (.int (0 : Int32)), (.int (0 : Int32)), (.int (0 : Int32)), (.int (0 : Int32)), (.int (0 : Int32)), (.int (0 : Int32)), (.int (0 : Int32)), (.int (0 : Int32)), (.int (0 : Int32)), (.int (0 : Int32)), (.int (0 : Int32)), (.int (0 : Int32)), (.int (0 : Int32)), (.int (0 : Int32)), (.int (0 : Int32)), (.int (0 : Int32)), (.int (0 : Int32))] (.int (0 : Int32)) := Arv.set Ar15 q15 Sz15 Nn15 Hs15 G15 rfl W15 3 rfl (Nat.le_of_ble_eq_true rfl)
  have N15 := Fr.snoc X15 N12 gn_b2
  have z16 : n0 ≤ h15.size := Nat.le_trans z13 (Keep.of_wr W15).1
  have sg17 : ∀ t, Steps p.tables e below (T15.setTop (mkF m 27 #[.val (.int p1), .val (.int p2), .unset, .unset, .unset, .unset, .unset, .unset] [(.int (11 : Int32)), (.int (4 : Int32)), (.ref b2), (.ref b2)])) t → Steps p.tables e below (T15.setTop (mkF m 23 #[.val (.int p1), .val (.int p2), .unset, .unset, .unset, .unset, .unset, .unset] [(.ref b2)])) t := by
    intro t k
    show Steps p.tables e below (T15.setTop (mkF m 23 #[.val (.int p1), .val (.int p2), .unset, .unset, .unset, .unset, .unset, .unset] [(.ref b2)])) _
    refine XS.dup X15.here hx rfl (hb hby at_23) rfl rfl ?_
    show Steps p.tables e below (T15.setTop (mkF m 24 #[.val (.int p1), .val (.int p2), .unset, .unset, .unset, .unset, .unset, .unset] [(.ref b2), (.ref b2)])) _
    refine XS.iconst X15.here hx rfl (hb hby at_24) ?_
    show Steps p.tables e below (T15.setTop (mkF m 25 #[.val (.int p1), .val (.int p2), .unset, .unset, .unset, .unset, .unset, .unset] [(.int (4 : Int32)), (.ref b2), (.ref b2)])) _
    refine XS.bipush X15.here hx rfl (hb hby at_25) ?_
    exact k
  obtain ⟨cl18, Ar18, q18, Sz18, Nn18, Hs18, G18⟩ := id V15
  have hin18 : ¬ ((4 : Int32) < 0 ∨ cl18.slots.size ≤ ((4 : Int32)).toNatClampNeg) := inb_of Sz18 ⟨by decide, by decide⟩
  obtain ⟨T18, h18, X18, e18, W18, st18⟩ := stI X15 hx hZ e15 Ar18 (j := (4 : Int32)) hin18 (g := (mkF m 27 #[.val (.int p1), .val (.int p2), .unset, .unset, .unset, .unset, .unset, .unset] [(.int (11 : Int32)), (.int (4 : Int32)), (.ref b2), (.ref b2)])) rfl rfl (hb hby at_27)
  have V18 : Arv Z h18 b2 k2 .int (24 : Int32) [(.int (0 : Int32)), (.int (8 : Int32)), (.int (9 : Int32)), (.int (10 : Int32)), (.int (11 : Int32)), (.int (0 : Int32)), (.int (0 : Int32)), (.int (0 : Int32)), (.int (0 : Int32)), (.int (0 : Int32)), (.int (0 : Int32)), (.int (0 : Int32)), (.int (0 : Int32)), (.int (0 : Int32)), (.int (0 : Int32)), (.int (0 : Int32)), (.int (0 : Int32)), (.int (0 : Int32)), (.int (0 : Int32)), (.int (0 : Int32)), (.int (0 : Int32)), (.int (0 : Int32)), (.int (0 : Int32)), (.int (0 : Int32))] (.int (0 : Int32)) := Arv.set Ar18 q18 Sz18 Nn18 Hs18 G18 rfl W18 4 rfl (Nat.le_of_ble_eq_true rfl)
  have N18 := Fr.snoc X18 N15 gn_b2
  have z19 : n0 ≤ h18.size := Nat.le_trans z16 (Keep.of_wr W18).1
  have sg20 : ∀ t, Steps p.tables e below (T18.setTop (mkF m 32 #[.val (.int p1), .val (.int p2), .unset, .unset, .unset, .unset, .unset, .unset] [(.int (12 : Int32)), (.int (5 : Int32)), (.ref b2), (.ref b2)])) t → Steps p.tables e below (T18.setTop (mkF m 28 #[.val (.int p1), .val (.int p2), .unset, .unset, .unset, .unset, .unset, .unset] [(.ref b2)])) t := by
    intro t k
    show Steps p.tables e below (T18.setTop (mkF m 28 #[.val (.int p1), .val (.int p2), .unset, .unset, .unset, .unset, .unset, .unset] [(.ref b2)])) _
    refine XS.dup X18.here hx rfl (hb hby at_28) rfl rfl ?_
    show Steps p.tables e below (T18.setTop (mkF m 29 #[.val (.int p1), .val (.int p2), .unset, .unset, .unset, .unset, .unset, .unset] [(.ref b2), (.ref b2)])) _
    refine XS.iconst X18.here hx rfl (hb hby at_29) ?_
    show Steps p.tables e below (T18.setTop (mkF m 30 #[.val (.int p1), .val (.int p2), .unset, .unset, .unset, .unset, .unset, .unset] [(.int (5 : Int32)), (.ref b2), (.ref b2)])) _
    refine XS.bipush X18.here hx rfl (hb hby at_30) ?_
    exact k
  obtain ⟨cl21, Ar21, q21, Sz21, Nn21, Hs21, G21⟩ := id V18
  have hin21 : ¬ ((5 : Int32) < 0 ∨ cl21.slots.size ≤ ((5 : Int32)).toNatClampNeg) := inb_of Sz21 ⟨by decide, by decide⟩
  obtain ⟨T21, h21, X21, e21, W21, st21⟩ := stI X18 hx hZ e18 Ar21 (j := (5 : Int32)) hin21 (g := (mkF m 32 #[.val (.int p1), .val (.int p2), .unset, .unset, .unset, .unset, .unset, .unset] [(.int (12 : Int32)), (.int (5 : Int32)), (.ref b2), (.ref b2)])) rfl rfl (hb hby at_32)
  have V21 : Arv Z h21 b2 k2 .int (24 : Int32) [(.int (0 : Int32)), (.int (8 : Int32)), (.int (9 : Int32)), (.int (10 : Int32)), (.int (11 : Int32)), (.int (12 : Int32)), (.int (0 : Int32)), (.int (0 : Int32)), (.int (0 : Int32)), (.int (0 : Int32)), (.int (0 : Int32)), (.int (0 : Int32)), (.int (0 : Int32)), (.int (0 : Int32)), (.int (0 : Int32)), (.int (0 : Int32)), (.int (0 : Int32)), (.int (0 : Int32)), (.int (0 : Int32)), (.int (0 : Int32)), (.int (0 : Int32)), (.int (0 : Int32)), (.int (0 : Int32)), (.int (0 : Int32))] (.int (0 : Int32)) := Arv.set Ar21 q21 Sz21 Nn21 Hs21 G21 rfl W21 5 rfl (Nat.le_of_ble_eq_true rfl)
  have N21 := Fr.snoc X21 N18 gn_b2
  have z22 : n0 ≤ h21.size := Nat.le_trans z19 (Keep.of_wr W21).1
  obtain ⟨lo23, X21, N21⟩ := own_abs X21 N21
  have sg24 : ∀ t, Steps p.tables e below (T21.setTop (mkF m 38 #[.val (.int p1), .val (.int p2), .unset, .unset, .unset, .unset, .unset, .unset] [(.int (13 : Int32)), (.int (6 : Int32)), (.ref b2), (.ref b2)])) t → Steps p.tables e below (T21.setTop (mkF m 33 #[.val (.int p1), .val (.int p2), .unset, .unset, .unset, .unset, .unset, .unset] [(.ref b2)])) t := by
    intro t k
    show Steps p.tables e below (T21.setTop (mkF m 33 #[.val (.int p1), .val (.int p2), .unset, .unset, .unset, .unset, .unset, .unset] [(.ref b2)])) _
    refine XS.dup X21.here hx rfl (hb hby at_33) rfl rfl ?_
    show Steps p.tables e below (T21.setTop (mkF m 34 #[.val (.int p1), .val (.int p2), .unset, .unset, .unset, .unset, .unset, .unset] [(.ref b2), (.ref b2)])) _
    refine XS.bipush X21.here hx rfl (hb hby at_34) ?_
    show Steps p.tables e below (T21.setTop (mkF m 36 #[.val (.int p1), .val (.int p2), .unset, .unset, .unset, .unset, .unset, .unset] [(.int (6 : Int32)), (.ref b2), (.ref b2)])) _
    refine XS.bipush X21.here hx rfl (hb hby at_36) ?_
    exact k
  obtain ⟨cl25, Ar25, q25, Sz25, Nn25, Hs25, G25⟩ := id V21
  have hin25 : ¬ ((6 : Int32) < 0 ∨ cl25.slots.size ≤ ((6 : Int32)).toNatClampNeg) := inb_of Sz25 ⟨by decide, by decide⟩
  obtain ⟨T25, h25, X25, e25, W25, st25⟩ := stI X21 hx hZ e21 Ar25 (j := (6 : Int32)) hin25 (g := (mkF m 38 #[.val (.int p1), .val (.int p2), .unset, .unset, .unset, .unset, .unset, .unset] [(.int (13 : Int32)), (.int (6 : Int32)), (.ref b2), (.ref b2)])) rfl rfl (hb hby at_38)
  have V25 : Arv Z h25 b2 k2 .int (24 : Int32) [(.int (0 : Int32)), (.int (8 : Int32)), (.int (9 : Int32)), (.int (10 : Int32)), (.int (11 : Int32)), (.int (12 : Int32)), (.int (13 : Int32)), (.int (0 : Int32)), (.int (0 : Int32)), (.int (0 : Int32)), (.int (0 : Int32)), (.int (0 : Int32)), (.int (0 : Int32)), (.int (0 : Int32)), (.int (0 : Int32)), (.int (0 : Int32)), (.int (0 : Int32)), (.int (0 : Int32)), (.int (0 : Int32)), (.int (0 : Int32)), (.int (0 : Int32)), (.int (0 : Int32)), (.int (0 : Int32)), (.int (0 : Int32))] (.int (0 : Int32)) := Arv.set Ar25 q25 Sz25 Nn25 Hs25 G25 rfl W25 6 rfl (Nat.le_of_ble_eq_true rfl)
  have N25 := Fr.snoc X25 N21 gn_b2
  have z26 : n0 ≤ h25.size := Nat.le_trans z22 (Keep.of_wr W25).1
  have sg27 : ∀ t, Steps p.tables e below (T25.setTop (mkF m 44 #[.val (.int p1), .val (.int p2), .unset, .unset, .unset, .unset, .unset, .unset] [(.int (14 : Int32)), (.int (7 : Int32)), (.ref b2), (.ref b2)])) t → Steps p.tables e below (T25.setTop (mkF m 39 #[.val (.int p1), .val (.int p2), .unset, .unset, .unset, .unset, .unset, .unset] [(.ref b2)])) t := by
    intro t k
    show Steps p.tables e below (T25.setTop (mkF m 39 #[.val (.int p1), .val (.int p2), .unset, .unset, .unset, .unset, .unset, .unset] [(.ref b2)])) _
    refine XS.dup X25.here hx rfl (hb hby at_39) rfl rfl ?_
    show Steps p.tables e below (T25.setTop (mkF m 40 #[.val (.int p1), .val (.int p2), .unset, .unset, .unset, .unset, .unset, .unset] [(.ref b2), (.ref b2)])) _
    refine XS.bipush X25.here hx rfl (hb hby at_40) ?_
    show Steps p.tables e below (T25.setTop (mkF m 42 #[.val (.int p1), .val (.int p2), .unset, .unset, .unset, .unset, .unset, .unset] [(.int (7 : Int32)), (.ref b2), (.ref b2)])) _
    refine XS.bipush X25.here hx rfl (hb hby at_42) ?_
    exact k
  obtain ⟨cl28, Ar28, q28, Sz28, Nn28, Hs28, G28⟩ := id V25
  have hin28 : ¬ ((7 : Int32) < 0 ∨ cl28.slots.size ≤ ((7 : Int32)).toNatClampNeg) := inb_of Sz28 ⟨by decide, by decide⟩
  obtain ⟨T28, h28, X28, e28, W28, st28⟩ := stI X25 hx hZ e25 Ar28 (j := (7 : Int32)) hin28 (g := (mkF m 44 #[.val (.int p1), .val (.int p2), .unset, .unset, .unset, .unset, .unset, .unset] [(.int (14 : Int32)), (.int (7 : Int32)), (.ref b2), (.ref b2)])) rfl rfl (hb hby at_44)
  have V28 : Arv Z h28 b2 k2 .int (24 : Int32) [(.int (0 : Int32)), (.int (8 : Int32)), (.int (9 : Int32)), (.int (10 : Int32)), (.int (11 : Int32)), (.int (12 : Int32)), (.int (13 : Int32)), (.int (14 : Int32)), (.int (0 : Int32)), (.int (0 : Int32)), (.int (0 : Int32)), (.int (0 : Int32)), (.int (0 : Int32)), (.int (0 : Int32)), (.int (0 : Int32)), (.int (0 : Int32)), (.int (0 : Int32)), (.int (0 : Int32)), (.int (0 : Int32)), (.int (0 : Int32)), (.int (0 : Int32)), (.int (0 : Int32)), (.int (0 : Int32)), (.int (0 : Int32))] (.int (0 : Int32)) := Arv.set Ar28 q28 Sz28 Nn28 Hs28 G28 rfl W28 7 rfl (Nat.le_of_ble_eq_true rfl)
  have N28 := Fr.snoc X28 N25 gn_b2
  have z29 : n0 ≤ h28.size := Nat.le_trans z26 (Keep.of_wr W28).1
  have sg30 : ∀ t, Steps p.tables e below (T28.setTop (mkF m 50 #[.val (.int p1), .val (.int p2), .unset, .unset, .unset, .unset, .unset, .unset] [(.int (31 : Int32)), (.int (8 : Int32)), (.ref b2), (.ref b2)])) t → Steps p.tables e below (T28.setTop (mkF m 45 #[.val (.int p1), .val (.int p2), .unset, .unset, .unset, .unset, .unset, .unset] [(.ref b2)])) t := by
    intro t k
    show Steps p.tables e below (T28.setTop (mkF m 45 #[.val (.int p1), .val (.int p2), .unset, .unset, .unset, .unset, .unset, .unset] [(.ref b2)])) _
    refine XS.dup X28.here hx rfl (hb hby at_45) rfl rfl ?_
    show Steps p.tables e below (T28.setTop (mkF m 46 #[.val (.int p1), .val (.int p2), .unset, .unset, .unset, .unset, .unset, .unset] [(.ref b2), (.ref b2)])) _
    refine XS.bipush X28.here hx rfl (hb hby at_46) ?_
    show Steps p.tables e below (T28.setTop (mkF m 48 #[.val (.int p1), .val (.int p2), .unset, .unset, .unset, .unset, .unset, .unset] [(.int (8 : Int32)), (.ref b2), (.ref b2)])) _
    refine XS.bipush X28.here hx rfl (hb hby at_48) ?_
    exact k
  obtain ⟨cl31, Ar31, q31, Sz31, Nn31, Hs31, G31⟩ := id V28
  have hin31 : ¬ ((8 : Int32) < 0 ∨ cl31.slots.size ≤ ((8 : Int32)).toNatClampNeg) := inb_of Sz31 ⟨by decide, by decide⟩
  obtain ⟨T31, h31, X31, e31, W31, st31⟩ := stI X28 hx hZ e28 Ar31 (j := (8 : Int32)) hin31 (g := (mkF m 50 #[.val (.int p1), .val (.int p2), .unset, .unset, .unset, .unset, .unset, .unset] [(.int (31 : Int32)), (.int (8 : Int32)), (.ref b2), (.ref b2)])) rfl rfl (hb hby at_50)
  have V31 : Arv Z h31 b2 k2 .int (24 : Int32) [(.int (0 : Int32)), (.int (8 : Int32)), (.int (9 : Int32)), (.int (10 : Int32)), (.int (11 : Int32)), (.int (12 : Int32)), (.int (13 : Int32)), (.int (14 : Int32)), (.int (31 : Int32)), (.int (0 : Int32)), (.int (0 : Int32)), (.int (0 : Int32)), (.int (0 : Int32)), (.int (0 : Int32)), (.int (0 : Int32)), (.int (0 : Int32)), (.int (0 : Int32)), (.int (0 : Int32)), (.int (0 : Int32)), (.int (0 : Int32)), (.int (0 : Int32)), (.int (0 : Int32)), (.int (0 : Int32)), (.int (0 : Int32))] (.int (0 : Int32)) := Arv.set Ar31 q31 Sz31 Nn31 Hs31 G31 rfl W31 8 rfl (Nat.le_of_ble_eq_true rfl)
  have N31 := Fr.snoc X31 N28 gn_b2
  have z32 : n0 ≤ h31.size := Nat.le_trans z29 (Keep.of_wr W31).1
  have sg33 : ∀ t, Steps p.tables e below (T31.setTop (mkF m 56 #[.val (.int p1), .val (.int p2), .unset, .unset, .unset, .unset, .unset, .unset] [(.int (32 : Int32)), (.int (9 : Int32)), (.ref b2), (.ref b2)])) t → Steps p.tables e below (T31.setTop (mkF m 51 #[.val (.int p1), .val (.int p2), .unset, .unset, .unset, .unset, .unset, .unset] [(.ref b2)])) t := by
    intro t k
    show Steps p.tables e below (T31.setTop (mkF m 51 #[.val (.int p1), .val (.int p2), .unset, .unset, .unset, .unset, .unset, .unset] [(.ref b2)])) _
    refine XS.dup X31.here hx rfl (hb hby at_51) rfl rfl ?_
    show Steps p.tables e below (T31.setTop (mkF m 52 #[.val (.int p1), .val (.int p2), .unset, .unset, .unset, .unset, .unset, .unset] [(.ref b2), (.ref b2)])) _
    refine XS.bipush X31.here hx rfl (hb hby at_52) ?_
    show Steps p.tables e below (T31.setTop (mkF m 54 #[.val (.int p1), .val (.int p2), .unset, .unset, .unset, .unset, .unset, .unset] [(.int (9 : Int32)), (.ref b2), (.ref b2)])) _
    refine XS.bipush X31.here hx rfl (hb hby at_54) ?_
    exact k
  obtain ⟨cl34, Ar34, q34, Sz34, Nn34, Hs34, G34⟩ := id V31
  have hin34 : ¬ ((9 : Int32) < 0 ∨ cl34.slots.size ≤ ((9 : Int32)).toNatClampNeg) := inb_of Sz34 ⟨by decide, by decide⟩
  obtain ⟨T34, h34, X34, e34, W34, st34⟩ := stI X31 hx hZ e31 Ar34 (j := (9 : Int32)) hin34 (g := (mkF m 56 #[.val (.int p1), .val (.int p2), .unset, .unset, .unset, .unset, .unset, .unset] [(.int (32 : Int32)), (.int (9 : Int32)), (.ref b2), (.ref b2)])) rfl rfl (hb hby at_56)
  have V34 : Arv Z h34 b2 k2 .int (24 : Int32) [(.int (0 : Int32)), (.int (8 : Int32)), (.int (9 : Int32)), (.int (10 : Int32)), (.int (11 : Int32)), (.int (12 : Int32)), (.int (13 : Int32)), (.int (14 : Int32)), (.int (31 : Int32)), (.int (32 : Int32)), (.int (0 : Int32)), (.int (0 : Int32)), (.int (0 : Int32)), (.int (0 : Int32)), (.int (0 : Int32)), (.int (0 : Int32)), (.int (0 : Int32)), (.int (0 : Int32)), (.int (0 : Int32)), (.int (0 : Int32)), (.int (0 : Int32)), (.int (0 : Int32)), (.int (0 : Int32)), (.int (0 : Int32))] (.int (0 : Int32)) := Arv.set Ar34 q34 Sz34 Nn34 Hs34 G34 rfl W34 9 rfl (Nat.le_of_ble_eq_true rfl)
  have N34 := Fr.snoc X34 N31 gn_b2
  have z35 : n0 ≤ h34.size := Nat.le_trans z32 (Keep.of_wr W34).1
  have sg36 : ∀ t, Steps p.tables e below (T34.setTop (mkF m 62 #[.val (.int p1), .val (.int p2), .unset, .unset, .unset, .unset, .unset, .unset] [(.int (55295 : Int32)), (.int (10 : Int32)), (.ref b2), (.ref b2)])) t → Steps p.tables e below (T34.setTop (mkF m 57 #[.val (.int p1), .val (.int p2), .unset, .unset, .unset, .unset, .unset, .unset] [(.ref b2)])) t := by
    intro t k
    show Steps p.tables e below (T34.setTop (mkF m 57 #[.val (.int p1), .val (.int p2), .unset, .unset, .unset, .unset, .unset, .unset] [(.ref b2)])) _
    refine XS.dup X34.here hx rfl (hb hby at_57) rfl rfl ?_
    show Steps p.tables e below (T34.setTop (mkF m 58 #[.val (.int p1), .val (.int p2), .unset, .unset, .unset, .unset, .unset, .unset] [(.ref b2), (.ref b2)])) _
    refine XS.bipush X34.here hx rfl (hb hby at_58) ?_
    show Steps p.tables e below (T34.setTop (mkF m 60 #[.val (.int p1), .val (.int p2), .unset, .unset, .unset, .unset, .unset, .unset] [(.int (10 : Int32)), (.ref b2), (.ref b2)])) _
    refine X34.ldcInt hx hown (mvT hZ (hw _ (List.mem_of_getElem? (i := 1) rfl))) (g := (mkF m 60 #[.val (.int p1), .val (.int p2), .unset, .unset, .unset, .unset, .unset, .unset] [(.int (10 : Int32)), (.ref b2), (.ref b2)])) rfl (hb hby at_60) _ ?_
    exact k
  obtain ⟨cl37, Ar37, q37, Sz37, Nn37, Hs37, G37⟩ := id V34
  have hin37 : ¬ ((10 : Int32) < 0 ∨ cl37.slots.size ≤ ((10 : Int32)).toNatClampNeg) := inb_of Sz37 ⟨by decide, by decide⟩
  obtain ⟨T37, h37, X37, e37, W37, st37⟩ := stI X34 hx hZ e34 Ar37 (j := (10 : Int32)) hin37 (g := (mkF m 62 #[.val (.int p1), .val (.int p2), .unset, .unset, .unset, .unset, .unset, .unset] [(.int (55295 : Int32)), (.int (10 : Int32)), (.ref b2), (.ref b2)])) rfl rfl (hb hby at_62)
  have V37 : Arv Z h37 b2 k2 .int (24 : Int32) [(.int (0 : Int32)), (.int (8 : Int32)), (.int (9 : Int32)), (.int (10 : Int32)), (.int (11 : Int32)), (.int (12 : Int32)), (.int (13 : Int32)), (.int (14 : Int32)), (.int (31 : Int32)), (.int (32 : Int32)), (.int (55295 : Int32)), (.int (0 : Int32)), (.int (0 : Int32)), (.int (0 : Int32)), (.int (0 : Int32)), (.int (0 : Int32)), (.int (0 : Int32)), (.int (0 : Int32)), (.int (0 : Int32)), (.int (0 : Int32)), (.int (0 : Int32)), (.int (0 : Int32)), (.int (0 : Int32)), (.int (0 : Int32))] (.int (0 : Int32)) := Arv.set Ar37 q37 Sz37 Nn37 Hs37 G37 rfl W37 10 rfl (Nat.le_of_ble_eq_true rfl)
  have N37 := Fr.snoc X37 N34 gn_b2
  have z38 : n0 ≤ h37.size := Nat.le_trans z35 (Keep.of_wr W37).1
  have sg39 : ∀ t, Steps p.tables e below (T37.setTop (mkF m 68 #[.val (.int p1), .val (.int p2), .unset, .unset, .unset, .unset, .unset, .unset] [(.int (55296 : Int32)), (.int (11 : Int32)), (.ref b2), (.ref b2)])) t → Steps p.tables e below (T37.setTop (mkF m 63 #[.val (.int p1), .val (.int p2), .unset, .unset, .unset, .unset, .unset, .unset] [(.ref b2)])) t := by
    intro t k
    show Steps p.tables e below (T37.setTop (mkF m 63 #[.val (.int p1), .val (.int p2), .unset, .unset, .unset, .unset, .unset, .unset] [(.ref b2)])) _
    refine XS.dup X37.here hx rfl (hb hby at_63) rfl rfl ?_
    show Steps p.tables e below (T37.setTop (mkF m 64 #[.val (.int p1), .val (.int p2), .unset, .unset, .unset, .unset, .unset, .unset] [(.ref b2), (.ref b2)])) _
    refine XS.bipush X37.here hx rfl (hb hby at_64) ?_
    show Steps p.tables e below (T37.setTop (mkF m 66 #[.val (.int p1), .val (.int p2), .unset, .unset, .unset, .unset, .unset, .unset] [(.int (11 : Int32)), (.ref b2), (.ref b2)])) _
    refine X37.ldcInt hx hown (mvT hZ (hw _ (List.mem_of_getElem? (i := 2) rfl))) (g := (mkF m 66 #[.val (.int p1), .val (.int p2), .unset, .unset, .unset, .unset, .unset, .unset] [(.int (11 : Int32)), (.ref b2), (.ref b2)])) rfl (hb hby at_66) _ ?_
    exact k
  obtain ⟨cl40, Ar40, q40, Sz40, Nn40, Hs40, G40⟩ := id V37
  have hin40 : ¬ ((11 : Int32) < 0 ∨ cl40.slots.size ≤ ((11 : Int32)).toNatClampNeg) := inb_of Sz40 ⟨by decide, by decide⟩
  obtain ⟨T40, h40, X40, e40, W40, st40⟩ := stI X37 hx hZ e37 Ar40 (j := (11 : Int32)) hin40 (g := (mkF m 68 #[.val (.int p1), .val (.int p2), .unset, .unset, .unset, .unset, .unset, .unset] [(.int (55296 : Int32)), (.int (11 : Int32)), (.ref b2), (.ref b2)])) rfl rfl (hb hby at_68)
  have V40 : Arv Z h40 b2 k2 .int (24 : Int32) [(.int (0 : Int32)), (.int (8 : Int32)), (.int (9 : Int32)), (.int (10 : Int32)), (.int (11 : Int32)), (.int (12 : Int32)), (.int (13 : Int32)), (.int (14 : Int32)), (.int (31 : Int32)), (.int (32 : Int32)), (.int (55295 : Int32)), (.int (55296 : Int32)), (.int (0 : Int32)), (.int (0 : Int32)), (.int (0 : Int32)), (.int (0 : Int32)), (.int (0 : Int32)), (.int (0 : Int32)), (.int (0 : Int32)), (.int (0 : Int32)), (.int (0 : Int32)), (.int (0 : Int32)), (.int (0 : Int32)), (.int (0 : Int32))] (.int (0 : Int32)) := Arv.set Ar40 q40 Sz40 Nn40 Hs40 G40 rfl W40 11 rfl (Nat.le_of_ble_eq_true rfl)
  have N40 := Fr.snoc X40 N37 gn_b2
  have z41 : n0 ≤ h40.size := Nat.le_trans z38 (Keep.of_wr W40).1
  obtain ⟨lo42, X40, N40⟩ := own_abs X40 N40
  have sg43 : ∀ t, Steps p.tables e below (T40.setTop (mkF m 74 #[.val (.int p1), .val (.int p2), .unset, .unset, .unset, .unset, .unset, .unset] [(.int (57343 : Int32)), (.int (12 : Int32)), (.ref b2), (.ref b2)])) t → Steps p.tables e below (T40.setTop (mkF m 69 #[.val (.int p1), .val (.int p2), .unset, .unset, .unset, .unset, .unset, .unset] [(.ref b2)])) t := by
    intro t k
    show Steps p.tables e below (T40.setTop (mkF m 69 #[.val (.int p1), .val (.int p2), .unset, .unset, .unset, .unset, .unset, .unset] [(.ref b2)])) _
    refine XS.dup X40.here hx rfl (hb hby at_69) rfl rfl ?_
    show Steps p.tables e below (T40.setTop (mkF m 70 #[.val (.int p1), .val (.int p2), .unset, .unset, .unset, .unset, .unset, .unset] [(.ref b2), (.ref b2)])) _
    refine XS.bipush X40.here hx rfl (hb hby at_70) ?_
    show Steps p.tables e below (T40.setTop (mkF m 72 #[.val (.int p1), .val (.int p2), .unset, .unset, .unset, .unset, .unset, .unset] [(.int (12 : Int32)), (.ref b2), (.ref b2)])) _
    refine X40.ldcInt hx hown (mvT hZ (hw _ (List.mem_of_getElem? (i := 3) rfl))) (g := (mkF m 72 #[.val (.int p1), .val (.int p2), .unset, .unset, .unset, .unset, .unset, .unset] [(.int (12 : Int32)), (.ref b2), (.ref b2)])) rfl (hb hby at_72) _ ?_
    exact k
  obtain ⟨cl44, Ar44, q44, Sz44, Nn44, Hs44, G44⟩ := id V40
  have hin44 : ¬ ((12 : Int32) < 0 ∨ cl44.slots.size ≤ ((12 : Int32)).toNatClampNeg) := inb_of Sz44 ⟨by decide, by decide⟩
  obtain ⟨T44, h44, X44, e44, W44, st44⟩ := stI X40 hx hZ e40 Ar44 (j := (12 : Int32)) hin44 (g := (mkF m 74 #[.val (.int p1), .val (.int p2), .unset, .unset, .unset, .unset, .unset, .unset] [(.int (57343 : Int32)), (.int (12 : Int32)), (.ref b2), (.ref b2)])) rfl rfl (hb hby at_74)
  have V44 : Arv Z h44 b2 k2 .int (24 : Int32) [(.int (0 : Int32)), (.int (8 : Int32)), (.int (9 : Int32)), (.int (10 : Int32)), (.int (11 : Int32)), (.int (12 : Int32)), (.int (13 : Int32)), (.int (14 : Int32)), (.int (31 : Int32)), (.int (32 : Int32)), (.int (55295 : Int32)), (.int (55296 : Int32)), (.int (57343 : Int32)), (.int (0 : Int32)), (.int (0 : Int32)), (.int (0 : Int32)), (.int (0 : Int32)), (.int (0 : Int32)), (.int (0 : Int32)), (.int (0 : Int32)), (.int (0 : Int32)), (.int (0 : Int32)), (.int (0 : Int32)), (.int (0 : Int32))] (.int (0 : Int32)) := Arv.set Ar44 q44 Sz44 Nn44 Hs44 G44 rfl W44 12 rfl (Nat.le_of_ble_eq_true rfl)
  have N44 := Fr.snoc X44 N40 gn_b2
  have z45 : n0 ≤ h44.size := Nat.le_trans z41 (Keep.of_wr W44).1
  have sg46 : ∀ t, Steps p.tables e below (T44.setTop (mkF m 80 #[.val (.int p1), .val (.int p2), .unset, .unset, .unset, .unset, .unset, .unset] [(.int (57344 : Int32)), (.int (13 : Int32)), (.ref b2), (.ref b2)])) t → Steps p.tables e below (T44.setTop (mkF m 75 #[.val (.int p1), .val (.int p2), .unset, .unset, .unset, .unset, .unset, .unset] [(.ref b2)])) t := by
    intro t k
    show Steps p.tables e below (T44.setTop (mkF m 75 #[.val (.int p1), .val (.int p2), .unset, .unset, .unset, .unset, .unset, .unset] [(.ref b2)])) _
    refine XS.dup X44.here hx rfl (hb hby at_75) rfl rfl ?_
    show Steps p.tables e below (T44.setTop (mkF m 76 #[.val (.int p1), .val (.int p2), .unset, .unset, .unset, .unset, .unset, .unset] [(.ref b2), (.ref b2)])) _
    refine XS.bipush X44.here hx rfl (hb hby at_76) ?_
    show Steps p.tables e below (T44.setTop (mkF m 78 #[.val (.int p1), .val (.int p2), .unset, .unset, .unset, .unset, .unset, .unset] [(.int (13 : Int32)), (.ref b2), (.ref b2)])) _
    refine X44.ldcInt hx hown (mvT hZ (hw _ (List.mem_of_getElem? (i := 4) rfl))) (g := (mkF m 78 #[.val (.int p1), .val (.int p2), .unset, .unset, .unset, .unset, .unset, .unset] [(.int (13 : Int32)), (.ref b2), (.ref b2)])) rfl (hb hby at_78) _ ?_
    exact k
  obtain ⟨cl47, Ar47, q47, Sz47, Nn47, Hs47, G47⟩ := id V44
  have hin47 : ¬ ((13 : Int32) < 0 ∨ cl47.slots.size ≤ ((13 : Int32)).toNatClampNeg) := inb_of Sz47 ⟨by decide, by decide⟩
  obtain ⟨T47, h47, X47, e47, W47, st47⟩ := stI X44 hx hZ e44 Ar47 (j := (13 : Int32)) hin47 (g := (mkF m 80 #[.val (.int p1), .val (.int p2), .unset, .unset, .unset, .unset, .unset, .unset] [(.int (57344 : Int32)), (.int (13 : Int32)), (.ref b2), (.ref b2)])) rfl rfl (hb hby at_80)
  have V47 : Arv Z h47 b2 k2 .int (24 : Int32) [(.int (0 : Int32)), (.int (8 : Int32)), (.int (9 : Int32)), (.int (10 : Int32)), (.int (11 : Int32)), (.int (12 : Int32)), (.int (13 : Int32)), (.int (14 : Int32)), (.int (31 : Int32)), (.int (32 : Int32)), (.int (55295 : Int32)), (.int (55296 : Int32)), (.int (57343 : Int32)), (.int (57344 : Int32)), (.int (0 : Int32)), (.int (0 : Int32)), (.int (0 : Int32)), (.int (0 : Int32)), (.int (0 : Int32)), (.int (0 : Int32)), (.int (0 : Int32)), (.int (0 : Int32)), (.int (0 : Int32)), (.int (0 : Int32))] (.int (0 : Int32)) := Arv.set Ar47 q47 Sz47 Nn47 Hs47 G47 rfl W47 13 rfl (Nat.le_of_ble_eq_true rfl)
  have N47 := Fr.snoc X47 N44 gn_b2
  have z48 : n0 ≤ h47.size := Nat.le_trans z45 (Keep.of_wr W47).1
  have sg49 : ∀ t, Steps p.tables e below (T47.setTop (mkF m 86 #[.val (.int p1), .val (.int p2), .unset, .unset, .unset, .unset, .unset, .unset] [(.int (65533 : Int32)), (.int (14 : Int32)), (.ref b2), (.ref b2)])) t → Steps p.tables e below (T47.setTop (mkF m 81 #[.val (.int p1), .val (.int p2), .unset, .unset, .unset, .unset, .unset, .unset] [(.ref b2)])) t := by
    intro t k
    show Steps p.tables e below (T47.setTop (mkF m 81 #[.val (.int p1), .val (.int p2), .unset, .unset, .unset, .unset, .unset, .unset] [(.ref b2)])) _
    refine XS.dup X47.here hx rfl (hb hby at_81) rfl rfl ?_
    show Steps p.tables e below (T47.setTop (mkF m 82 #[.val (.int p1), .val (.int p2), .unset, .unset, .unset, .unset, .unset, .unset] [(.ref b2), (.ref b2)])) _
    refine XS.bipush X47.here hx rfl (hb hby at_82) ?_
    show Steps p.tables e below (T47.setTop (mkF m 84 #[.val (.int p1), .val (.int p2), .unset, .unset, .unset, .unset, .unset, .unset] [(.int (14 : Int32)), (.ref b2), (.ref b2)])) _
    refine X47.ldcInt hx hown (mvT hZ (hw _ (List.mem_of_getElem? (i := 5) rfl))) (g := (mkF m 84 #[.val (.int p1), .val (.int p2), .unset, .unset, .unset, .unset, .unset, .unset] [(.int (14 : Int32)), (.ref b2), (.ref b2)])) rfl (hb hby at_84) _ ?_
    exact k
  obtain ⟨cl50, Ar50, q50, Sz50, Nn50, Hs50, G50⟩ := id V47
  have hin50 : ¬ ((14 : Int32) < 0 ∨ cl50.slots.size ≤ ((14 : Int32)).toNatClampNeg) := inb_of Sz50 ⟨by decide, by decide⟩
  obtain ⟨T50, h50, X50, e50, W50, st50⟩ := stI X47 hx hZ e47 Ar50 (j := (14 : Int32)) hin50 (g := (mkF m 86 #[.val (.int p1), .val (.int p2), .unset, .unset, .unset, .unset, .unset, .unset] [(.int (65533 : Int32)), (.int (14 : Int32)), (.ref b2), (.ref b2)])) rfl rfl (hb hby at_86)
  have V50 : Arv Z h50 b2 k2 .int (24 : Int32) [(.int (0 : Int32)), (.int (8 : Int32)), (.int (9 : Int32)), (.int (10 : Int32)), (.int (11 : Int32)), (.int (12 : Int32)), (.int (13 : Int32)), (.int (14 : Int32)), (.int (31 : Int32)), (.int (32 : Int32)), (.int (55295 : Int32)), (.int (55296 : Int32)), (.int (57343 : Int32)), (.int (57344 : Int32)), (.int (65533 : Int32)), (.int (0 : Int32)), (.int (0 : Int32)), (.int (0 : Int32)), (.int (0 : Int32)), (.int (0 : Int32)), (.int (0 : Int32)), (.int (0 : Int32)), (.int (0 : Int32)), (.int (0 : Int32))] (.int (0 : Int32)) := Arv.set Ar50 q50 Sz50 Nn50 Hs50 G50 rfl W50 14 rfl (Nat.le_of_ble_eq_true rfl)
  have N50 := Fr.snoc X50 N47 gn_b2
  have z51 : n0 ≤ h50.size := Nat.le_trans z48 (Keep.of_wr W50).1
  have sg52 : ∀ t, Steps p.tables e below (T50.setTop (mkF m 92 #[.val (.int p1), .val (.int p2), .unset, .unset, .unset, .unset, .unset, .unset] [(.int (65534 : Int32)), (.int (15 : Int32)), (.ref b2), (.ref b2)])) t → Steps p.tables e below (T50.setTop (mkF m 87 #[.val (.int p1), .val (.int p2), .unset, .unset, .unset, .unset, .unset, .unset] [(.ref b2)])) t := by
    intro t k
    show Steps p.tables e below (T50.setTop (mkF m 87 #[.val (.int p1), .val (.int p2), .unset, .unset, .unset, .unset, .unset, .unset] [(.ref b2)])) _
    refine XS.dup X50.here hx rfl (hb hby at_87) rfl rfl ?_
    show Steps p.tables e below (T50.setTop (mkF m 88 #[.val (.int p1), .val (.int p2), .unset, .unset, .unset, .unset, .unset, .unset] [(.ref b2), (.ref b2)])) _
    refine XS.bipush X50.here hx rfl (hb hby at_88) ?_
    show Steps p.tables e below (T50.setTop (mkF m 90 #[.val (.int p1), .val (.int p2), .unset, .unset, .unset, .unset, .unset, .unset] [(.int (15 : Int32)), (.ref b2), (.ref b2)])) _
    refine X50.ldcInt hx hown (mvT hZ (hw _ (List.mem_of_getElem? (i := 6) rfl))) (g := (mkF m 90 #[.val (.int p1), .val (.int p2), .unset, .unset, .unset, .unset, .unset, .unset] [(.int (15 : Int32)), (.ref b2), (.ref b2)])) rfl (hb hby at_90) _ ?_
    exact k
  obtain ⟨cl53, Ar53, q53, Sz53, Nn53, Hs53, G53⟩ := id V50
  have hin53 : ¬ ((15 : Int32) < 0 ∨ cl53.slots.size ≤ ((15 : Int32)).toNatClampNeg) := inb_of Sz53 ⟨by decide, by decide⟩
  obtain ⟨T53, h53, X53, e53, W53, st53⟩ := stI X50 hx hZ e50 Ar53 (j := (15 : Int32)) hin53 (g := (mkF m 92 #[.val (.int p1), .val (.int p2), .unset, .unset, .unset, .unset, .unset, .unset] [(.int (65534 : Int32)), (.int (15 : Int32)), (.ref b2), (.ref b2)])) rfl rfl (hb hby at_92)
  have V53 : Arv Z h53 b2 k2 .int (24 : Int32) [(.int (0 : Int32)), (.int (8 : Int32)), (.int (9 : Int32)), (.int (10 : Int32)), (.int (11 : Int32)), (.int (12 : Int32)), (.int (13 : Int32)), (.int (14 : Int32)), (.int (31 : Int32)), (.int (32 : Int32)), (.int (55295 : Int32)), (.int (55296 : Int32)), (.int (57343 : Int32)), (.int (57344 : Int32)), (.int (65533 : Int32)), (.int (65534 : Int32)), (.int (0 : Int32)), (.int (0 : Int32)), (.int (0 : Int32)), (.int (0 : Int32)), (.int (0 : Int32)), (.int (0 : Int32)), (.int (0 : Int32)), (.int (0 : Int32))] (.int (0 : Int32)) := Arv.set Ar53 q53 Sz53 Nn53 Hs53 G53 rfl W53 15 rfl (Nat.le_of_ble_eq_true rfl)
  have N53 := Fr.snoc X53 N50 gn_b2
  have z54 : n0 ≤ h53.size := Nat.le_trans z51 (Keep.of_wr W53).1
  have sg55 : ∀ t, Steps p.tables e below (T53.setTop (mkF m 98 #[.val (.int p1), .val (.int p2), .unset, .unset, .unset, .unset, .unset, .unset] [(.int (65535 : Int32)), (.int (16 : Int32)), (.ref b2), (.ref b2)])) t → Steps p.tables e below (T53.setTop (mkF m 93 #[.val (.int p1), .val (.int p2), .unset, .unset, .unset, .unset, .unset, .unset] [(.ref b2)])) t := by
    intro t k
    show Steps p.tables e below (T53.setTop (mkF m 93 #[.val (.int p1), .val (.int p2), .unset, .unset, .unset, .unset, .unset, .unset] [(.ref b2)])) _
    refine XS.dup X53.here hx rfl (hb hby at_93) rfl rfl ?_
    show Steps p.tables e below (T53.setTop (mkF m 94 #[.val (.int p1), .val (.int p2), .unset, .unset, .unset, .unset, .unset, .unset] [(.ref b2), (.ref b2)])) _
    refine XS.bipush X53.here hx rfl (hb hby at_94) ?_
    show Steps p.tables e below (T53.setTop (mkF m 96 #[.val (.int p1), .val (.int p2), .unset, .unset, .unset, .unset, .unset, .unset] [(.int (16 : Int32)), (.ref b2), (.ref b2)])) _
    refine X53.ldcInt hx hown (mvT hZ (hw _ (List.mem_of_getElem? (i := 7) rfl))) (g := (mkF m 96 #[.val (.int p1), .val (.int p2), .unset, .unset, .unset, .unset, .unset, .unset] [(.int (16 : Int32)), (.ref b2), (.ref b2)])) rfl (hb hby at_96) _ ?_
    exact k
  obtain ⟨cl56, Ar56, q56, Sz56, Nn56, Hs56, G56⟩ := id V53
  have hin56 : ¬ ((16 : Int32) < 0 ∨ cl56.slots.size ≤ ((16 : Int32)).toNatClampNeg) := inb_of Sz56 ⟨by decide, by decide⟩
  obtain ⟨T56, h56, X56, e56, W56, st56⟩ := stI X53 hx hZ e53 Ar56 (j := (16 : Int32)) hin56 (g := (mkF m 98 #[.val (.int p1), .val (.int p2), .unset, .unset, .unset, .unset, .unset, .unset] [(.int (65535 : Int32)), (.int (16 : Int32)), (.ref b2), (.ref b2)])) rfl rfl (hb hby at_98)
  have V56 : Arv Z h56 b2 k2 .int (24 : Int32) [(.int (0 : Int32)), (.int (8 : Int32)), (.int (9 : Int32)), (.int (10 : Int32)), (.int (11 : Int32)), (.int (12 : Int32)), (.int (13 : Int32)), (.int (14 : Int32)), (.int (31 : Int32)), (.int (32 : Int32)), (.int (55295 : Int32)), (.int (55296 : Int32)), (.int (57343 : Int32)), (.int (57344 : Int32)), (.int (65533 : Int32)), (.int (65534 : Int32)), (.int (65535 : Int32)), (.int (0 : Int32)), (.int (0 : Int32)), (.int (0 : Int32)), (.int (0 : Int32)), (.int (0 : Int32)), (.int (0 : Int32)), (.int (0 : Int32))] (.int (0 : Int32)) := Arv.set Ar56 q56 Sz56 Nn56 Hs56 G56 rfl W56 16 rfl (Nat.le_of_ble_eq_true rfl)
  have N56 := Fr.snoc X56 N53 gn_b2
  have z57 : n0 ≤ h56.size := Nat.le_trans z54 (Keep.of_wr W56).1
  have sg58 : ∀ t, Steps p.tables e below (T56.setTop (mkF m 104 #[.val (.int p1), .val (.int p2), .unset, .unset, .unset, .unset, .unset, .unset] [(.int (65536 : Int32)), (.int (17 : Int32)), (.ref b2), (.ref b2)])) t → Steps p.tables e below (T56.setTop (mkF m 99 #[.val (.int p1), .val (.int p2), .unset, .unset, .unset, .unset, .unset, .unset] [(.ref b2)])) t := by
    intro t k
    show Steps p.tables e below (T56.setTop (mkF m 99 #[.val (.int p1), .val (.int p2), .unset, .unset, .unset, .unset, .unset, .unset] [(.ref b2)])) _
    refine XS.dup X56.here hx rfl (hb hby at_99) rfl rfl ?_
    show Steps p.tables e below (T56.setTop (mkF m 100 #[.val (.int p1), .val (.int p2), .unset, .unset, .unset, .unset, .unset, .unset] [(.ref b2), (.ref b2)])) _
    refine XS.bipush X56.here hx rfl (hb hby at_100) ?_
    show Steps p.tables e below (T56.setTop (mkF m 102 #[.val (.int p1), .val (.int p2), .unset, .unset, .unset, .unset, .unset, .unset] [(.int (17 : Int32)), (.ref b2), (.ref b2)])) _
    refine X56.ldcInt hx hown (mvT hZ (hw _ (List.mem_of_getElem? (i := 8) rfl))) (g := (mkF m 102 #[.val (.int p1), .val (.int p2), .unset, .unset, .unset, .unset, .unset, .unset] [(.int (17 : Int32)), (.ref b2), (.ref b2)])) rfl (hb hby at_102) _ ?_
    exact k
  obtain ⟨cl59, Ar59, q59, Sz59, Nn59, Hs59, G59⟩ := id V56
  have hin59 : ¬ ((17 : Int32) < 0 ∨ cl59.slots.size ≤ ((17 : Int32)).toNatClampNeg) := inb_of Sz59 ⟨by decide, by decide⟩
  obtain ⟨T59, h59, X59, e59, W59, st59⟩ := stI X56 hx hZ e56 Ar59 (j := (17 : Int32)) hin59 (g := (mkF m 104 #[.val (.int p1), .val (.int p2), .unset, .unset, .unset, .unset, .unset, .unset] [(.int (65536 : Int32)), (.int (17 : Int32)), (.ref b2), (.ref b2)])) rfl rfl (hb hby at_104)
  have V59 : Arv Z h59 b2 k2 .int (24 : Int32) [(.int (0 : Int32)), (.int (8 : Int32)), (.int (9 : Int32)), (.int (10 : Int32)), (.int (11 : Int32)), (.int (12 : Int32)), (.int (13 : Int32)), (.int (14 : Int32)), (.int (31 : Int32)), (.int (32 : Int32)), (.int (55295 : Int32)), (.int (55296 : Int32)), (.int (57343 : Int32)), (.int (57344 : Int32)), (.int (65533 : Int32)), (.int (65534 : Int32)), (.int (65535 : Int32)), (.int (65536 : Int32)), (.int (0 : Int32)), (.int (0 : Int32)), (.int (0 : Int32)), (.int (0 : Int32)), (.int (0 : Int32)), (.int (0 : Int32))] (.int (0 : Int32)) := Arv.set Ar59 q59 Sz59 Nn59 Hs59 G59 rfl W59 17 rfl (Nat.le_of_ble_eq_true rfl)
  have N59 := Fr.snoc X59 N56 gn_b2
  have z60 : n0 ≤ h59.size := Nat.le_trans z57 (Keep.of_wr W59).1
  obtain ⟨lo61, X59, N59⟩ := own_abs X59 N59
  have sg62 : ∀ t, Steps p.tables e below (T59.setTop (mkF m 110 #[.val (.int p1), .val (.int p2), .unset, .unset, .unset, .unset, .unset, .unset] [(.int (1114111 : Int32)), (.int (18 : Int32)), (.ref b2), (.ref b2)])) t → Steps p.tables e below (T59.setTop (mkF m 105 #[.val (.int p1), .val (.int p2), .unset, .unset, .unset, .unset, .unset, .unset] [(.ref b2)])) t := by
    intro t k
    show Steps p.tables e below (T59.setTop (mkF m 105 #[.val (.int p1), .val (.int p2), .unset, .unset, .unset, .unset, .unset, .unset] [(.ref b2)])) _
    refine XS.dup X59.here hx rfl (hb hby at_105) rfl rfl ?_
    show Steps p.tables e below (T59.setTop (mkF m 106 #[.val (.int p1), .val (.int p2), .unset, .unset, .unset, .unset, .unset, .unset] [(.ref b2), (.ref b2)])) _
    refine XS.bipush X59.here hx rfl (hb hby at_106) ?_
    show Steps p.tables e below (T59.setTop (mkF m 108 #[.val (.int p1), .val (.int p2), .unset, .unset, .unset, .unset, .unset, .unset] [(.int (18 : Int32)), (.ref b2), (.ref b2)])) _
    refine X59.ldcInt hx hown (mvT hZ (hw _ (List.mem_of_getElem? (i := 9) rfl))) (g := (mkF m 108 #[.val (.int p1), .val (.int p2), .unset, .unset, .unset, .unset, .unset, .unset] [(.int (18 : Int32)), (.ref b2), (.ref b2)])) rfl (hb hby at_108) _ ?_
    exact k
  obtain ⟨cl63, Ar63, q63, Sz63, Nn63, Hs63, G63⟩ := id V59
  have hin63 : ¬ ((18 : Int32) < 0 ∨ cl63.slots.size ≤ ((18 : Int32)).toNatClampNeg) := inb_of Sz63 ⟨by decide, by decide⟩
  obtain ⟨T63, h63, X63, e63, W63, st63⟩ := stI X59 hx hZ e59 Ar63 (j := (18 : Int32)) hin63 (g := (mkF m 110 #[.val (.int p1), .val (.int p2), .unset, .unset, .unset, .unset, .unset, .unset] [(.int (1114111 : Int32)), (.int (18 : Int32)), (.ref b2), (.ref b2)])) rfl rfl (hb hby at_110)
  have V63 : Arv Z h63 b2 k2 .int (24 : Int32) [(.int (0 : Int32)), (.int (8 : Int32)), (.int (9 : Int32)), (.int (10 : Int32)), (.int (11 : Int32)), (.int (12 : Int32)), (.int (13 : Int32)), (.int (14 : Int32)), (.int (31 : Int32)), (.int (32 : Int32)), (.int (55295 : Int32)), (.int (55296 : Int32)), (.int (57343 : Int32)), (.int (57344 : Int32)), (.int (65533 : Int32)), (.int (65534 : Int32)), (.int (65535 : Int32)), (.int (65536 : Int32)), (.int (1114111 : Int32)), (.int (0 : Int32)), (.int (0 : Int32)), (.int (0 : Int32)), (.int (0 : Int32)), (.int (0 : Int32))] (.int (0 : Int32)) := Arv.set Ar63 q63 Sz63 Nn63 Hs63 G63 rfl W63 18 rfl (Nat.le_of_ble_eq_true rfl)
  have N63 := Fr.snoc X63 N59 gn_b2
  have z64 : n0 ≤ h63.size := Nat.le_trans z60 (Keep.of_wr W63).1
  have sg65 : ∀ t, Steps p.tables e below (T63.setTop (mkF m 116 #[.val (.int p1), .val (.int p2), .unset, .unset, .unset, .unset, .unset, .unset] [(.int (1114112 : Int32)), (.int (19 : Int32)), (.ref b2), (.ref b2)])) t → Steps p.tables e below (T63.setTop (mkF m 111 #[.val (.int p1), .val (.int p2), .unset, .unset, .unset, .unset, .unset, .unset] [(.ref b2)])) t := by
    intro t k
    show Steps p.tables e below (T63.setTop (mkF m 111 #[.val (.int p1), .val (.int p2), .unset, .unset, .unset, .unset, .unset, .unset] [(.ref b2)])) _
    refine XS.dup X63.here hx rfl (hb hby at_111) rfl rfl ?_
    show Steps p.tables e below (T63.setTop (mkF m 112 #[.val (.int p1), .val (.int p2), .unset, .unset, .unset, .unset, .unset, .unset] [(.ref b2), (.ref b2)])) _
    refine XS.bipush X63.here hx rfl (hb hby at_112) ?_
    show Steps p.tables e below (T63.setTop (mkF m 114 #[.val (.int p1), .val (.int p2), .unset, .unset, .unset, .unset, .unset, .unset] [(.int (19 : Int32)), (.ref b2), (.ref b2)])) _
    refine X63.ldcInt hx hown (mvT hZ (hw _ (List.mem_of_getElem? (i := 10) rfl))) (g := (mkF m 114 #[.val (.int p1), .val (.int p2), .unset, .unset, .unset, .unset, .unset, .unset] [(.int (19 : Int32)), (.ref b2), (.ref b2)])) rfl (hb hby at_114) _ ?_
    exact k
  obtain ⟨cl66, Ar66, q66, Sz66, Nn66, Hs66, G66⟩ := id V63
  have hin66 : ¬ ((19 : Int32) < 0 ∨ cl66.slots.size ≤ ((19 : Int32)).toNatClampNeg) := inb_of Sz66 ⟨by decide, by decide⟩
  obtain ⟨T66, h66, X66, e66, W66, st66⟩ := stI X63 hx hZ e63 Ar66 (j := (19 : Int32)) hin66 (g := (mkF m 116 #[.val (.int p1), .val (.int p2), .unset, .unset, .unset, .unset, .unset, .unset] [(.int (1114112 : Int32)), (.int (19 : Int32)), (.ref b2), (.ref b2)])) rfl rfl (hb hby at_116)
  have V66 : Arv Z h66 b2 k2 .int (24 : Int32) [(.int (0 : Int32)), (.int (8 : Int32)), (.int (9 : Int32)), (.int (10 : Int32)), (.int (11 : Int32)), (.int (12 : Int32)), (.int (13 : Int32)), (.int (14 : Int32)), (.int (31 : Int32)), (.int (32 : Int32)), (.int (55295 : Int32)), (.int (55296 : Int32)), (.int (57343 : Int32)), (.int (57344 : Int32)), (.int (65533 : Int32)), (.int (65534 : Int32)), (.int (65535 : Int32)), (.int (65536 : Int32)), (.int (1114111 : Int32)), (.int (1114112 : Int32)), (.int (0 : Int32)), (.int (0 : Int32)), (.int (0 : Int32)), (.int (0 : Int32))] (.int (0 : Int32)) := Arv.set Ar66 q66 Sz66 Nn66 Hs66 G66 rfl W66 19 rfl (Nat.le_of_ble_eq_true rfl)
  have N66 := Fr.snoc X66 N63 gn_b2
  have z67 : n0 ≤ h66.size := Nat.le_trans z64 (Keep.of_wr W66).1
  have sg68 : ∀ t, Steps p.tables e below (T66.setTop (mkF m 122 #[.val (.int p1), .val (.int p2), .unset, .unset, .unset, .unset, .unset, .unset] [(.int (-2147483648 : Int32)), (.int (20 : Int32)), (.ref b2), (.ref b2)])) t → Steps p.tables e below (T66.setTop (mkF m 117 #[.val (.int p1), .val (.int p2), .unset, .unset, .unset, .unset, .unset, .unset] [(.ref b2)])) t := by
    intro t k
    show Steps p.tables e below (T66.setTop (mkF m 117 #[.val (.int p1), .val (.int p2), .unset, .unset, .unset, .unset, .unset, .unset] [(.ref b2)])) _
    refine XS.dup X66.here hx rfl (hb hby at_117) rfl rfl ?_
    show Steps p.tables e below (T66.setTop (mkF m 118 #[.val (.int p1), .val (.int p2), .unset, .unset, .unset, .unset, .unset, .unset] [(.ref b2), (.ref b2)])) _
    refine XS.bipush X66.here hx rfl (hb hby at_118) ?_
    show Steps p.tables e below (T66.setTop (mkF m 120 #[.val (.int p1), .val (.int p2), .unset, .unset, .unset, .unset, .unset, .unset] [(.int (20 : Int32)), (.ref b2), (.ref b2)])) _
    refine X66.ldcInt hx hown (mvT hZ (hw _ (List.mem_of_getElem? (i := 11) rfl))) (g := (mkF m 120 #[.val (.int p1), .val (.int p2), .unset, .unset, .unset, .unset, .unset, .unset] [(.int (20 : Int32)), (.ref b2), (.ref b2)])) rfl (hb hby at_120) _ ?_
    exact k
  obtain ⟨cl69, Ar69, q69, Sz69, Nn69, Hs69, G69⟩ := id V66
  have hin69 : ¬ ((20 : Int32) < 0 ∨ cl69.slots.size ≤ ((20 : Int32)).toNatClampNeg) := inb_of Sz69 ⟨by decide, by decide⟩
  obtain ⟨T69, h69, X69, e69, W69, st69⟩ := stI X66 hx hZ e66 Ar69 (j := (20 : Int32)) hin69 (g := (mkF m 122 #[.val (.int p1), .val (.int p2), .unset, .unset, .unset, .unset, .unset, .unset] [(.int (-2147483648 : Int32)), (.int (20 : Int32)), (.ref b2), (.ref b2)])) rfl rfl (hb hby at_122)
  have V69 : Arv Z h69 b2 k2 .int (24 : Int32) [(.int (0 : Int32)), (.int (8 : Int32)), (.int (9 : Int32)), (.int (10 : Int32)), (.int (11 : Int32)), (.int (12 : Int32)), (.int (13 : Int32)), (.int (14 : Int32)), (.int (31 : Int32)), (.int (32 : Int32)), (.int (55295 : Int32)), (.int (55296 : Int32)), (.int (57343 : Int32)), (.int (57344 : Int32)), (.int (65533 : Int32)), (.int (65534 : Int32)), (.int (65535 : Int32)), (.int (65536 : Int32)), (.int (1114111 : Int32)), (.int (1114112 : Int32)), (.int (-2147483648 : Int32)), (.int (0 : Int32)), (.int (0 : Int32)), (.int (0 : Int32))] (.int (0 : Int32)) := Arv.set Ar69 q69 Sz69 Nn69 Hs69 G69 rfl W69 20 rfl (Nat.le_of_ble_eq_true rfl)
  have N69 := Fr.snoc X69 N66 gn_b2
  have z70 : n0 ≤ h69.size := Nat.le_trans z67 (Keep.of_wr W69).1
  have sg71 : ∀ t, Steps p.tables e below (T69.setTop (mkF m 128 #[.val (.int p1), .val (.int p2), .unset, .unset, .unset, .unset, .unset, .unset] [(.int (2147483647 : Int32)), (.int (21 : Int32)), (.ref b2), (.ref b2)])) t → Steps p.tables e below (T69.setTop (mkF m 123 #[.val (.int p1), .val (.int p2), .unset, .unset, .unset, .unset, .unset, .unset] [(.ref b2)])) t := by
    intro t k
    show Steps p.tables e below (T69.setTop (mkF m 123 #[.val (.int p1), .val (.int p2), .unset, .unset, .unset, .unset, .unset, .unset] [(.ref b2)])) _
    refine XS.dup X69.here hx rfl (hb hby at_123) rfl rfl ?_
    show Steps p.tables e below (T69.setTop (mkF m 124 #[.val (.int p1), .val (.int p2), .unset, .unset, .unset, .unset, .unset, .unset] [(.ref b2), (.ref b2)])) _
    refine XS.bipush X69.here hx rfl (hb hby at_124) ?_
    show Steps p.tables e below (T69.setTop (mkF m 126 #[.val (.int p1), .val (.int p2), .unset, .unset, .unset, .unset, .unset, .unset] [(.int (21 : Int32)), (.ref b2), (.ref b2)])) _
    refine X69.ldcInt hx hown (mvT hZ (hw _ (List.mem_of_getElem? (i := 12) rfl))) (g := (mkF m 126 #[.val (.int p1), .val (.int p2), .unset, .unset, .unset, .unset, .unset, .unset] [(.int (21 : Int32)), (.ref b2), (.ref b2)])) rfl (hb hby at_126) _ ?_
    exact k
  obtain ⟨cl72, Ar72, q72, Sz72, Nn72, Hs72, G72⟩ := id V69
  have hin72 : ¬ ((21 : Int32) < 0 ∨ cl72.slots.size ≤ ((21 : Int32)).toNatClampNeg) := inb_of Sz72 ⟨by decide, by decide⟩
  obtain ⟨T72, h72, X72, e72, W72, st72⟩ := stI X69 hx hZ e69 Ar72 (j := (21 : Int32)) hin72 (g := (mkF m 128 #[.val (.int p1), .val (.int p2), .unset, .unset, .unset, .unset, .unset, .unset] [(.int (2147483647 : Int32)), (.int (21 : Int32)), (.ref b2), (.ref b2)])) rfl rfl (hb hby at_128)
  have V72 : Arv Z h72 b2 k2 .int (24 : Int32) [(.int (0 : Int32)), (.int (8 : Int32)), (.int (9 : Int32)), (.int (10 : Int32)), (.int (11 : Int32)), (.int (12 : Int32)), (.int (13 : Int32)), (.int (14 : Int32)), (.int (31 : Int32)), (.int (32 : Int32)), (.int (55295 : Int32)), (.int (55296 : Int32)), (.int (57343 : Int32)), (.int (57344 : Int32)), (.int (65533 : Int32)), (.int (65534 : Int32)), (.int (65535 : Int32)), (.int (65536 : Int32)), (.int (1114111 : Int32)), (.int (1114112 : Int32)), (.int (-2147483648 : Int32)), (.int (2147483647 : Int32)), (.int (0 : Int32)), (.int (0 : Int32))] (.int (0 : Int32)) := Arv.set Ar72 q72 Sz72 Nn72 Hs72 G72 rfl W72 21 rfl (Nat.le_of_ble_eq_true rfl)
  have N72 := Fr.snoc X72 N69 gn_b2
  have z73 : n0 ≤ h72.size := Nat.le_trans z70 (Keep.of_wr W72).1
  have sg74 : ∀ t, Steps p.tables e below (T72.setTop (mkF m 133 #[.val (.int p1), .val (.int p2), .unset, .unset, .unset, .unset, .unset, .unset] [(.int (-1 : Int32)), (.int (22 : Int32)), (.ref b2), (.ref b2)])) t → Steps p.tables e below (T72.setTop (mkF m 129 #[.val (.int p1), .val (.int p2), .unset, .unset, .unset, .unset, .unset, .unset] [(.ref b2)])) t := by
    intro t k
    show Steps p.tables e below (T72.setTop (mkF m 129 #[.val (.int p1), .val (.int p2), .unset, .unset, .unset, .unset, .unset, .unset] [(.ref b2)])) _
    refine XS.dup X72.here hx rfl (hb hby at_129) rfl rfl ?_
    show Steps p.tables e below (T72.setTop (mkF m 130 #[.val (.int p1), .val (.int p2), .unset, .unset, .unset, .unset, .unset, .unset] [(.ref b2), (.ref b2)])) _
    refine XS.bipush X72.here hx rfl (hb hby at_130) ?_
    show Steps p.tables e below (T72.setTop (mkF m 132 #[.val (.int p1), .val (.int p2), .unset, .unset, .unset, .unset, .unset, .unset] [(.int (22 : Int32)), (.ref b2), (.ref b2)])) _
    refine XS.iconst X72.here hx rfl (hb hby at_132) ?_
    exact k
  obtain ⟨cl75, Ar75, q75, Sz75, Nn75, Hs75, G75⟩ := id V72
  have hin75 : ¬ ((22 : Int32) < 0 ∨ cl75.slots.size ≤ ((22 : Int32)).toNatClampNeg) := inb_of Sz75 ⟨by decide, by decide⟩
  obtain ⟨T75, h75, X75, e75, W75, st75⟩ := stI X72 hx hZ e72 Ar75 (j := (22 : Int32)) hin75 (g := (mkF m 133 #[.val (.int p1), .val (.int p2), .unset, .unset, .unset, .unset, .unset, .unset] [(.int (-1 : Int32)), (.int (22 : Int32)), (.ref b2), (.ref b2)])) rfl rfl (hb hby at_133)
  have V75 : Arv Z h75 b2 k2 .int (24 : Int32) [(.int (0 : Int32)), (.int (8 : Int32)), (.int (9 : Int32)), (.int (10 : Int32)), (.int (11 : Int32)), (.int (12 : Int32)), (.int (13 : Int32)), (.int (14 : Int32)), (.int (31 : Int32)), (.int (32 : Int32)), (.int (55295 : Int32)), (.int (55296 : Int32)), (.int (57343 : Int32)), (.int (57344 : Int32)), (.int (65533 : Int32)), (.int (65534 : Int32)), (.int (65535 : Int32)), (.int (65536 : Int32)), (.int (1114111 : Int32)), (.int (1114112 : Int32)), (.int (-2147483648 : Int32)), (.int (2147483647 : Int32)), (.int (-1 : Int32)), (.int (0 : Int32))] (.int (0 : Int32)) := Arv.set Ar75 q75 Sz75 Nn75 Hs75 G75 rfl W75 22 rfl (Nat.le_of_ble_eq_true rfl)
  have N75 := Fr.snoc X75 N72 gn_b2
  have z76 : n0 ≤ h75.size := Nat.le_trans z73 (Keep.of_wr W75).1
  have sg77 : ∀ t, Steps p.tables e below (T75.setTop (mkF m 139 #[.val (.int p1), .val (.int p2), .unset, .unset, .unset, .unset, .unset, .unset] [(.int (127 : Int32)), (.int (23 : Int32)), (.ref b2), (.ref b2)])) t → Steps p.tables e below (T75.setTop (mkF m 134 #[.val (.int p1), .val (.int p2), .unset, .unset, .unset, .unset, .unset, .unset] [(.ref b2)])) t := by
    intro t k
    show Steps p.tables e below (T75.setTop (mkF m 134 #[.val (.int p1), .val (.int p2), .unset, .unset, .unset, .unset, .unset, .unset] [(.ref b2)])) _
    refine XS.dup X75.here hx rfl (hb hby at_134) rfl rfl ?_
    show Steps p.tables e below (T75.setTop (mkF m 135 #[.val (.int p1), .val (.int p2), .unset, .unset, .unset, .unset, .unset, .unset] [(.ref b2), (.ref b2)])) _
    refine XS.bipush X75.here hx rfl (hb hby at_135) ?_
    show Steps p.tables e below (T75.setTop (mkF m 137 #[.val (.int p1), .val (.int p2), .unset, .unset, .unset, .unset, .unset, .unset] [(.int (23 : Int32)), (.ref b2), (.ref b2)])) _
    refine XS.bipush X75.here hx rfl (hb hby at_137) ?_
    exact k
  obtain ⟨cl78, Ar78, q78, Sz78, Nn78, Hs78, G78⟩ := id V75
  have hin78 : ¬ ((23 : Int32) < 0 ∨ cl78.slots.size ≤ ((23 : Int32)).toNatClampNeg) := inb_of Sz78 ⟨by decide, by decide⟩
  obtain ⟨T78, h78, X78, e78, W78, st78⟩ := stI X75 hx hZ e75 Ar78 (j := (23 : Int32)) hin78 (g := (mkF m 139 #[.val (.int p1), .val (.int p2), .unset, .unset, .unset, .unset, .unset, .unset] [(.int (127 : Int32)), (.int (23 : Int32)), (.ref b2), (.ref b2)])) rfl rfl (hb hby at_139)
  have V78 : Arv Z h78 b2 k2 .int (24 : Int32) [(.int (0 : Int32)), (.int (8 : Int32)), (.int (9 : Int32)), (.int (10 : Int32)), (.int (11 : Int32)), (.int (12 : Int32)), (.int (13 : Int32)), (.int (14 : Int32)), (.int (31 : Int32)), (.int (32 : Int32)), (.int (55295 : Int32)), (.int (55296 : Int32)), (.int (57343 : Int32)), (.int (57344 : Int32)), (.int (65533 : Int32)), (.int (65534 : Int32)), (.int (65535 : Int32)), (.int (65536 : Int32)), (.int (1114111 : Int32)), (.int (1114112 : Int32)), (.int (-2147483648 : Int32)), (.int (2147483647 : Int32)), (.int (-1 : Int32)), (.int (127 : Int32))] (.int (0 : Int32)) := Arv.set Ar78 q78 Sz78 Nn78 Hs78 G78 rfl W78 23 rfl (Nat.le_of_ble_eq_true rfl)
  have N78 := Fr.snoc X78 N75 gn_b2
  have z79 : n0 ≤ h78.size := Nat.le_trans z76 (Keep.of_wr W78).1
  obtain ⟨lo80, X78, N78⟩ := own_abs X78 N78
  have sg81 : ∀ t, Steps p.tables e below (T78.setTop (mkF m 146 #[.val (.int p1), .val (.int p2), .val (.ref b2), .unset, .unset, .unset, .unset, .unset] [(.ref b2), (.int (p2 &&& (2147483647 : Int32)))])) t → Steps p.tables e below (T78.setTop (mkF m 140 #[.val (.int p1), .val (.int p2), .unset, .unset, .unset, .unset, .unset, .unset] [(.ref b2)])) t := by
    intro t k
    show Steps p.tables e below (T78.setTop (mkF m 140 #[.val (.int p1), .val (.int p2), .unset, .unset, .unset, .unset, .unset, .unset] [(.ref b2)])) _
    refine XS.astoreN X78.here hx rfl (hb hby at_140) rfl rfl (l' := #[.val (.int p1), .val (.int p2), .val (.ref b2), .unset, .unset, .unset, .unset, .unset]) rfl ?_
    show Steps p.tables e below (T78.setTop (mkF m 141 #[.val (.int p1), .val (.int p2), .val (.ref b2), .unset, .unset, .unset, .unset, .unset] [])) _
    refine XS.iloadN X78.here hx rfl (hb hby at_141) rfl ?_
    show Steps p.tables e below (T78.setTop (mkF m 142 #[.val (.int p1), .val (.int p2), .val (.ref b2), .unset, .unset, .unset, .unset, .unset] [(.int p2)])) _
    refine X78.ldcInt hx hown (mvT hZ (hw _ (List.mem_of_getElem? (i := 12) rfl))) (g := (mkF m 142 #[.val (.int p1), .val (.int p2), .val (.ref b2), .unset, .unset, .unset, .unset, .unset] [(.int p2)])) rfl (hb hby at_142) _ ?_
    show Steps p.tables e below (T78.setTop (mkF m 144 #[.val (.int p1), .val (.int p2), .val (.ref b2), .unset, .unset, .unset, .unset, .unset] [(.int (2147483647 : Int32)), (.int p2)])) _
    refine XS.iand X78.here hx rfl (hb hby at_144) rfl ?_
    show Steps p.tables e below (T78.setTop (mkF m 145 #[.val (.int p1), .val (.int p2), .val (.ref b2), .unset, .unset, .unset, .unset, .unset] [(.int (p2 &&& (2147483647 : Int32)))])) _
    refine XS.aloadN X78.here hx rfl (hb hby at_145) rfl rfl ?_
    exact k
  obtain ⟨cl82, Ar82, q82, Sz82, Nn82, Hs82, G82⟩ := id V78
  have st82 : ∀ t, Steps p.tables e below (T78.setTop (mkF m 147 #[.val (.int p1), .val (.int p2), .val (.ref b2), .unset, .unset, .unset, .unset, .unset] [(.int (24 : Int32)), (.int (p2 &&& (2147483647 : Int32)))])) t → Steps p.tables e below (T78.setTop (mkF m 146 #[.val (.int p1), .val (.int p2), .val (.ref b2), .unset, .unset, .unset, .unset, .unset] [(.ref b2), (.int (p2 &&& (2147483647 : Int32)))])) t := by
    intro t k
    refine X78.arraylength hx (by rw [e78]; exact Ar82.1) (State.isArrayOf_alike hZ.alike Ar82.2.1) (g := (mkF m 146 #[.val (.int p1), .val (.int p2), .val (.ref b2), .unset, .unset, .unset, .unset, .unset] [(.ref b2), (.int (p2 &&& (2147483647 : Int32)))])) rfl rfl (hb hby at_146) _ ?_
    rw [len_of Sz82 Nn82]
    exact k
  have sg83 : ∀ t, Steps p.tables e below (T78.setTop (mkF m 161 #[.val (.int p1), .val (.int p2), .val (.ref b2), .val (.int ((p2 &&& (2147483647 : Int32)) % (24 : Int32))), .val (.int ((((p2.toUInt32 >>> ((8 : Int32) &&& 31).toUInt32).toInt32) % (3 : Int32)) - (1 : Int32))), .unset, .unset, .unset] [(.int ((p2 &&& (2147483647 : Int32)) % (24 : Int32))), (.ref b2)])) t → Steps p.tables e below (T78.setTop (mkF m 147 #[.val (.int p1), .val (.int p2), .val (.ref b2), .unset, .unset, .unset, .unset, .unset] [(.int (24 : Int32)), (.int (p2 &&& (2147483647 : Int32)))])) t := by
    intro t k
    show Steps p.tables e below (T78.setTop (mkF m 147 #[.val (.int p1), .val (.int p2), .val (.ref b2), .unset, .unset, .unset, .unset, .unset] [(.int (24 : Int32)), (.int (p2 &&& (2147483647 : Int32)))])) _
    refine iremM X78 hx rfl (hb hby at_147) rfl (by decide) ?_
    show Steps p.tables e below (T78.setTop (mkF m 148 #[.val (.int p1), .val (.int p2), .val (.ref b2), .unset, .unset, .unset, .unset, .unset] [(.int ((p2 &&& (2147483647 : Int32)) % (24 : Int32)))])) _
    refine XS.istoreN X78.here hx rfl (hb hby at_148) rfl (l' := #[.val (.int p1), .val (.int p2), .val (.ref b2), .val (.int ((p2 &&& (2147483647 : Int32)) % (24 : Int32))), .unset, .unset, .unset, .unset]) rfl ?_
    show Steps p.tables e below (T78.setTop (mkF m 149 #[.val (.int p1), .val (.int p2), .val (.ref b2), .val (.int ((p2 &&& (2147483647 : Int32)) % (24 : Int32))), .unset, .unset, .unset, .unset] [])) _
    refine XS.iloadN X78.here hx rfl (hb hby at_149) rfl ?_
    show Steps p.tables e below (T78.setTop (mkF m 150 #[.val (.int p1), .val (.int p2), .val (.ref b2), .val (.int ((p2 &&& (2147483647 : Int32)) % (24 : Int32))), .unset, .unset, .unset, .unset] [(.int p2)])) _
    refine XS.bipush X78.here hx rfl (hb hby at_150) ?_
    show Steps p.tables e below (T78.setTop (mkF m 152 #[.val (.int p1), .val (.int p2), .val (.ref b2), .val (.int ((p2 &&& (2147483647 : Int32)) % (24 : Int32))), .unset, .unset, .unset, .unset] [(.int (8 : Int32)), (.int p2)])) _
    refine XS.iushr X78.here hx rfl (hb hby at_152) rfl ?_
    show Steps p.tables e below (T78.setTop (mkF m 153 #[.val (.int p1), .val (.int p2), .val (.ref b2), .val (.int ((p2 &&& (2147483647 : Int32)) % (24 : Int32))), .unset, .unset, .unset, .unset] [(.int ((p2.toUInt32 >>> ((8 : Int32) &&& 31).toUInt32).toInt32))])) _
    refine XS.iconst X78.here hx rfl (hb hby at_153) ?_
    show Steps p.tables e below (T78.setTop (mkF m 154 #[.val (.int p1), .val (.int p2), .val (.ref b2), .val (.int ((p2 &&& (2147483647 : Int32)) % (24 : Int32))), .unset, .unset, .unset, .unset] [(.int (3 : Int32)), (.int ((p2.toUInt32 >>> ((8 : Int32) &&& 31).toUInt32).toInt32))])) _
    refine iremM X78 hx rfl (hb hby at_154) rfl (by decide) ?_
    show Steps p.tables e below (T78.setTop (mkF m 155 #[.val (.int p1), .val (.int p2), .val (.ref b2), .val (.int ((p2 &&& (2147483647 : Int32)) % (24 : Int32))), .unset, .unset, .unset, .unset] [(.int (((p2.toUInt32 >>> ((8 : Int32) &&& 31).toUInt32).toInt32) % (3 : Int32)))])) _
    refine XS.iconst X78.here hx rfl (hb hby at_155) ?_
    show Steps p.tables e below (T78.setTop (mkF m 156 #[.val (.int p1), .val (.int p2), .val (.ref b2), .val (.int ((p2 &&& (2147483647 : Int32)) % (24 : Int32))), .unset, .unset, .unset, .unset] [(.int (1 : Int32)), (.int (((p2.toUInt32 >>> ((8 : Int32) &&& 31).toUInt32).toInt32) % (3 : Int32)))])) _
    refine XS.isub X78.here hx rfl (hb hby at_156) rfl ?_
    show Steps p.tables e below (T78.setTop (mkF m 157 #[.val (.int p1), .val (.int p2), .val (.ref b2), .val (.int ((p2 &&& (2147483647 : Int32)) % (24 : Int32))), .unset, .unset, .unset, .unset] [(.int ((((p2.toUInt32 >>> ((8 : Int32) &&& 31).toUInt32).toInt32) % (3 : Int32)) - (1 : Int32)))])) _
    refine XS.istore X78.here hx rfl (hb hby at_157) rfl (l' := #[.val (.int p1), .val (.int p2), .val (.ref b2), .val (.int ((p2 &&& (2147483647 : Int32)) % (24 : Int32))), .val (.int ((((p2.toUInt32 >>> ((8 : Int32) &&& 31).toUInt32).toInt32) % (3 : Int32)) - (1 : Int32))), .unset, .unset, .unset]) rfl ?_
    show Steps p.tables e below (T78.setTop (mkF m 159 #[.val (.int p1), .val (.int p2), .val (.ref b2), .val (.int ((p2 &&& (2147483647 : Int32)) % (24 : Int32))), .val (.int ((((p2.toUInt32 >>> ((8 : Int32) &&& 31).toUInt32).toInt32) % (3 : Int32)) - (1 : Int32))), .unset, .unset, .unset] [])) _
    refine XS.aloadN X78.here hx rfl (hb hby at_159) rfl rfl ?_
    show Steps p.tables e below (T78.setTop (mkF m 160 #[.val (.int p1), .val (.int p2), .val (.ref b2), .val (.int ((p2 &&& (2147483647 : Int32)) % (24 : Int32))), .val (.int ((((p2.toUInt32 >>> ((8 : Int32) &&& 31).toUInt32).toInt32) % (3 : Int32)) - (1 : Int32))), .unset, .unset, .unset] [(.ref b2)])) _
    refine XS.iloadN X78.here hx rfl (hb hby at_160) rfl ?_
    exact k
  obtain ⟨cl84, Ar84, q84, Sz84, Nn84, Hs84, G84⟩ := id V78
  have hin84 : ¬ (((p2 &&& (2147483647 : Int32)) % (24 : Int32)) < 0 ∨ cl84.slots.size ≤ (((p2 &&& (2147483647 : Int32)) % (24 : Int32))).toNatClampNeg) := inb_of Sz84 (own_idx _)
  have lt84 : (((p2 &&& (2147483647 : Int32)) % (24 : Int32))).toNatClampNeg < cl84.slots.size := Nat.lt_of_not_le fun q => hin84 (Or.inr q)
  obtain ⟨wx84, hwx84⟩ := fit_I (G84 _ lt84) (Or.inl rfl)
  have hat84 : cl84.slots[(((p2 &&& (2147483647 : Int32)) % (24 : Int32))).toNatClampNeg]? = some (.int wx84) := Has.at Hs84 hin84 hwx84
  have st84 : ∀ t, Steps p.tables e below (T78.setTop (mkF m 162 #[.val (.int p1), .val (.int p2), .val (.ref b2), .val (.int ((p2 &&& (2147483647 : Int32)) % (24 : Int32))), .val (.int ((((p2.toUInt32 >>> ((8 : Int32) &&& 31).toUInt32).toInt32) % (3 : Int32)) - (1 : Int32))), .unset, .unset, .unset] [(.int wx84)])) t → Steps p.tables e below (T78.setTop (mkF m 161 #[.val (.int p1), .val (.int p2), .val (.ref b2), .val (.int ((p2 &&& (2147483647 : Int32)) % (24 : Int32))), .val (.int ((((p2.toUInt32 >>> ((8 : Int32) &&& 31).toUInt32).toInt32) % (3 : Int32)) - (1 : Int32))), .unset, .unset, .unset] [(.int ((p2 &&& (2147483647 : Int32)) % (24 : Int32))), (.ref b2)])) t := by
    intro t k
    refine X78.iaload hx (j := ((p2 &&& (2147483647 : Int32)) % (24 : Int32))) (v := (.int wx84)) (by rw [e78]; exact Ar84.1) (State.isArrayOf_alike hZ.alike Ar84.2.1) Ar84.2.2 hin84 hat84 (g := (mkF m 161 #[.val (.int p1), .val (.int p2), .val (.ref b2), .val (.int ((p2 &&& (2147483647 : Int32)) % (24 : Int32))), .val (.int ((((p2.toUInt32 >>> ((8 : Int32) &&& 31).toUInt32).toInt32) % (3 : Int32)) - (1 : Int32))), .unset, .unset, .unset] [(.int ((p2 &&& (2147483647 : Int32)) % (24 : Int32))), (.ref b2)])) rfl rfl (hb hby at_161) _ ?_
    exact k
  have sg85 : ∀ t, Steps p.tables e below (T78.setTop (mkF m 168 #[.val (.int p1), .val (.int p2), .val (.ref b2), .val (.int ((p2 &&& (2147483647 : Int32)) % (24 : Int32))), .val (.int ((((p2.toUInt32 >>> ((8 : Int32) &&& 31).toUInt32).toInt32) % (3 : Int32)) - (1 : Int32))), .val (.int (wx84 + ((((p2.toUInt32 >>> ((8 : Int32) &&& 31).toUInt32).toInt32) % (3 : Int32)) - (1 : Int32)))), .unset, .unset] [(.int p1)])) t → Steps p.tables e below (T78.setTop (mkF m 162 #[.val (.int p1), .val (.int p2), .val (.ref b2), .val (.int ((p2 &&& (2147483647 : Int32)) % (24 : Int32))), .val (.int ((((p2.toUInt32 >>> ((8 : Int32) &&& 31).toUInt32).toInt32) % (3 : Int32)) - (1 : Int32))), .unset, .unset, .unset] [(.int wx84)])) t := by
    intro t k
    show Steps p.tables e below (T78.setTop (mkF m 162 #[.val (.int p1), .val (.int p2), .val (.ref b2), .val (.int ((p2 &&& (2147483647 : Int32)) % (24 : Int32))), .val (.int ((((p2.toUInt32 >>> ((8 : Int32) &&& 31).toUInt32).toInt32) % (3 : Int32)) - (1 : Int32))), .unset, .unset, .unset] [(.int wx84)])) _
    refine XS.iload X78.here hx rfl (hb hby at_162) rfl ?_
    show Steps p.tables e below (T78.setTop (mkF m 164 #[.val (.int p1), .val (.int p2), .val (.ref b2), .val (.int ((p2 &&& (2147483647 : Int32)) % (24 : Int32))), .val (.int ((((p2.toUInt32 >>> ((8 : Int32) &&& 31).toUInt32).toInt32) % (3 : Int32)) - (1 : Int32))), .unset, .unset, .unset] [(.int ((((p2.toUInt32 >>> ((8 : Int32) &&& 31).toUInt32).toInt32) % (3 : Int32)) - (1 : Int32))), (.int wx84)])) _
    refine XS.iadd X78.here hx rfl (hb hby at_164) rfl ?_
    show Steps p.tables e below (T78.setTop (mkF m 165 #[.val (.int p1), .val (.int p2), .val (.ref b2), .val (.int ((p2 &&& (2147483647 : Int32)) % (24 : Int32))), .val (.int ((((p2.toUInt32 >>> ((8 : Int32) &&& 31).toUInt32).toInt32) % (3 : Int32)) - (1 : Int32))), .unset, .unset, .unset] [(.int (wx84 + ((((p2.toUInt32 >>> ((8 : Int32) &&& 31).toUInt32).toInt32) % (3 : Int32)) - (1 : Int32))))])) _
    refine XS.istore X78.here hx rfl (hb hby at_165) rfl (l' := #[.val (.int p1), .val (.int p2), .val (.ref b2), .val (.int ((p2 &&& (2147483647 : Int32)) % (24 : Int32))), .val (.int ((((p2.toUInt32 >>> ((8 : Int32) &&& 31).toUInt32).toInt32) % (3 : Int32)) - (1 : Int32))), .val (.int (wx84 + ((((p2.toUInt32 >>> ((8 : Int32) &&& 31).toUInt32).toInt32) % (3 : Int32)) - (1 : Int32)))), .unset, .unset]) rfl ?_
    show Steps p.tables e below (T78.setTop (mkF m 167 #[.val (.int p1), .val (.int p2), .val (.ref b2), .val (.int ((p2 &&& (2147483647 : Int32)) % (24 : Int32))), .val (.int ((((p2.toUInt32 >>> ((8 : Int32) &&& 31).toUInt32).toInt32) % (3 : Int32)) - (1 : Int32))), .val (.int (wx84 + ((((p2.toUInt32 >>> ((8 : Int32) &&& 31).toUInt32).toInt32) % (3 : Int32)) - (1 : Int32)))), .unset, .unset] [])) _
    refine XS.iloadN X78.here hx rfl (hb hby at_167) rfl ?_
    exact k
  obtain ⟨_, _, ⟨T86, L86, k86, n86⟩, -, X86, ⟨Lc86, hQ86, l86, y86, z86⟩, st86⟩ := Jvm.LawKit.callS X78 hx (y := (⟨"com/example/dongying/dongying/xml/XmlChars", "isChar", "(I)Z"⟩ : MethodName)) hown (mvT hZ (hw _ (List.mem_of_getElem? (i := 13) rfl))) (mvT hZ (hw _ (List.mem_of_getElem? (i := 14) rfl))) (mvT hZ (hw _ (List.mem_of_getElem? (i := 15) rfl))) (mvT hZ (hw _ (List.mem_of_getElem? (i := 16) rfl))) (by decide) (backOf (W := 0) (rmA l Z a0 hw [] p1 h78 n0 z79) hZ (hw _ (List.mem_of_getElem? (i := 16) rfl)) (hw _ (List.mem_of_getElem? (i := 15) rfl)) (by decide) (by decide)) (g := (mkF m 168 #[.val (.int p1), .val (.int p2), .val (.ref b2), .val (.int ((p2 &&& (2147483647 : Int32)) % (24 : Int32))), .val (.int ((((p2.toUInt32 >>> ((8 : Int32) &&& 31).toUInt32).toInt32) % (3 : Int32)) - (1 : Int32))), .val (.int (wx84 + ((((p2.toUInt32 >>> ((8 : Int32) &&& 31).toUInt32).toInt32) % (3 : Int32)) - (1 : Int32)))), .unset, .unset] [(.int p1)])) rfl (by rw [hml]; rfl) (argsL := [(.int p1)]) (rest := []) (lenOf pd_0 rfl) rfl (by show 2 * 0 + _ ≤ _; exact Nat.le_of_eq rfl) (hb hby at_168) (fun _ _ => ⟨rfl, e78, (by decide : 1 + 0 ≤ _), (by decide : 24 + 0 ≤ _)⟩)
  dsimp only [Pt.U, Pt.locs, Pt.cells, Pt.slots] at X86 l86 y86 z86 st86 hQ86
  subst l86 y86 z86
  obtain ⟨rfl, N86q, e86⟩ := hQ86
  have N86 := Fr.app N78 N86q
  have sg87 : ∀ t, Steps p.tables e below (T86.setTop (mkF m 172 #[.val (.int p1), .val (.int p2), .val (.ref b2), .val (.int ((p2 &&& (2147483647 : Int32)) % (24 : Int32))), .val (.int ((((p2.toUInt32 >>> ((8 : Int32) &&& 31).toUInt32).toInt32) % (3 : Int32)) - (1 : Int32))), .val (.int (wx84 + ((((p2.toUInt32 >>> ((8 : Int32) &&& 31).toUInt32).toInt32) % (3 : Int32)) - (1 : Int32)))), .unset, .unset] [(.int p1), (.int (fA p1))])) t → Steps p.tables e below (T86.setTop (mkF m 171 #[.val (.int p1), .val (.int p2), .val (.ref b2), .val (.int ((p2 &&& (2147483647 : Int32)) % (24 : Int32))), .val (.int ((((p2.toUInt32 >>> ((8 : Int32) &&& 31).toUInt32).toInt32) % (3 : Int32)) - (1 : Int32))), .val (.int (wx84 + ((((p2.toUInt32 >>> ((8 : Int32) &&& 31).toUInt32).toInt32) % (3 : Int32)) - (1 : Int32)))), .unset, .unset] [(.int (fA p1))])) t := by
    intro t k
    show Steps p.tables e below (T86.setTop (mkF m 171 #[.val (.int p1), .val (.int p2), .val (.ref b2), .val (.int ((p2 &&& (2147483647 : Int32)) % (24 : Int32))), .val (.int ((((p2.toUInt32 >>> ((8 : Int32) &&& 31).toUInt32).toInt32) % (3 : Int32)) - (1 : Int32))), .val (.int (wx84 + ((((p2.toUInt32 >>> ((8 : Int32) &&& 31).toUInt32).toInt32) % (3 : Int32)) - (1 : Int32)))), .unset, .unset] [(.int (fA p1))])) _
    refine XS.iloadN X86.here hx rfl (hb hby at_171) rfl ?_
    exact k
  obtain ⟨_, _, ⟨T88, L88, k88, n88⟩, -, X88, ⟨Lc88, hQ88, l88, y88, z88⟩, st88⟩ := Jvm.LawKit.callS X86 hx (y := (⟨"com/example/dongying/dongying/xml/XmlCharsIsCharPinLaw", "expected", "(I)Z"⟩ : MethodName)) hown (mvT hZ (hw _ (List.mem_of_getElem? (i := 19) rfl))) (mvT hZ (hw _ (List.mem_of_getElem? (i := 20) rfl))) (mvT hZ (hw _ (List.mem_of_getElem? (i := 21) rfl))) (mvT hZ (hw _ (List.mem_of_getElem? (i := 22) rfl))) (by decide) (backOf (W := 1) (rmB l Z a0 hw [] p1 h78 n0 z79) hZ (hw _ (List.mem_of_getElem? (i := 22) rfl)) (hw _ (List.mem_of_getElem? (i := 21) rfl)) (by decide) (by decide)) (g := (mkF m 172 #[.val (.int p1), .val (.int p2), .val (.ref b2), .val (.int ((p2 &&& (2147483647 : Int32)) % (24 : Int32))), .val (.int ((((p2.toUInt32 >>> ((8 : Int32) &&& 31).toUInt32).toInt32) % (3 : Int32)) - (1 : Int32))), .val (.int (wx84 + ((((p2.toUInt32 >>> ((8 : Int32) &&& 31).toUInt32).toInt32) % (3 : Int32)) - (1 : Int32)))), .unset, .unset] [(.int p1), (.int (fA p1))])) rfl (by rw [hml]; rfl) (argsL := [(.int p1)]) (rest := [(.int (fA p1))]) (lenOf pd_0 rfl) rfl (by show 2 * 0 + _ ≤ _; exact Nat.le_of_eq rfl) (hb hby at_172) (fun _ _ => ⟨rfl, e86, (by decide : 1 + 0 ≤ _), (by decide : 24 + 0 ≤ _)⟩)
  dsimp only [Pt.U, Pt.locs, Pt.cells, Pt.slots] at X88 l88 y88 z88 st88 hQ88
  subst l88 y88 z88
  obtain ⟨rfl, N88q, e88⟩ := hQ88
  have N88 := Fr.app N86 N88q
  have sg89 : ∀ t, Steps p.tables e below (T88.setTop (mkF m 187 #[.val (.int p1), .val (.int p2), .val (.ref b2), .val (.int ((p2 &&& (2147483647 : Int32)) % (24 : Int32))), .val (.int ((((p2.toUInt32 >>> ((8 : Int32) &&& 31).toUInt32).toInt32) % (3 : Int32)) - (1 : Int32))), .val (.int (wx84 + ((((p2.toUInt32 >>> ((8 : Int32) &&& 31).toUInt32).toInt32) % (3 : Int32)) - (1 : Int32)))), .val (.int (1 : Int32)), .unset] [(.int (wx84 + ((((p2.toUInt32 >>> ((8 : Int32) &&& 31).toUInt32).toInt32) % (3 : Int32)) - (1 : Int32))))])) t → Steps p.tables e below (T88.setTop (mkF m 175 #[.val (.int p1), .val (.int p2), .val (.ref b2), .val (.int ((p2 &&& (2147483647 : Int32)) % (24 : Int32))), .val (.int ((((p2.toUInt32 >>> ((8 : Int32) &&& 31).toUInt32).toInt32) % (3 : Int32)) - (1 : Int32))), .val (.int (wx84 + ((((p2.toUInt32 >>> ((8 : Int32) &&& 31).toUInt32).toInt32) % (3 : Int32)) - (1 : Int32)))), .unset, .unset] [(.int (fB p1)), (.int (fA p1))])) t := by
    intro t k
    show Steps p.tables e below (T88.setTop (mkF m 175 #[.val (.int p1), .val (.int p2), .val (.ref b2), .val (.int ((p2 &&& (2147483647 : Int32)) % (24 : Int32))), .val (.int ((((p2.toUInt32 >>> ((8 : Int32) &&& 31).toUInt32).toInt32) % (3 : Int32)) - (1 : Int32))), .val (.int (wx84 + ((((p2.toUInt32 >>> ((8 : Int32) &&& 31).toUInt32).toInt32) % (3 : Int32)) - (1 : Int32)))), .unset, .unset] [(.int (fB p1)), (.int (fA p1))])) _
    refine XS.icmpNo X88.here hx rfl (hb hby at_175) rfl (teq ((own_law _) : (fA p1) = (fB p1))).2 ?_
    show Steps p.tables e below (T88.setTop (mkF m 178 #[.val (.int p1), .val (.int p2), .val (.ref b2), .val (.int ((p2 &&& (2147483647 : Int32)) % (24 : Int32))), .val (.int ((((p2.toUInt32 >>> ((8 : Int32) &&& 31).toUInt32).toInt32) % (3 : Int32)) - (1 : Int32))), .val (.int (wx84 + ((((p2.toUInt32 >>> ((8 : Int32) &&& 31).toUInt32).toInt32) % (3 : Int32)) - (1 : Int32)))), .unset, .unset] [])) _
    refine XS.iconst X88.here hx rfl (hb hby at_178) ?_
    show Steps p.tables e below (T88.setTop (mkF m 179 #[.val (.int p1), .val (.int p2), .val (.ref b2), .val (.int ((p2 &&& (2147483647 : Int32)) % (24 : Int32))), .val (.int ((((p2.toUInt32 >>> ((8 : Int32) &&& 31).toUInt32).toInt32) % (3 : Int32)) - (1 : Int32))), .val (.int (wx84 + ((((p2.toUInt32 >>> ((8 : Int32) &&& 31).toUInt32).toInt32) % (3 : Int32)) - (1 : Int32)))), .unset, .unset] [(.int (1 : Int32))])) _
    refine XS.goto X88.here hx rfl (pc0 := 179) (pc' := 183) rfl (hb hby at_179) (by decide) (by decide) ?_
    show Steps p.tables e below (T88.setTop (mkF m 183 #[.val (.int p1), .val (.int p2), .val (.ref b2), .val (.int ((p2 &&& (2147483647 : Int32)) % (24 : Int32))), .val (.int ((((p2.toUInt32 >>> ((8 : Int32) &&& 31).toUInt32).toInt32) % (3 : Int32)) - (1 : Int32))), .val (.int (wx84 + ((((p2.toUInt32 >>> ((8 : Int32) &&& 31).toUInt32).toInt32) % (3 : Int32)) - (1 : Int32)))), .unset, .unset] [(.int (1 : Int32))])) _
    refine XS.istore X88.here hx rfl (hb hby at_183) rfl (l' := #[.val (.int p1), .val (.int p2), .val (.ref b2), .val (.int ((p2 &&& (2147483647 : Int32)) % (24 : Int32))), .val (.int ((((p2.toUInt32 >>> ((8 : Int32) &&& 31).toUInt32).toInt32) % (3 : Int32)) - (1 : Int32))), .val (.int (wx84 + ((((p2.toUInt32 >>> ((8 : Int32) &&& 31).toUInt32).toInt32) % (3 : Int32)) - (1 : Int32)))), .val (.int (1 : Int32)), .unset]) rfl ?_
    show Steps p.tables e below (T88.setTop (mkF m 185 #[.val (.int p1), .val (.int p2), .val (.ref b2), .val (.int ((p2 &&& (2147483647 : Int32)) % (24 : Int32))), .val (.int ((((p2.toUInt32 >>> ((8 : Int32) &&& 31).toUInt32).toInt32) % (3 : Int32)) - (1 : Int32))), .val (.int (wx84 + ((((p2.toUInt32 >>> ((8 : Int32) &&& 31).toUInt32).toInt32) % (3 : Int32)) - (1 : Int32)))), .val (.int (1 : Int32)), .unset] [])) _
    refine XS.iload X88.here hx rfl (hb hby at_185) rfl ?_
    exact k
  obtain ⟨_, _, ⟨T90, L90, k90, n90⟩, -, X90, ⟨Lc90, hQ90, l90, y90, z90⟩, st90⟩ := Jvm.LawKit.callS X88 hx (y := (⟨"com/example/dongying/dongying/xml/XmlChars", "isChar", "(I)Z"⟩ : MethodName)) hown (mvT hZ (hw _ (List.mem_of_getElem? (i := 13) rfl))) (mvT hZ (hw _ (List.mem_of_getElem? (i := 14) rfl))) (mvT hZ (hw _ (List.mem_of_getElem? (i := 15) rfl))) (mvT hZ (hw _ (List.mem_of_getElem? (i := 16) rfl))) (by decide) (backOf (W := 0) (rmA l Z a0 hw [] (wx84 + ((((p2.toUInt32 >>> ((8 : Int32) &&& 31).toUInt32).toInt32) % (3 : Int32)) - (1 : Int32))) h78 n0 z79) hZ (hw _ (List.mem_of_getElem? (i := 16) rfl)) (hw _ (List.mem_of_getElem? (i := 15) rfl)) (by decide) (by decide)) (g := (mkF m 187 #[.val (.int p1), .val (.int p2), .val (.ref b2), .val (.int ((p2 &&& (2147483647 : Int32)) % (24 : Int32))), .val (.int ((((p2.toUInt32 >>> ((8 : Int32) &&& 31).toUInt32).toInt32) % (3 : Int32)) - (1 : Int32))), .val (.int (wx84 + ((((p2.toUInt32 >>> ((8 : Int32) &&& 31).toUInt32).toInt32) % (3 : Int32)) - (1 : Int32)))), .val (.int (1 : Int32)), .unset] [(.int (wx84 + ((((p2.toUInt32 >>> ((8 : Int32) &&& 31).toUInt32).toInt32) % (3 : Int32)) - (1 : Int32))))])) rfl (by rw [hml]; rfl) (argsL := [(.int (wx84 + ((((p2.toUInt32 >>> ((8 : Int32) &&& 31).toUInt32).toInt32) % (3 : Int32)) - (1 : Int32))))]) (rest := []) (lenOf pd_0 rfl) rfl (by show 2 * 0 + _ ≤ _; exact Nat.le_of_eq rfl) (hb hby at_187) (fun _ _ => ⟨rfl, e88, (by decide : 1 + 0 ≤ _), (by decide : 24 + 0 ≤ _)⟩)
  dsimp only [Pt.U, Pt.locs, Pt.cells, Pt.slots] at X90 l90 y90 z90 st90 hQ90
  subst l90 y90 z90
  obtain ⟨rfl, N90q, e90⟩ := hQ90
  have N90 := Fr.app N88 N90q
  have sg91 : ∀ t, Steps p.tables e below (T90.setTop (mkF m 192 #[.val (.int p1), .val (.int p2), .val (.ref b2), .val (.int ((p2 &&& (2147483647 : Int32)) % (24 : Int32))), .val (.int ((((p2.toUInt32 >>> ((8 : Int32) &&& 31).toUInt32).toInt32) % (3 : Int32)) - (1 : Int32))), .val (.int (wx84 + ((((p2.toUInt32 >>> ((8 : Int32) &&& 31).toUInt32).toInt32) % (3 : Int32)) - (1 : Int32)))), .val (.int (1 : Int32)), .unset] [(.int (wx84 + ((((p2.toUInt32 >>> ((8 : Int32) &&& 31).toUInt32).toInt32) % (3 : Int32)) - (1 : Int32)))), (.int (fA (wx84 + ((((p2.toUInt32 >>> ((8 : Int32) &&& 31).toUInt32).toInt32) % (3 : Int32)) - (1 : Int32)))))])) t → Steps p.tables e below (T90.setTop (mkF m 190 #[.val (.int p1), .val (.int p2), .val (.ref b2), .val (.int ((p2 &&& (2147483647 : Int32)) % (24 : Int32))), .val (.int ((((p2.toUInt32 >>> ((8 : Int32) &&& 31).toUInt32).toInt32) % (3 : Int32)) - (1 : Int32))), .val (.int (wx84 + ((((p2.toUInt32 >>> ((8 : Int32) &&& 31).toUInt32).toInt32) % (3 : Int32)) - (1 : Int32)))), .val (.int (1 : Int32)), .unset] [(.int (fA (wx84 + ((((p2.toUInt32 >>> ((8 : Int32) &&& 31).toUInt32).toInt32) % (3 : Int32)) - (1 : Int32)))))])) t := by
    intro t k
    show Steps p.tables e below (T90.setTop (mkF m 190 #[.val (.int p1), .val (.int p2), .val (.ref b2), .val (.int ((p2 &&& (2147483647 : Int32)) % (24 : Int32))), .val (.int ((((p2.toUInt32 >>> ((8 : Int32) &&& 31).toUInt32).toInt32) % (3 : Int32)) - (1 : Int32))), .val (.int (wx84 + ((((p2.toUInt32 >>> ((8 : Int32) &&& 31).toUInt32).toInt32) % (3 : Int32)) - (1 : Int32)))), .val (.int (1 : Int32)), .unset] [(.int (fA (wx84 + ((((p2.toUInt32 >>> ((8 : Int32) &&& 31).toUInt32).toInt32) % (3 : Int32)) - (1 : Int32)))))])) _
    refine XS.iload X90.here hx rfl (hb hby at_190) rfl ?_
    exact k
  obtain ⟨_, _, ⟨T92, L92, k92, n92⟩, -, X92, ⟨Lc92, hQ92, l92, y92, z92⟩, st92⟩ := Jvm.LawKit.callS X90 hx (y := (⟨"com/example/dongying/dongying/xml/XmlCharsIsCharPinLaw", "expected", "(I)Z"⟩ : MethodName)) hown (mvT hZ (hw _ (List.mem_of_getElem? (i := 19) rfl))) (mvT hZ (hw _ (List.mem_of_getElem? (i := 20) rfl))) (mvT hZ (hw _ (List.mem_of_getElem? (i := 21) rfl))) (mvT hZ (hw _ (List.mem_of_getElem? (i := 22) rfl))) (by decide) (backOf (W := 1) (rmB l Z a0 hw [] (wx84 + ((((p2.toUInt32 >>> ((8 : Int32) &&& 31).toUInt32).toInt32) % (3 : Int32)) - (1 : Int32))) h78 n0 z79) hZ (hw _ (List.mem_of_getElem? (i := 22) rfl)) (hw _ (List.mem_of_getElem? (i := 21) rfl)) (by decide) (by decide)) (g := (mkF m 192 #[.val (.int p1), .val (.int p2), .val (.ref b2), .val (.int ((p2 &&& (2147483647 : Int32)) % (24 : Int32))), .val (.int ((((p2.toUInt32 >>> ((8 : Int32) &&& 31).toUInt32).toInt32) % (3 : Int32)) - (1 : Int32))), .val (.int (wx84 + ((((p2.toUInt32 >>> ((8 : Int32) &&& 31).toUInt32).toInt32) % (3 : Int32)) - (1 : Int32)))), .val (.int (1 : Int32)), .unset] [(.int (wx84 + ((((p2.toUInt32 >>> ((8 : Int32) &&& 31).toUInt32).toInt32) % (3 : Int32)) - (1 : Int32)))), (.int (fA (wx84 + ((((p2.toUInt32 >>> ((8 : Int32) &&& 31).toUInt32).toInt32) % (3 : Int32)) - (1 : Int32)))))])) rfl (by rw [hml]; rfl) (argsL := [(.int (wx84 + ((((p2.toUInt32 >>> ((8 : Int32) &&& 31).toUInt32).toInt32) % (3 : Int32)) - (1 : Int32))))]) (rest := [(.int (fA (wx84 + ((((p2.toUInt32 >>> ((8 : Int32) &&& 31).toUInt32).toInt32) % (3 : Int32)) - (1 : Int32)))))]) (lenOf pd_0 rfl) rfl (by show 2 * 0 + _ ≤ _; exact Nat.le_of_eq rfl) (hb hby at_192) (fun _ _ => ⟨rfl, e90, (by decide : 1 + 0 ≤ _), (by decide : 24 + 0 ≤ _)⟩)
  dsimp only [Pt.U, Pt.locs, Pt.cells, Pt.slots] at X92 l92 y92 z92 st92 hQ92
  subst l92 y92 z92
  obtain ⟨rfl, N92q, e92⟩ := hQ92
  have N92 := Fr.app N90 N92q
  have sg93 : ∀ t, Steps p.tables e below (T92.setTop (mkF m 220 #[.val (.int p1), .val (.int p2), .val (.ref b2), .val (.int ((p2 &&& (2147483647 : Int32)) % (24 : Int32))), .val (.int ((((p2.toUInt32 >>> ((8 : Int32) &&& 31).toUInt32).toInt32) % (3 : Int32)) - (1 : Int32))), .val (.int (wx84 + ((((p2.toUInt32 >>> ((8 : Int32) &&& 31).toUInt32).toInt32) % (3 : Int32)) - (1 : Int32)))), .val (.int (1 : Int32)), .val (.int (1 : Int32))] [(.int (1 : Int32))])) t → Steps p.tables e below (T92.setTop (mkF m 195 #[.val (.int p1), .val (.int p2), .val (.ref b2), .val (.int ((p2 &&& (2147483647 : Int32)) % (24 : Int32))), .val (.int ((((p2.toUInt32 >>> ((8 : Int32) &&& 31).toUInt32).toInt32) % (3 : Int32)) - (1 : Int32))), .val (.int (wx84 + ((((p2.toUInt32 >>> ((8 : Int32) &&& 31).toUInt32).toInt32) % (3 : Int32)) - (1 : Int32)))), .val (.int (1 : Int32)), .unset] [(.int (fB (wx84 + ((((p2.toUInt32 >>> ((8 : Int32) &&& 31).toUInt32).toInt32) % (3 : Int32)) - (1 : Int32))))), (.int (fA (wx84 + ((((p2.toUInt32 >>> ((8 : Int32) &&& 31).toUInt32).toInt32) % (3 : Int32)) - (1 : Int32)))))])) t := by
    intro t k
    show Steps p.tables e below (T92.setTop (mkF m 195 #[.val (.int p1), .val (.int p2), .val (.ref b2), .val (.int ((p2 &&& (2147483647 : Int32)) % (24 : Int32))), .val (.int ((((p2.toUInt32 >>> ((8 : Int32) &&& 31).toUInt32).toInt32) % (3 : Int32)) - (1 : Int32))), .val (.int (wx84 + ((((p2.toUInt32 >>> ((8 : Int32) &&& 31).toUInt32).toInt32) % (3 : Int32)) - (1 : Int32)))), .val (.int (1 : Int32)), .unset] [(.int (fB (wx84 + ((((p2.toUInt32 >>> ((8 : Int32) &&& 31).toUInt32).toInt32) % (3 : Int32)) - (1 : Int32))))), (.int (fA (wx84 + ((((p2.toUInt32 >>> ((8 : Int32) &&& 31).toUInt32).toInt32) % (3 : Int32)) - (1 : Int32)))))])) _
    refine XS.icmpNo X92.here hx rfl (hb hby at_195) rfl (teq ((own_law _) : (fA (wx84 + ((((p2.toUInt32 >>> ((8 : Int32) &&& 31).toUInt32).toInt32) % (3 : Int32)) - (1 : Int32)))) = (fB (wx84 + ((((p2.toUInt32 >>> ((8 : Int32) &&& 31).toUInt32).toInt32) % (3 : Int32)) - (1 : Int32)))))).2 ?_
    show Steps p.tables e below (T92.setTop (mkF m 198 #[.val (.int p1), .val (.int p2), .val (.ref b2), .val (.int ((p2 &&& (2147483647 : Int32)) % (24 : Int32))), .val (.int ((((p2.toUInt32 >>> ((8 : Int32) &&& 31).toUInt32).toInt32) % (3 : Int32)) - (1 : Int32))), .val (.int (wx84 + ((((p2.toUInt32 >>> ((8 : Int32) &&& 31).toUInt32).toInt32) % (3 : Int32)) - (1 : Int32)))), .val (.int (1 : Int32)), .unset] [])) _
    refine XS.iconst X92.here hx rfl (hb hby at_198) ?_
    show Steps p.tables e below (T92.setTop (mkF m 199 #[.val (.int p1), .val (.int p2), .val (.ref b2), .val (.int ((p2 &&& (2147483647 : Int32)) % (24 : Int32))), .val (.int ((((p2.toUInt32 >>> ((8 : Int32) &&& 31).toUInt32).toInt32) % (3 : Int32)) - (1 : Int32))), .val (.int (wx84 + ((((p2.toUInt32 >>> ((8 : Int32) &&& 31).toUInt32).toInt32) % (3 : Int32)) - (1 : Int32)))), .val (.int (1 : Int32)), .unset] [(.int (1 : Int32))])) _
    refine XS.goto X92.here hx rfl (pc0 := 199) (pc' := 203) rfl (hb hby at_199) (by decide) (by decide) ?_
    show Steps p.tables e below (T92.setTop (mkF m 203 #[.val (.int p1), .val (.int p2), .val (.ref b2), .val (.int ((p2 &&& (2147483647 : Int32)) % (24 : Int32))), .val (.int ((((p2.toUInt32 >>> ((8 : Int32) &&& 31).toUInt32).toInt32) % (3 : Int32)) - (1 : Int32))), .val (.int (wx84 + ((((p2.toUInt32 >>> ((8 : Int32) &&& 31).toUInt32).toInt32) % (3 : Int32)) - (1 : Int32)))), .val (.int (1 : Int32)), .unset] [(.int (1 : Int32))])) _
    refine XS.istore X92.here hx rfl (hb hby at_203) rfl (l' := #[.val (.int p1), .val (.int p2), .val (.ref b2), .val (.int ((p2 &&& (2147483647 : Int32)) % (24 : Int32))), .val (.int ((((p2.toUInt32 >>> ((8 : Int32) &&& 31).toUInt32).toInt32) % (3 : Int32)) - (1 : Int32))), .val (.int (wx84 + ((((p2.toUInt32 >>> ((8 : Int32) &&& 31).toUInt32).toInt32) % (3 : Int32)) - (1 : Int32)))), .val (.int (1 : Int32)), .val (.int (1 : Int32))]) rfl ?_
    show Steps p.tables e below (T92.setTop (mkF m 205 #[.val (.int p1), .val (.int p2), .val (.ref b2), .val (.int ((p2 &&& (2147483647 : Int32)) % (24 : Int32))), .val (.int ((((p2.toUInt32 >>> ((8 : Int32) &&& 31).toUInt32).toInt32) % (3 : Int32)) - (1 : Int32))), .val (.int (wx84 + ((((p2.toUInt32 >>> ((8 : Int32) &&& 31).toUInt32).toInt32) % (3 : Int32)) - (1 : Int32)))), .val (.int (1 : Int32)), .val (.int (1 : Int32))] [])) _
    refine XS.iload X92.here hx rfl (hb hby at_205) rfl ?_
    show Steps p.tables e below (T92.setTop (mkF m 207 #[.val (.int p1), .val (.int p2), .val (.ref b2), .val (.int ((p2 &&& (2147483647 : Int32)) % (24 : Int32))), .val (.int ((((p2.toUInt32 >>> ((8 : Int32) &&& 31).toUInt32).toInt32) % (3 : Int32)) - (1 : Int32))), .val (.int (wx84 + ((((p2.toUInt32 >>> ((8 : Int32) &&& 31).toUInt32).toInt32) % (3 : Int32)) - (1 : Int32)))), .val (.int (1 : Int32)), .val (.int (1 : Int32))] [(.int (1 : Int32))])) _
    refine XS.ifNo X92.here hx rfl (hb hby at_207) rfl ((if0 _ _).trans (feq (by decide : ¬ ((1 : Int32) = (0 : Int32)))).1) ?_
    show Steps p.tables e below (T92.setTop (mkF m 210 #[.val (.int p1), .val (.int p2), .val (.ref b2), .val (.int ((p2 &&& (2147483647 : Int32)) % (24 : Int32))), .val (.int ((((p2.toUInt32 >>> ((8 : Int32) &&& 31).toUInt32).toInt32) % (3 : Int32)) - (1 : Int32))), .val (.int (wx84 + ((((p2.toUInt32 >>> ((8 : Int32) &&& 31).toUInt32).toInt32) % (3 : Int32)) - (1 : Int32)))), .val (.int (1 : Int32)), .val (.int (1 : Int32))] [])) _
    refine XS.iload X92.here hx rfl (hb hby at_210) rfl ?_
    show Steps p.tables e below (T92.setTop (mkF m 212 #[.val (.int p1), .val (.int p2), .val (.ref b2), .val (.int ((p2 &&& (2147483647 : Int32)) % (24 : Int32))), .val (.int ((((p2.toUInt32 >>> ((8 : Int32) &&& 31).toUInt32).toInt32) % (3 : Int32)) - (1 : Int32))), .val (.int (wx84 + ((((p2.toUInt32 >>> ((8 : Int32) &&& 31).toUInt32).toInt32) % (3 : Int32)) - (1 : Int32)))), .val (.int (1 : Int32)), .val (.int (1 : Int32))] [(.int (1 : Int32))])) _
    refine XS.ifNo X92.here hx rfl (hb hby at_212) rfl ((if0 _ _).trans (feq (by decide : ¬ ((1 : Int32) = (0 : Int32)))).1) ?_
    show Steps p.tables e below (T92.setTop (mkF m 215 #[.val (.int p1), .val (.int p2), .val (.ref b2), .val (.int ((p2 &&& (2147483647 : Int32)) % (24 : Int32))), .val (.int ((((p2.toUInt32 >>> ((8 : Int32) &&& 31).toUInt32).toInt32) % (3 : Int32)) - (1 : Int32))), .val (.int (wx84 + ((((p2.toUInt32 >>> ((8 : Int32) &&& 31).toUInt32).toInt32) % (3 : Int32)) - (1 : Int32)))), .val (.int (1 : Int32)), .val (.int (1 : Int32))] [])) _
    refine XS.iconst X92.here hx rfl (hb hby at_215) ?_
    show Steps p.tables e below (T92.setTop (mkF m 216 #[.val (.int p1), .val (.int p2), .val (.ref b2), .val (.int ((p2 &&& (2147483647 : Int32)) % (24 : Int32))), .val (.int ((((p2.toUInt32 >>> ((8 : Int32) &&& 31).toUInt32).toInt32) % (3 : Int32)) - (1 : Int32))), .val (.int (wx84 + ((((p2.toUInt32 >>> ((8 : Int32) &&& 31).toUInt32).toInt32) % (3 : Int32)) - (1 : Int32)))), .val (.int (1 : Int32)), .val (.int (1 : Int32))] [(.int (1 : Int32))])) _
    refine XS.goto X92.here hx rfl (pc0 := 216) (pc' := 220) rfl (hb hby at_216) (by decide) (by decide) ?_
    exact k
  obtain ⟨fs, hr, hrun, hended, hW, hsame⟩ := X92.leave (v := some (.int (1 : Int32))) (fun h => by rw [Bd.returns] at h; cases h) (hlocks := hlk)
  refine ⟨_, _, pre0 _ ?_, hrun, hended, _, _, rfl, ?_, ⟨_, rfl⟩, hW, hsame.mono (by decide) (by decide)⟩
  · show Steps p.tables e below (s₁.setTop (mkF m 0 #[.val (.int p1), .val (.int p2), .unset, .unset, .unset, .unset, .unset, .unset] [])) _
    refine sg1 _ ?_
    show Steps p.tables e below (s₁.setTop (mkF m 2 #[.val (.int p1), .val (.int p2), .unset, .unset, .unset, .unset, .unset, .unset] [(.int (24 : Int32))])) _
    refine st2 _ ?_
    show Steps p.tables e below (T2.setTop (mkF m 4 #[.val (.int p1), .val (.int p2), .unset, .unset, .unset, .unset, .unset, .unset] [(.ref b2)])) _
    refine sg5 _ ?_
    show Steps p.tables e below (T2.setTop (mkF m 7 #[.val (.int p1), .val (.int p2), .unset, .unset, .unset, .unset, .unset, .unset] [(.int (0 : Int32)), (.int (0 : Int32)), (.ref b2), (.ref b2)])) _
    refine st6 _ ?_
    show Steps p.tables e below (T6.setTop (mkF m 8 #[.val (.int p1), .val (.int p2), .unset, .unset, .unset, .unset, .unset, .unset] [(.ref b2)])) _
    refine sg8 _ ?_
    show Steps p.tables e below (T6.setTop (mkF m 12 #[.val (.int p1), .val (.int p2), .unset, .unset, .unset, .unset, .unset, .unset] [(.int (8 : Int32)), (.int (1 : Int32)), (.ref b2), (.ref b2)])) _
    refine st9 _ ?_
    show Steps p.tables e below (T9.setTop (mkF m 13 #[.val (.int p1), .val (.int p2), .unset, .unset, .unset, .unset, .unset, .unset] [(.ref b2)])) _
    refine sg11 _ ?_
    show Steps p.tables e below (T9.setTop (mkF m 17 #[.val (.int p1), .val (.int p2), .unset, .unset, .unset, .unset, .unset, .unset] [(.int (9 : Int32)), (.int (2 : Int32)), (.ref b2), (.ref b2)])) _
    refine st12 _ ?_
    show Steps p.tables e below (T12.setTop (mkF m 18 #[.val (.int p1), .val (.int p2), .unset, .unset, .unset, .unset, .unset, .unset] [(.ref b2)])) _
    refine sg14 _ ?_
    show Steps p.tables e below (T12.setTop (mkF m 22 #[.val (.int p1), .val (.int p2), .unset, .unset, .unset, .unset, .unset, .unset] [(.int (10 : Int32)), (.int (3 : Int32)), (.ref b2), (.ref b2)])) _
    refine st15 _ ?_
    show Steps p.tables e below (T15.setTop (mkF m 23 #[.val (.int p1), .val (.int p2), .unset, .unset, .unset, .unset, .unset, .unset] [(.ref b2)])) _
    refine sg17 _ ?_
    show Steps p.tables e below (T15.setTop (mkF m 27 #[.val (.int p1), .val (.int p2), .unset, .unset, .unset, .unset, .unset, .unset] [(.int (11 : Int32)), (.int (4 : Int32)), (.ref b2), (.ref b2)])) _
    refine st18 _ ?_
    show Steps p.tables e below (T18.setTop (mkF m 28 #[.val (.int p1), .val (.int p2), .unset, .unset, .unset, .unset, .unset, .unset] [(.ref b2)])) _
    refine sg20 _ ?_
    show Steps p.tables e below (T18.setTop (mkF m 32 #[.val (.int p1), .val (.int p2), .unset, .unset, .unset, .unset, .unset, .unset] [(.int (12 : Int32)), (.int (5 : Int32)), (.ref b2), (.ref b2)])) _
    refine st21 _ ?_
    show Steps p.tables e below (T21.setTop (mkF m 33 #[.val (.int p1), .val (.int p2), .unset, .unset, .unset, .unset, .unset, .unset] [(.ref b2)])) _
    refine sg24 _ ?_
    show Steps p.tables e below (T21.setTop (mkF m 38 #[.val (.int p1), .val (.int p2), .unset, .unset, .unset, .unset, .unset, .unset] [(.int (13 : Int32)), (.int (6 : Int32)), (.ref b2), (.ref b2)])) _
    refine st25 _ ?_
    show Steps p.tables e below (T25.setTop (mkF m 39 #[.val (.int p1), .val (.int p2), .unset, .unset, .unset, .unset, .unset, .unset] [(.ref b2)])) _
    refine sg27 _ ?_
    show Steps p.tables e below (T25.setTop (mkF m 44 #[.val (.int p1), .val (.int p2), .unset, .unset, .unset, .unset, .unset, .unset] [(.int (14 : Int32)), (.int (7 : Int32)), (.ref b2), (.ref b2)])) _
    refine st28 _ ?_
    show Steps p.tables e below (T28.setTop (mkF m 45 #[.val (.int p1), .val (.int p2), .unset, .unset, .unset, .unset, .unset, .unset] [(.ref b2)])) _
    refine sg30 _ ?_
    show Steps p.tables e below (T28.setTop (mkF m 50 #[.val (.int p1), .val (.int p2), .unset, .unset, .unset, .unset, .unset, .unset] [(.int (31 : Int32)), (.int (8 : Int32)), (.ref b2), (.ref b2)])) _
    refine st31 _ ?_
    show Steps p.tables e below (T31.setTop (mkF m 51 #[.val (.int p1), .val (.int p2), .unset, .unset, .unset, .unset, .unset, .unset] [(.ref b2)])) _
    refine sg33 _ ?_
    show Steps p.tables e below (T31.setTop (mkF m 56 #[.val (.int p1), .val (.int p2), .unset, .unset, .unset, .unset, .unset, .unset] [(.int (32 : Int32)), (.int (9 : Int32)), (.ref b2), (.ref b2)])) _
    refine st34 _ ?_
    show Steps p.tables e below (T34.setTop (mkF m 57 #[.val (.int p1), .val (.int p2), .unset, .unset, .unset, .unset, .unset, .unset] [(.ref b2)])) _
    refine sg36 _ ?_
    show Steps p.tables e below (T34.setTop (mkF m 62 #[.val (.int p1), .val (.int p2), .unset, .unset, .unset, .unset, .unset, .unset] [(.int (55295 : Int32)), (.int (10 : Int32)), (.ref b2), (.ref b2)])) _
    refine st37 _ ?_
    show Steps p.tables e below (T37.setTop (mkF m 63 #[.val (.int p1), .val (.int p2), .unset, .unset, .unset, .unset, .unset, .unset] [(.ref b2)])) _
    refine sg39 _ ?_
    show Steps p.tables e below (T37.setTop (mkF m 68 #[.val (.int p1), .val (.int p2), .unset, .unset, .unset, .unset, .unset, .unset] [(.int (55296 : Int32)), (.int (11 : Int32)), (.ref b2), (.ref b2)])) _
    refine st40 _ ?_
    show Steps p.tables e below (T40.setTop (mkF m 69 #[.val (.int p1), .val (.int p2), .unset, .unset, .unset, .unset, .unset, .unset] [(.ref b2)])) _
    refine sg43 _ ?_
    show Steps p.tables e below (T40.setTop (mkF m 74 #[.val (.int p1), .val (.int p2), .unset, .unset, .unset, .unset, .unset, .unset] [(.int (57343 : Int32)), (.int (12 : Int32)), (.ref b2), (.ref b2)])) _
    refine st44 _ ?_
    show Steps p.tables e below (T44.setTop (mkF m 75 #[.val (.int p1), .val (.int p2), .unset, .unset, .unset, .unset, .unset, .unset] [(.ref b2)])) _
    refine sg46 _ ?_
    show Steps p.tables e below (T44.setTop (mkF m 80 #[.val (.int p1), .val (.int p2), .unset, .unset, .unset, .unset, .unset, .unset] [(.int (57344 : Int32)), (.int (13 : Int32)), (.ref b2), (.ref b2)])) _
    refine st47 _ ?_
    show Steps p.tables e below (T47.setTop (mkF m 81 #[.val (.int p1), .val (.int p2), .unset, .unset, .unset, .unset, .unset, .unset] [(.ref b2)])) _
    refine sg49 _ ?_
    show Steps p.tables e below (T47.setTop (mkF m 86 #[.val (.int p1), .val (.int p2), .unset, .unset, .unset, .unset, .unset, .unset] [(.int (65533 : Int32)), (.int (14 : Int32)), (.ref b2), (.ref b2)])) _
    refine st50 _ ?_
    show Steps p.tables e below (T50.setTop (mkF m 87 #[.val (.int p1), .val (.int p2), .unset, .unset, .unset, .unset, .unset, .unset] [(.ref b2)])) _
    refine sg52 _ ?_
    show Steps p.tables e below (T50.setTop (mkF m 92 #[.val (.int p1), .val (.int p2), .unset, .unset, .unset, .unset, .unset, .unset] [(.int (65534 : Int32)), (.int (15 : Int32)), (.ref b2), (.ref b2)])) _
    refine st53 _ ?_
    show Steps p.tables e below (T53.setTop (mkF m 93 #[.val (.int p1), .val (.int p2), .unset, .unset, .unset, .unset, .unset, .unset] [(.ref b2)])) _
    refine sg55 _ ?_
    show Steps p.tables e below (T53.setTop (mkF m 98 #[.val (.int p1), .val (.int p2), .unset, .unset, .unset, .unset, .unset, .unset] [(.int (65535 : Int32)), (.int (16 : Int32)), (.ref b2), (.ref b2)])) _
    refine st56 _ ?_
    show Steps p.tables e below (T56.setTop (mkF m 99 #[.val (.int p1), .val (.int p2), .unset, .unset, .unset, .unset, .unset, .unset] [(.ref b2)])) _
    refine sg58 _ ?_
    show Steps p.tables e below (T56.setTop (mkF m 104 #[.val (.int p1), .val (.int p2), .unset, .unset, .unset, .unset, .unset, .unset] [(.int (65536 : Int32)), (.int (17 : Int32)), (.ref b2), (.ref b2)])) _
    refine st59 _ ?_
    show Steps p.tables e below (T59.setTop (mkF m 105 #[.val (.int p1), .val (.int p2), .unset, .unset, .unset, .unset, .unset, .unset] [(.ref b2)])) _
    refine sg62 _ ?_
    show Steps p.tables e below (T59.setTop (mkF m 110 #[.val (.int p1), .val (.int p2), .unset, .unset, .unset, .unset, .unset, .unset] [(.int (1114111 : Int32)), (.int (18 : Int32)), (.ref b2), (.ref b2)])) _
    refine st63 _ ?_
    show Steps p.tables e below (T63.setTop (mkF m 111 #[.val (.int p1), .val (.int p2), .unset, .unset, .unset, .unset, .unset, .unset] [(.ref b2)])) _
    refine sg65 _ ?_
    show Steps p.tables e below (T63.setTop (mkF m 116 #[.val (.int p1), .val (.int p2), .unset, .unset, .unset, .unset, .unset, .unset] [(.int (1114112 : Int32)), (.int (19 : Int32)), (.ref b2), (.ref b2)])) _
    refine st66 _ ?_
    show Steps p.tables e below (T66.setTop (mkF m 117 #[.val (.int p1), .val (.int p2), .unset, .unset, .unset, .unset, .unset, .unset] [(.ref b2)])) _
    refine sg68 _ ?_
    show Steps p.tables e below (T66.setTop (mkF m 122 #[.val (.int p1), .val (.int p2), .unset, .unset, .unset, .unset, .unset, .unset] [(.int (-2147483648 : Int32)), (.int (20 : Int32)), (.ref b2), (.ref b2)])) _
    refine st69 _ ?_
    show Steps p.tables e below (T69.setTop (mkF m 123 #[.val (.int p1), .val (.int p2), .unset, .unset, .unset, .unset, .unset, .unset] [(.ref b2)])) _
    refine sg71 _ ?_
    show Steps p.tables e below (T69.setTop (mkF m 128 #[.val (.int p1), .val (.int p2), .unset, .unset, .unset, .unset, .unset, .unset] [(.int (2147483647 : Int32)), (.int (21 : Int32)), (.ref b2), (.ref b2)])) _
    refine st72 _ ?_
    show Steps p.tables e below (T72.setTop (mkF m 129 #[.val (.int p1), .val (.int p2), .unset, .unset, .unset, .unset, .unset, .unset] [(.ref b2)])) _
    refine sg74 _ ?_
    show Steps p.tables e below (T72.setTop (mkF m 133 #[.val (.int p1), .val (.int p2), .unset, .unset, .unset, .unset, .unset, .unset] [(.int (-1 : Int32)), (.int (22 : Int32)), (.ref b2), (.ref b2)])) _
    refine st75 _ ?_
    show Steps p.tables e below (T75.setTop (mkF m 134 #[.val (.int p1), .val (.int p2), .unset, .unset, .unset, .unset, .unset, .unset] [(.ref b2)])) _
    refine sg77 _ ?_
    show Steps p.tables e below (T75.setTop (mkF m 139 #[.val (.int p1), .val (.int p2), .unset, .unset, .unset, .unset, .unset, .unset] [(.int (127 : Int32)), (.int (23 : Int32)), (.ref b2), (.ref b2)])) _
    refine st78 _ ?_
    show Steps p.tables e below (T78.setTop (mkF m 140 #[.val (.int p1), .val (.int p2), .unset, .unset, .unset, .unset, .unset, .unset] [(.ref b2)])) _
    refine sg81 _ ?_
    show Steps p.tables e below (T78.setTop (mkF m 146 #[.val (.int p1), .val (.int p2), .val (.ref b2), .unset, .unset, .unset, .unset, .unset] [(.ref b2), (.int (p2 &&& (2147483647 : Int32)))])) _
    refine st82 _ ?_
    show Steps p.tables e below (T78.setTop (mkF m 147 #[.val (.int p1), .val (.int p2), .val (.ref b2), .unset, .unset, .unset, .unset, .unset] [(.int (24 : Int32)), (.int (p2 &&& (2147483647 : Int32)))])) _
    refine sg83 _ ?_
    show Steps p.tables e below (T78.setTop (mkF m 161 #[.val (.int p1), .val (.int p2), .val (.ref b2), .val (.int ((p2 &&& (2147483647 : Int32)) % (24 : Int32))), .val (.int ((((p2.toUInt32 >>> ((8 : Int32) &&& 31).toUInt32).toInt32) % (3 : Int32)) - (1 : Int32))), .unset, .unset, .unset] [(.int ((p2 &&& (2147483647 : Int32)) % (24 : Int32))), (.ref b2)])) _
    refine st84 _ ?_
    show Steps p.tables e below (T78.setTop (mkF m 162 #[.val (.int p1), .val (.int p2), .val (.ref b2), .val (.int ((p2 &&& (2147483647 : Int32)) % (24 : Int32))), .val (.int ((((p2.toUInt32 >>> ((8 : Int32) &&& 31).toUInt32).toInt32) % (3 : Int32)) - (1 : Int32))), .unset, .unset, .unset] [(.int wx84)])) _
    refine sg85 _ ?_
    show Steps p.tables e below (T78.setTop (mkF m 168 #[.val (.int p1), .val (.int p2), .val (.ref b2), .val (.int ((p2 &&& (2147483647 : Int32)) % (24 : Int32))), .val (.int ((((p2.toUInt32 >>> ((8 : Int32) &&& 31).toUInt32).toInt32) % (3 : Int32)) - (1 : Int32))), .val (.int (wx84 + ((((p2.toUInt32 >>> ((8 : Int32) &&& 31).toUInt32).toInt32) % (3 : Int32)) - (1 : Int32)))), .unset, .unset] [(.int p1)])) _
    refine st86 _ ?_
    show Steps p.tables e below (T86.setTop (mkF m 171 #[.val (.int p1), .val (.int p2), .val (.ref b2), .val (.int ((p2 &&& (2147483647 : Int32)) % (24 : Int32))), .val (.int ((((p2.toUInt32 >>> ((8 : Int32) &&& 31).toUInt32).toInt32) % (3 : Int32)) - (1 : Int32))), .val (.int (wx84 + ((((p2.toUInt32 >>> ((8 : Int32) &&& 31).toUInt32).toInt32) % (3 : Int32)) - (1 : Int32)))), .unset, .unset] [(.int (fA p1))])) _
    refine sg87 _ ?_
    show Steps p.tables e below (T86.setTop (mkF m 172 #[.val (.int p1), .val (.int p2), .val (.ref b2), .val (.int ((p2 &&& (2147483647 : Int32)) % (24 : Int32))), .val (.int ((((p2.toUInt32 >>> ((8 : Int32) &&& 31).toUInt32).toInt32) % (3 : Int32)) - (1 : Int32))), .val (.int (wx84 + ((((p2.toUInt32 >>> ((8 : Int32) &&& 31).toUInt32).toInt32) % (3 : Int32)) - (1 : Int32)))), .unset, .unset] [(.int p1), (.int (fA p1))])) _
    refine st88 _ ?_
    show Steps p.tables e below (T88.setTop (mkF m 175 #[.val (.int p1), .val (.int p2), .val (.ref b2), .val (.int ((p2 &&& (2147483647 : Int32)) % (24 : Int32))), .val (.int ((((p2.toUInt32 >>> ((8 : Int32) &&& 31).toUInt32).toInt32) % (3 : Int32)) - (1 : Int32))), .val (.int (wx84 + ((((p2.toUInt32 >>> ((8 : Int32) &&& 31).toUInt32).toInt32) % (3 : Int32)) - (1 : Int32)))), .unset, .unset] [(.int (fB p1)), (.int (fA p1))])) _
    refine sg89 _ ?_
    show Steps p.tables e below (T88.setTop (mkF m 187 #[.val (.int p1), .val (.int p2), .val (.ref b2), .val (.int ((p2 &&& (2147483647 : Int32)) % (24 : Int32))), .val (.int ((((p2.toUInt32 >>> ((8 : Int32) &&& 31).toUInt32).toInt32) % (3 : Int32)) - (1 : Int32))), .val (.int (wx84 + ((((p2.toUInt32 >>> ((8 : Int32) &&& 31).toUInt32).toInt32) % (3 : Int32)) - (1 : Int32)))), .val (.int (1 : Int32)), .unset] [(.int (wx84 + ((((p2.toUInt32 >>> ((8 : Int32) &&& 31).toUInt32).toInt32) % (3 : Int32)) - (1 : Int32))))])) _
    refine st90 _ ?_
    show Steps p.tables e below (T90.setTop (mkF m 190 #[.val (.int p1), .val (.int p2), .val (.ref b2), .val (.int ((p2 &&& (2147483647 : Int32)) % (24 : Int32))), .val (.int ((((p2.toUInt32 >>> ((8 : Int32) &&& 31).toUInt32).toInt32) % (3 : Int32)) - (1 : Int32))), .val (.int (wx84 + ((((p2.toUInt32 >>> ((8 : Int32) &&& 31).toUInt32).toInt32) % (3 : Int32)) - (1 : Int32)))), .val (.int (1 : Int32)), .unset] [(.int (fA (wx84 + ((((p2.toUInt32 >>> ((8 : Int32) &&& 31).toUInt32).toInt32) % (3 : Int32)) - (1 : Int32)))))])) _
    refine sg91 _ ?_
    show Steps p.tables e below (T90.setTop (mkF m 192 #[.val (.int p1), .val (.int p2), .val (.ref b2), .val (.int ((p2 &&& (2147483647 : Int32)) % (24 : Int32))), .val (.int ((((p2.toUInt32 >>> ((8 : Int32) &&& 31).toUInt32).toInt32) % (3 : Int32)) - (1 : Int32))), .val (.int (wx84 + ((((p2.toUInt32 >>> ((8 : Int32) &&& 31).toUInt32).toInt32) % (3 : Int32)) - (1 : Int32)))), .val (.int (1 : Int32)), .unset] [(.int (wx84 + ((((p2.toUInt32 >>> ((8 : Int32) &&& 31).toUInt32).toInt32) % (3 : Int32)) - (1 : Int32)))), (.int (fA (wx84 + ((((p2.toUInt32 >>> ((8 : Int32) &&& 31).toUInt32).toInt32) % (3 : Int32)) - (1 : Int32)))))])) _
    refine st92 _ ?_
    show Steps p.tables e below (T92.setTop (mkF m 195 #[.val (.int p1), .val (.int p2), .val (.ref b2), .val (.int ((p2 &&& (2147483647 : Int32)) % (24 : Int32))), .val (.int ((((p2.toUInt32 >>> ((8 : Int32) &&& 31).toUInt32).toInt32) % (3 : Int32)) - (1 : Int32))), .val (.int (wx84 + ((((p2.toUInt32 >>> ((8 : Int32) &&& 31).toUInt32).toInt32) % (3 : Int32)) - (1 : Int32)))), .val (.int (1 : Int32)), .unset] [(.int (fB (wx84 + ((((p2.toUInt32 >>> ((8 : Int32) &&& 31).toUInt32).toInt32) % (3 : Int32)) - (1 : Int32))))), (.int (fA (wx84 + ((((p2.toUInt32 >>> ((8 : Int32) &&& 31).toUInt32).toInt32) % (3 : Int32)) - (1 : Int32)))))])) _
    refine sg93 _ ?_
    show Steps p.tables e below (T92.setTop (mkF m 220 #[.val (.int p1), .val (.int p2), .val (.ref b2), .val (.int ((p2 &&& (2147483647 : Int32)) % (24 : Int32))), .val (.int ((((p2.toUInt32 >>> ((8 : Int32) &&& 31).toUInt32).toInt32) % (3 : Int32)) - (1 : Int32))), .val (.int (wx84 + ((((p2.toUInt32 >>> ((8 : Int32) &&& 31).toUInt32).toInt32) % (3 : Int32)) - (1 : Int32)))), .val (.int (1 : Int32)), .val (.int (1 : Int32))] [(.int (1 : Int32))])) _
    exact retN X92 hx (t := .boolean) Bd.returns (by simp) (hb hby at_220) hr
  · show Q0 Z p1 p2 h0 n0 _ T92.heap _
    rw [e92]
    exact ⟨rfl, N92⟩
set_option maxRecDepth 65536 in
set_option maxHeartbeats 40000000 in
theorem comes_1 {Post : Tables → Env → Array Value → State → Outcome → State → Prop} (hpost : ∀ tb e args s v u, (limb_1_1.after args s (.returned v) u = true ∧ limb_1_2.after args s (.returned v) u = true ∧ True) → FrameEnd s (.returned v) u (Jvm.fieldLocs frame_1_writes args s ++ Jvm.arrayLocs frame_1_arrays args s ++ Jvm.staticLocs frame_1_statics s) 16 128 → Post tb e args s (.returned v) u) :
    ArmFor flags0 classFile x code maxLocals ret World_1 tables_1 room_1 Calls_1 rest_1 Pre_1 Post := by
  intro l hfl _ _ p e ha hc hk s m args below hf hA hF happ hP
  obtain ⟨hcalls, hrest, hpre⟩ := hP
  obtain ⟨-, -, -, hnamed, -, -, -, hat⟩ := (Spec.applies_iff hf).mp happ
  obtain ⟨hg, hn⟩ := and_e (Cond.before_iff.mp (show (Jvm.Cond.and given_1 narrow_1).before args s = true from hpre))
  obtain ⟨gc, gr0⟩ := and_e hg
  obtain ⟨ga0, gr1⟩ := and_e gr0
  have ga1 := gr1
  obtain ⟨w0, w1, rfl⟩ : ∃ w0 w1 : Value, args = #[w0, w1] := by
    have hs : args.size = 2 := by simpa [Cond.value, given_1] using gc
    obtain ⟨L⟩ := args
    match L, hs with
    | [w0, w1], _ => exact ⟨w0, w1, rfl⟩
  have hw := fun d (hd : d ∈ tables_1) => atoms_spec (ws := Jvm.Cond.code x code maxLocals ret :: tables_1) hat d (List.mem_cons_of_mem _ hd)
  have hfit : Fit s := fun {y c} hc i hi => by
    obtain ⟨ha, rfl⟩ := Array.getElem?_eq_some_iff.mp hc
    have q := List.all_eq_true.mp ((Array.all_eq_true_iff_forall_mem.mp hF) _ (Array.getElem_mem ha)) i (List.mem_range.mpr hi)
    simpa [Array.getElem?_eq_getElem hi] using q
  obtain ⟨i0, ei0⟩ := is_v ga0
  obtain rfl : w0 = (.int i0) := Option.some.inj ei0
  obtain ⟨i1, ei1⟩ := is_v ga1
  obtain rfl : w1 = (.int i1) := Option.some.inj ei1
  obtain ⟨n, o, h1, h2, h3, _, L, rfl, ⟨rfl, N⟩, hq⟩ := rm0 l s _ hw tables_1 i0 i1 s.heap s.heap.size (Nat.le_refl _)  p e ha hc hk s m _ below hf ((Spec.applies_iff_loose hf).mp happ).1 ⟨rfl, State.Warmed39.refl s, rfl⟩ trivial
  refine ⟨n, _, h1, h2, h3, hpost _ _ _ _ _ _ ⟨Cond.after_iff.mpr rfl, Cond.after_iff.mpr (eq_i res_at (Term.int_eval (1)) rfl), trivial⟩ ⟨hq.1, hq.2.1, (hq.2.2.sift fun y hy => Or.inr (N y hy)).mono (by decide) (by decide)⟩⟩
theorem main_1_1 : Claimed_1_1 := comes_1 fun _ _ _ _ _ _ h hF => ⟨h.1, hF⟩
theorem main_1_2 : Claimed_1_2 := comes_1 fun _ _ _ _ _ _ h hF => ⟨h.2.1, hF⟩
end Jvm.Pilot.@@N@@
namespace Jvm.Pilot.@@N@@
open Jvm Jvm.ClassFile Sem Op Lib Jvm.Free Jvm.Stand Jvm.Pilot.@@N@@.Jvm.D
/-! MADE BY PROGRAM (witnessworld.py) out of the Statement's table words and the real class files: 9 classes; the members and pool entries that the words name. The judged class is class 1, her method 2. -/
namespace start1
open Jvm.ClassFile
def u (s : String) : CpInfo := .utf8 (stringToUtf16 s)
/-- a pool by its gaps: so many unusable entries, then the entry; so many at the end -/
def gap : Nat → List CpInfo → List CpInfo
  | 0, r => r
  | n + 1, r => .unusable :: gap n r
def poolList (es : List (Nat × CpInfo)) (last : Nat) : List CpInfo := es.foldr (fun e r => gap e.1 (e.2 :: r)) (gap last [])
def pool (es : List (Nat × CpInfo)) (last : Nat) : Array CpInfo := ⟨poolList es last⟩
def fileOf (pool : Array CpInfo) (this : Nat) (attrs : Array Attribute := #[]) (ms : Array MethodInfo := #[]) (fl : Nat := 33) (sup : Nat := 0) (ifs : Array Nat := #[]) (fds : Array FieldInfo := #[]) : ClassFile where
  minorVersion := 0
  majorVersion := 65
  constantPool := pool
  accessFlags := fl
  thisClass := this
  superClass := sup
  interfaces := ifs
  fields := fds
  methods := ms
  attributes := attrs
def plain (name : String) (sup : Option ClassId) : Class where
  name := name
  kind := .ordinary
  loader := none
  accessFlags := 33
  super := sup
  interfaces := #[]
  cf := none
  fields := #[]
  methods := #[]
  instanceTypes := #[]
  staticTypes := #[]
  resolved := #[]
  callSites := []
  init := .initialized
  statics := none
  mirror := none

def pool0 : Array CpInfo := pool [(5, u "<init>"), (0, u "()V"), (1, .class_ 10), (1, u "java/lang/Object")] 113

def k0m0 : Method := { name := "<init>", desc := "()V", sig := { parameters := [], returnType := none }, accessFlags := 1, code := none }
/-- java/lang/Object -/
def k0 : Class := { plain "java/lang/Object" none with
  accessFlags := 33
  interfaces := #[]
  cf := some (fileOf pool0 8 #[] #[{ accessFlags := 1, nameIndex := 5, descriptorIndex := 6, attributes := #[] }] 33 0 #[] #[])
  fields := #[]
  methods := #[k0m0]
  instanceTypes := #[]
  staticTypes := #[]
  resolved := Array.replicate 124 none
  statics := none }

def pool1 : Array CpInfo := pool [(2, .class_ 4), (1, u "java/lang/Object"), (0, u "<init>"), (0, u "()V"), (0, .integer 1114111), (0, .integer 55296), (0, .integer 57343), (0, .integer 65534), (0, .integer 65535), (0, .integer 55295), (0, .integer 57344), (0, .integer 65533), (0, .integer 65536), (0, .integer 1114112), (2, .integer 2147483648), (0, .integer 2147483647), (0, .methodref 22 23), (0, .class_ 24), (0, .nameAndType 25 26), (0, u "com/example/dongying/dongying/xml/XmlChars"), (0, u "isChar"), (0, u "(I)Z"), (0, .methodref 28 29), (0, .class_ 30), (0, .nameAndType 31 26), (0, u "com/example/dongying/dongying/xml/XmlCharsIsCharPinLaw"), (0, u "expected"), (3, u "law"), (0, u "(II)Z")] 4

def k1m0 : Method := { name := "<init>", desc := "()V", sig := { parameters := [], returnType := none }, accessFlags := 2, code := none }
def k1c1 : Code := { maxStack := 2, maxLocals := 1, code := method_2_code, exceptionTable := #[], attributes := #[] }
def k1m1 : Method := { name := "expected", desc := "(I)Z", sig := { parameters := [.int], returnType := some .boolean }, accessFlags := 10, code := some k1c1 }
def k1c2 : Code := { maxStack := 4, maxLocals := 8, code := code, exceptionTable := #[], attributes := #[] }
def k1m2 : Method := { name := "law", desc := "(II)Z", sig := { parameters := [.int, .int], returnType := some .boolean }, accessFlags := 9, code := some k1c2 }
/-- com/example/dongying/dongying/xml/XmlCharsIsCharPinLaw -/
def k1 : Class := { plain "com/example/dongying/dongying/xml/XmlCharsIsCharPinLaw" (some 0) with
  accessFlags := 49
  interfaces := #[]
  cf := some (fileOf pool1 28 #[] #[{ accessFlags := 2, nameIndex := 5, descriptorIndex := 6, attributes := #[] }, { accessFlags := 10, nameIndex := 31, descriptorIndex := 26, attributes := #[] }, { accessFlags := 9, nameIndex := 35, descriptorIndex := 36, attributes := #[] }] 49 2 #[] #[])
  fields := #[]
  methods := #[k1m0, k1m1, k1m2]
  instanceTypes := #[]
  staticTypes := #[]
  resolved := Array.replicate 41 none
  statics := none }

def pool2 : Array CpInfo := pool [(2, .class_ 4), (1, u "java/lang/Object"), (0, u "<init>"), (0, u "()V"), (0, .integer 55295), (0, .integer 57344), (0, .integer 65533), (0, .integer 65536), (0, .integer 1114111), (1, .class_ 15), (1, u "com/example/dongying/dongying/xml/XmlChars"), (0, u "isChar"), (0, u "(I)Z"), (21, u "LONGEST_REFERENCE"), (0, u "I")] 13

def k2m0 : Method := { name := "<init>", desc := "()V", sig := { parameters := [], returnType := none }, accessFlags := 2, code := none }
def k2c1 : Code := { maxStack := 2, maxLocals := 1, code := prog_81_method_2_code, exceptionTable := #[], attributes := #[] }
def k2m1 : Method := { name := "isChar", desc := "(I)Z", sig := { parameters := [.int], returnType := some .boolean }, accessFlags := 8, code := some k2c1 }
/-- com/example/dongying/dongying/xml/XmlChars -/
def k2 : Class := { plain "com/example/dongying/dongying/xml/XmlChars" (some 0) with
  accessFlags := 48
  interfaces := #[]
  cf := some (fileOf pool2 13 #[] #[{ accessFlags := 2, nameIndex := 5, descriptorIndex := 6, attributes := #[] }, { accessFlags := 8, nameIndex := 16, descriptorIndex := 17, attributes := #[] }] 48 2 #[] #[{ accessFlags := 26, nameIndex := 39, descriptorIndex := 40, attributes := #[] }])
  fields := #[{ name := "LONGEST_REFERENCE", type := .int, accessFlags := 26, slot := 0, constantValue := 0 }]
  methods := #[k2m0, k2m1]
  instanceTypes := #[]
  staticTypes := #[.int]
  resolved := Array.replicate 54 none
  statics := none }

def pool3 : Array CpInfo := pool [(1, u "java/lang/Cloneable"), (0, .class_ 1), (0, u "java/lang/Object"), (0, .class_ 3)] 3

/-- java/lang/Cloneable -/
def k3 : Class := { plain "java/lang/Cloneable" (some 0) with
  accessFlags := 1537
  interfaces := #[]
  cf := some (fileOf pool3 2 #[] #[] 1537 4 #[] #[])
  fields := #[]
  methods := #[]
  instanceTypes := #[]
  staticTypes := #[]
  resolved := Array.replicate 8 none
  statics := none }

def pool4 : Array CpInfo := pool [(1, u "java/io/Serializable"), (0, .class_ 1), (0, u "java/lang/Object"), (0, .class_ 3)] 3

/-- java/io/Serializable -/
def k4 : Class := { plain "java/io/Serializable" (some 0) with
  accessFlags := 1537
  interfaces := #[]
  cf := some (fileOf pool4 2 #[] #[] 1537 4 #[] #[])
  fields := #[]
  methods := #[]
  instanceTypes := #[]
  staticTypes := #[]
  resolved := Array.replicate 8 none
  statics := none }

/-- the primitive byte -/
def k5 : Class := { plain "byte" none with kind := .primitive 'B', accessFlags := 0x411 }
/-- [B -/
def k6 : Class := { plain "[B" (some 0) with kind := .array 5 .byte, interfaces := #[3, 4], accessFlags := 1041 }

/-- the primitive int -/
def k7 : Class := { plain "int" none with kind := .primitive 'I', accessFlags := 0x411 }
/-- [I -/
def k8 : Class := { plain "[I" (some 0) with kind := .array 7 .int, interfaces := #[3, 4], accessFlags := 1041 }

def heap : Heap := #[]
def classes : Array Class := #[k0, k1, k2, k3, k4, k5, k6, k7, k8]
def interned : List (Array UInt16 × Addr) := []
def slotsUsed : Nat := 0
def theMethod : MethodId := ⟨1, 2⟩
def args0 : Array Value := #[.int 5, .int 6]
def aboutOver (below : List Frame) : State where
  vm := { classes := classes, interned := interned.toArray }
  heap := heap
  slotsUsed := slotsUsed
  threads := #[{ frames := .invoking theMethod args0 :: below }]
def below0 : List Frame := [.native { method := ⟨0, 0⟩, args := #[] }]
def about1 : State := aboutOver below0
def p0 : Program := .bare "" "" ""
def e0 : Env := launch0.env 0 0 0
theorem w_frames : about1.frames = Frame.invoking theMethod args0 :: below0 := rfl
set_option maxRecDepth 65536 in
theorem w_args : argsFit about1.vm theMethod args0 = true := by decide +kernel
set_option maxRecDepth 65536 in
theorem w_heap : heapFits about1 = true := by decide +kernel
set_option maxRecDepth 65536 in
theorem w_runnable : about1.curStatus? = some .runnable := by decide +kernel
set_option maxRecDepth 65536 in
theorem w_alone : about1.alone = true := by decide +kernel
set_option maxRecDepth 65536 in
theorem w_named : about1.methodNamed? x = some theMethod := by decide +kernel
set_option maxRecDepth 65536 in
theorem w_hears : about1.hears theMethod below0 = true := by decide +kernel
set_option maxRecDepth 65536 in
theorem w_ripe : about1.ripe theMethod args0 below0 = true := by decide +kernel
theorem w_running : about1.status = .running := rfl
set_option maxRecDepth 65536 in
theorem w_room : about1.hasRoom e0.platform room_1 = true :=
  launch0.hasRoom_least _ room_1 (by decide +kernel) (by decide +kernel) (by decide +kernel) (by decide +kernel) (by decide +kernel) (by decide +kernel)
theorem allAtoms_all (ts : List Jvm.Cond) (a : Array Jvm.Value) (st : Jvm.State) : (allAtoms ts).before a st = ts.all (fun c => c.before a st) := by
  induction ts with
  | nil => rfl
  | cons c t ih =>
    show (Jvm.Cond.and c (allAtoms t)).before a st = _
    rw [Jvm.Cond.before_and, ih, List.all_cons]
def words1 : List Jvm.Cond := Jvm.Cond.code x code maxLocals ret :: tables_1
/-- a 'code' word, met by the world's own term for the bytes: nothing is compared byte by byte -/
theorem code_word {y : MethodName} {bytes : ByteArray} {mx : Nat} {rt : Option FieldType} {a : Array Value} {s : State} {m : MethodId} {meth : Method} {c : Code} (h1 : s.methodNamed? y = some m) (h2 : s.vm.method? m = some meth) (h3 : meth.code = some c) (h4 : c.code = bytes)
    (h5 : (c.maxLocals == mx && c.exceptionTable.isEmpty && decide (c.maxStack ≤ mostOperands) && decide (meth.sig.returnType = rt) && !meth.locks && decide (parseMethodDescriptor y.desc = some meth.sig)) = true) : (Jvm.Cond.code y bytes mx rt).before a s = true := by
  simp only [Bool.and_eq_true, beq_iff_eq, Bool.not_eq_true', decide_eq_true_eq] at h5
  obtain ⟨⟨⟨⟨⟨g1, g2⟩, g3⟩, g4⟩, g5⟩, g6⟩ := h5
  simp [Cond.before, Cond.holds, Cond.value, h1, h2, h3, h4, g1, g2, g3, g4, g5, g6]
def isCode : Jvm.Cond → Bool
  | .code _ _ _ _ => true
  | _ => false
theorem all_split {L : List Jvm.Cond} {P : Jvm.Cond → Bool} (h1 : L.all (fun c => isCode c || P c) = true) (h2 : ∀ c ∈ L.filter isCode, P c = true) : L.all P = true := by
  refine List.all_eq_true.mpr fun c hc => ?_
  have h := List.all_eq_true.mp h1 c hc
  rcases Bool.eq_false_or_eq_true (isCode c) with hi | hi
  · exact h2 c (List.mem_filter.mpr ⟨hc, hi⟩)
  · simpa [hi] using h
set_option maxRecDepth 65536 in
theorem w_c0 : (Jvm.Cond.code x code maxLocals ret).before args0 about1 = true := code_word (m := ⟨1, 2⟩) (meth := k1m2) (c := k1c2) (by decide +kernel) rfl rfl rfl (by decide +kernel)
set_option maxRecDepth 65536 in
theorem w_c1 : (Jvm.Cond.code ({ cls := "com/example/dongying/dongying/xml/XmlChars", name := "isChar", desc := "(I)Z" } : Jvm.MethodName) prog_81_method_2_code (1 : Nat) (Option.some Jvm.ClassFile.FieldType.boolean)).before args0 about1 = true := code_word (m := ⟨2, 1⟩) (meth := k2m1) (c := k2c1) (by decide +kernel) rfl rfl rfl (by decide +kernel)
set_option maxRecDepth 65536 in
theorem w_c2 : (Jvm.Cond.code ({ cls := "com/example/dongying/dongying/xml/XmlCharsIsCharPinLaw", name := "expected", desc := "(I)Z" } : Jvm.MethodName) method_2_code (1 : Nat) (Option.some Jvm.ClassFile.FieldType.boolean)).before args0 about1 = true := code_word (m := ⟨1, 1⟩) (meth := k1m1) (c := k1c1) (by decide +kernel) rfl rfl rfl (by decide +kernel)
def codes1 : List Jvm.Cond := [Jvm.Cond.code x code maxLocals ret, Jvm.Cond.code ({ cls := "com/example/dongying/dongying/xml/XmlChars", name := "isChar", desc := "(I)Z" } : Jvm.MethodName) prog_81_method_2_code (1 : Nat) (Option.some Jvm.ClassFile.FieldType.boolean), Jvm.Cond.code ({ cls := "com/example/dongying/dongying/xml/XmlCharsIsCharPinLaw", name := "expected", desc := "(I)Z" } : Jvm.MethodName) method_2_code (1 : Nat) (Option.some Jvm.ClassFile.FieldType.boolean)]
set_option maxRecDepth 65536 in
theorem codes_eq : words1.filter isCode = codes1 := rfl
theorem w_codes : ∀ c ∈ words1.filter isCode, c.before args0 about1 = true := by
  rw [codes_eq]
  intro c hc
  simp only [codes1, List.mem_cons, List.not_mem_nil, or_false] at hc
  rcases hc with rfl | rfl | rfl
  · exact w_c0
  · exact w_c1
  · exact w_c2
set_option maxRecDepth 65536 in
theorem w_t1 : (words1.take 24).all (fun c => isCode c || c.before args0 about1) = true := by decide +kernel
set_option maxRecDepth 65536 in
theorem w_t2 : (words1.drop 24).all (fun c => isCode c || c.before args0 about1) = true := by decide +kernel
theorem w_tables : (allAtoms (Jvm.Cond.code x code maxLocals ret :: tables_1)).before args0 about1 = true := by
  rw [allAtoms_all]
  show words1.all (fun c => c.before args0 about1) = true
  refine all_split ?_ w_codes
  rw [← List.take_append_drop 24 words1, List.all_append, w_t1, w_t2]
  rfl
set_option maxRecDepth 65536 in
theorem w_case : (Jvm.Cond.and given_1 narrow_1).before args0 about1 = true := by decide +kernel
theorem w_applies : (headSpec (Jvm.Cond.code x code maxLocals ret :: tables_1) room_1).applies x e0.platform about1 = true :=
  (Spec.applies_iff w_frames).mpr ⟨w_running, w_runnable, w_alone, w_named, w_hears, w_ripe, w_room, w_tables⟩
theorem atStart : AtStart classFile x code maxLocals ret World_1 tables_1 room_1 Calls_1 rest_1 Pre_1 launch0 p0 e0 about1 theMethod args0 below0 :=
  ⟨lists_1, trivial, launch0.admits_env _ _ _, launch0.least_env, fairChoices_fair.cas, fairChoices_fair.clock, w_frames, w_args, w_heap, w_applies, trivial, trivial, w_case⟩
end start1
theorem witness_1 : WitnessClaimed_1 := ⟨start1.p0, start1.e0, start1.about1, start1.theMethod, start1.args0, start1.below0, start1.atStart⟩
end Jvm.Pilot.@@N@@
