import JvmDerived
import JvmDerived.Pilot.@@N@@Statement
import JvmDerived.Pilot.@@N@@Code
set_option linter.unusedVariables false
set_option linter.unusedSimpArgs false
@@BLOCK:NumsL.lean.txt@@
namespace Jvm.RoadKit
open Sem ClassFile Op Lib Jvm.Stand Jvm.Free Jvm.LawKit
section New
variable {p : Program} {l : Launch} {e : Env} {R : Room} {s : State} {m : MethodId} {args : Array Value} {below : List Frame} {meth : Method} {c : Code} {T : State} {locs : List Loc} {cells slots : Nat}
theorem retI (X : Stand p l e R s m args below meth c T locs cells slots) (hx : p.tables.exec = Jvm.exec) {pc : Nat} {Ls : Array Slot} {z : Int32} {rest : List Value} (hret : meth.sig.returnType = some .int) (hd : decode c.code pc = .ok (.ireturn, 1)) {fs : List Frame}
    (hl : ∀ (f : JFrame) (acts : List Action), f.method = m → f.locked = none → f.entered = [] → (doReturn e (T.setTop f) acts (some (.int z))).1 = T.setFrames fs) : Steps p.tables e below (T.setTop (mkF m pc Ls (.int z :: rest))) (T.setFrames fs) := by
  have hm' : T.vm.method? m = some meth := X.method'
  have hn : narrow .int (.int z) = .int z := rfl
  show Steps p.tables e below (T.setTop { method := m, pc := pc, locals := Ls, stack := _ :: rest, locked := none }) _
  jvm_step X.here [X.here.top, hx, hd, hm', hret, hn]
  first | (intro acts; rw [hl _ acts rfl rfl rfl]) | rw [hl _ _ rfl rfl rfl]
  exact Steps.refl _
end New
end Jvm.RoadKit
namespace Jvm.Pilot.@@N@@
open Jvm Jvm.ClassFile Sem Op Lib Jvm.Free Jvm.Stand Jvm.LawKit Jvm.RoadKit Bundle Jvm.Pilot.@@N@@.Jvm.D
def fS (x : Int32) (y : Int32) : Int32 := (if (x &&& (3 : Int32)) = (0 : Int32) then (1024 : Int32) else (if (x &&& (3 : Int32)) = (1 : Int32) then (1073741824 : Int32) else ((1024 : Int32) + ((y &&& (2147483647 : Int32)) % (1073740801 : Int32)))))
def Q_rmZ (x : Int32) (y : Int32) (h0 : Heap) (n0 : Nat) (v : Option Value) (h : Heap) (L : List Loc) : Prop := v = some (.int (fS x y)) ∧ Fr n0 L ∧ h = h0
theorem pn_0 : plainName "com/example/pochta/pochta/amqp/ConnectionSettingsMaxMessageSizePinLaw" = true := by first | (simp [plainName, overriddenIn]; done) | decide +kernel
theorem ef_rmZ (m : MethodId) (x0 : Int32) (x1 : Int32) : entryFrame m #[(.int x0), (.int x1)] 3 = mkF m 0 #[.val (.int x0), .val (.int x1), .unset] [] := by first | (simp [entryFrame, mkF, argsToLocals, Value.category]; done) | rfl
theorem d1_0 : decode method_2_code 0 = .ok (.iload_n 0, 1) := by decide +kernel
theorem d1_1 : decode method_2_code 1 = .ok (.iconst 3, 1) := by decide +kernel
theorem d1_2 : decode method_2_code 2 = .ok (.iand, 1) := by decide +kernel
theorem d1_3 : decode method_2_code 3 = .ok (.istore_n 2, 1) := by decide +kernel
theorem d1_4 : decode method_2_code 4 = .ok (.iload_n 2, 1) := by decide +kernel
theorem d1_5 : decode method_2_code 5 = .ok (.ifCond .ne 7, 3) := by decide +kernel
theorem d1_8 : decode method_2_code 8 = .ok (.sipush 1024, 3) := by decide +kernel
theorem d1_11 : decode method_2_code 11 = .ok (.ireturn, 1) := by decide +kernel
theorem d1_12 : decode method_2_code 12 = .ok (.iload_n 2, 1) := by decide +kernel
theorem d1_13 : decode method_2_code 13 = .ok (.iconst 1, 1) := by decide +kernel
theorem d1_14 : decode method_2_code 14 = .ok (.if_icmp .ne 6, 3) := by decide +kernel
theorem d1_17 : decode method_2_code 17 = .ok (.ldc 7, 2) := by decide +kernel
theorem d1_19 : decode method_2_code 19 = .ok (.ireturn, 1) := by decide +kernel
theorem d1_20 : decode method_2_code 20 = .ok (.sipush 1024, 3) := by decide +kernel
theorem d1_23 : decode method_2_code 23 = .ok (.iload_n 1, 1) := by decide +kernel
theorem d1_24 : decode method_2_code 24 = .ok (.ldc 8, 2) := by decide +kernel
theorem d1_26 : decode method_2_code 26 = .ok (.iand, 1) := by decide +kernel
theorem d1_27 : decode method_2_code 27 = .ok (.ldc 9, 2) := by decide +kernel
theorem d1_29 : decode method_2_code 29 = .ok (.irem, 1) := by decide +kernel
theorem d1_30 : decode method_2_code 30 = .ok (.iadd, 1) := by decide +kernel
theorem d1_31 : decode method_2_code 31 = .ok (.ireturn, 1) := by decide +kernel
set_option maxRecDepth 65536 in
set_option maxHeartbeats 40000000 in
theorem rmZ (l : Launch) (Z : State) (a0 : Array Value) (hw : ∀ d ∈ tables_1, d.before a0 Z = true) (ws : List Jvm.Cond) (x : Int32) (y : Int32)  (h0 : Heap) (n0 : Nat) (Z0 : n0 ≤ h0.size)  :
    MetFree l (⟨"com/example/pochta/pochta/amqp/ConnectionSettingsMaxMessageSizePinLaw", "size", "(II)I"⟩ : MethodName) (head1 (Jvm.Cond.code (⟨"com/example/pochta/pochta/amqp/ConnectionSettingsMaxMessageSizePinLaw", "size", "(II)I"⟩ : MethodName) method_2_code 3 (some .int) :: ws) ({ frames := 0, cells := 0, slots := 0, locals := 0 } : Room)) (fun a U => a = #[(.int x), (.int y)] ∧ Z.Warmed39 U.vm ∧ U.heap = h0) (fun _ _ _ _ _ => True) (fun _ U o U' => ∃ v L, o = .returned v ∧ Q_rmZ x y h0 n0 v U'.heap L ∧ FrameEnd U o U' L ({ frames := 0, cells := 0, slots := 0, locals := 0 } : Room).cells ({ frames := 0, cells := 0, slots := 0, locals := 0 } : Room).slots) := by
  refine MetFree.of_bodySF (plainFor_of_name pn_0) hisR ?_
  intro p e s m args below meth c s₁ Bd hml0 hP hK
  obtain ⟨rfl, hZ, hh⟩ := hP
  have hx := Bd.exec
  have hby := Bd.bytes
  have hml : c.maxLocals = 3 := hml0
  have hown : s.vm.findClass "com/example/pochta/pochta/amqp/ConnectionSettingsMaxMessageSizePinLaw" = some m.cls := findClass_of_methodNamed Bd.named
  have hnm := (name_of_methodNamed Bd.named Bd.method).1
  have X0 : Stand p l e ({ frames := 0, cells := 0, slots := 0, locals := 0 } : Room) s m #[(.int x), (.int y)] below meth c s₁ [] 0 0 := Stand.of_body Bd
  have e0 : s₁.heap = h0 := by rw [← hh, Bd.state]; rfl
  have N0 := Fr.nil n0
  have pre0 : ∀ t, Steps p.tables e below (s₁.setTop (mkF m 0 #[.val (.int x), .val (.int y), .unset] [])) t → Steps p.tables e below (s₁.setTop (entryFrame m #[(.int x), (.int y)] 3)) t := fun t k => castTop (ef_rmZ m x y) k
  obtain ⟨fs, hr, hrun, hended, hW, hsame⟩ := X0.leave (v := some (.int (fS x y))) (fun h => by rw [Bd.returns] at h; cases h)
  refine ⟨_, _, pre0 _ ?_, hrun, hended, _, _, rfl, ?_, ⟨_, rfl⟩, hW, hsame.mono (by decide) (by decide)⟩
  · have hq0 : (if (x &&& (3 : Int32)) = (0 : Int32) then (1024 : Int32) else (if (x &&& (3 : Int32)) = (1 : Int32) then (1073741824 : Int32) else ((1024 : Int32) + ((y &&& (2147483647 : Int32)) % (1073740801 : Int32))))) = fS x y := rfl
    show Steps p.tables e below (s₁.setTop (mkF m 0 #[.val (.int x), .val (.int y), .unset] [])) _
    refine XS.iloadN X0.here hx rfl (hb hby d1_0) rfl ?_
    show Steps p.tables e below (s₁.setTop (mkF m 1 #[.val (.int x), .val (.int y), .unset] [(.int x)])) _
    refine XS.iconst X0.here hx rfl (hb hby d1_1) ?_
    show Steps p.tables e below (s₁.setTop (mkF m 2 #[.val (.int x), .val (.int y), .unset] [(.int (3 : Int32)), (.int x)])) _
    refine XS.iand X0.here hx rfl (hb hby d1_2) rfl ?_
    show Steps p.tables e below (s₁.setTop (mkF m 3 #[.val (.int x), .val (.int y), .unset] [(.int (x &&& (3 : Int32)))])) _
    refine XS.istoreN X0.here hx rfl (hb hby d1_3) rfl (l' := #[.val (.int x), .val (.int y), .val (.int (x &&& (3 : Int32)))]) rfl ?_
    show Steps p.tables e below (s₁.setTop (mkF m 4 #[.val (.int x), .val (.int y), .val (.int (x &&& (3 : Int32)))] [])) _
    refine XS.iloadN X0.here hx rfl (hb hby d1_4) rfl ?_
    show Steps p.tables e below (s₁.setTop (mkF m 5 #[.val (.int x), .val (.int y), .val (.int (x &&& (3 : Int32)))] [(.int (x &&& (3 : Int32)))])) _
    by_cases hc5 : (x &&& (3 : Int32)) = (0 : Int32)
    · have hqhc50 : (1024 : Int32) = fS x y := (if_pos hc5).symm.trans hq0
      refine XS.ifNo X0.here hx rfl (hb hby d1_5) rfl ((if0 _ _).trans (teq hc5).2) ?_
      show Steps p.tables e below (s₁.setTop (mkF m 8 #[.val (.int x), .val (.int y), .val (.int (x &&& (3 : Int32)))] [])) _
      refine XS.sipush X0.here hx rfl (hb hby d1_8) ?_
      have hr1 := hr
      rw [← hqhc50] at hr1
      exact retI X0 hx Bd.returns (hb hby d1_11) hr1
    · have hqhc51 : (if (x &&& (3 : Int32)) = (1 : Int32) then (1073741824 : Int32) else ((1024 : Int32) + ((y &&& (2147483647 : Int32)) % (1073740801 : Int32)))) = fS x y := (if_neg hc5).symm.trans hq0
      refine XS.ifYes X0.here hx rfl (pc0 := 5) (pc' := 12) rfl (hb hby d1_5) rfl ((if0 _ _).trans (feq hc5).2) (by decide) (by decide) ?_
      show Steps p.tables e below (s₁.setTop (mkF m 12 #[.val (.int x), .val (.int y), .val (.int (x &&& (3 : Int32)))] [])) _
      refine XS.iloadN X0.here hx rfl (hb hby d1_12) rfl ?_
      show Steps p.tables e below (s₁.setTop (mkF m 13 #[.val (.int x), .val (.int y), .val (.int (x &&& (3 : Int32)))] [(.int (x &&& (3 : Int32)))])) _
      refine XS.iconst X0.here hx rfl (hb hby d1_13) ?_
      show Steps p.tables e below (s₁.setTop (mkF m 14 #[.val (.int x), .val (.int y), .val (.int (x &&& (3 : Int32)))] [(.int (1 : Int32)), (.int (x &&& (3 : Int32)))])) _
      by_cases hc14 : (x &&& (3 : Int32)) = (1 : Int32)
      · have hqhc140 : (1073741824 : Int32) = fS x y := (if_pos hc14).symm.trans hqhc51
        refine XS.icmpNo X0.here hx rfl (hb hby d1_14) rfl (teq hc14).2 ?_
        show Steps p.tables e below (s₁.setTop (mkF m 17 #[.val (.int x), .val (.int y), .val (.int (x &&& (3 : Int32)))] [])) _
        refine X0.ldcInt hx hown (mvT hZ (hw _ (List.mem_of_getElem? (i := 75) rfl))) (g := (mkF m 17 #[.val (.int x), .val (.int y), .val (.int (x &&& (3 : Int32)))] [])) rfl (hb hby d1_17) _ ?_
        have hr1 := hr
        rw [← hqhc140] at hr1
        exact retI X0 hx Bd.returns (hb hby d1_19) hr1
      · have hqhc141 : ((1024 : Int32) + ((y &&& (2147483647 : Int32)) % (1073740801 : Int32))) = fS x y := (if_neg hc14).symm.trans hqhc51
        refine XS.icmpYes X0.here hx rfl (pc0 := 14) (pc' := 20) rfl (hb hby d1_14) rfl (feq hc14).2 (by decide) (by decide) ?_
        show Steps p.tables e below (s₁.setTop (mkF m 20 #[.val (.int x), .val (.int y), .val (.int (x &&& (3 : Int32)))] [])) _
        refine XS.sipush X0.here hx rfl (hb hby d1_20) ?_
        show Steps p.tables e below (s₁.setTop (mkF m 23 #[.val (.int x), .val (.int y), .val (.int (x &&& (3 : Int32)))] [(.int (1024 : Int32))])) _
        refine XS.iloadN X0.here hx rfl (hb hby d1_23) rfl ?_
        show Steps p.tables e below (s₁.setTop (mkF m 24 #[.val (.int x), .val (.int y), .val (.int (x &&& (3 : Int32)))] [(.int y), (.int (1024 : Int32))])) _
        refine X0.ldcInt hx hown (mvT hZ (hw _ (List.mem_of_getElem? (i := 4) rfl))) (g := (mkF m 24 #[.val (.int x), .val (.int y), .val (.int (x &&& (3 : Int32)))] [(.int y), (.int (1024 : Int32))])) rfl (hb hby d1_24) _ ?_
        show Steps p.tables e below (s₁.setTop (mkF m 26 #[.val (.int x), .val (.int y), .val (.int (x &&& (3 : Int32)))] [(.int (2147483647 : Int32)), (.int y), (.int (1024 : Int32))])) _
        refine XS.iand X0.here hx rfl (hb hby d1_26) rfl ?_
        show Steps p.tables e below (s₁.setTop (mkF m 27 #[.val (.int x), .val (.int y), .val (.int (x &&& (3 : Int32)))] [(.int (y &&& (2147483647 : Int32))), (.int (1024 : Int32))])) _
        refine X0.ldcInt hx hown (mvT hZ (hw _ (List.mem_of_getElem? (i := 5) rfl))) (g := (mkF m 27 #[.val (.int x), .val (.int y), .val (.int (x &&& (3 : Int32)))] [(.int (y &&& (2147483647 : Int32))), (.int (1024 : Int32))])) rfl (hb hby d1_27) _ ?_
        show Steps p.tables e below (s₁.setTop (mkF m 29 #[.val (.int x), .val (.int y), .val (.int (x &&& (3 : Int32)))] [(.int (1073740801 : Int32)), (.int (y &&& (2147483647 : Int32))), (.int (1024 : Int32))])) _
        refine iremM X0 hx rfl (hb hby d1_29) rfl (by decide) ?_
        show Steps p.tables e below (s₁.setTop (mkF m 30 #[.val (.int x), .val (.int y), .val (.int (x &&& (3 : Int32)))] [(.int ((y &&& (2147483647 : Int32)) % (1073740801 : Int32))), (.int (1024 : Int32))])) _
        refine XS.iadd X0.here hx rfl (hb hby d1_30) rfl ?_
        have hr1 := hr
        rw [← hqhc141] at hr1
        exact retI X0 hx Bd.returns (hb hby d1_31) hr1
  · show Q_rmZ x y h0 n0 _ s₁.heap _
    rw [e0]
    exact ⟨rfl, N0, rfl⟩
theorem own_size (a b : Int32) : ¬ (fS a b < (1024 : Int32)) ∧ ¬ ((1073741824 : Int32) < fS a b) := by
  have e := Jvm.Kit.i32_mask b 2147483647 (k := 31) (by decide) (by decide)
  have e3 := Jvm.Kit.i32_rem_nonneg (x := b &&& (2147483647 : Int32)) (y := 1073740801) (by omega)
  have l1 : (1024 : Int32).toInt = 1024 := rfl
  have l2 : (1073741824 : Int32).toInt = 1073741824 := rfl
  have l3 : (1073740801 : Int32).toInt = 1073740801 := rfl
  rw [l3] at e3
  have s := Jvm.Kit.i32_add (p := (1024 : Int32)) (q := (b &&& (2147483647 : Int32)) % (1073740801 : Int32)) (by omega) (by omega)
  rw [Int32.lt_iff_toInt_lt, Int32.lt_iff_toInt_lt, l1, l2]
  simp only [fS]
  split
  · rw [l1]; omega
  · split
    · rw [l2]; omega
    · rw [s, l1]; omega
def fAbs (q : Int64) : Int64 := (if q < (0 : Int64) then (-q) else q)
def Q_rmA (q : Int64) (h0 : Heap) (n0 : Nat) (v : Option Value) (h : Heap) (L : List Loc) : Prop := v = some (.long (fAbs q)) ∧ Fr n0 L ∧ h = h0
theorem ef_rmA (m : MethodId) (x0 : Int64) : entryFrame m #[(.long x0)] 2 = mkF m 0 #[.val (.long x0), .second] [] := by first | (simp [entryFrame, mkF, argsToLocals, Value.category]; done) | rfl
theorem d10_0 : decode jdk_29_method_61_code 0 = .ok (.lload_n 0, 1) := by decide +kernel
theorem d10_1 : decode jdk_29_method_61_code 1 = .ok (.lconst 0, 1) := by decide +kernel
theorem d10_2 : decode jdk_29_method_61_code 2 = .ok (.lcmp, 1) := by decide +kernel
theorem d10_3 : decode jdk_29_method_61_code 3 = .ok (.ifCond .ge 8, 3) := by decide +kernel
theorem d10_6 : decode jdk_29_method_61_code 6 = .ok (.lload_n 0, 1) := by decide +kernel
theorem d10_7 : decode jdk_29_method_61_code 7 = .ok (.lneg, 1) := by decide +kernel
theorem d10_8 : decode jdk_29_method_61_code 8 = .ok (.goto 4, 3) := by decide +kernel
theorem d10_11 : decode jdk_29_method_61_code 11 = .ok (.lload_n 0, 1) := by decide +kernel
theorem d10_12 : decode jdk_29_method_61_code 12 = .ok (.lreturn, 1) := by decide +kernel
set_option maxRecDepth 65536 in
set_option maxHeartbeats 40000000 in
theorem rmA (l : Launch) (Z : State) (a0 : Array Value) (hw : ∀ d ∈ tables_1, d.before a0 Z = true) (ws : List Jvm.Cond) (q : Int64)  (h0 : Heap) (n0 : Nat) (Z0 : n0 ≤ h0.size)  :
    MetFree l (⟨"java/lang/Math", "abs", "(J)J"⟩ : MethodName) (head1 (Jvm.Cond.code (⟨"java/lang/Math", "abs", "(J)J"⟩ : MethodName) jdk_29_method_61_code 2 (some .long) :: ws) ({ frames := 0, cells := 0, slots := 0, locals := 0 } : Room)) (fun a U => a = #[(.long q)] ∧ Z.Warmed39 U.vm ∧ U.heap = h0) (fun _ _ _ _ _ => True) (fun _ U o U' => ∃ v L, o = .returned v ∧ Q_rmA q h0 n0 v U'.heap L ∧ FrameEnd U o U' L ({ frames := 0, cells := 0, slots := 0, locals := 0 } : Room).cells ({ frames := 0, cells := 0, slots := 0, locals := 0 } : Room).slots) := by
  refine MetFree.of_bodySF (Jvm.Free.JP.mathPlain rfl (by decide +kernel)) hisR ?_
  intro p e s m args below meth c s₁ Bd hml0 hP hK
  obtain ⟨rfl, hZ, hh⟩ := hP
  have hx := Bd.exec
  have hby := Bd.bytes
  have hml : c.maxLocals = 2 := hml0
  have hown : s.vm.findClass "java/lang/Math" = some m.cls := findClass_of_methodNamed Bd.named
  have hnm := (name_of_methodNamed Bd.named Bd.method).1
  have X0 : Stand p l e ({ frames := 0, cells := 0, slots := 0, locals := 0 } : Room) s m #[(.long q)] below meth c s₁ [] 0 0 := Stand.of_body Bd
  have e0 : s₁.heap = h0 := by rw [← hh, Bd.state]; rfl
  have N0 := Fr.nil n0
  have pre0 : ∀ t, Steps p.tables e below (s₁.setTop (mkF m 0 #[.val (.long q), .second] [])) t → Steps p.tables e below (s₁.setTop (entryFrame m #[(.long q)] 2)) t := fun t k => castTop (ef_rmA m q) k
  obtain ⟨fs, hr, hrun, hended, hW, hsame⟩ := X0.leave (v := some (.long (fAbs q))) (fun h => by rw [Bd.returns] at h; cases h)
  refine ⟨_, _, pre0 _ ?_, hrun, hended, _, _, rfl, ?_, ⟨_, rfl⟩, hW, hsame.mono (by decide) (by decide)⟩
  · have hq0 : (if q < (0 : Int64) then (-q) else q) = fAbs q := rfl
    show Steps p.tables e below (s₁.setTop (mkF m 0 #[.val (.long q), .second] [])) _
    refine XS.lloadN X0.here hx rfl (hb hby d10_0) rfl ?_
    show Steps p.tables e below (s₁.setTop (mkF m 1 #[.val (.long q), .second] [(.long q)])) _
    refine XS.lconst X0.here hx rfl (hb hby d10_1) ?_
    show Steps p.tables e below (s₁.setTop (mkF m 2 #[.val (.long q), .second] [(.long (0 : Int64)), (.long q)])) _
    refine XS.lcmp X0.here hx rfl (hb hby d10_2) rfl ?_
    show Steps p.tables e below (s₁.setTop (mkF m 3 #[.val (.long q), .second] [(.int (lcmpW q (0 : Int64)))])) _
    by_cases hc3 : q < (0 : Int64)
    · have hqhc30 : (-q) = fAbs q := (if_pos hc3).symm.trans hq0
      refine XS.ifNo X0.here hx rfl (hb hby d10_3) rfl ((if0 _ _).trans (tlt ((lw_lt _ _).mpr hc3)).2.1) ?_
      show Steps p.tables e below (s₁.setTop (mkF m 6 #[.val (.long q), .second] [])) _
      refine XS.lloadN X0.here hx rfl (hb hby d10_6) rfl ?_
      show Steps p.tables e below (s₁.setTop (mkF m 7 #[.val (.long q), .second] [(.long q)])) _
      refine XS.lneg X0.here hx rfl (hb hby d10_7) rfl ?_
      show Steps p.tables e below (s₁.setTop (mkF m 8 #[.val (.long q), .second] [(.long (-q))])) _
      refine XS.goto X0.here hx rfl (pc0 := 8) (pc' := 12) rfl (hb hby d10_8) (by decide) (by decide) ?_
      have hr1 := hr
      rw [← hqhc30] at hr1
      exact X0.lreturnOut hx Bd.returns (hb hby d10_12) hr1
    · have hqhc31 : q = fAbs q := (if_neg hc3).symm.trans hq0
      refine XS.ifYes X0.here hx rfl (pc0 := 3) (pc' := 11) rfl (hb hby d10_3) rfl ((if0 _ _).trans (flt (mt (lw_lt _ _).mp hc3)).2.1) (by decide) (by decide) ?_
      show Steps p.tables e below (s₁.setTop (mkF m 11 #[.val (.long q), .second] [])) _
      refine XS.lloadN X0.here hx rfl (hb hby d10_11) rfl ?_
      have hr1 := hr
      rw [← hqhc31] at hr1
      exact X0.lreturnOut hx Bd.returns (hb hby d10_12) hr1
  · show Q_rmA q h0 n0 _ s₁.heap _
    rw [e0]
    exact ⟨rfl, N0, rfl⟩
def Q_rmJ (Z : State) (q1 : Int64) (q2 : Int64) (h0 : Heap) (n0 : Nat) (v : Option Value) (h : Heap) (L : List Loc) : Prop := v = some (.long (q1 * q2)) ∧ Fr n0 L ∧ h = h0
theorem pd_0 : parseMethodDescriptor "(J)J" = some ⟨[.long], some .long⟩ := by decide +kernel
theorem ef_rmJ (m : MethodId) (x0 : Int64) (x1 : Int64) : entryFrame m #[(.long x0), (.long x1)] 10 = mkF m 0 #[.val (.long x0), .second, .val (.long x1), .second, .unset, .unset, .unset, .unset, .unset, .unset] [] := by first | (simp [entryFrame, mkF, argsToLocals, Value.category]; done) | rfl
theorem d9_0 : decode jdk_29_method_30_code 0 = .ok (.lload_n 0, 1) := by decide +kernel
theorem d9_1 : decode jdk_29_method_30_code 1 = .ok (.lload_n 2, 1) := by decide +kernel
theorem d9_2 : decode jdk_29_method_30_code 2 = .ok (.lmul, 1) := by decide +kernel
theorem d9_3 : decode jdk_29_method_30_code 3 = .ok (.lstore 4, 2) := by decide +kernel
theorem d9_5 : decode jdk_29_method_30_code 5 = .ok (.lload_n 0, 1) := by decide +kernel
theorem d9_6 : decode jdk_29_method_30_code 6 = .ok (.invokestatic 122, 3) := by decide +kernel
theorem d9_9 : decode jdk_29_method_30_code 9 = .ok (.lstore 6, 2) := by decide +kernel
theorem d9_11 : decode jdk_29_method_30_code 11 = .ok (.lload_n 2, 1) := by decide +kernel
theorem d9_12 : decode jdk_29_method_30_code 12 = .ok (.invokestatic 122, 3) := by decide +kernel
theorem d9_15 : decode jdk_29_method_30_code 15 = .ok (.lstore 8, 2) := by decide +kernel
theorem d9_17 : decode jdk_29_method_30_code 17 = .ok (.lload 6, 2) := by decide +kernel
theorem d9_19 : decode jdk_29_method_30_code 19 = .ok (.lload 8, 2) := by decide +kernel
theorem d9_21 : decode jdk_29_method_30_code 21 = .ok (.lor, 1) := by decide +kernel
theorem d9_22 : decode jdk_29_method_30_code 22 = .ok (.bipush 31, 2) := by decide +kernel
theorem d9_24 : decode jdk_29_method_30_code 24 = .ok (.lushr, 1) := by decide +kernel
theorem d9_25 : decode jdk_29_method_30_code 25 = .ok (.lconst 0, 1) := by decide +kernel
theorem d9_26 : decode jdk_29_method_30_code 26 = .ok (.lcmp, 1) := by decide +kernel
theorem d9_27 : decode jdk_29_method_30_code 27 = .ok (.ifCond .eq 44, 3) := by decide +kernel
theorem d9_71 : decode jdk_29_method_30_code 71 = .ok (.lload 4, 2) := by decide +kernel
theorem d9_73 : decode jdk_29_method_30_code 73 = .ok (.lreturn, 1) := by decide +kernel
set_option maxRecDepth 65536 in
set_option maxHeartbeats 40000000 in
theorem rmJ (l : Launch) (Z : State) (a0 : Array Value) (hw : ∀ d ∈ tables_1, d.before a0 Z = true) (ws : List Jvm.Cond) (q1 : Int64) (q2 : Int64)  (h0 : Heap) (n0 : Nat) (Z0 : n0 ≤ h0.size) (hsm : (((fAbs q1) ||| (fAbs q2)).toUInt64 >>> ((31 : Int32) &&& 0x3f).toInt64.toUInt64).toInt64 = (0 : Int64)) :
    MetFree l (⟨"java/lang/Math", "multiplyExact", "(JJ)J"⟩ : MethodName) (head1 (Jvm.Cond.code (⟨"java/lang/Math", "multiplyExact", "(JJ)J"⟩ : MethodName) jdk_29_method_30_code 10 (some .long) :: ws) ({ frames := 1, cells := 0, slots := 0, locals := 13 } : Room)) (fun a U => a = #[(.long q1), (.long q2)] ∧ Z.Warmed39 U.vm ∧ U.heap = h0) (fun _ _ _ _ _ => True) (fun _ U o U' => ∃ v L, o = .returned v ∧ Q_rmJ Z q1 q2 h0 n0 v U'.heap L ∧ FrameEnd U o U' L ({ frames := 1, cells := 0, slots := 0, locals := 13 } : Room).cells ({ frames := 1, cells := 0, slots := 0, locals := 13 } : Room).slots) := by
  refine MetFree.of_bodySF (Jvm.Free.JP.mathPlain rfl (by decide +kernel)) hisR ?_
  intro p e s m args below meth c s₁ Bd hml0 hP hK
  obtain ⟨rfl, hZ, hh⟩ := hP
  have hx := Bd.exec
  have hby := Bd.bytes
  have hml : c.maxLocals = 10 := hml0
  have hown : s.vm.findClass "java/lang/Math" = some m.cls := findClass_of_methodNamed Bd.named
  have hnm := (name_of_methodNamed Bd.named Bd.method).1
  have X0 : Stand p l e ({ frames := 1, cells := 0, slots := 0, locals := 13 } : Room) s m #[(.long q1), (.long q2)] below meth c s₁ [] 0 0 := Stand.of_body Bd
  have e0 : s₁.heap = h0 := by rw [← hh, Bd.state]; rfl
  have N0 := Fr.nil n0
  have pre0 : ∀ t, Steps p.tables e below (s₁.setTop (mkF m 0 #[.val (.long q1), .second, .val (.long q2), .second, .unset, .unset, .unset, .unset, .unset, .unset] [])) t → Steps p.tables e below (s₁.setTop (entryFrame m #[(.long q1), (.long q2)] 10)) t := fun t k => castTop (ef_rmJ m q1 q2) k
  have sg1 : ∀ t, Steps p.tables e below (s₁.setTop (mkF m 6 #[.val (.long q1), .second, .val (.long q2), .second, .val (.long (q1 * q2)), .second, .unset, .unset, .unset, .unset] [(.long q1)])) t → Steps p.tables e below (s₁.setTop (mkF m 0 #[.val (.long q1), .second, .val (.long q2), .second, .unset, .unset, .unset, .unset, .unset, .unset] [])) t := by
    intro t k
    show Steps p.tables e below (s₁.setTop (mkF m 0 #[.val (.long q1), .second, .val (.long q2), .second, .unset, .unset, .unset, .unset, .unset, .unset] [])) _
    refine XS.lloadN X0.here hx rfl (hb hby d9_0) rfl ?_
    show Steps p.tables e below (s₁.setTop (mkF m 1 #[.val (.long q1), .second, .val (.long q2), .second, .unset, .unset, .unset, .unset, .unset, .unset] [(.long q1)])) _
    refine XS.lloadN X0.here hx rfl (hb hby d9_1) rfl ?_
    show Steps p.tables e below (s₁.setTop (mkF m 2 #[.val (.long q1), .second, .val (.long q2), .second, .unset, .unset, .unset, .unset, .unset, .unset] [(.long q2), (.long q1)])) _
    refine XS.lmul X0.here hx rfl (hb hby d9_2) rfl ?_
    show Steps p.tables e below (s₁.setTop (mkF m 3 #[.val (.long q1), .second, .val (.long q2), .second, .unset, .unset, .unset, .unset, .unset, .unset] [(.long (q1 * q2))])) _
    refine XS.lstore X0.here hx rfl (hb hby d9_3) rfl (l' := #[.val (.long q1), .second, .val (.long q2), .second, .val (.long (q1 * q2)), .second, .unset, .unset, .unset, .unset]) rfl ?_
    show Steps p.tables e below (s₁.setTop (mkF m 5 #[.val (.long q1), .second, .val (.long q2), .second, .val (.long (q1 * q2)), .second, .unset, .unset, .unset, .unset] [])) _
    refine XS.lloadN X0.here hx rfl (hb hby d9_5) rfl ?_
    exact k
  obtain ⟨_, _, ⟨T2, L2, k2, n2⟩, -, X2, ⟨Lc2, hQ2, l2, y2, z2⟩, st2⟩ := Jvm.LawKit.callS X0 hx (y := (⟨"java/lang/Math", "abs", "(J)J"⟩ : MethodName)) hown (mvT hZ (hw _ (List.mem_of_getElem? (i := 46) rfl))) (mvT hZ (hw _ (List.mem_of_getElem? (i := 47) rfl))) (mvT hZ (hw _ (List.mem_of_getElem? (i := 41) rfl))) (mvT hZ (hw _ (List.mem_of_getElem? (i := 48) rfl))) (by decide) (backOf (W := 0) (rmA l Z a0 hw [] q1 h0 n0 Z0) hZ (hw _ (List.mem_of_getElem? (i := 48) rfl)) (hw _ (List.mem_of_getElem? (i := 41) rfl)) (by decide) (by decide)) (g := (mkF m 6 #[.val (.long q1), .second, .val (.long q2), .second, .val (.long (q1 * q2)), .second, .unset, .unset, .unset, .unset] [(.long q1)])) rfl (by rw [hml]; rfl) (argsL := [(.long q1)]) (rest := []) (lenOf pd_0 rfl) rfl (by show 2 * 0 + _ ≤ _; exact Nat.le_of_eq rfl) (hb hby d9_6) (fun _ _ => ⟨rfl, e0, (by decide : 0 + 0 ≤ _), (by decide : 0 + 0 ≤ _)⟩)
  dsimp only [Pt.U, Pt.locs, Pt.cells, Pt.slots] at X2 l2 y2 z2 st2 hQ2
  subst l2 y2 z2
  obtain ⟨rfl, N2q, e2⟩ := hQ2
  have N2 := Fr.app N0 N2q
  have sg3 : ∀ t, Steps p.tables e below (T2.setTop (mkF m 12 #[.val (.long q1), .second, .val (.long q2), .second, .val (.long (q1 * q2)), .second, .val (.long (fAbs q1)), .second, .unset, .unset] [(.long q2)])) t → Steps p.tables e below (T2.setTop (mkF m 9 #[.val (.long q1), .second, .val (.long q2), .second, .val (.long (q1 * q2)), .second, .unset, .unset, .unset, .unset] [(.long (fAbs q1))])) t := by
    intro t k
    show Steps p.tables e below (T2.setTop (mkF m 9 #[.val (.long q1), .second, .val (.long q2), .second, .val (.long (q1 * q2)), .second, .unset, .unset, .unset, .unset] [(.long (fAbs q1))])) _
    refine XS.lstore X2.here hx rfl (hb hby d9_9) rfl (l' := #[.val (.long q1), .second, .val (.long q2), .second, .val (.long (q1 * q2)), .second, .val (.long (fAbs q1)), .second, .unset, .unset]) rfl ?_
    show Steps p.tables e below (T2.setTop (mkF m 11 #[.val (.long q1), .second, .val (.long q2), .second, .val (.long (q1 * q2)), .second, .val (.long (fAbs q1)), .second, .unset, .unset] [])) _
    refine XS.lloadN X2.here hx rfl (hb hby d9_11) rfl ?_
    exact k
  obtain ⟨_, _, ⟨T4, L4, k4, n4⟩, -, X4, ⟨Lc4, hQ4, l4, y4, z4⟩, st4⟩ := Jvm.LawKit.callS X2 hx (y := (⟨"java/lang/Math", "abs", "(J)J"⟩ : MethodName)) hown (mvT hZ (hw _ (List.mem_of_getElem? (i := 46) rfl))) (mvT hZ (hw _ (List.mem_of_getElem? (i := 47) rfl))) (mvT hZ (hw _ (List.mem_of_getElem? (i := 41) rfl))) (mvT hZ (hw _ (List.mem_of_getElem? (i := 48) rfl))) (by decide) (backOf (W := 0) (rmA l Z a0 hw [] q2 h0 n0 Z0) hZ (hw _ (List.mem_of_getElem? (i := 48) rfl)) (hw _ (List.mem_of_getElem? (i := 41) rfl)) (by decide) (by decide)) (g := (mkF m 12 #[.val (.long q1), .second, .val (.long q2), .second, .val (.long (q1 * q2)), .second, .val (.long (fAbs q1)), .second, .unset, .unset] [(.long q2)])) rfl (by rw [hml]; rfl) (argsL := [(.long q2)]) (rest := []) (lenOf pd_0 rfl) rfl (by show 2 * 0 + _ ≤ _; exact Nat.le_of_eq rfl) (hb hby d9_12) (fun _ _ => ⟨rfl, e2, (by decide : 0 + 0 ≤ _), (by decide : 0 + 0 ≤ _)⟩)
  dsimp only [Pt.U, Pt.locs, Pt.cells, Pt.slots] at X4 l4 y4 z4 st4 hQ4
  subst l4 y4 z4
  obtain ⟨rfl, N4q, e4⟩ := hQ4
  have N4 := Fr.app N2 N4q
  have sg5 : ∀ t, Steps p.tables e below (T4.setTop (mkF m 73 #[.val (.long q1), .second, .val (.long q2), .second, .val (.long (q1 * q2)), .second, .val (.long (fAbs q1)), .second, .val (.long (fAbs q2)), .second] [(.long (q1 * q2))])) t → Steps p.tables e below (T4.setTop (mkF m 15 #[.val (.long q1), .second, .val (.long q2), .second, .val (.long (q1 * q2)), .second, .val (.long (fAbs q1)), .second, .unset, .unset] [(.long (fAbs q2))])) t := by
    intro t k
    show Steps p.tables e below (T4.setTop (mkF m 15 #[.val (.long q1), .second, .val (.long q2), .second, .val (.long (q1 * q2)), .second, .val (.long (fAbs q1)), .second, .unset, .unset] [(.long (fAbs q2))])) _
    refine XS.lstore X4.here hx rfl (hb hby d9_15) rfl (l' := #[.val (.long q1), .second, .val (.long q2), .second, .val (.long (q1 * q2)), .second, .val (.long (fAbs q1)), .second, .val (.long (fAbs q2)), .second]) rfl ?_
    show Steps p.tables e below (T4.setTop (mkF m 17 #[.val (.long q1), .second, .val (.long q2), .second, .val (.long (q1 * q2)), .second, .val (.long (fAbs q1)), .second, .val (.long (fAbs q2)), .second] [])) _
    refine XS.lload X4.here hx rfl (hb hby d9_17) rfl ?_
    show Steps p.tables e below (T4.setTop (mkF m 19 #[.val (.long q1), .second, .val (.long q2), .second, .val (.long (q1 * q2)), .second, .val (.long (fAbs q1)), .second, .val (.long (fAbs q2)), .second] [(.long (fAbs q1))])) _
    refine XS.lload X4.here hx rfl (hb hby d9_19) rfl ?_
    show Steps p.tables e below (T4.setTop (mkF m 21 #[.val (.long q1), .second, .val (.long q2), .second, .val (.long (q1 * q2)), .second, .val (.long (fAbs q1)), .second, .val (.long (fAbs q2)), .second] [(.long (fAbs q2)), (.long (fAbs q1))])) _
    refine XS.lor X4.here hx rfl (hb hby d9_21) rfl ?_
    show Steps p.tables e below (T4.setTop (mkF m 22 #[.val (.long q1), .second, .val (.long q2), .second, .val (.long (q1 * q2)), .second, .val (.long (fAbs q1)), .second, .val (.long (fAbs q2)), .second] [(.long ((fAbs q1) ||| (fAbs q2)))])) _
    refine XS.bipush X4.here hx rfl (hb hby d9_22) ?_
    show Steps p.tables e below (T4.setTop (mkF m 24 #[.val (.long q1), .second, .val (.long q2), .second, .val (.long (q1 * q2)), .second, .val (.long (fAbs q1)), .second, .val (.long (fAbs q2)), .second] [(.int (31 : Int32)), (.long ((fAbs q1) ||| (fAbs q2)))])) _
    refine XS.lushr X4.here hx rfl (hb hby d9_24) rfl ?_
    show Steps p.tables e below (T4.setTop (mkF m 25 #[.val (.long q1), .second, .val (.long q2), .second, .val (.long (q1 * q2)), .second, .val (.long (fAbs q1)), .second, .val (.long (fAbs q2)), .second] [(.long ((((fAbs q1) ||| (fAbs q2)).toUInt64 >>> ((31 : Int32) &&& 0x3f).toInt64.toUInt64).toInt64))])) _
    refine XS.lconst X4.here hx rfl (hb hby d9_25) ?_
    show Steps p.tables e below (T4.setTop (mkF m 26 #[.val (.long q1), .second, .val (.long q2), .second, .val (.long (q1 * q2)), .second, .val (.long (fAbs q1)), .second, .val (.long (fAbs q2)), .second] [(.long (0 : Int64)), (.long ((((fAbs q1) ||| (fAbs q2)).toUInt64 >>> ((31 : Int32) &&& 0x3f).toInt64.toUInt64).toInt64))])) _
    refine XS.lcmp X4.here hx rfl (hb hby d9_26) rfl ?_
    show Steps p.tables e below (T4.setTop (mkF m 27 #[.val (.long q1), .second, .val (.long q2), .second, .val (.long (q1 * q2)), .second, .val (.long (fAbs q1)), .second, .val (.long (fAbs q2)), .second] [(.int (lcmpW ((((fAbs q1) ||| (fAbs q2)).toUInt64 >>> ((31 : Int32) &&& 0x3f).toInt64.toUInt64).toInt64) (0 : Int64)))])) _
    refine XS.ifYes X4.here hx rfl (pc0 := 27) (pc' := 71) rfl (hb hby d9_27) rfl ((if0 _ _).trans (teq ((lw_eq _ _).mpr (hsm : ((((fAbs q1) ||| (fAbs q2)).toUInt64 >>> ((31 : Int32) &&& 0x3f).toInt64.toUInt64).toInt64) = (0 : Int64)))).1) (by decide) (by decide) ?_
    show Steps p.tables e below (T4.setTop (mkF m 71 #[.val (.long q1), .second, .val (.long q2), .second, .val (.long (q1 * q2)), .second, .val (.long (fAbs q1)), .second, .val (.long (fAbs q2)), .second] [])) _
    refine XS.lload X4.here hx rfl (hb hby d9_71) rfl ?_
    exact k
  obtain ⟨fs, hr, hrun, hended, hW, hsame⟩ := X4.leave (v := some (.long (q1 * q2))) (fun h => by rw [Bd.returns] at h; cases h)
  refine ⟨_, _, pre0 _ ?_, hrun, hended, _, _, rfl, ?_, ⟨_, rfl⟩, hW, hsame.mono (by decide) (by decide)⟩
  · show Steps p.tables e below (s₁.setTop (mkF m 0 #[.val (.long q1), .second, .val (.long q2), .second, .unset, .unset, .unset, .unset, .unset, .unset] [])) _
    refine sg1 _ ?_
    show Steps p.tables e below (s₁.setTop (mkF m 6 #[.val (.long q1), .second, .val (.long q2), .second, .val (.long (q1 * q2)), .second, .unset, .unset, .unset, .unset] [(.long q1)])) _
    refine st2 _ ?_
    show Steps p.tables e below (T2.setTop (mkF m 9 #[.val (.long q1), .second, .val (.long q2), .second, .val (.long (q1 * q2)), .second, .unset, .unset, .unset, .unset] [(.long (fAbs q1))])) _
    refine sg3 _ ?_
    show Steps p.tables e below (T2.setTop (mkF m 12 #[.val (.long q1), .second, .val (.long q2), .second, .val (.long (q1 * q2)), .second, .val (.long (fAbs q1)), .second, .unset, .unset] [(.long q2)])) _
    refine st4 _ ?_
    show Steps p.tables e below (T4.setTop (mkF m 15 #[.val (.long q1), .second, .val (.long q2), .second, .val (.long (q1 * q2)), .second, .val (.long (fAbs q1)), .second, .unset, .unset] [(.long (fAbs q2))])) _
    refine sg5 _ ?_
    show Steps p.tables e below (T4.setTop (mkF m 73 #[.val (.long q1), .second, .val (.long q2), .second, .val (.long (q1 * q2)), .second, .val (.long (fAbs q1)), .second, .val (.long (fAbs q2)), .second] [(.long (q1 * q2))])) _
    jvm_step X4.here [X4.here.top, hx, (hb hby d9_73), X4.method', Bd.returns, narrow]
    first | (intro acts; rw [hr _ acts rfl rfl rfl]) | rw [hr _ _ rfl rfl rfl]
    exact Steps.refl _
  · show Q_rmJ Z q1 q2 h0 n0 _ T4.heap _
    rw [e4]
    exact ⟨rfl, N4, rfl⟩
def Q_rmK (Z : State) (q1 : Int64) (rn : Int32) (h0 : Heap) (n0 : Nat) (v : Option Value) (h : Heap) (L : List Loc) : Prop := v = some (.long (q1 * (rn.toInt64))) ∧ Fr n0 L ∧ h = h0
theorem pd_1 : parseMethodDescriptor "(JJ)J" = some ⟨[.long, .long], some .long⟩ := by decide +kernel
theorem ef_rmK (m : MethodId) (x0 : Int64) (x1 : Int32) : entryFrame m #[(.long x0), (.int x1)] 3 = mkF m 0 #[.val (.long x0), .second, .val (.int x1)] [] := by first | (simp [entryFrame, mkF, argsToLocals, Value.category]; done) | rfl
theorem d8_0 : decode jdk_29_method_29_code 0 = .ok (.lload_n 0, 1) := by decide +kernel
theorem d8_1 : decode jdk_29_method_29_code 1 = .ok (.iload_n 2, 1) := by decide +kernel
theorem d8_2 : decode jdk_29_method_29_code 2 = .ok (.i2l, 1) := by decide +kernel
theorem d8_3 : decode jdk_29_method_29_code 3 = .ok (.invokestatic 118, 3) := by decide +kernel
theorem d8_6 : decode jdk_29_method_29_code 6 = .ok (.lreturn, 1) := by decide +kernel
set_option maxRecDepth 65536 in
set_option maxHeartbeats 40000000 in
theorem rmK (l : Launch) (Z : State) (a0 : Array Value) (hw : ∀ d ∈ tables_1, d.before a0 Z = true) (ws : List Jvm.Cond) (q1 : Int64) (rn : Int32)  (h0 : Heap) (n0 : Nat) (Z0 : n0 ≤ h0.size) (hsm : (((fAbs q1) ||| (fAbs (rn.toInt64))).toUInt64 >>> ((31 : Int32) &&& 0x3f).toInt64.toUInt64).toInt64 = (0 : Int64)) :
    MetFree l (⟨"java/lang/Math", "multiplyExact", "(JI)J"⟩ : MethodName) (head1 (Jvm.Cond.code (⟨"java/lang/Math", "multiplyExact", "(JI)J"⟩ : MethodName) jdk_29_method_29_code 3 (some .long) :: ws) ({ frames := 2, cells := 0, slots := 0, locals := 34 } : Room)) (fun a U => a = #[(.long q1), (.int rn)] ∧ Z.Warmed39 U.vm ∧ U.heap = h0) (fun _ _ _ _ _ => True) (fun _ U o U' => ∃ v L, o = .returned v ∧ Q_rmK Z q1 rn h0 n0 v U'.heap L ∧ FrameEnd U o U' L ({ frames := 2, cells := 0, slots := 0, locals := 34 } : Room).cells ({ frames := 2, cells := 0, slots := 0, locals := 34 } : Room).slots) := by
  refine MetFree.of_bodySF (Jvm.Free.JP.mathPlain rfl (by decide +kernel)) hisR ?_
  intro p e s m args below meth c s₁ Bd hml0 hP hK
  obtain ⟨rfl, hZ, hh⟩ := hP
  have hx := Bd.exec
  have hby := Bd.bytes
  have hml : c.maxLocals = 3 := hml0
  have hown : s.vm.findClass "java/lang/Math" = some m.cls := findClass_of_methodNamed Bd.named
  have hnm := (name_of_methodNamed Bd.named Bd.method).1
  have X0 : Stand p l e ({ frames := 2, cells := 0, slots := 0, locals := 34 } : Room) s m #[(.long q1), (.int rn)] below meth c s₁ [] 0 0 := Stand.of_body Bd
  have e0 : s₁.heap = h0 := by rw [← hh, Bd.state]; rfl
  have N0 := Fr.nil n0
  have pre0 : ∀ t, Steps p.tables e below (s₁.setTop (mkF m 0 #[.val (.long q1), .second, .val (.int rn)] [])) t → Steps p.tables e below (s₁.setTop (entryFrame m #[(.long q1), (.int rn)] 3)) t := fun t k => castTop (ef_rmK m q1 rn) k
  have sg1 : ∀ t, Steps p.tables e below (s₁.setTop (mkF m 3 #[.val (.long q1), .second, .val (.int rn)] [(.long (rn.toInt64)), (.long q1)])) t → Steps p.tables e below (s₁.setTop (mkF m 0 #[.val (.long q1), .second, .val (.int rn)] [])) t := by
    intro t k
    show Steps p.tables e below (s₁.setTop (mkF m 0 #[.val (.long q1), .second, .val (.int rn)] [])) _
    refine XS.lloadN X0.here hx rfl (hb hby d8_0) rfl ?_
    show Steps p.tables e below (s₁.setTop (mkF m 1 #[.val (.long q1), .second, .val (.int rn)] [(.long q1)])) _
    refine XS.iloadN X0.here hx rfl (hb hby d8_1) rfl ?_
    show Steps p.tables e below (s₁.setTop (mkF m 2 #[.val (.long q1), .second, .val (.int rn)] [(.int rn), (.long q1)])) _
    refine XS.i2l X0.here hx rfl (hb hby d8_2) rfl ?_
    exact k
  obtain ⟨_, _, ⟨T2, L2, k2, n2⟩, -, X2, ⟨Lc2, hQ2, l2, y2, z2⟩, st2⟩ := Jvm.LawKit.callS X0 hx (y := (⟨"java/lang/Math", "multiplyExact", "(JJ)J"⟩ : MethodName)) hown (mvT hZ (hw _ (List.mem_of_getElem? (i := 43) rfl))) (mvT hZ (hw _ (List.mem_of_getElem? (i := 44) rfl))) (mvT hZ (hw _ (List.mem_of_getElem? (i := 41) rfl))) (mvT hZ (hw _ (List.mem_of_getElem? (i := 45) rfl))) (by decide) (backOf (W := 0) (rmJ l Z a0 hw [] q1 (rn.toInt64) h0 n0 Z0 hsm) hZ (hw _ (List.mem_of_getElem? (i := 45) rfl)) (hw _ (List.mem_of_getElem? (i := 41) rfl)) (by decide) (by decide)) (g := (mkF m 3 #[.val (.long q1), .second, .val (.int rn)] [(.long (rn.toInt64)), (.long q1)])) rfl (by rw [hml]; rfl) (argsL := [(.long q1), (.long (rn.toInt64))]) (rest := []) (lenOf pd_1 rfl) rfl (by show 2 * 0 + _ ≤ _; exact Nat.le_of_eq rfl) (hb hby d8_3) (fun _ _ => ⟨rfl, e0, (by decide : 0 + 0 ≤ _), (by decide : 0 + 0 ≤ _)⟩)
  dsimp only [Pt.U, Pt.locs, Pt.cells, Pt.slots] at X2 l2 y2 z2 st2 hQ2
  subst l2 y2 z2
  obtain ⟨rfl, N2q, e2⟩ := hQ2
  have N2 := Fr.app N0 N2q
  obtain ⟨fs, hr, hrun, hended, hW, hsame⟩ := X2.leave (v := some (.long (q1 * (rn.toInt64)))) (fun h => by rw [Bd.returns] at h; cases h)
  refine ⟨_, _, pre0 _ ?_, hrun, hended, _, _, rfl, ?_, ⟨_, rfl⟩, hW, hsame.mono (by decide) (by decide)⟩
  · show Steps p.tables e below (s₁.setTop (mkF m 0 #[.val (.long q1), .second, .val (.int rn)] [])) _
    refine sg1 _ ?_
    show Steps p.tables e below (s₁.setTop (mkF m 3 #[.val (.long q1), .second, .val (.int rn)] [(.long (rn.toInt64)), (.long q1)])) _
    refine st2 _ ?_
    show Steps p.tables e below (T2.setTop (mkF m 6 #[.val (.long q1), .second, .val (.int rn)] [(.long (q1 * (rn.toInt64)))])) _
    jvm_step X2.here [X2.here.top, hx, (hb hby d8_6), X2.method', Bd.returns, narrow]
    first | (intro acts; rw [hr _ acts rfl rfl rfl]) | rw [hr _ _ rfl rfl rfl]
    exact Steps.refl _
  · show Q_rmK Z q1 rn h0 n0 _ T2.heap _
    rw [e2]
    exact ⟨rfl, N2, rfl⟩
def Q_rmD (Z : State) (ra : Addr) (q1 : Int64) (rn : Int32) (h0 : Heap) (n0 : Nat) (v : Option Value) (h : Heap) (L : List Loc) : Prop := v = none ∧ Fr n0 L ∧ Keep h0 h [ra]
theorem pd_2 : parseMethodDescriptor "()V" = some ⟨[], none⟩ := by decide +kernel
theorem pn_1 : plainName "java/time/Duration" = true := by first | (simp [plainName, overriddenIn]; done) | decide +kernel
theorem ef_rmD (m : MethodId) (x0 : Addr) (x1 : Int64) (x2 : Int32) : entryFrame m #[(.ref x0), (.long x1), (.int x2)] 4 = mkF m 0 #[.val (.ref x0), .val (.long x1), .second, .val (.int x2)] [] := by first | (simp [entryFrame, mkF, argsToLocals, Value.category]; done) | rfl
theorem d6_0 : decode jdk_2316_method_17_code 0 = .ok (.aload_n 0, 1) := by decide +kernel
theorem d6_1 : decode jdk_2316_method_17_code 1 = .ok (.invokespecial 218, 3) := by decide +kernel
theorem d6_4 : decode jdk_2316_method_17_code 4 = .ok (.aload_n 0, 1) := by decide +kernel
theorem d6_5 : decode jdk_2316_method_17_code 5 = .ok (.lload_n 1, 1) := by decide +kernel
theorem d6_6 : decode jdk_2316_method_17_code 6 = .ok (.putfield 221, 3) := by decide +kernel
theorem d6_9 : decode jdk_2316_method_17_code 9 = .ok (.aload_n 0, 1) := by decide +kernel
theorem d6_10 : decode jdk_2316_method_17_code 10 = .ok (.iload_n 3, 1) := by decide +kernel
theorem d6_11 : decode jdk_2316_method_17_code 11 = .ok (.putfield 224, 3) := by decide +kernel
theorem d6_14 : decode jdk_2316_method_17_code 14 = .ok (.return_, 1) := by decide +kernel
set_option maxRecDepth 65536 in
set_option maxHeartbeats 40000000 in
theorem rmD (l : Launch) (Z : State) (a0 : Array Value) (hw : ∀ d ∈ tables_1, d.before a0 Z = true) (ws : List Jvm.Cond) (ra : Addr) (q1 : Int64) (rn : Int32)  (h0 : Heap) (n0 : Nat) (Z0 : n0 ≤ h0.size) (P0 : Exa Z h0 ra "java/time/Duration") (P1 : Fld Z h0 ra "java/time/Duration" "seconds" "J" (.long (0 : Int64))) (P2 : Fld Z h0 ra "java/time/Duration" "nanos" "I" (.int (0 : Int32))) (g_ra : n0 ≤ ra) :
    MetFree l (⟨"java/time/Duration", "<init>", "(JI)V"⟩ : MethodName) (head1 (Jvm.Cond.code (⟨"java/time/Duration", "<init>", "(JI)V"⟩ : MethodName) jdk_2316_method_17_code 4 none :: ws) ({ frames := 1, cells := 0, slots := 0, locals := 12 } : Room)) (fun a U => a = #[(.ref ra), (.long q1), (.int rn)] ∧ Z.Warmed39 U.vm ∧ U.heap = h0) (fun _ _ _ _ _ => True) (fun _ U o U' => ∃ v L, o = .returned v ∧ Q_rmD Z ra q1 rn h0 n0 v U'.heap L ∧ FrameEnd U o U' L ({ frames := 1, cells := 0, slots := 0, locals := 12 } : Room).cells ({ frames := 1, cells := 0, slots := 0, locals := 12 } : Room).slots) := by
  refine MetFree.of_bodySF (plainFor_of_name pn_1) hisR ?_
  intro p e s m args below meth c s₁ Bd hml0 hP hK
  obtain ⟨rfl, hZ, hh⟩ := hP
  have hx := Bd.exec
  have hby := Bd.bytes
  have hml : c.maxLocals = 4 := hml0
  have hown : s.vm.findClass "java/time/Duration" = some m.cls := findClass_of_methodNamed Bd.named
  have hnm := (name_of_methodNamed Bd.named Bd.method).1
  have X0 : Stand p l e ({ frames := 1, cells := 0, slots := 0, locals := 12 } : Room) s m #[(.ref ra), (.long q1), (.int rn)] below meth c s₁ [] 0 0 := Stand.of_body Bd
  have e0 : s₁.heap = h0 := by rw [← hh, Bd.state]; rfl
  have N0 := Fr.nil n0
  have pre0 : ∀ t, Steps p.tables e below (s₁.setTop (mkF m 0 #[.val (.ref ra), .val (.long q1), .second, .val (.int rn)] [])) t → Steps p.tables e below (s₁.setTop (entryFrame m #[(.ref ra), (.long q1), (.int rn)] 4)) t := fun t k => castTop (ef_rmD m ra q1 rn) k
  have K0 : Keep h0 h0 [ra] := Keep.refl h0 [ra]
  have sg1 : ∀ t, Steps p.tables e below (s₁.setTop (mkF m 1 #[.val (.ref ra), .val (.long q1), .second, .val (.int rn)] [(.ref ra)])) t → Steps p.tables e below (s₁.setTop (mkF m 0 #[.val (.ref ra), .val (.long q1), .second, .val (.int rn)] [])) t := by
    intro t k
    show Steps p.tables e below (s₁.setTop (mkF m 0 #[.val (.ref ra), .val (.long q1), .second, .val (.int rn)] [])) _
    refine XS.aloadN X0.here hx rfl (hb hby d6_0) rfl rfl ?_
    exact k
  obtain ⟨T2, X2, e2, st2⟩ := initO X0 hx hZ hown (hw _ (List.mem_of_getElem? (i := 29) rfl)) (hw _ (List.mem_of_getElem? (i := 13) rfl)) (hw _ (List.mem_of_getElem? (i := 14) rfl)) e0 (g := (mkF m 1 #[.val (.ref ra), .val (.long q1), .second, .val (.int rn)] [(.ref ra)])) rfl (by rw [hml]; rfl) rfl (hb hby d6_1) (by decide) (W := 0) (by show 2 * 0 + _ ≤ _; exact Nat.le_of_eq rfl) (by decide)
  have sg3 : ∀ t, Steps p.tables e below (T2.setTop (mkF m 6 #[.val (.ref ra), .val (.long q1), .second, .val (.int rn)] [(.long q1), (.ref ra)])) t → Steps p.tables e below (T2.setTop (mkF m 4 #[.val (.ref ra), .val (.long q1), .second, .val (.int rn)] [])) t := by
    intro t k
    show Steps p.tables e below (T2.setTop (mkF m 4 #[.val (.ref ra), .val (.long q1), .second, .val (.int rn)] [])) _
    refine XS.aloadN X2.here hx rfl (hb hby d6_4) rfl rfl ?_
    show Steps p.tables e below (T2.setTop (mkF m 5 #[.val (.ref ra), .val (.long q1), .second, .val (.int rn)] [(.ref ra)])) _
    refine XS.lloadN X2.here hx rfl (hb hby d6_5) rfl ?_
    exact k
  obtain ⟨T4, h4, X4, e4, W4, st4⟩ := putF X2 hx hZ hown (host := "") (Or.inl (hw _ (List.mem_of_getElem? (i := 30) rfl))) Via.refl e2 P1 P0 (Or.inr ⟨(hw _ (List.mem_of_getElem? (i := 31) rfl)), rfl, hnm⟩) (hw _ (List.mem_of_getElem? (i := 24) rfl)) (ty := .long) (by decide) rfl rfl (g := (mkF m 6 #[.val (.ref ra), .val (.long q1), .second, .val (.int rn)] [(.long q1), (.ref ra)])) rfl rfl (hb hby d6_6)
  have N4 := Fr.snoc X4 N0 g_ra
  have f5 : Exa Z h4 ra "java/time/Duration" := P0.wr W4
  have f6 : Fld Z h4 ra "java/time/Duration" "nanos" "I" (.int (0 : Int32)) := P2.other W4 (Or.inr (slot_ne (Or.inr (hw _ (List.mem_of_getElem? (i := 33) rfl))) (Or.inr (hw _ (List.mem_of_getElem? (i := 31) rfl))) (by decide) (t := .int) (t' := .long) (by decide) (by decide)))
  have z7 : n0 ≤ h4.size := Nat.le_trans Z0 (Keep.of_wr W4).1
  have K8 : Keep h0 h4 [ra] := K0.wr W4 (Or.inl (List.mem_of_getElem? (i := 0) rfl))
  have f9 : Fld Z h4 ra "java/time/Duration" "seconds" "J" (.long q1) := P1.same W4
  have sg10 : ∀ t, Steps p.tables e below (T4.setTop (mkF m 11 #[.val (.ref ra), .val (.long q1), .second, .val (.int rn)] [(.int rn), (.ref ra)])) t → Steps p.tables e below (T4.setTop (mkF m 9 #[.val (.ref ra), .val (.long q1), .second, .val (.int rn)] [])) t := by
    intro t k
    show Steps p.tables e below (T4.setTop (mkF m 9 #[.val (.ref ra), .val (.long q1), .second, .val (.int rn)] [])) _
    refine XS.aloadN X4.here hx rfl (hb hby d6_9) rfl rfl ?_
    show Steps p.tables e below (T4.setTop (mkF m 10 #[.val (.ref ra), .val (.long q1), .second, .val (.int rn)] [(.ref ra)])) _
    refine XS.iloadN X4.here hx rfl (hb hby d6_10) rfl ?_
    exact k
  obtain ⟨T11, h11, X11, e11, W11, st11⟩ := putF X4 hx hZ hown (host := "") (Or.inl (hw _ (List.mem_of_getElem? (i := 32) rfl))) Via.refl e4 f6 f5 (Or.inr ⟨(hw _ (List.mem_of_getElem? (i := 33) rfl)), rfl, hnm⟩) (hw _ (List.mem_of_getElem? (i := 24) rfl)) (ty := .int) (by decide) rfl rfl (g := (mkF m 11 #[.val (.ref ra), .val (.long q1), .second, .val (.int rn)] [(.int rn), (.ref ra)])) rfl rfl (hb hby d6_11)
  have N11 := Fr.snoc X11 N4 g_ra
  have f12 : Exa Z h11 ra "java/time/Duration" := f5.wr W11
  have f13 : Fld Z h11 ra "java/time/Duration" "seconds" "J" (.long q1) := f9.other W11 (Or.inr (slot_ne (Or.inr (hw _ (List.mem_of_getElem? (i := 31) rfl))) (Or.inr (hw _ (List.mem_of_getElem? (i := 33) rfl))) (by decide) (t := .long) (t' := .int) (by decide) (by decide)))
  have z14 : n0 ≤ h11.size := Nat.le_trans z7 (Keep.of_wr W11).1
  have K15 : Keep h0 h11 [ra] := K8.wr W11 (Or.inl (List.mem_of_getElem? (i := 0) rfl))
  have f16 : Fld Z h11 ra "java/time/Duration" "nanos" "I" (.int rn) := f6.same W11
  obtain ⟨fs, hr, hrun, hended, hW, hsame⟩ := X11.leave (v := none) (fun _ => rfl)
  refine ⟨_, _, pre0 _ ?_, hrun, hended, _, _, rfl, ?_, ⟨_, rfl⟩, hW, hsame.mono (by decide) (by decide)⟩
  · show Steps p.tables e below (s₁.setTop (mkF m 0 #[.val (.ref ra), .val (.long q1), .second, .val (.int rn)] [])) _
    refine sg1 _ ?_
    show Steps p.tables e below (s₁.setTop (mkF m 1 #[.val (.ref ra), .val (.long q1), .second, .val (.int rn)] [(.ref ra)])) _
    refine st2 _ ?_
    show Steps p.tables e below (T2.setTop (mkF m 4 #[.val (.ref ra), .val (.long q1), .second, .val (.int rn)] [])) _
    refine sg3 _ ?_
    show Steps p.tables e below (T2.setTop (mkF m 6 #[.val (.ref ra), .val (.long q1), .second, .val (.int rn)] [(.long q1), (.ref ra)])) _
    refine st4 _ ?_
    show Steps p.tables e below (T4.setTop (mkF m 9 #[.val (.ref ra), .val (.long q1), .second, .val (.int rn)] [])) _
    refine sg10 _ ?_
    show Steps p.tables e below (T4.setTop (mkF m 11 #[.val (.ref ra), .val (.long q1), .second, .val (.int rn)] [(.int rn), (.ref ra)])) _
    refine st11 _ ?_
    show Steps p.tables e below (T11.setTop (mkF m 14 #[.val (.ref ra), .val (.long q1), .second, .val (.int rn)] [])) _
    exact X11.returnOut hx Bd.returns (hb hby d6_14) hr
  · show Q_rmD Z ra q1 rn h0 n0 _ T11.heap _
    rw [e11]
    exact ⟨rfl, N11, K15⟩
def Q_rmC (Z : State) (q1 : Int64) (rn : Int32) (h0 : Heap) (n0 : Nat) (v : Option Value) (h : Heap) (L : List Loc) : Prop := ∃ (rr : Addr), v = some (.ref rr) ∧ Fr n0 L ∧ Keep h0 h [] ∧ Exa Z h rr "java/time/Duration" ∧ h0.size ≤ rr
theorem pd_3 : parseMethodDescriptor "(JI)V" = some ⟨[.long, .int], none⟩ := by decide +kernel
theorem ef_rmC (m : MethodId) (x0 : Int64) (x1 : Int32) : entryFrame m #[(.long x0), (.int x1)] 3 = mkF m 0 #[.val (.long x0), .second, .val (.int x1)] [] := by first | (simp [entryFrame, mkF, argsToLocals, Value.category]; done) | rfl
theorem d5_0 : decode jdk_2316_method_16_code 0 = .ok (.lload_n 0, 1) := by decide +kernel
theorem d5_1 : decode jdk_2316_method_16_code 1 = .ok (.iload_n 2, 1) := by decide +kernel
theorem d5_2 : decode jdk_2316_method_16_code 2 = .ok (.i2l, 1) := by decide +kernel
theorem d5_3 : decode jdk_2316_method_16_code 3 = .ok (.lor, 1) := by decide +kernel
theorem d5_4 : decode jdk_2316_method_16_code 4 = .ok (.lconst 0, 1) := by decide +kernel
theorem d5_5 : decode jdk_2316_method_16_code 5 = .ok (.lcmp, 1) := by decide +kernel
theorem d5_6 : decode jdk_2316_method_16_code 6 = .ok (.ifCond .ne 7, 3) := by decide +kernel
theorem d5_13 : decode jdk_2316_method_16_code 13 = .ok (.new 11, 3) := by decide +kernel
theorem d5_16 : decode jdk_2316_method_16_code 16 = .ok (.dup, 1) := by decide +kernel
theorem d5_17 : decode jdk_2316_method_16_code 17 = .ok (.lload_n 0, 1) := by decide +kernel
theorem d5_18 : decode jdk_2316_method_16_code 18 = .ok (.iload_n 2, 1) := by decide +kernel
theorem d5_19 : decode jdk_2316_method_16_code 19 = .ok (.invokespecial 215, 3) := by decide +kernel
theorem d5_22 : decode jdk_2316_method_16_code 22 = .ok (.areturn, 1) := by decide +kernel
set_option maxRecDepth 65536 in
set_option maxHeartbeats 40000000 in
theorem rmC (l : Launch) (Z : State) (a0 : Array Value) (hw : ∀ d ∈ tables_1, d.before a0 Z = true) (ws : List Jvm.Cond) (q1 : Int64) (rn : Int32)  (h0 : Heap) (n0 : Nat) (Z0 : n0 ≤ h0.size) (hnz : ¬ ((q1 ||| (rn.toInt64)) = (0 : Int64))) :
    MetFree l (⟨"java/time/Duration", "create", "(JI)Ljava/time/Duration;"⟩ : MethodName) (head1 (Jvm.Cond.code (⟨"java/time/Duration", "create", "(JI)Ljava/time/Duration;"⟩ : MethodName) jdk_2316_method_16_code 3 (some (.object "java/time/Duration")) :: ws) ({ frames := 2, cells := 1, slots := 2, locals := 28 } : Room)) (fun a U => a = #[(.long q1), (.int rn)] ∧ Z.Warmed39 U.vm ∧ U.heap = h0) (fun _ _ _ _ _ => True) (fun _ U o U' => ∃ v L, o = .returned v ∧ Q_rmC Z q1 rn h0 n0 v U'.heap L ∧ FrameEnd U o U' L ({ frames := 2, cells := 1, slots := 2, locals := 28 } : Room).cells ({ frames := 2, cells := 1, slots := 2, locals := 28 } : Room).slots) := by
  refine MetFree.of_bodySF (plainFor_of_name pn_1) hisR ?_
  intro p e s m args below meth c s₁ Bd hml0 hP hK
  obtain ⟨rfl, hZ, hh⟩ := hP
  have hx := Bd.exec
  have hby := Bd.bytes
  have hml : c.maxLocals = 3 := hml0
  have hown : s.vm.findClass "java/time/Duration" = some m.cls := findClass_of_methodNamed Bd.named
  have hnm := (name_of_methodNamed Bd.named Bd.method).1
  have X0 : Stand p l e ({ frames := 2, cells := 1, slots := 2, locals := 28 } : Room) s m #[(.long q1), (.int rn)] below meth c s₁ [] 0 0 := Stand.of_body Bd
  have e0 : s₁.heap = h0 := by rw [← hh, Bd.state]; rfl
  have N0 := Fr.nil n0
  have pre0 : ∀ t, Steps p.tables e below (s₁.setTop (mkF m 0 #[.val (.long q1), .second, .val (.int rn)] [])) t → Steps p.tables e below (s₁.setTop (entryFrame m #[(.long q1), (.int rn)] 3)) t := fun t k => castTop (ef_rmC m q1 rn) k
  have K0 : Keep h0 h0 [] := Keep.refl h0 []
  have sg1 : ∀ t, Steps p.tables e below (s₁.setTop (mkF m 13 #[.val (.long q1), .second, .val (.int rn)] [])) t → Steps p.tables e below (s₁.setTop (mkF m 0 #[.val (.long q1), .second, .val (.int rn)] [])) t := by
    intro t k
    show Steps p.tables e below (s₁.setTop (mkF m 0 #[.val (.long q1), .second, .val (.int rn)] [])) _
    refine XS.lloadN X0.here hx rfl (hb hby d5_0) rfl ?_
    show Steps p.tables e below (s₁.setTop (mkF m 1 #[.val (.long q1), .second, .val (.int rn)] [(.long q1)])) _
    refine XS.iloadN X0.here hx rfl (hb hby d5_1) rfl ?_
    show Steps p.tables e below (s₁.setTop (mkF m 2 #[.val (.long q1), .second, .val (.int rn)] [(.int rn), (.long q1)])) _
    refine XS.i2l X0.here hx rfl (hb hby d5_2) rfl ?_
    show Steps p.tables e below (s₁.setTop (mkF m 3 #[.val (.long q1), .second, .val (.int rn)] [(.long (rn.toInt64)), (.long q1)])) _
    refine XS.lor X0.here hx rfl (hb hby d5_3) rfl ?_
    show Steps p.tables e below (s₁.setTop (mkF m 4 #[.val (.long q1), .second, .val (.int rn)] [(.long (q1 ||| (rn.toInt64)))])) _
    refine XS.lconst X0.here hx rfl (hb hby d5_4) ?_
    show Steps p.tables e below (s₁.setTop (mkF m 5 #[.val (.long q1), .second, .val (.int rn)] [(.long (0 : Int64)), (.long (q1 ||| (rn.toInt64)))])) _
    refine XS.lcmp X0.here hx rfl (hb hby d5_5) rfl ?_
    show Steps p.tables e below (s₁.setTop (mkF m 6 #[.val (.long q1), .second, .val (.int rn)] [(.int (lcmpW (q1 ||| (rn.toInt64)) (0 : Int64)))])) _
    refine XS.ifYes X0.here hx rfl (pc0 := 6) (pc' := 13) rfl (hb hby d5_6) rfl ((if0 _ _).trans (feq (mt (lw_eq _ _).mp (hnz : ¬ ((q1 ||| (rn.toInt64)) = (0 : Int64))))).2) (by decide) (by decide) ?_
    exact k
  obtain ⟨T2, h2, X2, e2, E2, A2, D2, -, st2⟩ := newO X0 hx hZ hown (hw _ (List.mem_of_getElem? (i := 23) rfl)) (hw _ (List.mem_of_getElem? (i := 24) rfl)) (hw _ (List.mem_of_getElem? (i := 18) rfl)) e0 (g := (mkF m 13 #[.val (.long q1), .second, .val (.int rn)] [])) rfl (hb hby d5_13) (by decide) (by decide)
  obtain ⟨b2, g2⟩ : ∃ z, z = h0.size := ⟨_, rfl⟩
  rw [← g2] at A2 D2 st2
  have gn_b2 : n0 ≤ b2 := Nat.le_trans Z0 (Nat.le_of_eq g2.symm)
  have sz_b2 : h0.size ≤ b2 := Nat.le_trans K0.1 (Nat.le_of_eq g2.symm)
  have z3 : n0 ≤ h2.size := Nat.le_trans Z0 E2.1
  have K4 : Keep h0 h2 [] := K0.ext E2
  have f5 : Fld Z h2 b2 "java/time/Duration" "seconds" "J" (.long (0 : Int64)) := D2 (Or.inr (hw _ (List.mem_of_getElem? (i := 31) rfl))) (ty := .long) (by decide)
  have f6 : Fld Z h2 b2 "java/time/Duration" "nanos" "I" (.int (0 : Int32)) := D2 (Or.inr (hw _ (List.mem_of_getElem? (i := 33) rfl))) (ty := .int) (by decide)
  have sg7 : ∀ t, Steps p.tables e below (T2.setTop (mkF m 19 #[.val (.long q1), .second, .val (.int rn)] [(.int rn), (.long q1), (.ref b2), (.ref b2)])) t → Steps p.tables e below (T2.setTop (mkF m 16 #[.val (.long q1), .second, .val (.int rn)] [(.ref b2)])) t := by
    intro t k
    show Steps p.tables e below (T2.setTop (mkF m 16 #[.val (.long q1), .second, .val (.int rn)] [(.ref b2)])) _
    refine XS.dup X2.here hx rfl (hb hby d5_16) rfl rfl ?_
    show Steps p.tables e below (T2.setTop (mkF m 17 #[.val (.long q1), .second, .val (.int rn)] [(.ref b2), (.ref b2)])) _
    refine XS.lloadN X2.here hx rfl (hb hby d5_17) rfl ?_
    show Steps p.tables e below (T2.setTop (mkF m 18 #[.val (.long q1), .second, .val (.int rn)] [(.long q1), (.ref b2), (.ref b2)])) _
    refine XS.iloadN X2.here hx rfl (hb hby d5_18) rfl ?_
    exact k
  obtain ⟨_, _, ⟨T8, L8, k8, n8⟩, -, X8, ⟨Lc8, hQ8, l8, y8, z8⟩, st8⟩ := X2.specialBack hx (y := (⟨"java/time/Duration", "<init>", "(JI)V"⟩ : MethodName)) rfl hown (mvT hZ (hw _ (List.mem_of_getElem? (i := 25) rfl))) (mvT hZ (hw _ (List.mem_of_getElem? (i := 26) rfl))) (mvT hZ (hw _ (List.mem_of_getElem? (i := 28) rfl))) (by decide) (backOf (W := 1) (rmD l Z a0 hw [] b2 q1 rn h2 n0 z3 A2 f5 f6 gn_b2) hZ (hw _ (List.mem_of_getElem? (i := 28) rfl)) (hw _ (List.mem_of_getElem? (i := 18) rfl)) (by decide) (by decide)) (g := (mkF m 19 #[.val (.long q1), .second, .val (.int rn)] [(.int rn), (.long q1), (.ref b2), (.ref b2)])) rfl (by rw [hml]; rfl) (Steps.refl _) (a := b2) (argsL := [(.long q1), (.int rn)]) (rest := [(.ref b2)]) (lenOf pd_3 rfl) rfl (by show 2 * 0 + _ ≤ _; exact Nat.le_of_eq rfl) (hb hby d5_19) (fun _ _ => ⟨rfl, e2, (by decide : 1 + 0 ≤ _), (by decide : 2 + 0 ≤ _)⟩)
  dsimp only [Pt.U, Pt.locs, Pt.cells, Pt.slots] at X8 l8 y8 z8 st8 hQ8
  subst l8 y8 z8
  obtain ⟨rfl, N8q, KQ8⟩ := hQ8
  have N8 := Fr.app N0 N8q
  have f9 : Exa Z T8.heap b2 "java/time/Duration" := A2.keep KQ8
  have z10 : n0 ≤ T8.heap.size := Nat.le_trans z3 KQ8.1
  have K11 : Keep h0 T8.heap [] := K4.trans KQ8 (allS (Or.inr sz_b2) all0)
  obtain ⟨fs, hr, hrun, hended, hW, hsame⟩ := X8.leave (v := some (.ref b2)) (fun h => by rw [Bd.returns] at h; cases h)
  refine ⟨_, _, pre0 _ ?_, hrun, hended, _, _, rfl, ?_, ⟨_, rfl⟩, hW, hsame.mono (by decide) (by decide)⟩
  · show Steps p.tables e below (s₁.setTop (mkF m 0 #[.val (.long q1), .second, .val (.int rn)] [])) _
    refine sg1 _ ?_
    show Steps p.tables e below (s₁.setTop (mkF m 13 #[.val (.long q1), .second, .val (.int rn)] [])) _
    refine st2 _ ?_
    show Steps p.tables e below (T2.setTop (mkF m 16 #[.val (.long q1), .second, .val (.int rn)] [(.ref b2)])) _
    refine sg7 _ ?_
    show Steps p.tables e below (T2.setTop (mkF m 19 #[.val (.long q1), .second, .val (.int rn)] [(.int rn), (.long q1), (.ref b2), (.ref b2)])) _
    refine st8.trans ?_
    show Steps p.tables e below (T8.setTop (mkF m 22 #[.val (.long q1), .second, .val (.int rn)] [(.ref b2)])) _
    jvm_step X8.here [X8.here.top, hx, (hb hby d5_22), X8.method', Bd.returns, Value.isRef, FieldType.isReference]
    first | (intro acts; rw [hr _ acts rfl rfl rfl]) | rw [hr _ _ rfl rfl rfl]
    exact Steps.refl _
  · show Q_rmC Z q1 rn h0 n0 _ T8.heap _
    exact ⟨b2, rfl, N8, K11, f9, sz_b2⟩
def Q_rmS (Z : State) (q1 : Int64) (h0 : Heap) (n0 : Nat) (v : Option Value) (h : Heap) (L : List Loc) : Prop := ∃ (rr : Addr), v = some (.ref rr) ∧ Fr n0 L ∧ Keep h0 h [] ∧ Exa Z h rr "java/time/Duration" ∧ h0.size ≤ rr
theorem pd_4 : parseMethodDescriptor "(JI)Ljava/time/Duration;" = some ⟨[.long, .int], some (.object "java/time/Duration")⟩ := by decide +kernel
theorem ef_rmS (m : MethodId) (x0 : Int64) : entryFrame m #[(.long x0)] 2 = mkF m 0 #[.val (.long x0), .second] [] := by first | (simp [entryFrame, mkF, argsToLocals, Value.category]; done) | rfl
theorem d4_0 : decode jdk_2316_method_4_code 0 = .ok (.lload_n 0, 1) := by decide +kernel
theorem d4_1 : decode jdk_2316_method_4_code 1 = .ok (.iconst 0, 1) := by decide +kernel
theorem d4_2 : decode jdk_2316_method_4_code 2 = .ok (.invokestatic 10, 3) := by decide +kernel
theorem d4_5 : decode jdk_2316_method_4_code 5 = .ok (.areturn, 1) := by decide +kernel
set_option maxRecDepth 65536 in
set_option maxHeartbeats 40000000 in
theorem rmS (l : Launch) (Z : State) (a0 : Array Value) (hw : ∀ d ∈ tables_1, d.before a0 Z = true) (ws : List Jvm.Cond) (q1 : Int64)  (h0 : Heap) (n0 : Nat) (Z0 : n0 ≤ h0.size) (hnz : ¬ ((q1 ||| ((0 : Int32).toInt64)) = (0 : Int64))) :
    MetFree l (⟨"java/time/Duration", "ofSeconds", "(J)Ljava/time/Duration;"⟩ : MethodName) (head1 (Jvm.Cond.code (⟨"java/time/Duration", "ofSeconds", "(J)Ljava/time/Duration;"⟩ : MethodName) jdk_2316_method_4_code 2 (some (.object "java/time/Duration")) :: ws) ({ frames := 3, cells := 1, slots := 2, locals := 42 } : Room)) (fun a U => a = #[(.long q1)] ∧ Z.Warmed39 U.vm ∧ U.heap = h0) (fun _ _ _ _ _ => True) (fun _ U o U' => ∃ v L, o = .returned v ∧ Q_rmS Z q1 h0 n0 v U'.heap L ∧ FrameEnd U o U' L ({ frames := 3, cells := 1, slots := 2, locals := 42 } : Room).cells ({ frames := 3, cells := 1, slots := 2, locals := 42 } : Room).slots) := by
  refine MetFree.of_bodySF (plainFor_of_name pn_1) hisR ?_
  intro p e s m args below meth c s₁ Bd hml0 hP hK
  obtain ⟨rfl, hZ, hh⟩ := hP
  have hx := Bd.exec
  have hby := Bd.bytes
  have hml : c.maxLocals = 2 := hml0
  have hown : s.vm.findClass "java/time/Duration" = some m.cls := findClass_of_methodNamed Bd.named
  have hnm := (name_of_methodNamed Bd.named Bd.method).1
  have X0 : Stand p l e ({ frames := 3, cells := 1, slots := 2, locals := 42 } : Room) s m #[(.long q1)] below meth c s₁ [] 0 0 := Stand.of_body Bd
  have e0 : s₁.heap = h0 := by rw [← hh, Bd.state]; rfl
  have N0 := Fr.nil n0
  have pre0 : ∀ t, Steps p.tables e below (s₁.setTop (mkF m 0 #[.val (.long q1), .second] [])) t → Steps p.tables e below (s₁.setTop (entryFrame m #[(.long q1)] 2)) t := fun t k => castTop (ef_rmS m q1) k
  have K0 : Keep h0 h0 [] := Keep.refl h0 []
  have sg1 : ∀ t, Steps p.tables e below (s₁.setTop (mkF m 2 #[.val (.long q1), .second] [(.int (0 : Int32)), (.long q1)])) t → Steps p.tables e below (s₁.setTop (mkF m 0 #[.val (.long q1), .second] [])) t := by
    intro t k
    show Steps p.tables e below (s₁.setTop (mkF m 0 #[.val (.long q1), .second] [])) _
    refine XS.lloadN X0.here hx rfl (hb hby d4_0) rfl ?_
    show Steps p.tables e below (s₁.setTop (mkF m 1 #[.val (.long q1), .second] [(.long q1)])) _
    refine XS.iconst X0.here hx rfl (hb hby d4_1) ?_
    exact k
  obtain ⟨_, _, ⟨T2, L2, k2, n2⟩, -, X2, ⟨Lc2, hQ2, l2, y2, z2⟩, st2⟩ := Jvm.LawKit.callS X0 hx (y := (⟨"java/time/Duration", "create", "(JI)Ljava/time/Duration;"⟩ : MethodName)) hown (mvT hZ (hw _ (List.mem_of_getElem? (i := 20) rfl))) (mvT hZ (hw _ (List.mem_of_getElem? (i := 21) rfl))) (mvT hZ (hw _ (List.mem_of_getElem? (i := 18) rfl))) (mvT hZ (hw _ (List.mem_of_getElem? (i := 22) rfl))) (by decide) (backOf (W := 0) (rmC l Z a0 hw [] q1 (0 : Int32) h0 n0 Z0 hnz) hZ (hw _ (List.mem_of_getElem? (i := 22) rfl)) (hw _ (List.mem_of_getElem? (i := 18) rfl)) (by decide) (by decide)) (g := (mkF m 2 #[.val (.long q1), .second] [(.int (0 : Int32)), (.long q1)])) rfl (by rw [hml]; rfl) (argsL := [(.long q1), (.int (0 : Int32))]) (rest := []) (lenOf pd_4 rfl) rfl (by show 2 * 0 + _ ≤ _; exact Nat.le_of_eq rfl) (hb hby d4_2) (fun _ _ => ⟨rfl, e0, (by decide : 0 + 1 ≤ _), (by decide : 0 + 2 ≤ _)⟩)
  dsimp only [Pt.U, Pt.locs, Pt.cells, Pt.slots] at X2 l2 y2 z2 st2 hQ2
  subst l2 y2 z2
  obtain ⟨rr2, rfl, N2q, KQ2, Q2f0, Q2_fr⟩ := hQ2
  have N2 := Fr.app N0 N2q
  have gn_rr2 : n0 ≤ rr2 := Nat.le_trans Z0 Q2_fr
  have sz_rr2 : h0.size ≤ rr2 := Nat.le_trans K0.1 Q2_fr
  have z3 : n0 ≤ T2.heap.size := Nat.le_trans Z0 KQ2.1
  have K4 : Keep h0 T2.heap [] := K0.trans KQ2 all0
  obtain ⟨fs, hr, hrun, hended, hW, hsame⟩ := X2.leave (v := some (.ref rr2)) (fun h => by rw [Bd.returns] at h; cases h)
  refine ⟨_, _, pre0 _ ?_, hrun, hended, _, _, rfl, ?_, ⟨_, rfl⟩, hW, hsame.mono (by decide) (by decide)⟩
  · show Steps p.tables e below (s₁.setTop (mkF m 0 #[.val (.long q1), .second] [])) _
    refine sg1 _ ?_
    show Steps p.tables e below (s₁.setTop (mkF m 2 #[.val (.long q1), .second] [(.int (0 : Int32)), (.long q1)])) _
    refine st2 _ ?_
    show Steps p.tables e below (T2.setTop (mkF m 5 #[.val (.long q1), .second] [(.ref rr2)])) _
    jvm_step X2.here [X2.here.top, hx, (hb hby d4_5), X2.method', Bd.returns, Value.isRef, FieldType.isReference]
    first | (intro acts; rw [hr _ acts rfl rfl rfl]) | rw [hr _ _ rfl rfl rfl]
    exact Steps.refl _
  · show Q_rmS Z q1 h0 n0 _ T2.heap _
    exact ⟨rr2, rfl, N2, K4, Q2f0, sz_rr2⟩
def Q_rmM (Z : State) (q1 : Int64) (h0 : Heap) (n0 : Nat) (v : Option Value) (h : Heap) (L : List Loc) : Prop := ∃ (rr : Addr), v = some (.ref rr) ∧ Fr n0 L ∧ Keep h0 h [] ∧ Exa Z h rr "java/time/Duration" ∧ h0.size ≤ rr
theorem pd_5 : parseMethodDescriptor "(JI)J" = some ⟨[.long, .int], some .long⟩ := by decide +kernel
theorem ef_rmM (m : MethodId) (x0 : Int64) : entryFrame m #[(.long x0)] 2 = mkF m 0 #[.val (.long x0), .second] [] := by first | (simp [entryFrame, mkF, argsToLocals, Value.category]; done) | rfl
theorem d7_0 : decode jdk_2316_method_3_code 0 = .ok (.lload_n 0, 1) := by decide +kernel
theorem d7_1 : decode jdk_2316_method_3_code 1 = .ok (.bipush 60, 2) := by decide +kernel
theorem d7_3 : decode jdk_2316_method_3_code 3 = .ok (.invokestatic 4, 3) := by decide +kernel
theorem d7_6 : decode jdk_2316_method_3_code 6 = .ok (.iconst 0, 1) := by decide +kernel
theorem d7_7 : decode jdk_2316_method_3_code 7 = .ok (.invokestatic 10, 3) := by decide +kernel
theorem d7_10 : decode jdk_2316_method_3_code 10 = .ok (.areturn, 1) := by decide +kernel
set_option maxRecDepth 65536 in
set_option maxHeartbeats 40000000 in
theorem rmM (l : Launch) (Z : State) (a0 : Array Value) (hw : ∀ d ∈ tables_1, d.before a0 Z = true) (ws : List Jvm.Cond) (q1 : Int64)  (h0 : Heap) (n0 : Nat) (Z0 : n0 ≤ h0.size) (hsm : (((fAbs q1) ||| (fAbs ((60 : Int32).toInt64))).toUInt64 >>> ((31 : Int32) &&& 0x3f).toInt64.toUInt64).toInt64 = (0 : Int64)) (hnz : ¬ (((q1 * ((60 : Int32).toInt64)) ||| ((0 : Int32).toInt64)) = (0 : Int64))) :
    MetFree l (⟨"java/time/Duration", "ofMinutes", "(J)Ljava/time/Duration;"⟩ : MethodName) (head1 (Jvm.Cond.code (⟨"java/time/Duration", "ofMinutes", "(J)Ljava/time/Duration;"⟩ : MethodName) jdk_2316_method_3_code 2 (some (.object "java/time/Duration")) :: ws) ({ frames := 3, cells := 1, slots := 2, locals := 48 } : Room)) (fun a U => a = #[(.long q1)] ∧ Z.Warmed39 U.vm ∧ U.heap = h0) (fun _ _ _ _ _ => True) (fun _ U o U' => ∃ v L, o = .returned v ∧ Q_rmM Z q1 h0 n0 v U'.heap L ∧ FrameEnd U o U' L ({ frames := 3, cells := 1, slots := 2, locals := 48 } : Room).cells ({ frames := 3, cells := 1, slots := 2, locals := 48 } : Room).slots) := by
  refine MetFree.of_bodySF (plainFor_of_name pn_1) hisR ?_
  intro p e s m args below meth c s₁ Bd hml0 hP hK
  obtain ⟨rfl, hZ, hh⟩ := hP
  have hx := Bd.exec
  have hby := Bd.bytes
  have hml : c.maxLocals = 2 := hml0
  have hown : s.vm.findClass "java/time/Duration" = some m.cls := findClass_of_methodNamed Bd.named
  have hnm := (name_of_methodNamed Bd.named Bd.method).1
  have X0 : Stand p l e ({ frames := 3, cells := 1, slots := 2, locals := 48 } : Room) s m #[(.long q1)] below meth c s₁ [] 0 0 := Stand.of_body Bd
  have e0 : s₁.heap = h0 := by rw [← hh, Bd.state]; rfl
  have N0 := Fr.nil n0
  have pre0 : ∀ t, Steps p.tables e below (s₁.setTop (mkF m 0 #[.val (.long q1), .second] [])) t → Steps p.tables e below (s₁.setTop (entryFrame m #[(.long q1)] 2)) t := fun t k => castTop (ef_rmM m q1) k
  have K0 : Keep h0 h0 [] := Keep.refl h0 []
  have sg1 : ∀ t, Steps p.tables e below (s₁.setTop (mkF m 3 #[.val (.long q1), .second] [(.int (60 : Int32)), (.long q1)])) t → Steps p.tables e below (s₁.setTop (mkF m 0 #[.val (.long q1), .second] [])) t := by
    intro t k
    show Steps p.tables e below (s₁.setTop (mkF m 0 #[.val (.long q1), .second] [])) _
    refine XS.lloadN X0.here hx rfl (hb hby d7_0) rfl ?_
    show Steps p.tables e below (s₁.setTop (mkF m 1 #[.val (.long q1), .second] [(.long q1)])) _
    refine XS.bipush X0.here hx rfl (hb hby d7_1) ?_
    exact k
  obtain ⟨_, _, ⟨T2, L2, k2, n2⟩, -, X2, ⟨Lc2, hQ2, l2, y2, z2⟩, st2⟩ := Jvm.LawKit.callS X0 hx (y := (⟨"java/lang/Math", "multiplyExact", "(JI)J"⟩ : MethodName)) hown (mvT hZ (hw _ (List.mem_of_getElem? (i := 39) rfl))) (mvT hZ (hw _ (List.mem_of_getElem? (i := 40) rfl))) (mvT hZ (hw _ (List.mem_of_getElem? (i := 41) rfl))) (mvT hZ (hw _ (List.mem_of_getElem? (i := 42) rfl))) (by decide) (backOf (W := 0) (rmK l Z a0 hw [] q1 (60 : Int32) h0 n0 Z0 hsm) hZ (hw _ (List.mem_of_getElem? (i := 42) rfl)) (hw _ (List.mem_of_getElem? (i := 41) rfl)) (by decide) (by decide)) (g := (mkF m 3 #[.val (.long q1), .second] [(.int (60 : Int32)), (.long q1)])) rfl (by rw [hml]; rfl) (argsL := [(.long q1), (.int (60 : Int32))]) (rest := []) (lenOf pd_5 rfl) rfl (by show 2 * 0 + _ ≤ _; exact Nat.le_of_eq rfl) (hb hby d7_3) (fun _ _ => ⟨rfl, e0, (by decide : 0 + 0 ≤ _), (by decide : 0 + 0 ≤ _)⟩)
  dsimp only [Pt.U, Pt.locs, Pt.cells, Pt.slots] at X2 l2 y2 z2 st2 hQ2
  subst l2 y2 z2
  obtain ⟨rfl, N2q, e2⟩ := hQ2
  have N2 := Fr.app N0 N2q
  have sg3 : ∀ t, Steps p.tables e below (T2.setTop (mkF m 7 #[.val (.long q1), .second] [(.int (0 : Int32)), (.long (q1 * ((60 : Int32).toInt64)))])) t → Steps p.tables e below (T2.setTop (mkF m 6 #[.val (.long q1), .second] [(.long (q1 * ((60 : Int32).toInt64)))])) t := by
    intro t k
    show Steps p.tables e below (T2.setTop (mkF m 6 #[.val (.long q1), .second] [(.long (q1 * ((60 : Int32).toInt64)))])) _
    refine XS.iconst X2.here hx rfl (hb hby d7_6) ?_
    exact k
  obtain ⟨_, _, ⟨T4, L4, k4, n4⟩, -, X4, ⟨Lc4, hQ4, l4, y4, z4⟩, st4⟩ := Jvm.LawKit.callS X2 hx (y := (⟨"java/time/Duration", "create", "(JI)Ljava/time/Duration;"⟩ : MethodName)) hown (mvT hZ (hw _ (List.mem_of_getElem? (i := 20) rfl))) (mvT hZ (hw _ (List.mem_of_getElem? (i := 21) rfl))) (mvT hZ (hw _ (List.mem_of_getElem? (i := 18) rfl))) (mvT hZ (hw _ (List.mem_of_getElem? (i := 22) rfl))) (by decide) (backOf (W := 0) (rmC l Z a0 hw [] (q1 * ((60 : Int32).toInt64)) (0 : Int32) h0 n0 Z0 hnz) hZ (hw _ (List.mem_of_getElem? (i := 22) rfl)) (hw _ (List.mem_of_getElem? (i := 18) rfl)) (by decide) (by decide)) (g := (mkF m 7 #[.val (.long q1), .second] [(.int (0 : Int32)), (.long (q1 * ((60 : Int32).toInt64)))])) rfl (by rw [hml]; rfl) (argsL := [(.long (q1 * ((60 : Int32).toInt64))), (.int (0 : Int32))]) (rest := []) (lenOf pd_4 rfl) rfl (by show 2 * 0 + _ ≤ _; exact Nat.le_of_eq rfl) (hb hby d7_7) (fun _ _ => ⟨rfl, e2, (by decide : 0 + 1 ≤ _), (by decide : 0 + 2 ≤ _)⟩)
  dsimp only [Pt.U, Pt.locs, Pt.cells, Pt.slots] at X4 l4 y4 z4 st4 hQ4
  subst l4 y4 z4
  obtain ⟨rr4, rfl, N4q, KQ4, Q4f0, Q4_fr⟩ := hQ4
  have N4 := Fr.app N2 N4q
  have gn_rr4 : n0 ≤ rr4 := Nat.le_trans Z0 Q4_fr
  have sz_rr4 : h0.size ≤ rr4 := Nat.le_trans K0.1 Q4_fr
  have z5 : n0 ≤ T4.heap.size := Nat.le_trans Z0 KQ4.1
  have K6 : Keep h0 T4.heap [] := K0.trans KQ4 all0
  obtain ⟨fs, hr, hrun, hended, hW, hsame⟩ := X4.leave (v := some (.ref rr4)) (fun h => by rw [Bd.returns] at h; cases h)
  refine ⟨_, _, pre0 _ ?_, hrun, hended, _, _, rfl, ?_, ⟨_, rfl⟩, hW, hsame.mono (by decide) (by decide)⟩
  · show Steps p.tables e below (s₁.setTop (mkF m 0 #[.val (.long q1), .second] [])) _
    refine sg1 _ ?_
    show Steps p.tables e below (s₁.setTop (mkF m 3 #[.val (.long q1), .second] [(.int (60 : Int32)), (.long q1)])) _
    refine st2 _ ?_
    show Steps p.tables e below (T2.setTop (mkF m 6 #[.val (.long q1), .second] [(.long (q1 * ((60 : Int32).toInt64)))])) _
    refine sg3 _ ?_
    show Steps p.tables e below (T2.setTop (mkF m 7 #[.val (.long q1), .second] [(.int (0 : Int32)), (.long (q1 * ((60 : Int32).toInt64)))])) _
    refine st4 _ ?_
    show Steps p.tables e below (T4.setTop (mkF m 10 #[.val (.long q1), .second] [(.ref rr4)])) _
    jvm_step X4.here [X4.here.top, hx, (hb hby d7_10), X4.method', Bd.returns, Value.isRef, FieldType.isReference]
    first | (intro acts; rw [hr _ acts rfl rfl rfl]) | rw [hr _ _ rfl rfl rfl]
    exact Steps.refl _
  · show Q_rmM Z q1 h0 n0 _ T4.heap _
    exact ⟨rr4, rfl, N4, K6, Q4f0, sz_rr4⟩
def Q_rmI (Z : State) (ra : Addr) (h0 : Heap) (n0 : Nat) (v : Option Value) (h : Heap) (L : List Loc) : Prop := ∃ (r1 : Addr) (r2 : Addr), v = none ∧ Fr n0 L ∧ Keep h0 h [ra] ∧ Fld Z h ra "com/example/pochta/pochta/amqp/ConnectionSettings" "openTimeout" "Ljava/time/Duration;" (.ref r1) ∧ Fld Z h ra "com/example/pochta/pochta/amqp/ConnectionSettings" "idleTimeout" "Ljava/time/Duration;" (.ref r2) ∧ Fld Z h ra "com/example/pochta/pochta/amqp/ConnectionSettings" "maxMessageSize" "I" (.int (1048576 : Int32))
theorem pd_6 : parseMethodDescriptor "(J)Ljava/time/Duration;" = some ⟨[.long], some (.object "java/time/Duration")⟩ := by decide +kernel
theorem pn_2 : plainName "com/example/pochta/pochta/amqp/ConnectionSettings" = true := by first | (simp [plainName, overriddenIn]; done) | decide +kernel
theorem ef_rmI (m : MethodId) (x0 : Addr) : entryFrame m #[(.ref x0)] 1 = mkF m 0 #[.val (.ref x0)] [] := by first | (simp [entryFrame, mkF, argsToLocals, Value.category]; done) | rfl
theorem d2_0 : decode prog_2_method_1_code 0 = .ok (.aload_n 0, 1) := by decide +kernel
theorem d2_1 : decode prog_2_method_1_code 1 = .ok (.invokespecial 1, 3) := by decide +kernel
theorem d2_4 : decode prog_2_method_1_code 4 = .ok (.aload_n 0, 1) := by decide +kernel
theorem d2_5 : decode prog_2_method_1_code 5 = .ok (.ldc2_w 7, 3) := by decide +kernel
theorem d2_8 : decode prog_2_method_1_code 8 = .ok (.invokestatic 9, 3) := by decide +kernel
theorem d2_11 : decode prog_2_method_1_code 11 = .ok (.putfield 15, 3) := by decide +kernel
theorem d2_14 : decode prog_2_method_1_code 14 = .ok (.aload_n 0, 1) := by decide +kernel
theorem d2_15 : decode prog_2_method_1_code 15 = .ok (.lconst 1, 1) := by decide +kernel
theorem d2_16 : decode prog_2_method_1_code 16 = .ok (.invokestatic 21, 3) := by decide +kernel
theorem d2_19 : decode prog_2_method_1_code 19 = .ok (.putfield 24, 3) := by decide +kernel
theorem d2_22 : decode prog_2_method_1_code 22 = .ok (.aload_n 0, 1) := by decide +kernel
theorem d2_23 : decode prog_2_method_1_code 23 = .ok (.ldc 27, 2) := by decide +kernel
theorem d2_25 : decode prog_2_method_1_code 25 = .ok (.putfield 28, 3) := by decide +kernel
theorem d2_28 : decode prog_2_method_1_code 28 = .ok (.return_, 1) := by decide +kernel
set_option maxRecDepth 65536 in
set_option maxHeartbeats 40000000 in
theorem rmI (l : Launch) (Z : State) (a0 : Array Value) (hw : ∀ d ∈ tables_1, d.before a0 Z = true) (ws : List Jvm.Cond) (ra : Addr)  (h0 : Heap) (n0 : Nat) (Z0 : n0 ≤ h0.size) (P0 : Exa Z h0 ra "com/example/pochta/pochta/amqp/ConnectionSettings") (P1 : Fld Z h0 ra "com/example/pochta/pochta/amqp/ConnectionSettings" "openTimeout" "Ljava/time/Duration;" .null) (P2 : Fld Z h0 ra "com/example/pochta/pochta/amqp/ConnectionSettings" "idleTimeout" "Ljava/time/Duration;" .null) (P3 : Fld Z h0 ra "com/example/pochta/pochta/amqp/ConnectionSettings" "maxMessageSize" "I" (.int (0 : Int32))) (g_ra : n0 ≤ ra) :
    MetFree l (⟨"com/example/pochta/pochta/amqp/ConnectionSettings", "<init>", "()V"⟩ : MethodName) (head1 (Jvm.Cond.code (⟨"com/example/pochta/pochta/amqp/ConnectionSettings", "<init>", "()V"⟩ : MethodName) prog_2_method_1_code 1 none :: ws) ({ frames := 4, cells := 2, slots := 4, locals := 62 } : Room)) (fun a U => a = #[(.ref ra)] ∧ Z.Warmed39 U.vm ∧ U.heap = h0) (fun _ _ _ _ _ => True) (fun _ U o U' => ∃ v L, o = .returned v ∧ Q_rmI Z ra h0 n0 v U'.heap L ∧ FrameEnd U o U' L ({ frames := 4, cells := 2, slots := 4, locals := 62 } : Room).cells ({ frames := 4, cells := 2, slots := 4, locals := 62 } : Room).slots) := by
  refine MetFree.of_bodySF (plainFor_of_name pn_2) hisR ?_
  intro p e s m args below meth c s₁ Bd hml0 hP hK
  obtain ⟨rfl, hZ, hh⟩ := hP
  have hx := Bd.exec
  have hby := Bd.bytes
  have hml : c.maxLocals = 1 := hml0
  have hown : s.vm.findClass "com/example/pochta/pochta/amqp/ConnectionSettings" = some m.cls := findClass_of_methodNamed Bd.named
  have hnm := (name_of_methodNamed Bd.named Bd.method).1
  have X0 : Stand p l e ({ frames := 4, cells := 2, slots := 4, locals := 62 } : Room) s m #[(.ref ra)] below meth c s₁ [] 0 0 := Stand.of_body Bd
  have e0 : s₁.heap = h0 := by rw [← hh, Bd.state]; rfl
  have N0 := Fr.nil n0
  have pre0 : ∀ t, Steps p.tables e below (s₁.setTop (mkF m 0 #[.val (.ref ra)] [])) t → Steps p.tables e below (s₁.setTop (entryFrame m #[(.ref ra)] 1)) t := fun t k => castTop (ef_rmI m ra) k
  have K0 : Keep h0 h0 [ra] := Keep.refl h0 [ra]
  have sg1 : ∀ t, Steps p.tables e below (s₁.setTop (mkF m 1 #[.val (.ref ra)] [(.ref ra)])) t → Steps p.tables e below (s₁.setTop (mkF m 0 #[.val (.ref ra)] [])) t := by
    intro t k
    show Steps p.tables e below (s₁.setTop (mkF m 0 #[.val (.ref ra)] [])) _
    refine XS.aloadN X0.here hx rfl (hb hby d2_0) rfl rfl ?_
    exact k
  obtain ⟨T2, X2, e2, st2⟩ := initO X0 hx hZ hown (hw _ (List.mem_of_getElem? (i := 12) rfl)) (hw _ (List.mem_of_getElem? (i := 13) rfl)) (hw _ (List.mem_of_getElem? (i := 14) rfl)) e0 (g := (mkF m 1 #[.val (.ref ra)] [(.ref ra)])) rfl (by rw [hml]; rfl) rfl (hb hby d2_1) (by decide) (W := 0) (by show 2 * 0 + _ ≤ _; exact Nat.le_of_eq rfl) (by decide)
  have sg3 : ∀ t, Steps p.tables e below (T2.setTop (mkF m 8 #[.val (.ref ra)] [(.long (20 : Int64)), (.ref ra)])) t → Steps p.tables e below (T2.setTop (mkF m 4 #[.val (.ref ra)] [])) t := by
    intro t k
    show Steps p.tables e below (T2.setTop (mkF m 4 #[.val (.ref ra)] [])) _
    refine XS.aloadN X2.here hx rfl (hb hby d2_4) rfl rfl ?_
    show Steps p.tables e below (T2.setTop (mkF m 5 #[.val (.ref ra)] [(.ref ra)])) _
    refine X2.ldc2Long hx hown (mvT hZ (hw _ (List.mem_of_getElem? (i := 15) rfl))) (g := (mkF m 5 #[.val (.ref ra)] [(.ref ra)])) rfl (hb hby d2_5) _ ?_
    exact k
  obtain ⟨_, _, ⟨T4, L4, k4, n4⟩, -, X4, ⟨Lc4, hQ4, l4, y4, z4⟩, st4⟩ := Jvm.LawKit.callS X2 hx (y := (⟨"java/time/Duration", "ofSeconds", "(J)Ljava/time/Duration;"⟩ : MethodName)) hown (mvT hZ (hw _ (List.mem_of_getElem? (i := 16) rfl))) (mvT hZ (hw _ (List.mem_of_getElem? (i := 17) rfl))) (mvT hZ (hw _ (List.mem_of_getElem? (i := 18) rfl))) (mvT hZ (hw _ (List.mem_of_getElem? (i := 19) rfl))) (by decide) (backOf (W := 1) (rmS l Z a0 hw [] (20 : Int64) h0 n0 Z0 (by decide +kernel)) hZ (hw _ (List.mem_of_getElem? (i := 19) rfl)) (hw _ (List.mem_of_getElem? (i := 18) rfl)) (by decide) (by decide)) (g := (mkF m 8 #[.val (.ref ra)] [(.long (20 : Int64)), (.ref ra)])) rfl (by rw [hml]; rfl) (argsL := [(.long (20 : Int64))]) (rest := [(.ref ra)]) (lenOf pd_6 rfl) rfl (by show 2 * 0 + _ ≤ _; exact Nat.le_of_eq rfl) (hb hby d2_8) (fun _ _ => ⟨rfl, e2, (by decide : 0 + 1 ≤ _), (by decide : 0 + 2 ≤ _)⟩)
  dsimp only [Pt.U, Pt.locs, Pt.cells, Pt.slots] at X4 l4 y4 z4 st4 hQ4
  subst l4 y4 z4
  obtain ⟨rr4, rfl, N4q, KQ4, Q4f0, Q4_fr⟩ := hQ4
  have N4 := Fr.app N0 N4q
  have ne5 : ra ≠ rr4 := Nat.ne_of_lt (Nat.lt_of_lt_of_le P0.lt Q4_fr)
  have gn_rr4 : n0 ≤ rr4 := Nat.le_trans Z0 Q4_fr
  have sz_rr4 : h0.size ≤ rr4 := Nat.le_trans K0.1 Q4_fr
  have f6 : Exa Z T4.heap ra "com/example/pochta/pochta/amqp/ConnectionSettings" := P0.keep KQ4
  have f7 : Fld Z T4.heap ra "com/example/pochta/pochta/amqp/ConnectionSettings" "openTimeout" "Ljava/time/Duration;" .null := P1.keep KQ4 nin0
  have f8 : Fld Z T4.heap ra "com/example/pochta/pochta/amqp/ConnectionSettings" "idleTimeout" "Ljava/time/Duration;" .null := P2.keep KQ4 nin0
  have f9 : Fld Z T4.heap ra "com/example/pochta/pochta/amqp/ConnectionSettings" "maxMessageSize" "I" (.int (0 : Int32)) := P3.keep KQ4 nin0
  have z10 : n0 ≤ T4.heap.size := Nat.le_trans Z0 KQ4.1
  have K11 : Keep h0 T4.heap [ra] := K0.trans KQ4 all0
  obtain ⟨T12, h12, X12, e12, W12, st12⟩ := putF X4 hx hZ hown (host := "") (Or.inl (hw _ (List.mem_of_getElem? (i := 34) rfl))) Via.refl rfl f7 f6 (Or.inl (hw _ (List.mem_of_getElem? (i := 35) rfl))) (hw _ (List.mem_of_getElem? (i := 7) rfl)) (ty := (.object "java/time/Duration")) (by decide) rfl rfl (g := (mkF m 11 #[.val (.ref ra)] [(.ref rr4), (.ref ra)])) rfl rfl (hb hby d2_11)
  have N12 := Fr.snoc X12 N4 g_ra
  have f13 : Exa Z h12 ra "com/example/pochta/pochta/amqp/ConnectionSettings" := f6.wr W12
  have f14 : Fld Z h12 ra "com/example/pochta/pochta/amqp/ConnectionSettings" "idleTimeout" "Ljava/time/Duration;" .null := f8.other W12 (Or.inr (slot_ne (Or.inl (hw _ (List.mem_of_getElem? (i := 50) rfl))) (Or.inl (hw _ (List.mem_of_getElem? (i := 35) rfl))) (by decide) (t := (.object "java/time/Duration")) (t' := (.object "java/time/Duration")) (by decide) (by decide)))
  have f15 : Fld Z h12 ra "com/example/pochta/pochta/amqp/ConnectionSettings" "maxMessageSize" "I" (.int (0 : Int32)) := f9.other W12 (Or.inr (slot_ne (Or.inl (hw _ (List.mem_of_getElem? (i := 53) rfl))) (Or.inl (hw _ (List.mem_of_getElem? (i := 35) rfl))) (by decide) (t := .int) (t' := (.object "java/time/Duration")) (by decide) (by decide)))
  have f16 : Exa Z h12 rr4 "java/time/Duration" := Q4f0.wr W12
  have z17 : n0 ≤ h12.size := Nat.le_trans z10 (Keep.of_wr W12).1
  have K18 : Keep h0 h12 [ra] := K11.wr W12 (Or.inl (List.mem_of_getElem? (i := 0) rfl))
  have f19 : Fld Z h12 ra "com/example/pochta/pochta/amqp/ConnectionSettings" "openTimeout" "Ljava/time/Duration;" (.ref rr4) := f7.same W12
  have sg20 : ∀ t, Steps p.tables e below (T12.setTop (mkF m 16 #[.val (.ref ra)] [(.long (1 : Int64)), (.ref ra)])) t → Steps p.tables e below (T12.setTop (mkF m 14 #[.val (.ref ra)] [])) t := by
    intro t k
    show Steps p.tables e below (T12.setTop (mkF m 14 #[.val (.ref ra)] [])) _
    refine XS.aloadN X12.here hx rfl (hb hby d2_14) rfl rfl ?_
    show Steps p.tables e below (T12.setTop (mkF m 15 #[.val (.ref ra)] [(.ref ra)])) _
    refine XS.lconst X12.here hx rfl (hb hby d2_15) ?_
    exact k
  obtain ⟨_, _, ⟨T21, L21, k21, n21⟩, -, X21, ⟨Lc21, hQ21, l21, y21, z21⟩, st21⟩ := Jvm.LawKit.callS X12 hx (y := (⟨"java/time/Duration", "ofMinutes", "(J)Ljava/time/Duration;"⟩ : MethodName)) hown (mvT hZ (hw _ (List.mem_of_getElem? (i := 36) rfl))) (mvT hZ (hw _ (List.mem_of_getElem? (i := 37) rfl))) (mvT hZ (hw _ (List.mem_of_getElem? (i := 18) rfl))) (mvT hZ (hw _ (List.mem_of_getElem? (i := 38) rfl))) (by decide) (backOf (W := 1) (rmM l Z a0 hw [] (1 : Int64) h12 n0 z17 (by decide +kernel) (by decide +kernel)) hZ (hw _ (List.mem_of_getElem? (i := 38) rfl)) (hw _ (List.mem_of_getElem? (i := 18) rfl)) (by decide) (by decide)) (g := (mkF m 16 #[.val (.ref ra)] [(.long (1 : Int64)), (.ref ra)])) rfl (by rw [hml]; rfl) (argsL := [(.long (1 : Int64))]) (rest := [(.ref ra)]) (lenOf pd_6 rfl) rfl (by show 2 * 0 + _ ≤ _; exact Nat.le_of_eq rfl) (hb hby d2_16) (fun _ _ => ⟨rfl, e12, (by decide : 1 + 1 ≤ _), (by decide : 2 + 2 ≤ _)⟩)
  dsimp only [Pt.U, Pt.locs, Pt.cells, Pt.slots] at X21 l21 y21 z21 st21 hQ21
  subst l21 y21 z21
  obtain ⟨rr21, rfl, N21q, KQ21, Q21f0, Q21_fr⟩ := hQ21
  have N21 := Fr.app N12 N21q
  have ne22 : ra ≠ rr21 := Nat.ne_of_lt (Nat.lt_of_lt_of_le f13.lt Q21_fr)
  have ne23 : rr4 ≠ rr21 := Nat.ne_of_lt (Nat.lt_of_lt_of_le f16.lt Q21_fr)
  have gn_rr21 : n0 ≤ rr21 := Nat.le_trans z17 Q21_fr
  have sz_rr21 : h0.size ≤ rr21 := Nat.le_trans K18.1 Q21_fr
  have f24 : Exa Z T21.heap ra "com/example/pochta/pochta/amqp/ConnectionSettings" := f13.keep KQ21
  have f25 : Fld Z T21.heap ra "com/example/pochta/pochta/amqp/ConnectionSettings" "idleTimeout" "Ljava/time/Duration;" .null := f14.keep KQ21 nin0
  have f26 : Fld Z T21.heap ra "com/example/pochta/pochta/amqp/ConnectionSettings" "maxMessageSize" "I" (.int (0 : Int32)) := f15.keep KQ21 nin0
  have f27 : Exa Z T21.heap rr4 "java/time/Duration" := f16.keep KQ21
  have f28 : Fld Z T21.heap ra "com/example/pochta/pochta/amqp/ConnectionSettings" "openTimeout" "Ljava/time/Duration;" (.ref rr4) := f19.keep KQ21 nin0
  have z29 : n0 ≤ T21.heap.size := Nat.le_trans z17 KQ21.1
  have K30 : Keep h0 T21.heap [ra] := K18.trans KQ21 all0
  obtain ⟨T31, h31, X31, e31, W31, st31⟩ := putF X21 hx hZ hown (host := "") (Or.inl (hw _ (List.mem_of_getElem? (i := 49) rfl))) Via.refl rfl f25 f24 (Or.inl (hw _ (List.mem_of_getElem? (i := 50) rfl))) (hw _ (List.mem_of_getElem? (i := 7) rfl)) (ty := (.object "java/time/Duration")) (by decide) rfl rfl (g := (mkF m 19 #[.val (.ref ra)] [(.ref rr21), (.ref ra)])) rfl rfl (hb hby d2_19)
  have N31 := Fr.snoc X31 N21 g_ra
  have f32 : Exa Z h31 ra "com/example/pochta/pochta/amqp/ConnectionSettings" := f24.wr W31
  have f33 : Fld Z h31 ra "com/example/pochta/pochta/amqp/ConnectionSettings" "maxMessageSize" "I" (.int (0 : Int32)) := f26.other W31 (Or.inr (slot_ne (Or.inl (hw _ (List.mem_of_getElem? (i := 53) rfl))) (Or.inl (hw _ (List.mem_of_getElem? (i := 50) rfl))) (by decide) (t := .int) (t' := (.object "java/time/Duration")) (by decide) (by decide)))
  have f34 : Exa Z h31 rr4 "java/time/Duration" := f27.wr W31
  have f35 : Fld Z h31 ra "com/example/pochta/pochta/amqp/ConnectionSettings" "openTimeout" "Ljava/time/Duration;" (.ref rr4) := f28.other W31 (Or.inr (slot_ne (Or.inl (hw _ (List.mem_of_getElem? (i := 35) rfl))) (Or.inl (hw _ (List.mem_of_getElem? (i := 50) rfl))) (by decide) (t := (.object "java/time/Duration")) (t' := (.object "java/time/Duration")) (by decide) (by decide)))
  have f36 : Exa Z h31 rr21 "java/time/Duration" := Q21f0.wr W31
  have z37 : n0 ≤ h31.size := Nat.le_trans z29 (Keep.of_wr W31).1
  have K38 : Keep h0 h31 [ra] := K30.wr W31 (Or.inl (List.mem_of_getElem? (i := 0) rfl))
  have f39 : Fld Z h31 ra "com/example/pochta/pochta/amqp/ConnectionSettings" "idleTimeout" "Ljava/time/Duration;" (.ref rr21) := f25.same W31
  have sg40 : ∀ t, Steps p.tables e below (T31.setTop (mkF m 25 #[.val (.ref ra)] [(.int (1048576 : Int32)), (.ref ra)])) t → Steps p.tables e below (T31.setTop (mkF m 22 #[.val (.ref ra)] [])) t := by
    intro t k
    show Steps p.tables e below (T31.setTop (mkF m 22 #[.val (.ref ra)] [])) _
    refine XS.aloadN X31.here hx rfl (hb hby d2_22) rfl rfl ?_
    show Steps p.tables e below (T31.setTop (mkF m 23 #[.val (.ref ra)] [(.ref ra)])) _
    refine X31.ldcInt hx hown (mvT hZ (hw _ (List.mem_of_getElem? (i := 51) rfl))) (g := (mkF m 23 #[.val (.ref ra)] [(.ref ra)])) rfl (hb hby d2_23) _ ?_
    exact k
  obtain ⟨T41, h41, X41, e41, W41, st41⟩ := putF X31 hx hZ hown (host := "") (Or.inl (hw _ (List.mem_of_getElem? (i := 52) rfl))) Via.refl e31 f33 f32 (Or.inl (hw _ (List.mem_of_getElem? (i := 53) rfl))) (hw _ (List.mem_of_getElem? (i := 7) rfl)) (ty := .int) (by decide) rfl rfl (g := (mkF m 25 #[.val (.ref ra)] [(.int (1048576 : Int32)), (.ref ra)])) rfl rfl (hb hby d2_25)
  have N41 := Fr.snoc X41 N31 g_ra
  have f42 : Exa Z h41 ra "com/example/pochta/pochta/amqp/ConnectionSettings" := f32.wr W41
  have f43 : Exa Z h41 rr4 "java/time/Duration" := f34.wr W41
  have f44 : Fld Z h41 ra "com/example/pochta/pochta/amqp/ConnectionSettings" "openTimeout" "Ljava/time/Duration;" (.ref rr4) := f35.other W41 (Or.inr (slot_ne (Or.inl (hw _ (List.mem_of_getElem? (i := 35) rfl))) (Or.inl (hw _ (List.mem_of_getElem? (i := 53) rfl))) (by decide) (t := (.object "java/time/Duration")) (t' := .int) (by decide) (by decide)))
  have f45 : Exa Z h41 rr21 "java/time/Duration" := f36.wr W41
  have f46 : Fld Z h41 ra "com/example/pochta/pochta/amqp/ConnectionSettings" "idleTimeout" "Ljava/time/Duration;" (.ref rr21) := f39.other W41 (Or.inr (slot_ne (Or.inl (hw _ (List.mem_of_getElem? (i := 50) rfl))) (Or.inl (hw _ (List.mem_of_getElem? (i := 53) rfl))) (by decide) (t := (.object "java/time/Duration")) (t' := .int) (by decide) (by decide)))
  have z47 : n0 ≤ h41.size := Nat.le_trans z37 (Keep.of_wr W41).1
  have K48 : Keep h0 h41 [ra] := K38.wr W41 (Or.inl (List.mem_of_getElem? (i := 0) rfl))
  have f49 : Fld Z h41 ra "com/example/pochta/pochta/amqp/ConnectionSettings" "maxMessageSize" "I" (.int (1048576 : Int32)) := f33.same W41
  obtain ⟨fs, hr, hrun, hended, hW, hsame⟩ := X41.leave (v := none) (fun _ => rfl)
  refine ⟨_, _, pre0 _ ?_, hrun, hended, _, _, rfl, ?_, ⟨_, rfl⟩, hW, hsame.mono (by decide) (by decide)⟩
  · show Steps p.tables e below (s₁.setTop (mkF m 0 #[.val (.ref ra)] [])) _
    refine sg1 _ ?_
    show Steps p.tables e below (s₁.setTop (mkF m 1 #[.val (.ref ra)] [(.ref ra)])) _
    refine st2 _ ?_
    show Steps p.tables e below (T2.setTop (mkF m 4 #[.val (.ref ra)] [])) _
    refine sg3 _ ?_
    show Steps p.tables e below (T2.setTop (mkF m 8 #[.val (.ref ra)] [(.long (20 : Int64)), (.ref ra)])) _
    refine st4 _ ?_
    show Steps p.tables e below (T4.setTop (mkF m 11 #[.val (.ref ra)] [(.ref rr4), (.ref ra)])) _
    refine st12 _ ?_
    show Steps p.tables e below (T12.setTop (mkF m 14 #[.val (.ref ra)] [])) _
    refine sg20 _ ?_
    show Steps p.tables e below (T12.setTop (mkF m 16 #[.val (.ref ra)] [(.long (1 : Int64)), (.ref ra)])) _
    refine st21 _ ?_
    show Steps p.tables e below (T21.setTop (mkF m 19 #[.val (.ref ra)] [(.ref rr21), (.ref ra)])) _
    refine st31 _ ?_
    show Steps p.tables e below (T31.setTop (mkF m 22 #[.val (.ref ra)] [])) _
    refine sg40 _ ?_
    show Steps p.tables e below (T31.setTop (mkF m 25 #[.val (.ref ra)] [(.int (1048576 : Int32)), (.ref ra)])) _
    refine st41 _ ?_
    show Steps p.tables e below (T41.setTop (mkF m 28 #[.val (.ref ra)] [])) _
    exact X41.returnOut hx Bd.returns (hb hby d2_28) hr
  · show Q_rmI Z ra h0 n0 _ T41.heap _
    rw [e41]
    exact ⟨rr4, rr21, rfl, N41, K48, f44, f46, f49⟩
def Q_rmO (Z : State) (ra : Addr) (r1 : Addr) (h0 : Heap) (n0 : Nat) (v : Option Value) (h : Heap) (L : List Loc) : Prop := v = some (.ref r1) ∧ Fr n0 L ∧ h = h0
theorem ef_rmO (m : MethodId) (x0 : Addr) : entryFrame m #[(.ref x0)] 1 = mkF m 0 #[.val (.ref x0)] [] := by first | (simp [entryFrame, mkF, argsToLocals, Value.category]; done) | rfl
theorem d11_0 : decode prog_2_method_3_code 0 = .ok (.aload_n 0, 1) := by decide +kernel
theorem d11_1 : decode prog_2_method_3_code 1 = .ok (.getfield 15, 3) := by decide +kernel
theorem d11_4 : decode prog_2_method_3_code 4 = .ok (.areturn, 1) := by decide +kernel
set_option maxRecDepth 65536 in
set_option maxHeartbeats 40000000 in
theorem rmO (l : Launch) (Z : State) (a0 : Array Value) (hw : ∀ d ∈ tables_1, d.before a0 Z = true) (ws : List Jvm.Cond) (ra : Addr) (r1 : Addr) (h0 : Heap) (n0 : Nat) (Z0 : n0 ≤ h0.size) (P0 : Fld Z h0 ra "com/example/pochta/pochta/amqp/ConnectionSettings" "openTimeout" "Ljava/time/Duration;" (.ref r1)) :
    MetFree l (⟨"com/example/pochta/pochta/amqp/ConnectionSettings", "openTimeout", "()Ljava/time/Duration;"⟩ : MethodName) (head1 (Jvm.Cond.code (⟨"com/example/pochta/pochta/amqp/ConnectionSettings", "openTimeout", "()Ljava/time/Duration;"⟩ : MethodName) prog_2_method_3_code 1 (some (.object "java/time/Duration")) :: ws) ({ frames := 0, cells := 0, slots := 0, locals := 0 } : Room)) (fun a U => a = #[(.ref ra)] ∧ Z.Warmed39 U.vm ∧ U.heap = h0) (fun _ _ _ _ _ => True) (fun _ U o U' => ∃ v L, o = .returned v ∧ Q_rmO Z ra r1 h0 n0 v U'.heap L ∧ FrameEnd U o U' L ({ frames := 0, cells := 0, slots := 0, locals := 0 } : Room).cells ({ frames := 0, cells := 0, slots := 0, locals := 0 } : Room).slots) := by
  refine MetFree.of_bodySF (plainFor_of_name pn_2) hisR ?_
  intro p e s m args below meth c s₁ Bd hml0 hP hK
  obtain ⟨rfl, hZ, hh⟩ := hP
  have hx := Bd.exec
  have hby := Bd.bytes
  have hml : c.maxLocals = 1 := hml0
  have hown : s.vm.findClass "com/example/pochta/pochta/amqp/ConnectionSettings" = some m.cls := findClass_of_methodNamed Bd.named
  have hnm := (name_of_methodNamed Bd.named Bd.method).1
  have X0 : Stand p l e ({ frames := 0, cells := 0, slots := 0, locals := 0 } : Room) s m #[(.ref ra)] below meth c s₁ [] 0 0 := Stand.of_body Bd
  have e0 : s₁.heap = h0 := by rw [← hh, Bd.state]; rfl
  have N0 := Fr.nil n0
  have pre0 : ∀ t, Steps p.tables e below (s₁.setTop (mkF m 0 #[.val (.ref ra)] [])) t → Steps p.tables e below (s₁.setTop (entryFrame m #[(.ref ra)] 1)) t := fun t k => castTop (ef_rmO m ra) k
  have sg1 : ∀ t, Steps p.tables e below (s₁.setTop (mkF m 1 #[.val (.ref ra)] [(.ref ra)])) t → Steps p.tables e below (s₁.setTop (mkF m 0 #[.val (.ref ra)] [])) t := by
    intro t k
    show Steps p.tables e below (s₁.setTop (mkF m 0 #[.val (.ref ra)] [])) _
    refine XS.aloadN X0.here hx rfl (hb hby d11_0) rfl rfl ?_
    exact k
  obtain ⟨T2, X2, e2, st2⟩ := getF X0 hx hZ hown (host := "") (Or.inl (hw _ (List.mem_of_getElem? (i := 34) rfl))) Via.refl e0 P0 (g := (mkF m 1 #[.val (.ref ra)] [(.ref ra)])) rfl rfl (hb hby d11_1)
  obtain ⟨fs, hr, hrun, hended, hW, hsame⟩ := X2.leave (v := some (.ref r1)) (fun h => by rw [Bd.returns] at h; cases h)
  refine ⟨_, _, pre0 _ ?_, hrun, hended, _, _, rfl, ?_, ⟨_, rfl⟩, hW, hsame.mono (by decide) (by decide)⟩
  · show Steps p.tables e below (s₁.setTop (mkF m 0 #[.val (.ref ra)] [])) _
    refine sg1 _ ?_
    show Steps p.tables e below (s₁.setTop (mkF m 1 #[.val (.ref ra)] [(.ref ra)])) _
    refine st2 _ ?_
    show Steps p.tables e below (T2.setTop (mkF m 4 #[.val (.ref ra)] [(.ref r1)])) _
    jvm_step X2.here [X2.here.top, hx, (hb hby d11_4), X2.method', Bd.returns, Value.isRef, FieldType.isReference]
    first | (intro acts; rw [hr _ acts rfl rfl rfl]) | rw [hr _ _ rfl rfl rfl]
    exact Steps.refl _
  · show Q_rmO Z ra r1 h0 n0 _ T2.heap _
    rw [e2]
    exact ⟨rfl, N0, rfl⟩
def Q_rmT (Z : State) (ra : Addr) (r2 : Addr) (h0 : Heap) (n0 : Nat) (v : Option Value) (h : Heap) (L : List Loc) : Prop := v = some (.ref r2) ∧ Fr n0 L ∧ h = h0
theorem ef_rmT (m : MethodId) (x0 : Addr) : entryFrame m #[(.ref x0)] 1 = mkF m 0 #[.val (.ref x0)] [] := by first | (simp [entryFrame, mkF, argsToLocals, Value.category]; done) | rfl
theorem d12_0 : decode prog_2_method_5_code 0 = .ok (.aload_n 0, 1) := by decide +kernel
theorem d12_1 : decode prog_2_method_5_code 1 = .ok (.getfield 24, 3) := by decide +kernel
theorem d12_4 : decode prog_2_method_5_code 4 = .ok (.areturn, 1) := by decide +kernel
set_option maxRecDepth 65536 in
set_option maxHeartbeats 40000000 in
theorem rmT (l : Launch) (Z : State) (a0 : Array Value) (hw : ∀ d ∈ tables_1, d.before a0 Z = true) (ws : List Jvm.Cond) (ra : Addr) (r2 : Addr) (h0 : Heap) (n0 : Nat) (Z0 : n0 ≤ h0.size) (P0 : Fld Z h0 ra "com/example/pochta/pochta/amqp/ConnectionSettings" "idleTimeout" "Ljava/time/Duration;" (.ref r2)) :
    MetFree l (⟨"com/example/pochta/pochta/amqp/ConnectionSettings", "idleTimeout", "()Ljava/time/Duration;"⟩ : MethodName) (head1 (Jvm.Cond.code (⟨"com/example/pochta/pochta/amqp/ConnectionSettings", "idleTimeout", "()Ljava/time/Duration;"⟩ : MethodName) prog_2_method_5_code 1 (some (.object "java/time/Duration")) :: ws) ({ frames := 0, cells := 0, slots := 0, locals := 0 } : Room)) (fun a U => a = #[(.ref ra)] ∧ Z.Warmed39 U.vm ∧ U.heap = h0) (fun _ _ _ _ _ => True) (fun _ U o U' => ∃ v L, o = .returned v ∧ Q_rmT Z ra r2 h0 n0 v U'.heap L ∧ FrameEnd U o U' L ({ frames := 0, cells := 0, slots := 0, locals := 0 } : Room).cells ({ frames := 0, cells := 0, slots := 0, locals := 0 } : Room).slots) := by
  refine MetFree.of_bodySF (plainFor_of_name pn_2) hisR ?_
  intro p e s m args below meth c s₁ Bd hml0 hP hK
  obtain ⟨rfl, hZ, hh⟩ := hP
  have hx := Bd.exec
  have hby := Bd.bytes
  have hml : c.maxLocals = 1 := hml0
  have hown : s.vm.findClass "com/example/pochta/pochta/amqp/ConnectionSettings" = some m.cls := findClass_of_methodNamed Bd.named
  have hnm := (name_of_methodNamed Bd.named Bd.method).1
  have X0 : Stand p l e ({ frames := 0, cells := 0, slots := 0, locals := 0 } : Room) s m #[(.ref ra)] below meth c s₁ [] 0 0 := Stand.of_body Bd
  have e0 : s₁.heap = h0 := by rw [← hh, Bd.state]; rfl
  have N0 := Fr.nil n0
  have pre0 : ∀ t, Steps p.tables e below (s₁.setTop (mkF m 0 #[.val (.ref ra)] [])) t → Steps p.tables e below (s₁.setTop (entryFrame m #[(.ref ra)] 1)) t := fun t k => castTop (ef_rmT m ra) k
  have sg1 : ∀ t, Steps p.tables e below (s₁.setTop (mkF m 1 #[.val (.ref ra)] [(.ref ra)])) t → Steps p.tables e below (s₁.setTop (mkF m 0 #[.val (.ref ra)] [])) t := by
    intro t k
    show Steps p.tables e below (s₁.setTop (mkF m 0 #[.val (.ref ra)] [])) _
    refine XS.aloadN X0.here hx rfl (hb hby d12_0) rfl rfl ?_
    exact k
  obtain ⟨T2, X2, e2, st2⟩ := getF X0 hx hZ hown (host := "") (Or.inl (hw _ (List.mem_of_getElem? (i := 49) rfl))) Via.refl e0 P0 (g := (mkF m 1 #[.val (.ref ra)] [(.ref ra)])) rfl rfl (hb hby d12_1)
  obtain ⟨fs, hr, hrun, hended, hW, hsame⟩ := X2.leave (v := some (.ref r2)) (fun h => by rw [Bd.returns] at h; cases h)
  refine ⟨_, _, pre0 _ ?_, hrun, hended, _, _, rfl, ?_, ⟨_, rfl⟩, hW, hsame.mono (by decide) (by decide)⟩
  · show Steps p.tables e below (s₁.setTop (mkF m 0 #[.val (.ref ra)] [])) _
    refine sg1 _ ?_
    show Steps p.tables e below (s₁.setTop (mkF m 1 #[.val (.ref ra)] [(.ref ra)])) _
    refine st2 _ ?_
    show Steps p.tables e below (T2.setTop (mkF m 4 #[.val (.ref ra)] [(.ref r2)])) _
    jvm_step X2.here [X2.here.top, hx, (hb hby d12_4), X2.method', Bd.returns, Value.isRef, FieldType.isReference]
    first | (intro acts; rw [hr _ acts rfl rfl rfl]) | rw [hr _ _ rfl rfl rfl]
    exact Steps.refl _
  · show Q_rmT Z ra r2 h0 n0 _ T2.heap _
    rw [e2]
    exact ⟨rfl, N0, rfl⟩
def Q_rmG (Z : State) (ra : Addr) (ro : Int32) (h0 : Heap) (n0 : Nat) (v : Option Value) (h : Heap) (L : List Loc) : Prop := v = some (.int ro) ∧ Fr n0 L ∧ h = h0
theorem ef_rmG (m : MethodId) (x0 : Addr) : entryFrame m #[(.ref x0)] 1 = mkF m 0 #[.val (.ref x0)] [] := by first | (simp [entryFrame, mkF, argsToLocals, Value.category]; done) | rfl
theorem d14_0 : decode prog_2_method_7_code 0 = .ok (.aload_n 0, 1) := by decide +kernel
theorem d14_1 : decode prog_2_method_7_code 1 = .ok (.getfield 28, 3) := by decide +kernel
theorem d14_4 : decode prog_2_method_7_code 4 = .ok (.ireturn, 1) := by decide +kernel
set_option maxRecDepth 65536 in
set_option maxHeartbeats 40000000 in
theorem rmG (l : Launch) (Z : State) (a0 : Array Value) (hw : ∀ d ∈ tables_1, d.before a0 Z = true) (ws : List Jvm.Cond) (ra : Addr) (ro : Int32) (h0 : Heap) (n0 : Nat) (Z0 : n0 ≤ h0.size) (P0 : Fld Z h0 ra "com/example/pochta/pochta/amqp/ConnectionSettings" "maxMessageSize" "I" (.int ro)) :
    MetFree l (⟨"com/example/pochta/pochta/amqp/ConnectionSettings", "maxMessageSize", "()I"⟩ : MethodName) (head1 (Jvm.Cond.code (⟨"com/example/pochta/pochta/amqp/ConnectionSettings", "maxMessageSize", "()I"⟩ : MethodName) prog_2_method_7_code 1 (some .int) :: ws) ({ frames := 0, cells := 0, slots := 0, locals := 0 } : Room)) (fun a U => a = #[(.ref ra)] ∧ Z.Warmed39 U.vm ∧ U.heap = h0) (fun _ _ _ _ _ => True) (fun _ U o U' => ∃ v L, o = .returned v ∧ Q_rmG Z ra ro h0 n0 v U'.heap L ∧ FrameEnd U o U' L ({ frames := 0, cells := 0, slots := 0, locals := 0 } : Room).cells ({ frames := 0, cells := 0, slots := 0, locals := 0 } : Room).slots) := by
  refine MetFree.of_bodySF (plainFor_of_name pn_2) hisR ?_
  intro p e s m args below meth c s₁ Bd hml0 hP hK
  obtain ⟨rfl, hZ, hh⟩ := hP
  have hx := Bd.exec
  have hby := Bd.bytes
  have hml : c.maxLocals = 1 := hml0
  have hown : s.vm.findClass "com/example/pochta/pochta/amqp/ConnectionSettings" = some m.cls := findClass_of_methodNamed Bd.named
  have hnm := (name_of_methodNamed Bd.named Bd.method).1
  have X0 : Stand p l e ({ frames := 0, cells := 0, slots := 0, locals := 0 } : Room) s m #[(.ref ra)] below meth c s₁ [] 0 0 := Stand.of_body Bd
  have e0 : s₁.heap = h0 := by rw [← hh, Bd.state]; rfl
  have N0 := Fr.nil n0
  have pre0 : ∀ t, Steps p.tables e below (s₁.setTop (mkF m 0 #[.val (.ref ra)] [])) t → Steps p.tables e below (s₁.setTop (entryFrame m #[(.ref ra)] 1)) t := fun t k => castTop (ef_rmG m ra) k
  have sg1 : ∀ t, Steps p.tables e below (s₁.setTop (mkF m 1 #[.val (.ref ra)] [(.ref ra)])) t → Steps p.tables e below (s₁.setTop (mkF m 0 #[.val (.ref ra)] [])) t := by
    intro t k
    show Steps p.tables e below (s₁.setTop (mkF m 0 #[.val (.ref ra)] [])) _
    refine XS.aloadN X0.here hx rfl (hb hby d14_0) rfl rfl ?_
    exact k
  obtain ⟨T2, X2, e2, st2⟩ := getF X0 hx hZ hown (host := "") (Or.inl (hw _ (List.mem_of_getElem? (i := 52) rfl))) Via.refl e0 P0 (g := (mkF m 1 #[.val (.ref ra)] [(.ref ra)])) rfl rfl (hb hby d14_1)
  obtain ⟨fs, hr, hrun, hended, hW, hsame⟩ := X2.leave (v := some (.int ro)) (fun h => by rw [Bd.returns] at h; cases h)
  refine ⟨_, _, pre0 _ ?_, hrun, hended, _, _, rfl, ?_, ⟨_, rfl⟩, hW, hsame.mono (by decide) (by decide)⟩
  · show Steps p.tables e below (s₁.setTop (mkF m 0 #[.val (.ref ra)] [])) _
    refine sg1 _ ?_
    show Steps p.tables e below (s₁.setTop (mkF m 1 #[.val (.ref ra)] [(.ref ra)])) _
    refine st2 _ ?_
    show Steps p.tables e below (T2.setTop (mkF m 4 #[.val (.ref ra)] [(.int ro)])) _
    exact retI X2 hx Bd.returns (hb hby d14_4) hr
  · show Q_rmG Z ra ro h0 n0 _ T2.heap _
    rw [e2]
    exact ⟨rfl, N0, rfl⟩
def Q_rmX (Z : State) (ra : Addr) (rn : Int32) (r1 : Addr) (r2 : Addr) (ro : Int32) (h0 : Heap) (n0 : Nat) (v : Option Value) (h : Heap) (L : List Loc) : Prop := v = some (.ref ra) ∧ Fr n0 L ∧ Keep h0 h [ra] ∧ Fld Z h ra "com/example/pochta/pochta/amqp/ConnectionSettings" "maxMessageSize" "I" (.int rn) ∧ Fld Z h ra "com/example/pochta/pochta/amqp/ConnectionSettings" "openTimeout" "Ljava/time/Duration;" (.ref r1) ∧ Fld Z h ra "com/example/pochta/pochta/amqp/ConnectionSettings" "idleTimeout" "Ljava/time/Duration;" (.ref r2)
theorem ef_rmX (m : MethodId) (x0 : Addr) (x1 : Int32) : entryFrame m #[(.ref x0), (.int x1)] 2 = mkF m 0 #[.val (.ref x0), .val (.int x1)] [] := by first | (simp [entryFrame, mkF, argsToLocals, Value.category]; done) | rfl
theorem d13_0 : decode prog_2_method_8_code 0 = .ok (.iload_n 1, 1) := by decide +kernel
theorem d13_1 : decode prog_2_method_8_code 1 = .ok (.sipush 1024, 3) := by decide +kernel
theorem d13_4 : decode prog_2_method_8_code 4 = .ok (.if_icmp .lt 9, 3) := by decide +kernel
theorem d13_7 : decode prog_2_method_8_code 7 = .ok (.iload_n 1, 1) := by decide +kernel
theorem d13_8 : decode prog_2_method_8_code 8 = .ok (.ldc 41, 2) := by decide +kernel
theorem d13_10 : decode prog_2_method_8_code 10 = .ok (.if_icmp .le 17, 3) := by decide +kernel
theorem d13_27 : decode prog_2_method_8_code 27 = .ok (.aload_n 0, 1) := by decide +kernel
theorem d13_28 : decode prog_2_method_8_code 28 = .ok (.iload_n 1, 1) := by decide +kernel
theorem d13_29 : decode prog_2_method_8_code 29 = .ok (.putfield 28, 3) := by decide +kernel
theorem d13_32 : decode prog_2_method_8_code 32 = .ok (.aload_n 0, 1) := by decide +kernel
theorem d13_33 : decode prog_2_method_8_code 33 = .ok (.areturn, 1) := by decide +kernel
set_option maxRecDepth 65536 in
set_option maxHeartbeats 40000000 in
theorem rmX (l : Launch) (Z : State) (a0 : Array Value) (hw : ∀ d ∈ tables_1, d.before a0 Z = true) (ws : List Jvm.Cond) (ra : Addr) (rn : Int32) (r1 : Addr) (r2 : Addr) (ro : Int32) (h0 : Heap) (n0 : Nat) (Z0 : n0 ≤ h0.size) (P0 : Exa Z h0 ra "com/example/pochta/pochta/amqp/ConnectionSettings") (P1 : Fld Z h0 ra "com/example/pochta/pochta/amqp/ConnectionSettings" "maxMessageSize" "I" (.int ro)) (P2 : Fld Z h0 ra "com/example/pochta/pochta/amqp/ConnectionSettings" "openTimeout" "Ljava/time/Duration;" (.ref r1)) (P3 : Fld Z h0 ra "com/example/pochta/pochta/amqp/ConnectionSettings" "idleTimeout" "Ljava/time/Duration;" (.ref r2)) (g_ra : n0 ≤ ra) (hl : ¬ (rn < (1024 : Int32))) (hg : ¬ ((1073741824 : Int32) < rn)) :
    MetFree l (⟨"com/example/pochta/pochta/amqp/ConnectionSettings", "maxMessageSize", "(I)Lcom/example/pochta/pochta/amqp/ConnectionSettings;"⟩ : MethodName) (head1 (Jvm.Cond.code (⟨"com/example/pochta/pochta/amqp/ConnectionSettings", "maxMessageSize", "(I)Lcom/example/pochta/pochta/amqp/ConnectionSettings;"⟩ : MethodName) prog_2_method_8_code 2 (some (.object "com/example/pochta/pochta/amqp/ConnectionSettings")) :: ws) ({ frames := 0, cells := 0, slots := 0, locals := 0 } : Room)) (fun a U => a = #[(.ref ra), (.int rn)] ∧ Z.Warmed39 U.vm ∧ U.heap = h0) (fun _ _ _ _ _ => True) (fun _ U o U' => ∃ v L, o = .returned v ∧ Q_rmX Z ra rn r1 r2 ro h0 n0 v U'.heap L ∧ FrameEnd U o U' L ({ frames := 0, cells := 0, slots := 0, locals := 0 } : Room).cells ({ frames := 0, cells := 0, slots := 0, locals := 0 } : Room).slots) := by
  refine MetFree.of_bodySF (plainFor_of_name pn_2) hisR ?_
  intro p e s m args below meth c s₁ Bd hml0 hP hK
  obtain ⟨rfl, hZ, hh⟩ := hP
  have hx := Bd.exec
  have hby := Bd.bytes
  have hml : c.maxLocals = 2 := hml0
  have hown : s.vm.findClass "com/example/pochta/pochta/amqp/ConnectionSettings" = some m.cls := findClass_of_methodNamed Bd.named
  have hnm := (name_of_methodNamed Bd.named Bd.method).1
  have X0 : Stand p l e ({ frames := 0, cells := 0, slots := 0, locals := 0 } : Room) s m #[(.ref ra), (.int rn)] below meth c s₁ [] 0 0 := Stand.of_body Bd
  have e0 : s₁.heap = h0 := by rw [← hh, Bd.state]; rfl
  have N0 := Fr.nil n0
  have pre0 : ∀ t, Steps p.tables e below (s₁.setTop (mkF m 0 #[.val (.ref ra), .val (.int rn)] [])) t → Steps p.tables e below (s₁.setTop (entryFrame m #[(.ref ra), (.int rn)] 2)) t := fun t k => castTop (ef_rmX m ra rn) k
  have K0 : Keep h0 h0 [ra] := Keep.refl h0 [ra]
  have sg1 : ∀ t, Steps p.tables e below (s₁.setTop (mkF m 29 #[.val (.ref ra), .val (.int rn)] [(.int rn), (.ref ra)])) t → Steps p.tables e below (s₁.setTop (mkF m 0 #[.val (.ref ra), .val (.int rn)] [])) t := by
    intro t k
    show Steps p.tables e below (s₁.setTop (mkF m 0 #[.val (.ref ra), .val (.int rn)] [])) _
    refine XS.iloadN X0.here hx rfl (hb hby d13_0) rfl ?_
    show Steps p.tables e below (s₁.setTop (mkF m 1 #[.val (.ref ra), .val (.int rn)] [(.int rn)])) _
    refine XS.sipush X0.here hx rfl (hb hby d13_1) ?_
    show Steps p.tables e below (s₁.setTop (mkF m 4 #[.val (.ref ra), .val (.int rn)] [(.int (1024 : Int32)), (.int rn)])) _
    refine XS.icmpNo X0.here hx rfl (hb hby d13_4) rfl (flt (hl : ¬ (rn < (1024 : Int32)))).1 ?_
    show Steps p.tables e below (s₁.setTop (mkF m 7 #[.val (.ref ra), .val (.int rn)] [])) _
    refine XS.iloadN X0.here hx rfl (hb hby d13_7) rfl ?_
    show Steps p.tables e below (s₁.setTop (mkF m 8 #[.val (.ref ra), .val (.int rn)] [(.int rn)])) _
    refine X0.ldcInt hx hown (mvT hZ (hw _ (List.mem_of_getElem? (i := 69) rfl))) (g := (mkF m 8 #[.val (.ref ra), .val (.int rn)] [(.int rn)])) rfl (hb hby d13_8) _ ?_
    show Steps p.tables e below (s₁.setTop (mkF m 10 #[.val (.ref ra), .val (.int rn)] [(.int (1073741824 : Int32)), (.int rn)])) _
    refine XS.icmpYes X0.here hx rfl (pc0 := 10) (pc' := 27) rfl (hb hby d13_10) rfl (flt (hg : ¬ ((1073741824 : Int32) < rn))).2.2.2 (by decide) (by decide) ?_
    show Steps p.tables e below (s₁.setTop (mkF m 27 #[.val (.ref ra), .val (.int rn)] [])) _
    refine XS.aloadN X0.here hx rfl (hb hby d13_27) rfl rfl ?_
    show Steps p.tables e below (s₁.setTop (mkF m 28 #[.val (.ref ra), .val (.int rn)] [(.ref ra)])) _
    refine XS.iloadN X0.here hx rfl (hb hby d13_28) rfl ?_
    exact k
  obtain ⟨T2, h2, X2, e2, W2, st2⟩ := putF X0 hx hZ hown (host := "") (Or.inl (hw _ (List.mem_of_getElem? (i := 52) rfl))) Via.refl e0 P1 P0 (Or.inl (hw _ (List.mem_of_getElem? (i := 53) rfl))) (hw _ (List.mem_of_getElem? (i := 7) rfl)) (ty := .int) (by decide) rfl rfl (g := (mkF m 29 #[.val (.ref ra), .val (.int rn)] [(.int rn), (.ref ra)])) rfl rfl (hb hby d13_29)
  have N2 := Fr.snoc X2 N0 g_ra
  have f3 : Exa Z h2 ra "com/example/pochta/pochta/amqp/ConnectionSettings" := P0.wr W2
  have f4 : Fld Z h2 ra "com/example/pochta/pochta/amqp/ConnectionSettings" "openTimeout" "Ljava/time/Duration;" (.ref r1) := P2.other W2 (Or.inr (slot_ne (Or.inl (hw _ (List.mem_of_getElem? (i := 35) rfl))) (Or.inl (hw _ (List.mem_of_getElem? (i := 53) rfl))) (by decide) (t := (.object "java/time/Duration")) (t' := .int) (by decide) (by decide)))
  have f5 : Fld Z h2 ra "com/example/pochta/pochta/amqp/ConnectionSettings" "idleTimeout" "Ljava/time/Duration;" (.ref r2) := P3.other W2 (Or.inr (slot_ne (Or.inl (hw _ (List.mem_of_getElem? (i := 50) rfl))) (Or.inl (hw _ (List.mem_of_getElem? (i := 53) rfl))) (by decide) (t := (.object "java/time/Duration")) (t' := .int) (by decide) (by decide)))
  have z6 : n0 ≤ h2.size := Nat.le_trans Z0 (Keep.of_wr W2).1
  have K7 : Keep h0 h2 [ra] := K0.wr W2 (Or.inl (List.mem_of_getElem? (i := 0) rfl))
  have f8 : Fld Z h2 ra "com/example/pochta/pochta/amqp/ConnectionSettings" "maxMessageSize" "I" (.int rn) := P1.same W2
  have sg9 : ∀ t, Steps p.tables e below (T2.setTop (mkF m 33 #[.val (.ref ra), .val (.int rn)] [(.ref ra)])) t → Steps p.tables e below (T2.setTop (mkF m 32 #[.val (.ref ra), .val (.int rn)] [])) t := by
    intro t k
    show Steps p.tables e below (T2.setTop (mkF m 32 #[.val (.ref ra), .val (.int rn)] [])) _
    refine XS.aloadN X2.here hx rfl (hb hby d13_32) rfl rfl ?_
    exact k
  obtain ⟨fs, hr, hrun, hended, hW, hsame⟩ := X2.leave (v := some (.ref ra)) (fun h => by rw [Bd.returns] at h; cases h)
  refine ⟨_, _, pre0 _ ?_, hrun, hended, _, _, rfl, ?_, ⟨_, rfl⟩, hW, hsame.mono (by decide) (by decide)⟩
  · show Steps p.tables e below (s₁.setTop (mkF m 0 #[.val (.ref ra), .val (.int rn)] [])) _
    refine sg1 _ ?_
    show Steps p.tables e below (s₁.setTop (mkF m 29 #[.val (.ref ra), .val (.int rn)] [(.int rn), (.ref ra)])) _
    refine st2 _ ?_
    show Steps p.tables e below (T2.setTop (mkF m 32 #[.val (.ref ra), .val (.int rn)] [])) _
    refine sg9 _ ?_
    show Steps p.tables e below (T2.setTop (mkF m 33 #[.val (.ref ra), .val (.int rn)] [(.ref ra)])) _
    jvm_step X2.here [X2.here.top, hx, (hb hby d13_33), X2.method', Bd.returns, Value.isRef, FieldType.isReference]
    first | (intro acts; rw [hr _ acts rfl rfl rfl]) | rw [hr _ _ rfl rfl rfl]
    exact Steps.refl _
  · show Q_rmX Z ra rn r1 r2 ro h0 n0 _ T2.heap _
    rw [e2]
    exact ⟨rfl, N2, K7, f8, f4, f5⟩
def Q0 (Z : State) (p1 p2 p3 p4 : Int32) (h0 : Heap) (n0 : Nat) (v : Option Value) (h : Heap) (L : List Loc) : Prop := v = some (.int 1) ∧ Fr n0 L
theorem pd_7 : parseMethodDescriptor "(II)I" = some ⟨[.int, .int], some .int⟩ := by decide +kernel
theorem pd_8 : parseMethodDescriptor "()Ljava/time/Duration;" = some ⟨[], some (.object "java/time/Duration")⟩ := by decide +kernel
theorem pd_9 : parseMethodDescriptor "(I)Lcom/example/pochta/pochta/amqp/ConnectionSettings;" = some ⟨[.int], some (.object "com/example/pochta/pochta/amqp/ConnectionSettings")⟩ := by decide +kernel
theorem pd_10 : parseMethodDescriptor "()I" = some ⟨[], some .int⟩ := by decide +kernel
theorem ef_rm0 (m : MethodId) (x0 : Int32) (x1 : Int32) (x2 : Int32) (x3 : Int32) : entryFrame m #[(.int x0), (.int x1), (.int x2), (.int x3)] maxLocals = mkF m 0 #[.val (.int x0), .val (.int x1), .val (.int x2), .val (.int x3), .unset, .unset, .unset, .unset, .unset, .unset, .unset, .unset] [] := by first | (simp [entryFrame, mkF, argsToLocals, Value.category, maxLocals]; done) | rfl
set_option maxRecDepth 65536 in
set_option maxHeartbeats 40000000 in
theorem rm0 (l : Launch) (Z : State) (a0 : Array Value) (hw : ∀ d ∈ tables_1, d.before a0 Z = true) (ws : List Jvm.Cond) (p1 : Int32) (p2 : Int32) (p3 : Int32) (p4 : Int32)  (h0 : Heap) (n0 : Nat) (Z0 : n0 ≤ h0.size)  :
    MetFree l x (head1 (Jvm.Cond.code x code maxLocals ret :: ws) room_1) (fun a U => a = #[(.int p1), (.int p2), (.int p3), (.int p4)] ∧ Z.Warmed39 U.vm ∧ U.heap = h0) (fun _ _ _ _ _ => True) (fun _ U o U' => ∃ v L, o = .returned v ∧ Q0 Z p1 p2 p3 p4 h0 n0 v U'.heap L ∧ FrameEnd U o U' L 16 128) := by
  refine MetFree.of_bodySF (plainFor_of_name pn_0) hisR ?_
  intro p e s m args below meth c s₁ Bd hml0 hP hK
  obtain ⟨rfl, hZ, hh⟩ := hP
  have hx := Bd.exec
  have hby := Bd.bytes
  have hml : c.maxLocals = 12 := hml0
  have hown : s.vm.findClass "com/example/pochta/pochta/amqp/ConnectionSettingsMaxMessageSizePinLaw" = some m.cls := findClass_of_methodNamed Bd.named
  have hnm := (name_of_methodNamed Bd.named Bd.method).1
  have X0 : Stand p l e room_1 s m #[(.int p1), (.int p2), (.int p3), (.int p4)] below meth c s₁ [] 0 0 := Stand.of_body Bd
  have e0 : s₁.heap = h0 := by rw [← hh, Bd.state]; rfl
  have N0 := Fr.nil n0
  have pre0 : ∀ t, Steps p.tables e below (s₁.setTop (mkF m 0 #[.val (.int p1), .val (.int p2), .val (.int p3), .val (.int p4), .unset, .unset, .unset, .unset, .unset, .unset, .unset, .unset] [])) t → Steps p.tables e below (s₁.setTop (entryFrame m #[(.int p1), (.int p2), (.int p3), (.int p4)] maxLocals)) t := fun t k => castTop (ef_rm0 m p1 p2 p3 p4) k
  have sg1 : ∀ t, Steps p.tables e below (s₁.setTop (mkF m 2 #[.val (.int p1), .val (.int p2), .val (.int p3), .val (.int p4), .unset, .unset, .unset, .unset, .unset, .unset, .unset, .unset] [(.int p2), (.int p1)])) t → Steps p.tables e below (s₁.setTop (mkF m 0 #[.val (.int p1), .val (.int p2), .val (.int p3), .val (.int p4), .unset, .unset, .unset, .unset, .unset, .unset, .unset, .unset] [])) t := by
    intro t k
    show Steps p.tables e below (s₁.setTop (mkF m 0 #[.val (.int p1), .val (.int p2), .val (.int p3), .val (.int p4), .unset, .unset, .unset, .unset, .unset, .unset, .unset, .unset] [])) _
    refine XS.iloadN X0.here hx rfl (hb hby at_0) rfl ?_
    show Steps p.tables e below (s₁.setTop (mkF m 1 #[.val (.int p1), .val (.int p2), .val (.int p3), .val (.int p4), .unset, .unset, .unset, .unset, .unset, .unset, .unset, .unset] [(.int p1)])) _
    refine XS.iloadN X0.here hx rfl (hb hby at_1) rfl ?_
    exact k
  obtain ⟨_, _, ⟨T2, L2, k2, n2⟩, -, X2, ⟨Lc2, hQ2, l2, y2, z2⟩, st2⟩ := Jvm.LawKit.callS X0 hx (y := (⟨"com/example/pochta/pochta/amqp/ConnectionSettingsMaxMessageSizePinLaw", "size", "(II)I"⟩ : MethodName)) hown (mvT hZ (hw _ (List.mem_of_getElem? (i := 0) rfl))) (mvT hZ (hw _ (List.mem_of_getElem? (i := 1) rfl))) (mvT hZ (hw _ (List.mem_of_getElem? (i := 2) rfl))) (mvT hZ (hw _ (List.mem_of_getElem? (i := 3) rfl))) (by decide) (backOf (W := 0) (rmZ l Z a0 hw [] p1 p2 h0 n0 Z0) hZ (hw _ (List.mem_of_getElem? (i := 3) rfl)) (hw _ (List.mem_of_getElem? (i := 2) rfl)) (by decide) (by decide)) (g := (mkF m 2 #[.val (.int p1), .val (.int p2), .val (.int p3), .val (.int p4), .unset, .unset, .unset, .unset, .unset, .unset, .unset, .unset] [(.int p2), (.int p1)])) rfl (by rw [hml]; rfl) (argsL := [(.int p1), (.int p2)]) (rest := []) (lenOf pd_7 rfl) rfl (by show 2 * 0 + _ ≤ _; exact Nat.le_of_eq rfl) (hb hby at_2) (fun _ _ => ⟨rfl, e0, (by decide : 0 + 0 ≤ _), (by decide : 0 + 0 ≤ _)⟩)
  dsimp only [Pt.U, Pt.locs, Pt.cells, Pt.slots] at X2 l2 y2 z2 st2 hQ2
  subst l2 y2 z2
  obtain ⟨rfl, N2q, e2⟩ := hQ2
  have N2 := Fr.app N0 N2q
  have sg3 : ∀ t, Steps p.tables e below (T2.setTop (mkF m 9 #[.val (.int p1), .val (.int p2), .val (.int p3), .val (.int p4), .val (.int (fS p1 p2)), .unset, .unset, .unset, .unset, .unset, .unset, .unset] [(.int p4), (.int p3)])) t → Steps p.tables e below (T2.setTop (mkF m 5 #[.val (.int p1), .val (.int p2), .val (.int p3), .val (.int p4), .unset, .unset, .unset, .unset, .unset, .unset, .unset, .unset] [(.int (fS p1 p2))])) t := by
    intro t k
    show Steps p.tables e below (T2.setTop (mkF m 5 #[.val (.int p1), .val (.int p2), .val (.int p3), .val (.int p4), .unset, .unset, .unset, .unset, .unset, .unset, .unset, .unset] [(.int (fS p1 p2))])) _
    refine XS.istore X2.here hx rfl (hb hby at_5) rfl (l' := #[.val (.int p1), .val (.int p2), .val (.int p3), .val (.int p4), .val (.int (fS p1 p2)), .unset, .unset, .unset, .unset, .unset, .unset, .unset]) rfl ?_
    show Steps p.tables e below (T2.setTop (mkF m 7 #[.val (.int p1), .val (.int p2), .val (.int p3), .val (.int p4), .val (.int (fS p1 p2)), .unset, .unset, .unset, .unset, .unset, .unset, .unset] [])) _
    refine XS.iloadN X2.here hx rfl (hb hby at_7) rfl ?_
    show Steps p.tables e below (T2.setTop (mkF m 8 #[.val (.int p1), .val (.int p2), .val (.int p3), .val (.int p4), .val (.int (fS p1 p2)), .unset, .unset, .unset, .unset, .unset, .unset, .unset] [(.int p3)])) _
    refine XS.iloadN X2.here hx rfl (hb hby at_8) rfl ?_
    exact k
  obtain ⟨_, _, ⟨T4, L4, k4, n4⟩, -, X4, ⟨Lc4, hQ4, l4, y4, z4⟩, st4⟩ := Jvm.LawKit.callS X2 hx (y := (⟨"com/example/pochta/pochta/amqp/ConnectionSettingsMaxMessageSizePinLaw", "size", "(II)I"⟩ : MethodName)) hown (mvT hZ (hw _ (List.mem_of_getElem? (i := 0) rfl))) (mvT hZ (hw _ (List.mem_of_getElem? (i := 1) rfl))) (mvT hZ (hw _ (List.mem_of_getElem? (i := 2) rfl))) (mvT hZ (hw _ (List.mem_of_getElem? (i := 3) rfl))) (by decide) (backOf (W := 0) (rmZ l Z a0 hw [] p3 p4 h0 n0 Z0) hZ (hw _ (List.mem_of_getElem? (i := 3) rfl)) (hw _ (List.mem_of_getElem? (i := 2) rfl)) (by decide) (by decide)) (g := (mkF m 9 #[.val (.int p1), .val (.int p2), .val (.int p3), .val (.int p4), .val (.int (fS p1 p2)), .unset, .unset, .unset, .unset, .unset, .unset, .unset] [(.int p4), (.int p3)])) rfl (by rw [hml]; rfl) (argsL := [(.int p3), (.int p4)]) (rest := []) (lenOf pd_7 rfl) rfl (by show 2 * 0 + _ ≤ _; exact Nat.le_of_eq rfl) (hb hby at_9) (fun _ _ => ⟨rfl, e2, (by decide : 0 + 0 ≤ _), (by decide : 0 + 0 ≤ _)⟩)
  dsimp only [Pt.U, Pt.locs, Pt.cells, Pt.slots] at X4 l4 y4 z4 st4 hQ4
  subst l4 y4 z4
  obtain ⟨rfl, N4q, e4⟩ := hQ4
  have N4 := Fr.app N2 N4q
  have sg5 : ∀ t, Steps p.tables e below (T4.setTop (mkF m 14 #[.val (.int p1), .val (.int p2), .val (.int p3), .val (.int p4), .val (.int (fS p1 p2)), .val (.int (fS p3 p4)), .unset, .unset, .unset, .unset, .unset, .unset] [])) t → Steps p.tables e below (T4.setTop (mkF m 12 #[.val (.int p1), .val (.int p2), .val (.int p3), .val (.int p4), .val (.int (fS p1 p2)), .unset, .unset, .unset, .unset, .unset, .unset, .unset] [(.int (fS p3 p4))])) t := by
    intro t k
    show Steps p.tables e below (T4.setTop (mkF m 12 #[.val (.int p1), .val (.int p2), .val (.int p3), .val (.int p4), .val (.int (fS p1 p2)), .unset, .unset, .unset, .unset, .unset, .unset, .unset] [(.int (fS p3 p4))])) _
    refine XS.istore X4.here hx rfl (hb hby at_12) rfl (l' := #[.val (.int p1), .val (.int p2), .val (.int p3), .val (.int p4), .val (.int (fS p1 p2)), .val (.int (fS p3 p4)), .unset, .unset, .unset, .unset, .unset, .unset]) rfl ?_
    exact k
  obtain ⟨T6, h6, X6, e6, E6, A6, D6, -, st6⟩ := newO X4 hx hZ hown (hw _ (List.mem_of_getElem? (i := 6) rfl)) (hw _ (List.mem_of_getElem? (i := 7) rfl)) (hw _ (List.mem_of_getElem? (i := 8) rfl)) e4 (g := (mkF m 14 #[.val (.int p1), .val (.int p2), .val (.int p3), .val (.int p4), .val (.int (fS p1 p2)), .val (.int (fS p3 p4)), .unset, .unset, .unset, .unset, .unset, .unset] [])) rfl (hb hby at_14) (by decide) (by decide)
  obtain ⟨b6, g6⟩ : ∃ z, z = h0.size := ⟨_, rfl⟩
  rw [← g6] at A6 D6 st6
  have gn_b6 : n0 ≤ b6 := Nat.le_trans Z0 (Nat.le_of_eq g6.symm)
  have z7 : n0 ≤ h6.size := Nat.le_trans Z0 E6.1
  have f8 : Fld Z h6 b6 "com/example/pochta/pochta/amqp/ConnectionSettings" "openTimeout" "Ljava/time/Duration;" .null := D6 (Or.inl (hw _ (List.mem_of_getElem? (i := 35) rfl))) (ty := (.object "java/time/Duration")) (by decide)
  have f9 : Fld Z h6 b6 "com/example/pochta/pochta/amqp/ConnectionSettings" "idleTimeout" "Ljava/time/Duration;" .null := D6 (Or.inl (hw _ (List.mem_of_getElem? (i := 50) rfl))) (ty := (.object "java/time/Duration")) (by decide)
  have f10 : Fld Z h6 b6 "com/example/pochta/pochta/amqp/ConnectionSettings" "maxMessageSize" "I" (.int (0 : Int32)) := D6 (Or.inl (hw _ (List.mem_of_getElem? (i := 53) rfl))) (ty := .int) (by decide)
  have sg11 : ∀ t, Steps p.tables e below (T6.setTop (mkF m 18 #[.val (.int p1), .val (.int p2), .val (.int p3), .val (.int p4), .val (.int (fS p1 p2)), .val (.int (fS p3 p4)), .unset, .unset, .unset, .unset, .unset, .unset] [(.ref b6), (.ref b6)])) t → Steps p.tables e below (T6.setTop (mkF m 17 #[.val (.int p1), .val (.int p2), .val (.int p3), .val (.int p4), .val (.int (fS p1 p2)), .val (.int (fS p3 p4)), .unset, .unset, .unset, .unset, .unset, .unset] [(.ref b6)])) t := by
    intro t k
    show Steps p.tables e below (T6.setTop (mkF m 17 #[.val (.int p1), .val (.int p2), .val (.int p3), .val (.int p4), .val (.int (fS p1 p2)), .val (.int (fS p3 p4)), .unset, .unset, .unset, .unset, .unset, .unset] [(.ref b6)])) _
    refine XS.dup X6.here hx rfl (hb hby at_17) rfl rfl ?_
    exact k
  obtain ⟨_, _, ⟨T12, L12, k12, n12⟩, -, X12, ⟨Lc12, hQ12, l12, y12, z12⟩, st12⟩ := X6.specialBack hx (y := (⟨"com/example/pochta/pochta/amqp/ConnectionSettings", "<init>", "()V"⟩ : MethodName)) rfl hown (mvT hZ (hw _ (List.mem_of_getElem? (i := 9) rfl))) (mvT hZ (hw _ (List.mem_of_getElem? (i := 10) rfl))) (mvT hZ (hw _ (List.mem_of_getElem? (i := 11) rfl))) (by decide) (backOf (W := 1) (rmI l Z a0 hw [] b6 h6 n0 z7 A6 f8 f9 f10 gn_b6) hZ (hw _ (List.mem_of_getElem? (i := 11) rfl)) (hw _ (List.mem_of_getElem? (i := 8) rfl)) (by decide) (by decide)) (g := (mkF m 18 #[.val (.int p1), .val (.int p2), .val (.int p3), .val (.int p4), .val (.int (fS p1 p2)), .val (.int (fS p3 p4)), .unset, .unset, .unset, .unset, .unset, .unset] [(.ref b6), (.ref b6)])) rfl (by rw [hml]; rfl) (Steps.refl _) (a := b6) (argsL := []) (rest := [(.ref b6)]) (lenOf pd_2 rfl) rfl (by show 2 * 0 + _ ≤ _; exact Nat.le_of_eq rfl) (hb hby at_18) (fun _ _ => ⟨rfl, e6, (by decide : 1 + 2 ≤ _), (by decide : 3 + 4 ≤ _)⟩)
  dsimp only [Pt.U, Pt.locs, Pt.cells, Pt.slots] at X12 l12 y12 z12 st12 hQ12
  subst l12 y12 z12
  obtain ⟨r112, r212, rfl, N12q, KQ12, Q12f0, Q12f1, Q12f2⟩ := hQ12
  have N12 := Fr.app N4 N12q
  have f13 : Exa Z T12.heap b6 "com/example/pochta/pochta/amqp/ConnectionSettings" := A6.keep KQ12
  have z14 : n0 ≤ T12.heap.size := Nat.le_trans z7 KQ12.1
  have sg15 : ∀ t, Steps p.tables e below (T12.setTop (mkF m 25 #[.val (.int p1), .val (.int p2), .val (.int p3), .val (.int p4), .val (.int (fS p1 p2)), .val (.int (fS p3 p4)), .val (.ref b6), .unset, .unset, .unset, .unset, .unset] [(.ref b6)])) t → Steps p.tables e below (T12.setTop (mkF m 21 #[.val (.int p1), .val (.int p2), .val (.int p3), .val (.int p4), .val (.int (fS p1 p2)), .val (.int (fS p3 p4)), .unset, .unset, .unset, .unset, .unset, .unset] [(.ref b6)])) t := by
    intro t k
    show Steps p.tables e below (T12.setTop (mkF m 21 #[.val (.int p1), .val (.int p2), .val (.int p3), .val (.int p4), .val (.int (fS p1 p2)), .val (.int (fS p3 p4)), .unset, .unset, .unset, .unset, .unset, .unset] [(.ref b6)])) _
    refine XS.astore X12.here hx rfl (hb hby at_21) rfl rfl (l' := #[.val (.int p1), .val (.int p2), .val (.int p3), .val (.int p4), .val (.int (fS p1 p2)), .val (.int (fS p3 p4)), .val (.ref b6), .unset, .unset, .unset, .unset, .unset]) rfl ?_
    show Steps p.tables e below (T12.setTop (mkF m 23 #[.val (.int p1), .val (.int p2), .val (.int p3), .val (.int p4), .val (.int (fS p1 p2)), .val (.int (fS p3 p4)), .val (.ref b6), .unset, .unset, .unset, .unset, .unset] [])) _
    refine XS.aload X12.here hx rfl (hb hby at_23) rfl rfl ?_
    exact k
  obtain ⟨cq16, kq16, q16a, q16b, q16c⟩ := isOf hZ rfl f13
  obtain ⟨_, _, ⟨T16, L16, k16, n16⟩, -, X16, ⟨Lc16, hQ16, l16, y16, z16⟩, st16⟩ := X12.virtualBack hx (y := (⟨"com/example/pochta/pochta/amqp/ConnectionSettings", "openTimeout", "()Ljava/time/Duration;"⟩ : MethodName)) (z := (⟨"com/example/pochta/pochta/amqp/ConnectionSettings", "openTimeout", "()Ljava/time/Duration;"⟩ : MethodName)) hown (mvT hZ (hw _ (List.mem_of_getElem? (i := 54) rfl))) (mvT hZ (hw _ (List.mem_of_getElem? (i := 55) rfl))) (notFace_of_selects (args := #[]) (mvT hZ (hw _ (List.mem_of_getElem? (i := 57) rfl)))) (mvT hZ (hw _ (List.mem_of_getElem? (i := 57) rfl))) (mvT hZ (hw _ (List.mem_of_getElem? (i := 56) rfl))) (by decide) (backOf (W := 0) (rmO l Z a0 hw [] b6 r112 T12.heap n0 z14 Q12f0) hZ (hw _ (List.mem_of_getElem? (i := 58) rfl)) (hw _ (List.mem_of_getElem? (i := 8) rfl)) (by decide) (by decide)) q16a q16c (g := (mkF m 25 #[.val (.int p1), .val (.int p2), .val (.int p3), .val (.int p4), .val (.int (fS p1 p2)), .val (.int (fS p3 p4)), .val (.ref b6), .unset, .unset, .unset, .unset, .unset] [(.ref b6)])) rfl (by rw [hml]; rfl) (Steps.refl _) (argsL := []) (rest := []) (lenOf pd_8 rfl) rfl (by show 2 * 0 + _ ≤ _; exact Nat.le_of_eq rfl) (hb hby at_25) (fun _ _ => ⟨rfl, rfl, (by decide : 3 + 0 ≤ _), (by decide : 7 + 0 ≤ _)⟩)
  dsimp only [Pt.U, Pt.locs, Pt.cells, Pt.slots] at X16 l16 y16 z16 st16 hQ16
  subst l16 y16 z16
  obtain ⟨rfl, N16q, e16⟩ := hQ16
  have N16 := Fr.app N12 N16q
  have sg17 : ∀ t, Steps p.tables e below (T16.setTop (mkF m 32 #[.val (.int p1), .val (.int p2), .val (.int p3), .val (.int p4), .val (.int (fS p1 p2)), .val (.int (fS p3 p4)), .val (.ref b6), .val (.ref r112), .unset, .unset, .unset, .unset] [(.ref b6)])) t → Steps p.tables e below (T16.setTop (mkF m 28 #[.val (.int p1), .val (.int p2), .val (.int p3), .val (.int p4), .val (.int (fS p1 p2)), .val (.int (fS p3 p4)), .val (.ref b6), .unset, .unset, .unset, .unset, .unset] [(.ref r112)])) t := by
    intro t k
    show Steps p.tables e below (T16.setTop (mkF m 28 #[.val (.int p1), .val (.int p2), .val (.int p3), .val (.int p4), .val (.int (fS p1 p2)), .val (.int (fS p3 p4)), .val (.ref b6), .unset, .unset, .unset, .unset, .unset] [(.ref r112)])) _
    refine XS.astore X16.here hx rfl (hb hby at_28) rfl rfl (l' := #[.val (.int p1), .val (.int p2), .val (.int p3), .val (.int p4), .val (.int (fS p1 p2)), .val (.int (fS p3 p4)), .val (.ref b6), .val (.ref r112), .unset, .unset, .unset, .unset]) rfl ?_
    show Steps p.tables e below (T16.setTop (mkF m 30 #[.val (.int p1), .val (.int p2), .val (.int p3), .val (.int p4), .val (.int (fS p1 p2)), .val (.int (fS p3 p4)), .val (.ref b6), .val (.ref r112), .unset, .unset, .unset, .unset] [])) _
    refine XS.aload X16.here hx rfl (hb hby at_30) rfl rfl ?_
    exact k
  obtain ⟨cq18, kq18, q18a, q18b, q18c⟩ := isOf hZ e16 f13
  obtain ⟨_, _, ⟨T18, L18, k18, n18⟩, -, X18, ⟨Lc18, hQ18, l18, y18, z18⟩, st18⟩ := X16.virtualBack hx (y := (⟨"com/example/pochta/pochta/amqp/ConnectionSettings", "idleTimeout", "()Ljava/time/Duration;"⟩ : MethodName)) (z := (⟨"com/example/pochta/pochta/amqp/ConnectionSettings", "idleTimeout", "()Ljava/time/Duration;"⟩ : MethodName)) hown (mvT hZ (hw _ (List.mem_of_getElem? (i := 59) rfl))) (mvT hZ (hw _ (List.mem_of_getElem? (i := 60) rfl))) (notFace_of_selects (args := #[]) (mvT hZ (hw _ (List.mem_of_getElem? (i := 62) rfl)))) (mvT hZ (hw _ (List.mem_of_getElem? (i := 62) rfl))) (mvT hZ (hw _ (List.mem_of_getElem? (i := 61) rfl))) (by decide) (backOf (W := 0) (rmT l Z a0 hw [] b6 r212 T12.heap n0 z14 Q12f1) hZ (hw _ (List.mem_of_getElem? (i := 63) rfl)) (hw _ (List.mem_of_getElem? (i := 8) rfl)) (by decide) (by decide)) q18a q18c (g := (mkF m 32 #[.val (.int p1), .val (.int p2), .val (.int p3), .val (.int p4), .val (.int (fS p1 p2)), .val (.int (fS p3 p4)), .val (.ref b6), .val (.ref r112), .unset, .unset, .unset, .unset] [(.ref b6)])) rfl (by rw [hml]; rfl) (Steps.refl _) (argsL := []) (rest := []) (lenOf pd_8 rfl) rfl (by show 2 * 0 + _ ≤ _; exact Nat.le_of_eq rfl) (hb hby at_32) (fun _ _ => ⟨rfl, e16, (by decide : 3 + 0 ≤ _), (by decide : 7 + 0 ≤ _)⟩)
  dsimp only [Pt.U, Pt.locs, Pt.cells, Pt.slots] at X18 l18 y18 z18 st18 hQ18
  subst l18 y18 z18
  obtain ⟨rfl, N18q, e18⟩ := hQ18
  have N18 := Fr.app N16 N18q
  have sg19 : ∀ t, Steps p.tables e below (T18.setTop (mkF m 41 #[.val (.int p1), .val (.int p2), .val (.int p3), .val (.int p4), .val (.int (fS p1 p2)), .val (.int (fS p3 p4)), .val (.ref b6), .val (.ref r112), .val (.ref r212), .unset, .unset, .unset] [(.int (fS p1 p2)), (.ref b6)])) t → Steps p.tables e below (T18.setTop (mkF m 35 #[.val (.int p1), .val (.int p2), .val (.int p3), .val (.int p4), .val (.int (fS p1 p2)), .val (.int (fS p3 p4)), .val (.ref b6), .val (.ref r112), .unset, .unset, .unset, .unset] [(.ref r212)])) t := by
    intro t k
    show Steps p.tables e below (T18.setTop (mkF m 35 #[.val (.int p1), .val (.int p2), .val (.int p3), .val (.int p4), .val (.int (fS p1 p2)), .val (.int (fS p3 p4)), .val (.ref b6), .val (.ref r112), .unset, .unset, .unset, .unset] [(.ref r212)])) _
    refine XS.astore X18.here hx rfl (hb hby at_35) rfl rfl (l' := #[.val (.int p1), .val (.int p2), .val (.int p3), .val (.int p4), .val (.int (fS p1 p2)), .val (.int (fS p3 p4)), .val (.ref b6), .val (.ref r112), .val (.ref r212), .unset, .unset, .unset]) rfl ?_
    show Steps p.tables e below (T18.setTop (mkF m 37 #[.val (.int p1), .val (.int p2), .val (.int p3), .val (.int p4), .val (.int (fS p1 p2)), .val (.int (fS p3 p4)), .val (.ref b6), .val (.ref r112), .val (.ref r212), .unset, .unset, .unset] [])) _
    refine XS.aload X18.here hx rfl (hb hby at_37) rfl rfl ?_
    show Steps p.tables e below (T18.setTop (mkF m 39 #[.val (.int p1), .val (.int p2), .val (.int p3), .val (.int p4), .val (.int (fS p1 p2)), .val (.int (fS p3 p4)), .val (.ref b6), .val (.ref r112), .val (.ref r212), .unset, .unset, .unset] [(.ref b6)])) _
    refine XS.iload X18.here hx rfl (hb hby at_39) rfl ?_
    exact k
  obtain ⟨cq20, kq20, q20a, q20b, q20c⟩ := isOf hZ e18 f13
  obtain ⟨_, _, ⟨T20, L20, k20, n20⟩, -, X20, ⟨Lc20, hQ20, l20, y20, z20⟩, st20⟩ := X18.virtualBack hx (y := (⟨"com/example/pochta/pochta/amqp/ConnectionSettings", "maxMessageSize", "(I)Lcom/example/pochta/pochta/amqp/ConnectionSettings;"⟩ : MethodName)) (z := (⟨"com/example/pochta/pochta/amqp/ConnectionSettings", "maxMessageSize", "(I)Lcom/example/pochta/pochta/amqp/ConnectionSettings;"⟩ : MethodName)) hown (mvT hZ (hw _ (List.mem_of_getElem? (i := 64) rfl))) (mvT hZ (hw _ (List.mem_of_getElem? (i := 65) rfl))) (notFace_of_selects (args := #[]) (mvT hZ (hw _ (List.mem_of_getElem? (i := 67) rfl)))) (mvT hZ (hw _ (List.mem_of_getElem? (i := 67) rfl))) (mvT hZ (hw _ (List.mem_of_getElem? (i := 66) rfl))) (by decide) (backOf (W := 0) (rmX l Z a0 hw [] b6 (fS p1 p2) r112 r212 (1048576 : Int32) T12.heap n0 z14 f13 Q12f2 Q12f0 Q12f1 gn_b6 (own_size _ _).1 (own_size _ _).2) hZ (hw _ (List.mem_of_getElem? (i := 68) rfl)) (hw _ (List.mem_of_getElem? (i := 8) rfl)) (by decide) (by decide)) q20a q20c (g := (mkF m 41 #[.val (.int p1), .val (.int p2), .val (.int p3), .val (.int p4), .val (.int (fS p1 p2)), .val (.int (fS p3 p4)), .val (.ref b6), .val (.ref r112), .val (.ref r212), .unset, .unset, .unset] [(.int (fS p1 p2)), (.ref b6)])) rfl (by rw [hml]; rfl) (Steps.refl _) (argsL := [(.int (fS p1 p2))]) (rest := []) (lenOf pd_9 rfl) rfl (by show 2 * 0 + _ ≤ _; exact Nat.le_of_eq rfl) (hb hby at_41) (fun _ _ => ⟨rfl, e18, (by decide : 3 + 0 ≤ _), (by decide : 7 + 0 ≤ _)⟩)
  dsimp only [Pt.U, Pt.locs, Pt.cells, Pt.slots] at X20 l20 y20 z20 st20 hQ20
  subst l20 y20 z20
  obtain ⟨rfl, N20q, KQ20, Q20f0, Q20f1, Q20f2⟩ := hQ20
  have N20 := Fr.app N18 N20q
  have f21 : Exa Z T20.heap b6 "com/example/pochta/pochta/amqp/ConnectionSettings" := f13.keep KQ20
  have z22 : n0 ≤ T20.heap.size := Nat.le_trans z14 KQ20.1
  have sg23 : ∀ t, Steps p.tables e below (T20.setTop (mkF m 55 #[.val (.int p1), .val (.int p2), .val (.int p3), .val (.int p4), .val (.int (fS p1 p2)), .val (.int (fS p3 p4)), .val (.ref b6), .val (.ref r112), .val (.ref r212), .val (.ref b6), .unset, .unset] [(.ref b6)])) t → Steps p.tables e below (T20.setTop (mkF m 44 #[.val (.int p1), .val (.int p2), .val (.int p3), .val (.int p4), .val (.int (fS p1 p2)), .val (.int (fS p3 p4)), .val (.ref b6), .val (.ref r112), .val (.ref r212), .unset, .unset, .unset] [(.ref b6)])) t := by
    intro t k
    show Steps p.tables e below (T20.setTop (mkF m 44 #[.val (.int p1), .val (.int p2), .val (.int p3), .val (.int p4), .val (.int (fS p1 p2)), .val (.int (fS p3 p4)), .val (.ref b6), .val (.ref r112), .val (.ref r212), .unset, .unset, .unset] [(.ref b6)])) _
    refine XS.astore X20.here hx rfl (hb hby at_44) rfl rfl (l' := #[.val (.int p1), .val (.int p2), .val (.int p3), .val (.int p4), .val (.int (fS p1 p2)), .val (.int (fS p3 p4)), .val (.ref b6), .val (.ref r112), .val (.ref r212), .val (.ref b6), .unset, .unset]) rfl ?_
    show Steps p.tables e below (T20.setTop (mkF m 46 #[.val (.int p1), .val (.int p2), .val (.int p3), .val (.int p4), .val (.int (fS p1 p2)), .val (.int (fS p3 p4)), .val (.ref b6), .val (.ref r112), .val (.ref r212), .val (.ref b6), .unset, .unset] [])) _
    refine XS.aload X20.here hx rfl (hb hby at_46) rfl rfl ?_
    show Steps p.tables e below (T20.setTop (mkF m 48 #[.val (.int p1), .val (.int p2), .val (.int p3), .val (.int p4), .val (.int (fS p1 p2)), .val (.int (fS p3 p4)), .val (.ref b6), .val (.ref r112), .val (.ref r212), .val (.ref b6), .unset, .unset] [(.ref b6)])) _
    refine XS.aload X20.here hx rfl (hb hby at_48) rfl rfl ?_
    show Steps p.tables e below (T20.setTop (mkF m 50 #[.val (.int p1), .val (.int p2), .val (.int p3), .val (.int p4), .val (.int (fS p1 p2)), .val (.int (fS p3 p4)), .val (.ref b6), .val (.ref r112), .val (.ref r212), .val (.ref b6), .unset, .unset] [(.ref b6), (.ref b6)])) _
    refine Jvm.RoadKit.acmp (g := (mkF m 50 #[.val (.int p1), .val (.int p2), .val (.int p3), .val (.int p4), .val (.int (fS p1 p2)), .val (.int (fS p3 p4)), .val (.ref b6), .val (.ref r112), .val (.ref r212), .val (.ref b6), .unset, .unset] [(.ref b6), (.ref b6)])) X20 hx rfl rfl rfl (pc0 := 50) (pc' := 53) (same := true) rfl (hb hby at_50) rfl (decide_eq_true rfl) (by decide) (by decide) ?_
    show Steps p.tables e below (T20.setTop (mkF m 53 #[.val (.int p1), .val (.int p2), .val (.int p3), .val (.int p4), .val (.int (fS p1 p2)), .val (.int (fS p3 p4)), .val (.ref b6), .val (.ref r112), .val (.ref r212), .val (.ref b6), .unset, .unset] [])) _
    refine XS.aload X20.here hx rfl (hb hby at_53) rfl rfl ?_
    exact k
  obtain ⟨cq24, kq24, q24a, q24b, q24c⟩ := isOf hZ rfl f21
  obtain ⟨_, _, ⟨T24, L24, k24, n24⟩, -, X24, ⟨Lc24, hQ24, l24, y24, z24⟩, st24⟩ := X20.virtualBack hx (y := (⟨"com/example/pochta/pochta/amqp/ConnectionSettings", "maxMessageSize", "()I"⟩ : MethodName)) (z := (⟨"com/example/pochta/pochta/amqp/ConnectionSettings", "maxMessageSize", "()I"⟩ : MethodName)) hown (mvT hZ (hw _ (List.mem_of_getElem? (i := 70) rfl))) (mvT hZ (hw _ (List.mem_of_getElem? (i := 71) rfl))) (notFace_of_selects (args := #[]) (mvT hZ (hw _ (List.mem_of_getElem? (i := 73) rfl)))) (mvT hZ (hw _ (List.mem_of_getElem? (i := 73) rfl))) (mvT hZ (hw _ (List.mem_of_getElem? (i := 72) rfl))) (by decide) (backOf (W := 0) (rmG l Z a0 hw [] b6 (fS p1 p2) T20.heap n0 z22 Q20f0) hZ (hw _ (List.mem_of_getElem? (i := 74) rfl)) (hw _ (List.mem_of_getElem? (i := 8) rfl)) (by decide) (by decide)) q24a q24c (g := (mkF m 55 #[.val (.int p1), .val (.int p2), .val (.int p3), .val (.int p4), .val (.int (fS p1 p2)), .val (.int (fS p3 p4)), .val (.ref b6), .val (.ref r112), .val (.ref r212), .val (.ref b6), .unset, .unset] [(.ref b6)])) rfl (by rw [hml]; rfl) (Steps.refl _) (argsL := []) (rest := []) (lenOf pd_10 rfl) rfl (by show 2 * 0 + _ ≤ _; exact Nat.le_of_eq rfl) (hb hby at_55) (fun _ _ => ⟨rfl, rfl, (by decide : 3 + 0 ≤ _), (by decide : 7 + 0 ≤ _)⟩)
  dsimp only [Pt.U, Pt.locs, Pt.cells, Pt.slots] at X24 l24 y24 z24 st24 hQ24
  subst l24 y24 z24
  obtain ⟨rfl, N24q, e24⟩ := hQ24
  have N24 := Fr.app N20 N24q
  have sg25 : ∀ t, Steps p.tables e below (T24.setTop (mkF m 74 #[.val (.int p1), .val (.int p2), .val (.int p3), .val (.int p4), .val (.int (fS p1 p2)), .val (.int (fS p3 p4)), .val (.ref b6), .val (.ref r112), .val (.ref r212), .val (.ref b6), .val (.int (1 : Int32)), .unset] [(.int (fS p3 p4)), (.ref b6)])) t → Steps p.tables e below (T24.setTop (mkF m 58 #[.val (.int p1), .val (.int p2), .val (.int p3), .val (.int p4), .val (.int (fS p1 p2)), .val (.int (fS p3 p4)), .val (.ref b6), .val (.ref r112), .val (.ref r212), .val (.ref b6), .unset, .unset] [(.int (fS p1 p2))])) t := by
    intro t k
    show Steps p.tables e below (T24.setTop (mkF m 58 #[.val (.int p1), .val (.int p2), .val (.int p3), .val (.int p4), .val (.int (fS p1 p2)), .val (.int (fS p3 p4)), .val (.ref b6), .val (.ref r112), .val (.ref r212), .val (.ref b6), .unset, .unset] [(.int (fS p1 p2))])) _
    refine XS.iload X24.here hx rfl (hb hby at_58) rfl ?_
    show Steps p.tables e below (T24.setTop (mkF m 60 #[.val (.int p1), .val (.int p2), .val (.int p3), .val (.int p4), .val (.int (fS p1 p2)), .val (.int (fS p3 p4)), .val (.ref b6), .val (.ref r112), .val (.ref r212), .val (.ref b6), .unset, .unset] [(.int (fS p1 p2)), (.int (fS p1 p2))])) _
    refine XS.icmpNo X24.here hx rfl (hb hby at_60) rfl (teq (rfl : (fS p1 p2) = (fS p1 p2))).2 ?_
    show Steps p.tables e below (T24.setTop (mkF m 63 #[.val (.int p1), .val (.int p2), .val (.int p3), .val (.int p4), .val (.int (fS p1 p2)), .val (.int (fS p3 p4)), .val (.ref b6), .val (.ref r112), .val (.ref r212), .val (.ref b6), .unset, .unset] [])) _
    refine XS.iconst X24.here hx rfl (hb hby at_63) ?_
    show Steps p.tables e below (T24.setTop (mkF m 64 #[.val (.int p1), .val (.int p2), .val (.int p3), .val (.int p4), .val (.int (fS p1 p2)), .val (.int (fS p3 p4)), .val (.ref b6), .val (.ref r112), .val (.ref r212), .val (.ref b6), .unset, .unset] [(.int (1 : Int32))])) _
    refine XS.goto X24.here hx rfl (pc0 := 64) (pc' := 68) rfl (hb hby at_64) (by decide) (by decide) ?_
    show Steps p.tables e below (T24.setTop (mkF m 68 #[.val (.int p1), .val (.int p2), .val (.int p3), .val (.int p4), .val (.int (fS p1 p2)), .val (.int (fS p3 p4)), .val (.ref b6), .val (.ref r112), .val (.ref r212), .val (.ref b6), .unset, .unset] [(.int (1 : Int32))])) _
    refine XS.istore X24.here hx rfl (hb hby at_68) rfl (l' := #[.val (.int p1), .val (.int p2), .val (.int p3), .val (.int p4), .val (.int (fS p1 p2)), .val (.int (fS p3 p4)), .val (.ref b6), .val (.ref r112), .val (.ref r212), .val (.ref b6), .val (.int (1 : Int32)), .unset]) rfl ?_
    show Steps p.tables e below (T24.setTop (mkF m 70 #[.val (.int p1), .val (.int p2), .val (.int p3), .val (.int p4), .val (.int (fS p1 p2)), .val (.int (fS p3 p4)), .val (.ref b6), .val (.ref r112), .val (.ref r212), .val (.ref b6), .val (.int (1 : Int32)), .unset] [])) _
    refine XS.aload X24.here hx rfl (hb hby at_70) rfl rfl ?_
    show Steps p.tables e below (T24.setTop (mkF m 72 #[.val (.int p1), .val (.int p2), .val (.int p3), .val (.int p4), .val (.int (fS p1 p2)), .val (.int (fS p3 p4)), .val (.ref b6), .val (.ref r112), .val (.ref r212), .val (.ref b6), .val (.int (1 : Int32)), .unset] [(.ref b6)])) _
    refine XS.iload X24.here hx rfl (hb hby at_72) rfl ?_
    exact k
  obtain ⟨cq26, kq26, q26a, q26b, q26c⟩ := isOf hZ e24 f21
  obtain ⟨_, _, ⟨T26, L26, k26, n26⟩, -, X26, ⟨Lc26, hQ26, l26, y26, z26⟩, st26⟩ := X24.virtualBack hx (y := (⟨"com/example/pochta/pochta/amqp/ConnectionSettings", "maxMessageSize", "(I)Lcom/example/pochta/pochta/amqp/ConnectionSettings;"⟩ : MethodName)) (z := (⟨"com/example/pochta/pochta/amqp/ConnectionSettings", "maxMessageSize", "(I)Lcom/example/pochta/pochta/amqp/ConnectionSettings;"⟩ : MethodName)) hown (mvT hZ (hw _ (List.mem_of_getElem? (i := 64) rfl))) (mvT hZ (hw _ (List.mem_of_getElem? (i := 65) rfl))) (notFace_of_selects (args := #[]) (mvT hZ (hw _ (List.mem_of_getElem? (i := 67) rfl)))) (mvT hZ (hw _ (List.mem_of_getElem? (i := 67) rfl))) (mvT hZ (hw _ (List.mem_of_getElem? (i := 66) rfl))) (by decide) (backOf (W := 0) (rmX l Z a0 hw [] b6 (fS p3 p4) r112 r212 (fS p1 p2) T20.heap n0 z22 f21 Q20f0 Q20f1 Q20f2 gn_b6 (own_size _ _).1 (own_size _ _).2) hZ (hw _ (List.mem_of_getElem? (i := 68) rfl)) (hw _ (List.mem_of_getElem? (i := 8) rfl)) (by decide) (by decide)) q26a q26c (g := (mkF m 74 #[.val (.int p1), .val (.int p2), .val (.int p3), .val (.int p4), .val (.int (fS p1 p2)), .val (.int (fS p3 p4)), .val (.ref b6), .val (.ref r112), .val (.ref r212), .val (.ref b6), .val (.int (1 : Int32)), .unset] [(.int (fS p3 p4)), (.ref b6)])) rfl (by rw [hml]; rfl) (Steps.refl _) (argsL := [(.int (fS p3 p4))]) (rest := []) (lenOf pd_9 rfl) rfl (by show 2 * 0 + _ ≤ _; exact Nat.le_of_eq rfl) (hb hby at_74) (fun _ _ => ⟨rfl, e24, (by decide : 3 + 0 ≤ _), (by decide : 7 + 0 ≤ _)⟩)
  dsimp only [Pt.U, Pt.locs, Pt.cells, Pt.slots] at X26 l26 y26 z26 st26 hQ26
  subst l26 y26 z26
  obtain ⟨rfl, N26q, KQ26, Q26f0, Q26f1, Q26f2⟩ := hQ26
  have N26 := Fr.app N24 N26q
  have f27 : Exa Z T26.heap b6 "com/example/pochta/pochta/amqp/ConnectionSettings" := f21.keep KQ26
  have z28 : n0 ≤ T26.heap.size := Nat.le_trans z22 KQ26.1
  have sg29 : ∀ t, Steps p.tables e below (T26.setTop (mkF m 93 #[.val (.int p1), .val (.int p2), .val (.int p3), .val (.int p4), .val (.int (fS p1 p2)), .val (.int (fS p3 p4)), .val (.ref b6), .val (.ref r112), .val (.ref r212), .val (.ref b6), .val (.int (1 : Int32)), .val (.ref b6)] [(.ref b6)])) t → Steps p.tables e below (T26.setTop (mkF m 77 #[.val (.int p1), .val (.int p2), .val (.int p3), .val (.int p4), .val (.int (fS p1 p2)), .val (.int (fS p3 p4)), .val (.ref b6), .val (.ref r112), .val (.ref r212), .val (.ref b6), .val (.int (1 : Int32)), .unset] [(.ref b6)])) t := by
    intro t k
    show Steps p.tables e below (T26.setTop (mkF m 77 #[.val (.int p1), .val (.int p2), .val (.int p3), .val (.int p4), .val (.int (fS p1 p2)), .val (.int (fS p3 p4)), .val (.ref b6), .val (.ref r112), .val (.ref r212), .val (.ref b6), .val (.int (1 : Int32)), .unset] [(.ref b6)])) _
    refine XS.astore X26.here hx rfl (hb hby at_77) rfl rfl (l' := #[.val (.int p1), .val (.int p2), .val (.int p3), .val (.int p4), .val (.int (fS p1 p2)), .val (.int (fS p3 p4)), .val (.ref b6), .val (.ref r112), .val (.ref r212), .val (.ref b6), .val (.int (1 : Int32)), .val (.ref b6)]) rfl ?_
    show Steps p.tables e below (T26.setTop (mkF m 79 #[.val (.int p1), .val (.int p2), .val (.int p3), .val (.int p4), .val (.int (fS p1 p2)), .val (.int (fS p3 p4)), .val (.ref b6), .val (.ref r112), .val (.ref r212), .val (.ref b6), .val (.int (1 : Int32)), .val (.ref b6)] [])) _
    refine XS.iload X26.here hx rfl (hb hby at_79) rfl ?_
    show Steps p.tables e below (T26.setTop (mkF m 81 #[.val (.int p1), .val (.int p2), .val (.int p3), .val (.int p4), .val (.int (fS p1 p2)), .val (.int (fS p3 p4)), .val (.ref b6), .val (.ref r112), .val (.ref r212), .val (.ref b6), .val (.int (1 : Int32)), .val (.ref b6)] [(.int (1 : Int32))])) _
    refine XS.ifNo X26.here hx rfl (hb hby at_81) rfl ((if0 _ _).trans (feq (by decide : ¬ ((1 : Int32) = (0 : Int32)))).1) ?_
    show Steps p.tables e below (T26.setTop (mkF m 84 #[.val (.int p1), .val (.int p2), .val (.int p3), .val (.int p4), .val (.int (fS p1 p2)), .val (.int (fS p3 p4)), .val (.ref b6), .val (.ref r112), .val (.ref r212), .val (.ref b6), .val (.int (1 : Int32)), .val (.ref b6)] [])) _
    refine XS.aload X26.here hx rfl (hb hby at_84) rfl rfl ?_
    show Steps p.tables e below (T26.setTop (mkF m 86 #[.val (.int p1), .val (.int p2), .val (.int p3), .val (.int p4), .val (.int (fS p1 p2)), .val (.int (fS p3 p4)), .val (.ref b6), .val (.ref r112), .val (.ref r212), .val (.ref b6), .val (.int (1 : Int32)), .val (.ref b6)] [(.ref b6)])) _
    refine XS.aload X26.here hx rfl (hb hby at_86) rfl rfl ?_
    show Steps p.tables e below (T26.setTop (mkF m 88 #[.val (.int p1), .val (.int p2), .val (.int p3), .val (.int p4), .val (.int (fS p1 p2)), .val (.int (fS p3 p4)), .val (.ref b6), .val (.ref r112), .val (.ref r212), .val (.ref b6), .val (.int (1 : Int32)), .val (.ref b6)] [(.ref b6), (.ref b6)])) _
    refine Jvm.RoadKit.acmp (g := (mkF m 88 #[.val (.int p1), .val (.int p2), .val (.int p3), .val (.int p4), .val (.int (fS p1 p2)), .val (.int (fS p3 p4)), .val (.ref b6), .val (.ref r112), .val (.ref r212), .val (.ref b6), .val (.int (1 : Int32)), .val (.ref b6)] [(.ref b6), (.ref b6)])) X26 hx rfl rfl rfl (pc0 := 88) (pc' := 91) (same := true) rfl (hb hby at_88) rfl (decide_eq_true rfl) (by decide) (by decide) ?_
    show Steps p.tables e below (T26.setTop (mkF m 91 #[.val (.int p1), .val (.int p2), .val (.int p3), .val (.int p4), .val (.int (fS p1 p2)), .val (.int (fS p3 p4)), .val (.ref b6), .val (.ref r112), .val (.ref r212), .val (.ref b6), .val (.int (1 : Int32)), .val (.ref b6)] [])) _
    refine XS.aload X26.here hx rfl (hb hby at_91) rfl rfl ?_
    exact k
  obtain ⟨cq30, kq30, q30a, q30b, q30c⟩ := isOf hZ rfl f27
  obtain ⟨_, _, ⟨T30, L30, k30, n30⟩, -, X30, ⟨Lc30, hQ30, l30, y30, z30⟩, st30⟩ := X26.virtualBack hx (y := (⟨"com/example/pochta/pochta/amqp/ConnectionSettings", "maxMessageSize", "()I"⟩ : MethodName)) (z := (⟨"com/example/pochta/pochta/amqp/ConnectionSettings", "maxMessageSize", "()I"⟩ : MethodName)) hown (mvT hZ (hw _ (List.mem_of_getElem? (i := 70) rfl))) (mvT hZ (hw _ (List.mem_of_getElem? (i := 71) rfl))) (notFace_of_selects (args := #[]) (mvT hZ (hw _ (List.mem_of_getElem? (i := 73) rfl)))) (mvT hZ (hw _ (List.mem_of_getElem? (i := 73) rfl))) (mvT hZ (hw _ (List.mem_of_getElem? (i := 72) rfl))) (by decide) (backOf (W := 0) (rmG l Z a0 hw [] b6 (fS p3 p4) T26.heap n0 z28 Q26f0) hZ (hw _ (List.mem_of_getElem? (i := 74) rfl)) (hw _ (List.mem_of_getElem? (i := 8) rfl)) (by decide) (by decide)) q30a q30c (g := (mkF m 93 #[.val (.int p1), .val (.int p2), .val (.int p3), .val (.int p4), .val (.int (fS p1 p2)), .val (.int (fS p3 p4)), .val (.ref b6), .val (.ref r112), .val (.ref r212), .val (.ref b6), .val (.int (1 : Int32)), .val (.ref b6)] [(.ref b6)])) rfl (by rw [hml]; rfl) (Steps.refl _) (argsL := []) (rest := []) (lenOf pd_10 rfl) rfl (by show 2 * 0 + _ ≤ _; exact Nat.le_of_eq rfl) (hb hby at_93) (fun _ _ => ⟨rfl, rfl, (by decide : 3 + 0 ≤ _), (by decide : 7 + 0 ≤ _)⟩)
  dsimp only [Pt.U, Pt.locs, Pt.cells, Pt.slots] at X30 l30 y30 z30 st30 hQ30
  subst l30 y30 z30
  obtain ⟨rfl, N30q, e30⟩ := hQ30
  have N30 := Fr.app N26 N30q
  have sg31 : ∀ t, Steps p.tables e below (T30.setTop (mkF m 115 #[.val (.int p1), .val (.int p2), .val (.int p3), .val (.int p4), .val (.int (fS p1 p2)), .val (.int (fS p3 p4)), .val (.ref b6), .val (.ref r112), .val (.ref r212), .val (.ref b6), .val (.int (1 : Int32)), .val (.ref b6)] [(.ref b6)])) t → Steps p.tables e below (T30.setTop (mkF m 96 #[.val (.int p1), .val (.int p2), .val (.int p3), .val (.int p4), .val (.int (fS p1 p2)), .val (.int (fS p3 p4)), .val (.ref b6), .val (.ref r112), .val (.ref r212), .val (.ref b6), .val (.int (1 : Int32)), .val (.ref b6)] [(.int (fS p3 p4))])) t := by
    intro t k
    show Steps p.tables e below (T30.setTop (mkF m 96 #[.val (.int p1), .val (.int p2), .val (.int p3), .val (.int p4), .val (.int (fS p1 p2)), .val (.int (fS p3 p4)), .val (.ref b6), .val (.ref r112), .val (.ref r212), .val (.ref b6), .val (.int (1 : Int32)), .val (.ref b6)] [(.int (fS p3 p4))])) _
    refine XS.iload X30.here hx rfl (hb hby at_96) rfl ?_
    show Steps p.tables e below (T30.setTop (mkF m 98 #[.val (.int p1), .val (.int p2), .val (.int p3), .val (.int p4), .val (.int (fS p1 p2)), .val (.int (fS p3 p4)), .val (.ref b6), .val (.ref r112), .val (.ref r212), .val (.ref b6), .val (.int (1 : Int32)), .val (.ref b6)] [(.int (fS p3 p4)), (.int (fS p3 p4))])) _
    refine XS.icmpNo X30.here hx rfl (hb hby at_98) rfl (teq (rfl : (fS p3 p4) = (fS p3 p4))).2 ?_
    show Steps p.tables e below (T30.setTop (mkF m 101 #[.val (.int p1), .val (.int p2), .val (.int p3), .val (.int p4), .val (.int (fS p1 p2)), .val (.int (fS p3 p4)), .val (.ref b6), .val (.ref r112), .val (.ref r212), .val (.ref b6), .val (.int (1 : Int32)), .val (.ref b6)] [])) _
    refine XS.iconst X30.here hx rfl (hb hby at_101) ?_
    show Steps p.tables e below (T30.setTop (mkF m 102 #[.val (.int p1), .val (.int p2), .val (.int p3), .val (.int p4), .val (.int (fS p1 p2)), .val (.int (fS p3 p4)), .val (.ref b6), .val (.ref r112), .val (.ref r212), .val (.ref b6), .val (.int (1 : Int32)), .val (.ref b6)] [(.int (1 : Int32))])) _
    refine XS.goto X30.here hx rfl (pc0 := 102) (pc' := 106) rfl (hb hby at_102) (by decide) (by decide) ?_
    show Steps p.tables e below (T30.setTop (mkF m 106 #[.val (.int p1), .val (.int p2), .val (.int p3), .val (.int p4), .val (.int (fS p1 p2)), .val (.int (fS p3 p4)), .val (.ref b6), .val (.ref r112), .val (.ref r212), .val (.ref b6), .val (.int (1 : Int32)), .val (.ref b6)] [(.int (1 : Int32))])) _
    refine XS.istore X30.here hx rfl (hb hby at_106) rfl (l' := #[.val (.int p1), .val (.int p2), .val (.int p3), .val (.int p4), .val (.int (fS p1 p2)), .val (.int (fS p3 p4)), .val (.ref b6), .val (.ref r112), .val (.ref r212), .val (.ref b6), .val (.int (1 : Int32)), .val (.ref b6)]) rfl ?_
    show Steps p.tables e below (T30.setTop (mkF m 108 #[.val (.int p1), .val (.int p2), .val (.int p3), .val (.int p4), .val (.int (fS p1 p2)), .val (.int (fS p3 p4)), .val (.ref b6), .val (.ref r112), .val (.ref r212), .val (.ref b6), .val (.int (1 : Int32)), .val (.ref b6)] [])) _
    refine XS.iload X30.here hx rfl (hb hby at_108) rfl ?_
    show Steps p.tables e below (T30.setTop (mkF m 110 #[.val (.int p1), .val (.int p2), .val (.int p3), .val (.int p4), .val (.int (fS p1 p2)), .val (.int (fS p3 p4)), .val (.ref b6), .val (.ref r112), .val (.ref r212), .val (.ref b6), .val (.int (1 : Int32)), .val (.ref b6)] [(.int (1 : Int32))])) _
    refine XS.ifNo X30.here hx rfl (hb hby at_110) rfl ((if0 _ _).trans (feq (by decide : ¬ ((1 : Int32) = (0 : Int32)))).1) ?_
    show Steps p.tables e below (T30.setTop (mkF m 113 #[.val (.int p1), .val (.int p2), .val (.int p3), .val (.int p4), .val (.int (fS p1 p2)), .val (.int (fS p3 p4)), .val (.ref b6), .val (.ref r112), .val (.ref r212), .val (.ref b6), .val (.int (1 : Int32)), .val (.ref b6)] [])) _
    refine XS.aload X30.here hx rfl (hb hby at_113) rfl rfl ?_
    exact k
  obtain ⟨cq32, kq32, q32a, q32b, q32c⟩ := isOf hZ e30 f27
  obtain ⟨_, _, ⟨T32, L32, k32, n32⟩, -, X32, ⟨Lc32, hQ32, l32, y32, z32⟩, st32⟩ := X30.virtualBack hx (y := (⟨"com/example/pochta/pochta/amqp/ConnectionSettings", "openTimeout", "()Ljava/time/Duration;"⟩ : MethodName)) (z := (⟨"com/example/pochta/pochta/amqp/ConnectionSettings", "openTimeout", "()Ljava/time/Duration;"⟩ : MethodName)) hown (mvT hZ (hw _ (List.mem_of_getElem? (i := 54) rfl))) (mvT hZ (hw _ (List.mem_of_getElem? (i := 55) rfl))) (notFace_of_selects (args := #[]) (mvT hZ (hw _ (List.mem_of_getElem? (i := 57) rfl)))) (mvT hZ (hw _ (List.mem_of_getElem? (i := 57) rfl))) (mvT hZ (hw _ (List.mem_of_getElem? (i := 56) rfl))) (by decide) (backOf (W := 0) (rmO l Z a0 hw [] b6 r112 T26.heap n0 z28 Q26f1) hZ (hw _ (List.mem_of_getElem? (i := 58) rfl)) (hw _ (List.mem_of_getElem? (i := 8) rfl)) (by decide) (by decide)) q32a q32c (g := (mkF m 115 #[.val (.int p1), .val (.int p2), .val (.int p3), .val (.int p4), .val (.int (fS p1 p2)), .val (.int (fS p3 p4)), .val (.ref b6), .val (.ref r112), .val (.ref r212), .val (.ref b6), .val (.int (1 : Int32)), .val (.ref b6)] [(.ref b6)])) rfl (by rw [hml]; rfl) (Steps.refl _) (argsL := []) (rest := []) (lenOf pd_8 rfl) rfl (by show 2 * 0 + _ ≤ _; exact Nat.le_of_eq rfl) (hb hby at_115) (fun _ _ => ⟨rfl, e30, (by decide : 3 + 0 ≤ _), (by decide : 7 + 0 ≤ _)⟩)
  dsimp only [Pt.U, Pt.locs, Pt.cells, Pt.slots] at X32 l32 y32 z32 st32 hQ32
  subst l32 y32 z32
  obtain ⟨rfl, N32q, e32⟩ := hQ32
  have N32 := Fr.app N30 N32q
  have sg33 : ∀ t, Steps p.tables e below (T32.setTop (mkF m 125 #[.val (.int p1), .val (.int p2), .val (.int p3), .val (.int p4), .val (.int (fS p1 p2)), .val (.int (fS p3 p4)), .val (.ref b6), .val (.ref r112), .val (.ref r212), .val (.ref b6), .val (.int (1 : Int32)), .val (.ref b6)] [(.ref b6)])) t → Steps p.tables e below (T32.setTop (mkF m 118 #[.val (.int p1), .val (.int p2), .val (.int p3), .val (.int p4), .val (.int (fS p1 p2)), .val (.int (fS p3 p4)), .val (.ref b6), .val (.ref r112), .val (.ref r212), .val (.ref b6), .val (.int (1 : Int32)), .val (.ref b6)] [(.ref r112)])) t := by
    intro t k
    show Steps p.tables e below (T32.setTop (mkF m 118 #[.val (.int p1), .val (.int p2), .val (.int p3), .val (.int p4), .val (.int (fS p1 p2)), .val (.int (fS p3 p4)), .val (.ref b6), .val (.ref r112), .val (.ref r212), .val (.ref b6), .val (.int (1 : Int32)), .val (.ref b6)] [(.ref r112)])) _
    refine XS.aload X32.here hx rfl (hb hby at_118) rfl rfl ?_
    show Steps p.tables e below (T32.setTop (mkF m 120 #[.val (.int p1), .val (.int p2), .val (.int p3), .val (.int p4), .val (.int (fS p1 p2)), .val (.int (fS p3 p4)), .val (.ref b6), .val (.ref r112), .val (.ref r212), .val (.ref b6), .val (.int (1 : Int32)), .val (.ref b6)] [(.ref r112), (.ref r112)])) _
    refine Jvm.RoadKit.acmp (g := (mkF m 120 #[.val (.int p1), .val (.int p2), .val (.int p3), .val (.int p4), .val (.int (fS p1 p2)), .val (.int (fS p3 p4)), .val (.ref b6), .val (.ref r112), .val (.ref r212), .val (.ref b6), .val (.int (1 : Int32)), .val (.ref b6)] [(.ref r112), (.ref r112)])) X32 hx rfl rfl rfl (pc0 := 120) (pc' := 123) (same := true) rfl (hb hby at_120) rfl (decide_eq_true rfl) (by decide) (by decide) ?_
    show Steps p.tables e below (T32.setTop (mkF m 123 #[.val (.int p1), .val (.int p2), .val (.int p3), .val (.int p4), .val (.int (fS p1 p2)), .val (.int (fS p3 p4)), .val (.ref b6), .val (.ref r112), .val (.ref r212), .val (.ref b6), .val (.int (1 : Int32)), .val (.ref b6)] [])) _
    refine XS.aload X32.here hx rfl (hb hby at_123) rfl rfl ?_
    exact k
  obtain ⟨cq34, kq34, q34a, q34b, q34c⟩ := isOf hZ e32 f27
  obtain ⟨_, _, ⟨T34, L34, k34, n34⟩, -, X34, ⟨Lc34, hQ34, l34, y34, z34⟩, st34⟩ := X32.virtualBack hx (y := (⟨"com/example/pochta/pochta/amqp/ConnectionSettings", "idleTimeout", "()Ljava/time/Duration;"⟩ : MethodName)) (z := (⟨"com/example/pochta/pochta/amqp/ConnectionSettings", "idleTimeout", "()Ljava/time/Duration;"⟩ : MethodName)) hown (mvT hZ (hw _ (List.mem_of_getElem? (i := 59) rfl))) (mvT hZ (hw _ (List.mem_of_getElem? (i := 60) rfl))) (notFace_of_selects (args := #[]) (mvT hZ (hw _ (List.mem_of_getElem? (i := 62) rfl)))) (mvT hZ (hw _ (List.mem_of_getElem? (i := 62) rfl))) (mvT hZ (hw _ (List.mem_of_getElem? (i := 61) rfl))) (by decide) (backOf (W := 0) (rmT l Z a0 hw [] b6 r212 T26.heap n0 z28 Q26f2) hZ (hw _ (List.mem_of_getElem? (i := 63) rfl)) (hw _ (List.mem_of_getElem? (i := 8) rfl)) (by decide) (by decide)) q34a q34c (g := (mkF m 125 #[.val (.int p1), .val (.int p2), .val (.int p3), .val (.int p4), .val (.int (fS p1 p2)), .val (.int (fS p3 p4)), .val (.ref b6), .val (.ref r112), .val (.ref r212), .val (.ref b6), .val (.int (1 : Int32)), .val (.ref b6)] [(.ref b6)])) rfl (by rw [hml]; rfl) (Steps.refl _) (argsL := []) (rest := []) (lenOf pd_8 rfl) rfl (by show 2 * 0 + _ ≤ _; exact Nat.le_of_eq rfl) (hb hby at_125) (fun _ _ => ⟨rfl, e32, (by decide : 3 + 0 ≤ _), (by decide : 7 + 0 ≤ _)⟩)
  dsimp only [Pt.U, Pt.locs, Pt.cells, Pt.slots] at X34 l34 y34 z34 st34 hQ34
  subst l34 y34 z34
  obtain ⟨rfl, N34q, e34⟩ := hQ34
  have N34 := Fr.app N32 N34q
  have sg35 : ∀ t, Steps p.tables e below (T34.setTop (mkF m 142 #[.val (.int p1), .val (.int p2), .val (.int p3), .val (.int p4), .val (.int (fS p1 p2)), .val (.int (fS p3 p4)), .val (.ref b6), .val (.ref r112), .val (.ref r212), .val (.ref b6), .val (.int (1 : Int32)), .val (.ref b6)] [(.int (1 : Int32))])) t → Steps p.tables e below (T34.setTop (mkF m 128 #[.val (.int p1), .val (.int p2), .val (.int p3), .val (.int p4), .val (.int (fS p1 p2)), .val (.int (fS p3 p4)), .val (.ref b6), .val (.ref r112), .val (.ref r212), .val (.ref b6), .val (.int (1 : Int32)), .val (.ref b6)] [(.ref r212)])) t := by
    intro t k
    show Steps p.tables e below (T34.setTop (mkF m 128 #[.val (.int p1), .val (.int p2), .val (.int p3), .val (.int p4), .val (.int (fS p1 p2)), .val (.int (fS p3 p4)), .val (.ref b6), .val (.ref r112), .val (.ref r212), .val (.ref b6), .val (.int (1 : Int32)), .val (.ref b6)] [(.ref r212)])) _
    refine XS.aload X34.here hx rfl (hb hby at_128) rfl rfl ?_
    show Steps p.tables e below (T34.setTop (mkF m 130 #[.val (.int p1), .val (.int p2), .val (.int p3), .val (.int p4), .val (.int (fS p1 p2)), .val (.int (fS p3 p4)), .val (.ref b6), .val (.ref r112), .val (.ref r212), .val (.ref b6), .val (.int (1 : Int32)), .val (.ref b6)] [(.ref r212), (.ref r212)])) _
    refine Jvm.RoadKit.acmp (g := (mkF m 130 #[.val (.int p1), .val (.int p2), .val (.int p3), .val (.int p4), .val (.int (fS p1 p2)), .val (.int (fS p3 p4)), .val (.ref b6), .val (.ref r112), .val (.ref r212), .val (.ref b6), .val (.int (1 : Int32)), .val (.ref b6)] [(.ref r212), (.ref r212)])) X34 hx rfl rfl rfl (pc0 := 130) (pc' := 133) (same := true) rfl (hb hby at_130) rfl (decide_eq_true rfl) (by decide) (by decide) ?_
    show Steps p.tables e below (T34.setTop (mkF m 133 #[.val (.int p1), .val (.int p2), .val (.int p3), .val (.int p4), .val (.int (fS p1 p2)), .val (.int (fS p3 p4)), .val (.ref b6), .val (.ref r112), .val (.ref r212), .val (.ref b6), .val (.int (1 : Int32)), .val (.ref b6)] [])) _
    refine XS.iconst X34.here hx rfl (hb hby at_133) ?_
    show Steps p.tables e below (T34.setTop (mkF m 134 #[.val (.int p1), .val (.int p2), .val (.int p3), .val (.int p4), .val (.int (fS p1 p2)), .val (.int (fS p3 p4)), .val (.ref b6), .val (.ref r112), .val (.ref r212), .val (.ref b6), .val (.int (1 : Int32)), .val (.ref b6)] [(.int (1 : Int32))])) _
    refine XS.goto X34.here hx rfl (pc0 := 134) (pc' := 138) rfl (hb hby at_134) (by decide) (by decide) ?_
    show Steps p.tables e below (T34.setTop (mkF m 138 #[.val (.int p1), .val (.int p2), .val (.int p3), .val (.int p4), .val (.int (fS p1 p2)), .val (.int (fS p3 p4)), .val (.ref b6), .val (.ref r112), .val (.ref r212), .val (.ref b6), .val (.int (1 : Int32)), .val (.ref b6)] [(.int (1 : Int32))])) _
    refine XS.istore X34.here hx rfl (hb hby at_138) rfl (l' := #[.val (.int p1), .val (.int p2), .val (.int p3), .val (.int p4), .val (.int (fS p1 p2)), .val (.int (fS p3 p4)), .val (.ref b6), .val (.ref r112), .val (.ref r212), .val (.ref b6), .val (.int (1 : Int32)), .val (.ref b6)]) rfl ?_
    show Steps p.tables e below (T34.setTop (mkF m 140 #[.val (.int p1), .val (.int p2), .val (.int p3), .val (.int p4), .val (.int (fS p1 p2)), .val (.int (fS p3 p4)), .val (.ref b6), .val (.ref r112), .val (.ref r212), .val (.ref b6), .val (.int (1 : Int32)), .val (.ref b6)] [])) _
    refine XS.iload X34.here hx rfl (hb hby at_140) rfl ?_
    exact k
  obtain ⟨fs, hr, hrun, hended, hW, hsame⟩ := X34.leave (v := some (.int (1 : Int32))) (fun h => by rw [Bd.returns] at h; cases h)
  refine ⟨_, _, pre0 _ ?_, hrun, hended, _, _, rfl, ?_, ⟨_, rfl⟩, hW, hsame.mono (by decide) (by decide)⟩
  · show Steps p.tables e below (s₁.setTop (mkF m 0 #[.val (.int p1), .val (.int p2), .val (.int p3), .val (.int p4), .unset, .unset, .unset, .unset, .unset, .unset, .unset, .unset] [])) _
    refine sg1 _ ?_
    show Steps p.tables e below (s₁.setTop (mkF m 2 #[.val (.int p1), .val (.int p2), .val (.int p3), .val (.int p4), .unset, .unset, .unset, .unset, .unset, .unset, .unset, .unset] [(.int p2), (.int p1)])) _
    refine st2 _ ?_
    show Steps p.tables e below (T2.setTop (mkF m 5 #[.val (.int p1), .val (.int p2), .val (.int p3), .val (.int p4), .unset, .unset, .unset, .unset, .unset, .unset, .unset, .unset] [(.int (fS p1 p2))])) _
    refine sg3 _ ?_
    show Steps p.tables e below (T2.setTop (mkF m 9 #[.val (.int p1), .val (.int p2), .val (.int p3), .val (.int p4), .val (.int (fS p1 p2)), .unset, .unset, .unset, .unset, .unset, .unset, .unset] [(.int p4), (.int p3)])) _
    refine st4 _ ?_
    show Steps p.tables e below (T4.setTop (mkF m 12 #[.val (.int p1), .val (.int p2), .val (.int p3), .val (.int p4), .val (.int (fS p1 p2)), .unset, .unset, .unset, .unset, .unset, .unset, .unset] [(.int (fS p3 p4))])) _
    refine sg5 _ ?_
    show Steps p.tables e below (T4.setTop (mkF m 14 #[.val (.int p1), .val (.int p2), .val (.int p3), .val (.int p4), .val (.int (fS p1 p2)), .val (.int (fS p3 p4)), .unset, .unset, .unset, .unset, .unset, .unset] [])) _
    refine st6 _ ?_
    show Steps p.tables e below (T6.setTop (mkF m 17 #[.val (.int p1), .val (.int p2), .val (.int p3), .val (.int p4), .val (.int (fS p1 p2)), .val (.int (fS p3 p4)), .unset, .unset, .unset, .unset, .unset, .unset] [(.ref b6)])) _
    refine sg11 _ ?_
    show Steps p.tables e below (T6.setTop (mkF m 18 #[.val (.int p1), .val (.int p2), .val (.int p3), .val (.int p4), .val (.int (fS p1 p2)), .val (.int (fS p3 p4)), .unset, .unset, .unset, .unset, .unset, .unset] [(.ref b6), (.ref b6)])) _
    refine st12.trans ?_
    show Steps p.tables e below (T12.setTop (mkF m 21 #[.val (.int p1), .val (.int p2), .val (.int p3), .val (.int p4), .val (.int (fS p1 p2)), .val (.int (fS p3 p4)), .unset, .unset, .unset, .unset, .unset, .unset] [(.ref b6)])) _
    refine sg15 _ ?_
    show Steps p.tables e below (T12.setTop (mkF m 25 #[.val (.int p1), .val (.int p2), .val (.int p3), .val (.int p4), .val (.int (fS p1 p2)), .val (.int (fS p3 p4)), .val (.ref b6), .unset, .unset, .unset, .unset, .unset] [(.ref b6)])) _
    refine st16.trans ?_
    show Steps p.tables e below (T16.setTop (mkF m 28 #[.val (.int p1), .val (.int p2), .val (.int p3), .val (.int p4), .val (.int (fS p1 p2)), .val (.int (fS p3 p4)), .val (.ref b6), .unset, .unset, .unset, .unset, .unset] [(.ref r112)])) _
    refine sg17 _ ?_
    show Steps p.tables e below (T16.setTop (mkF m 32 #[.val (.int p1), .val (.int p2), .val (.int p3), .val (.int p4), .val (.int (fS p1 p2)), .val (.int (fS p3 p4)), .val (.ref b6), .val (.ref r112), .unset, .unset, .unset, .unset] [(.ref b6)])) _
    refine st18.trans ?_
    show Steps p.tables e below (T18.setTop (mkF m 35 #[.val (.int p1), .val (.int p2), .val (.int p3), .val (.int p4), .val (.int (fS p1 p2)), .val (.int (fS p3 p4)), .val (.ref b6), .val (.ref r112), .unset, .unset, .unset, .unset] [(.ref r212)])) _
    refine sg19 _ ?_
    show Steps p.tables e below (T18.setTop (mkF m 41 #[.val (.int p1), .val (.int p2), .val (.int p3), .val (.int p4), .val (.int (fS p1 p2)), .val (.int (fS p3 p4)), .val (.ref b6), .val (.ref r112), .val (.ref r212), .unset, .unset, .unset] [(.int (fS p1 p2)), (.ref b6)])) _
    refine st20.trans ?_
    show Steps p.tables e below (T20.setTop (mkF m 44 #[.val (.int p1), .val (.int p2), .val (.int p3), .val (.int p4), .val (.int (fS p1 p2)), .val (.int (fS p3 p4)), .val (.ref b6), .val (.ref r112), .val (.ref r212), .unset, .unset, .unset] [(.ref b6)])) _
    refine sg23 _ ?_
    show Steps p.tables e below (T20.setTop (mkF m 55 #[.val (.int p1), .val (.int p2), .val (.int p3), .val (.int p4), .val (.int (fS p1 p2)), .val (.int (fS p3 p4)), .val (.ref b6), .val (.ref r112), .val (.ref r212), .val (.ref b6), .unset, .unset] [(.ref b6)])) _
    refine st24.trans ?_
    show Steps p.tables e below (T24.setTop (mkF m 58 #[.val (.int p1), .val (.int p2), .val (.int p3), .val (.int p4), .val (.int (fS p1 p2)), .val (.int (fS p3 p4)), .val (.ref b6), .val (.ref r112), .val (.ref r212), .val (.ref b6), .unset, .unset] [(.int (fS p1 p2))])) _
    refine sg25 _ ?_
    show Steps p.tables e below (T24.setTop (mkF m 74 #[.val (.int p1), .val (.int p2), .val (.int p3), .val (.int p4), .val (.int (fS p1 p2)), .val (.int (fS p3 p4)), .val (.ref b6), .val (.ref r112), .val (.ref r212), .val (.ref b6), .val (.int (1 : Int32)), .unset] [(.int (fS p3 p4)), (.ref b6)])) _
    refine st26.trans ?_
    show Steps p.tables e below (T26.setTop (mkF m 77 #[.val (.int p1), .val (.int p2), .val (.int p3), .val (.int p4), .val (.int (fS p1 p2)), .val (.int (fS p3 p4)), .val (.ref b6), .val (.ref r112), .val (.ref r212), .val (.ref b6), .val (.int (1 : Int32)), .unset] [(.ref b6)])) _
    refine sg29 _ ?_
    show Steps p.tables e below (T26.setTop (mkF m 93 #[.val (.int p1), .val (.int p2), .val (.int p3), .val (.int p4), .val (.int (fS p1 p2)), .val (.int (fS p3 p4)), .val (.ref b6), .val (.ref r112), .val (.ref r212), .val (.ref b6), .val (.int (1 : Int32)), .val (.ref b6)] [(.ref b6)])) _
    refine st30.trans ?_
    show Steps p.tables e below (T30.setTop (mkF m 96 #[.val (.int p1), .val (.int p2), .val (.int p3), .val (.int p4), .val (.int (fS p1 p2)), .val (.int (fS p3 p4)), .val (.ref b6), .val (.ref r112), .val (.ref r212), .val (.ref b6), .val (.int (1 : Int32)), .val (.ref b6)] [(.int (fS p3 p4))])) _
    refine sg31 _ ?_
    show Steps p.tables e below (T30.setTop (mkF m 115 #[.val (.int p1), .val (.int p2), .val (.int p3), .val (.int p4), .val (.int (fS p1 p2)), .val (.int (fS p3 p4)), .val (.ref b6), .val (.ref r112), .val (.ref r212), .val (.ref b6), .val (.int (1 : Int32)), .val (.ref b6)] [(.ref b6)])) _
    refine st32.trans ?_
    show Steps p.tables e below (T32.setTop (mkF m 118 #[.val (.int p1), .val (.int p2), .val (.int p3), .val (.int p4), .val (.int (fS p1 p2)), .val (.int (fS p3 p4)), .val (.ref b6), .val (.ref r112), .val (.ref r212), .val (.ref b6), .val (.int (1 : Int32)), .val (.ref b6)] [(.ref r112)])) _
    refine sg33 _ ?_
    show Steps p.tables e below (T32.setTop (mkF m 125 #[.val (.int p1), .val (.int p2), .val (.int p3), .val (.int p4), .val (.int (fS p1 p2)), .val (.int (fS p3 p4)), .val (.ref b6), .val (.ref r112), .val (.ref r212), .val (.ref b6), .val (.int (1 : Int32)), .val (.ref b6)] [(.ref b6)])) _
    refine st34.trans ?_
    show Steps p.tables e below (T34.setTop (mkF m 128 #[.val (.int p1), .val (.int p2), .val (.int p3), .val (.int p4), .val (.int (fS p1 p2)), .val (.int (fS p3 p4)), .val (.ref b6), .val (.ref r112), .val (.ref r212), .val (.ref b6), .val (.int (1 : Int32)), .val (.ref b6)] [(.ref r212)])) _
    refine sg35 _ ?_
    show Steps p.tables e below (T34.setTop (mkF m 142 #[.val (.int p1), .val (.int p2), .val (.int p3), .val (.int p4), .val (.int (fS p1 p2)), .val (.int (fS p3 p4)), .val (.ref b6), .val (.ref r112), .val (.ref r212), .val (.ref b6), .val (.int (1 : Int32)), .val (.ref b6)] [(.int (1 : Int32))])) _
    exact retN X34 hx (t := .boolean) Bd.returns (by simp) (hb hby at_142) hr
  · show Q0 Z p1 p2 p3 p4 h0 n0 _ T34.heap _
    rw [e34]
    exact ⟨rfl, N34⟩
set_option maxRecDepth 65536 in
set_option maxHeartbeats 40000000 in
theorem comes_1 {Post : Tables → Env → Array Value → State → Outcome → State → Prop} (hpost : ∀ tb e args s v u, (limb_1_1.after args s (.returned v) u = true ∧ limb_1_2.after args s (.returned v) u = true ∧ True) → FrameEnd s (.returned v) u (Jvm.fieldLocs frame_1_writes args s ++ Jvm.arrayLocs frame_1_arrays args s ++ Jvm.staticLocs frame_1_statics s) 16 128 → Post tb e args s (.returned v) u) :
    ArmFor flags0 classFile x code maxLocals ret World_1 tables_1 room_1 Calls_1 rest_1 Pre_1 Post := by
  intro l hfl _ _ p e ha hc hk s m args below hf hA hF happ hP
  obtain ⟨hcalls, hrest, hpre⟩ := hP
  obtain ⟨-, -, -, hnamed, -, -, -, hat⟩ := (Spec.applies_iff hf).mp happ
  obtain ⟨hg, hn⟩ := and_e (Cond.before_iff.mp (show (Jvm.Cond.and given_1 narrow_1).before args s = true from hpre))
  obtain ⟨gc, gr0⟩ := and_e hg
  obtain ⟨ga0, gr1⟩ := and_e gr0
  obtain ⟨ga1, gr2⟩ := and_e gr1
  obtain ⟨ga2, gr3⟩ := and_e gr2
  have ga3 := gr3
  obtain ⟨w0, w1, w2, w3, rfl⟩ : ∃ w0 w1 w2 w3 : Value, args = #[w0, w1, w2, w3] := by
    have hs : args.size = 4 := by simpa [Cond.value, given_1] using gc
    obtain ⟨L⟩ := args
    match L, hs with
    | [w0, w1, w2, w3], _ => exact ⟨w0, w1, w2, w3, rfl⟩
  have hw := fun d (hd : d ∈ tables_1) => atoms_spec (ws := Jvm.Cond.code x code maxLocals ret :: tables_1) hat d (List.mem_cons_of_mem _ hd)
  have hfit : Fit s := fun {y c} hc i hi => by
    obtain ⟨ha, rfl⟩ := Array.getElem?_eq_some_iff.mp hc
    have q := List.all_eq_true.mp ((Array.all_eq_true_iff_forall_mem.mp hF) _ (Array.getElem_mem ha)) i (List.mem_range.mpr hi)
    simpa [Array.getElem?_eq_getElem hi] using q
  obtain ⟨i0, ei0⟩ := is_v ga0
  obtain rfl : w0 = (.int i0) := Option.some.inj ei0
  obtain ⟨i1, ei1⟩ := is_v ga1
  obtain rfl : w1 = (.int i1) := Option.some.inj ei1
  obtain ⟨i2, ei2⟩ := is_v ga2
  obtain rfl : w2 = (.int i2) := Option.some.inj ei2
  obtain ⟨i3, ei3⟩ := is_v ga3
  obtain rfl : w3 = (.int i3) := Option.some.inj ei3
  obtain ⟨n, o, h1, h2, h3, _, L, rfl, ⟨rfl, N⟩, hq⟩ := rm0 l s _ hw tables_1 i0 i1 i2 i3 s.heap s.heap.size (Nat.le_refl _)  p e ha hc hk s m _ below hf ((Spec.applies_iff_loose hf).mp happ).1 ⟨rfl, State.Warmed39.refl s, rfl⟩ trivial
  refine ⟨n, _, h1, h2, h3, hpost _ _ _ _ _ _ ⟨Cond.after_iff.mpr rfl, Cond.after_iff.mpr (eq_i res_at (Term.int_eval (1)) rfl), trivial⟩ ⟨hq.1, hq.2.1, (hq.2.2.sift fun y hy => Or.inr (N y hy)).mono (by decide) (by decide)⟩⟩
theorem main_1_1 : Claimed_1_1 := comes_1 fun _ _ _ _ _ _ h hF => ⟨h.1, hF⟩
theorem main_1_2 : Claimed_1_2 := comes_1 fun _ _ _ _ _ _ h hF => ⟨h.2.1, hF⟩
end Jvm.Pilot.@@N@@
namespace Jvm.Pilot.@@N@@
open Jvm Jvm.ClassFile Sem Op Lib Jvm.Free Jvm.Stand Jvm.Pilot.@@N@@.Jvm.D
/-! MADE BY PROGRAM (witnessworld.py) out of the Statement's table words and the real class files: 11 classes; the members and pool entries that the words name. The judged class is class 1, her method 2. -/
namespace start1
open Jvm.ClassFile
def u (s : String) : CpInfo := .utf8 (stringToUtf16 s)
/-- a pool by its gaps: so many unusable entries, then the entry; so many at the end -/
def gap : Nat → List CpInfo → List CpInfo
  | 0, r => r
  | n + 1, r => .unusable :: gap n r
def poolList (es : List (Nat × CpInfo)) (last : Nat) : List CpInfo := es.foldr (fun e r => gap e.1 (e.2 :: r)) (gap last [])
def pool (es : List (Nat × CpInfo)) (last : Nat) : Array CpInfo := ⟨poolList es last⟩
def fileOf (pool : Array CpInfo) (this : Nat) (attrs : Array Attribute := #[]) (ms : Array MethodInfo := #[]) (fl : Nat := 33) (sup : Nat := 0) (ifs : Array Nat := #[]) (fds : Array FieldInfo := #[]) : ClassFile where
  minorVersion := 0
  majorVersion := 65
  constantPool := pool
  accessFlags := fl
  thisClass := this
  superClass := sup
  interfaces := ifs
  fields := fds
  methods := ms
  attributes := attrs
def plain (name : String) (sup : Option ClassId) : Class where
  name := name
  kind := .ordinary
  loader := none
  accessFlags := 33
  super := sup
  interfaces := #[]
  cf := none
  fields := #[]
  methods := #[]
  instanceTypes := #[]
  staticTypes := #[]
  resolved := #[]
  callSites := []
  init := .initialized
  statics := none
  mirror := none

def pool0 : Array CpInfo := pool [(5, u "<init>"), (0, u "()V"), (1, .class_ 10), (1, u "java/lang/Object")] 113

def k0c0 : Code := { maxStack := 0, maxLocals := 1, code := object_method_1_code, exceptionTable := #[], attributes := #[] }
def k0m0 : Method := { name := "<init>", desc := "()V", sig := { parameters := [], returnType := none }, accessFlags := 1, code := some k0c0 }
/-- java/lang/Object -/
def k0 : Class := { plain "java/lang/Object" none with
  accessFlags := 33
  interfaces := #[]
  cf := some (fileOf pool0 8 #[] #[{ accessFlags := 1, nameIndex := 5, descriptorIndex := 6, attributes := #[] }] 33 0 #[] #[])
  fields := #[]
  methods := #[k0m0]
  instanceTypes := #[]
  staticTypes := #[]
  resolved := Array.replicate 124 none
  statics := none }

def pool1 : Array CpInfo := pool [(2, .class_ 4), (0, .nameAndType 5 6), (0, u "java/lang/Object"), (0, u "<init>"), (0, u "()V"), (0, .integer 1073741824), (0, .integer 2147483647), (0, .integer 1073740801), (0, .methodref 11 12), (0, .class_ 13), (0, .nameAndType 14 15), (0, u "com/example/pochta/pochta/amqp/ConnectionSettingsMaxMessageSizePinLaw"), (0, u "size"), (0, u "(II)I"), (0, .class_ 17), (0, u "com/example/pochta/pochta/amqp/ConnectionSettings"), (0, .methodref 16 3), (0, .methodref 16 20), (0, .nameAndType 21 22), (0, u "openTimeout"), (0, u "()Ljava/time/Duration;"), (0, .methodref 16 24), (0, .nameAndType 25 22), (0, u "idleTimeout"), (0, .methodref 16 27), (0, .nameAndType 28 29), (0, u "maxMessageSize"), (0, u "(I)Lcom/example/pochta/pochta/amqp/ConnectionSettings;"), (0, .methodref 16 31), (0, .nameAndType 28 32), (0, u "()I"), (3, u "law"), (0, u "(IIII)Z")] 2

def k1m0 : Method := { name := "<init>", desc := "()V", sig := { parameters := [], returnType := none }, accessFlags := 1, code := none }
def k1c1 : Code := { maxStack := 3, maxLocals := 3, code := method_2_code, exceptionTable := #[], attributes := #[] }
def k1m1 : Method := { name := "size", desc := "(II)I", sig := { parameters := [.int, .int], returnType := some .int }, accessFlags := 10, code := some k1c1 }
def k1c2 : Code := { maxStack := 2, maxLocals := 12, code := code, exceptionTable := #[], attributes := #[] }
def k1m2 : Method := { name := "law", desc := "(IIII)Z", sig := { parameters := [.int, .int, .int, .int], returnType := some .boolean }, accessFlags := 9, code := some k1c2 }
/-- com/example/pochta/pochta/amqp/ConnectionSettingsMaxMessageSizePinLaw -/
def k1 : Class := { plain "com/example/pochta/pochta/amqp/ConnectionSettingsMaxMessageSizePinLaw" (some 0) with
  accessFlags := 49
  interfaces := #[]
  cf := some (fileOf pool1 11 #[] #[{ accessFlags := 1, nameIndex := 5, descriptorIndex := 6, attributes := #[] }, { accessFlags := 10, nameIndex := 14, descriptorIndex := 15, attributes := #[] }, { accessFlags := 9, nameIndex := 36, descriptorIndex := 37, attributes := #[] }] 49 2 #[] #[])
  fields := #[]
  methods := #[k1m0, k1m1, k1m2]
  instanceTypes := #[]
  staticTypes := #[]
  resolved := Array.replicate 40 none
  statics := none }

def pool2 : Array CpInfo := pool [(1, .methodref 2 3), (0, .class_ 4), (0, .nameAndType 5 6), (0, u "java/lang/Object"), (0, u "<init>"), (0, u "()V"), (0, .long 20), (1, .methodref 10 11), (0, .class_ 12), (0, .nameAndType 13 14), (0, u "java/time/Duration"), (0, u "ofSeconds"), (0, u "(J)Ljava/time/Duration;"), (0, .fieldref 16 17), (0, .class_ 18), (0, .nameAndType 19 20), (0, u "com/example/pochta/pochta/amqp/ConnectionSettings"), (0, u "openTimeout"), (0, u "Ljava/time/Duration;"), (0, .methodref 10 22), (0, .nameAndType 23 14), (0, u "ofMinutes"), (0, .fieldref 16 25), (0, .nameAndType 26 20), (0, u "idleTimeout"), (0, .integer 1048576), (0, .fieldref 16 29), (0, .nameAndType 30 31), (0, u "maxMessageSize"), (0, u "I"), (9, .integer 1073741824), (19, u "MIN_TIMEOUT"), (6, u "MAX_TIMEOUT"), (15, u "MIN_MESSAGE_SIZE"), (2, u "MAX_MESSAGE_SIZE"), (4, u "()Ljava/time/Duration;"), (1, u "()I"), (0, u "(I)Lcom/example/pochta/pochta/amqp/ConnectionSettings;")] 21

def k2c0 : Code := { maxStack := 3, maxLocals := 1, code := prog_2_method_1_code, exceptionTable := #[], attributes := #[] }
def k2m0 : Method := { name := "<init>", desc := "()V", sig := { parameters := [], returnType := none }, accessFlags := 1, code := some k2c0 }
def k2c1 : Code := { maxStack := 1, maxLocals := 1, code := prog_2_method_3_code, exceptionTable := #[], attributes := #[] }
def k2m1 : Method := { name := "openTimeout", desc := "()Ljava/time/Duration;", sig := { parameters := [], returnType := some (.object "java/time/Duration") }, accessFlags := 1, code := some k2c1 }
def k2c2 : Code := { maxStack := 1, maxLocals := 1, code := prog_2_method_5_code, exceptionTable := #[], attributes := #[] }
def k2m2 : Method := { name := "idleTimeout", desc := "()Ljava/time/Duration;", sig := { parameters := [], returnType := some (.object "java/time/Duration") }, accessFlags := 1, code := some k2c2 }
def k2c3 : Code := { maxStack := 1, maxLocals := 1, code := prog_2_method_7_code, exceptionTable := #[], attributes := #[] }
def k2m3 : Method := { name := "maxMessageSize", desc := "()I", sig := { parameters := [], returnType := some .int }, accessFlags := 1, code := some k2c3 }
def k2c4 : Code := { maxStack := 3, maxLocals := 2, code := prog_2_method_8_code, exceptionTable := #[], attributes := #[] }
def k2m4 : Method := { name := "maxMessageSize", desc := "(I)Lcom/example/pochta/pochta/amqp/ConnectionSettings;", sig := { parameters := [.int], returnType := some (.object "com/example/pochta/pochta/amqp/ConnectionSettings") }, accessFlags := 1, code := some k2c4 }
/-- com/example/pochta/pochta/amqp/ConnectionSettings -/
def k2 : Class := { plain "com/example/pochta/pochta/amqp/ConnectionSettings" (some 0) with
  accessFlags := 33
  interfaces := #[]
  cf := some (fileOf pool2 16 #[] #[{ accessFlags := 1, nameIndex := 5, descriptorIndex := 6, attributes := #[] }, { accessFlags := 1, nameIndex := 19, descriptorIndex := 92, attributes := #[] }, { accessFlags := 1, nameIndex := 26, descriptorIndex := 92, attributes := #[] }, { accessFlags := 1, nameIndex := 30, descriptorIndex := 94, attributes := #[] }, { accessFlags := 1, nameIndex := 30, descriptorIndex := 95, attributes := #[] }] 33 2 #[] #[{ accessFlags := 26, nameIndex := 61, descriptorIndex := 20, attributes := #[] }, { accessFlags := 26, nameIndex := 68, descriptorIndex := 20, attributes := #[] }, { accessFlags := 26, nameIndex := 84, descriptorIndex := 31, attributes := #[] }, { accessFlags := 26, nameIndex := 87, descriptorIndex := 31, attributes := #[] }, { accessFlags := 2, nameIndex := 19, descriptorIndex := 20, attributes := #[] }, { accessFlags := 2, nameIndex := 26, descriptorIndex := 20, attributes := #[] }, { accessFlags := 2, nameIndex := 30, descriptorIndex := 31, attributes := #[] }])
  fields := #[{ name := "MIN_TIMEOUT", type := (.object "java/time/Duration"), accessFlags := 26, slot := 0, constantValue := 0 }, { name := "MAX_TIMEOUT", type := (.object "java/time/Duration"), accessFlags := 26, slot := 1, constantValue := 0 }, { name := "MIN_MESSAGE_SIZE", type := .int, accessFlags := 26, slot := 2, constantValue := 0 }, { name := "MAX_MESSAGE_SIZE", type := .int, accessFlags := 26, slot := 3, constantValue := 0 }, { name := "openTimeout", type := (.object "java/time/Duration"), accessFlags := 2, slot := 0, constantValue := 0 }, { name := "idleTimeout", type := (.object "java/time/Duration"), accessFlags := 2, slot := 1, constantValue := 0 }, { name := "maxMessageSize", type := .int, accessFlags := 2, slot := 2, constantValue := 0 }]
  methods := #[k2m0, k2m1, k2m2, k2m3, k2m4]
  instanceTypes := #[(.object "java/time/Duration"), (.object "java/time/Duration"), .int]
  staticTypes := #[(.object "java/time/Duration"), (.object "java/time/Duration"), .int, .int]
  resolved := Array.replicate 117 none
  statics := none }

def pool3 : Array CpInfo := pool [(1, .class_ 2), (0, u "java/time/temporal/TemporalAmount"), (0, .class_ 4), (0, u "java/lang/Object")] 11

/-- java/time/temporal/TemporalAmount -/
def k3 : Class := { plain "java/time/temporal/TemporalAmount" (some 0) with
  accessFlags := 1537
  interfaces := #[]
  cf := some (fileOf pool3 1 #[] #[] 1537 3 #[] #[])
  fields := #[]
  methods := #[]
  instanceTypes := #[]
  staticTypes := #[]
  resolved := Array.replicate 16 none
  statics := none }

def pool4 : Array CpInfo := pool [(1, .class_ 2), (0, u "java/lang/Comparable"), (0, .class_ 4), (0, u "java/lang/Object")] 7

/-- java/lang/Comparable -/
def k4 : Class := { plain "java/lang/Comparable" (some 0) with
  accessFlags := 1537
  interfaces := #[]
  cf := some (fileOf pool4 1 #[] #[] 1537 3 #[] #[])
  fields := #[]
  methods := #[]
  instanceTypes := #[]
  staticTypes := #[]
  resolved := Array.replicate 12 none
  statics := none }

def pool5 : Array CpInfo := pool [(1, .class_ 2), (0, u "java/io/Serializable"), (0, .class_ 4), (0, u "java/lang/Object")] 2

/-- java/io/Serializable -/
def k5 : Class := { plain "java/io/Serializable" (some 0) with
  accessFlags := 1537
  interfaces := #[]
  cf := some (fileOf pool5 1 #[] #[] 1537 3 #[] #[])
  fields := #[]
  methods := #[]
  instanceTypes := #[]
  staticTypes := #[]
  resolved := Array.replicate 7 none
  statics := none }

def pool6 : Array CpInfo := pool [(4, .methodref 5 6), (0, .class_ 7), (0, .nameAndType 8 9), (0, u "java/lang/Math"), (0, u "multiplyExact"), (0, u "(JI)J"), (0, .methodref 11 12), (0, .class_ 13), (0, .nameAndType 14 15), (0, u "java/time/Duration"), (0, u "create"), (0, u "(JI)Ljava/time/Duration;"), (18, u "ZERO"), (0, u "Ljava/time/Duration;"), (13, .class_ 51), (1, u "java/time/temporal/TemporalAmount"), (27, .class_ 81), (1, u "java/time/Duration$Lazy"), (35, u "seconds"), (21, u "<init>"), (17, .nameAndType 139 158), (0, u "()V"), (19, u "ofSeconds"), (20, u "(J)Ljava/time/Duration;"), (15, .methodref 11 216), (0, .nameAndType 139 217), (0, u "(JI)V"), (0, .methodref 219 157), (0, .class_ 220), (0, u "java/lang/Object"), (0, .fieldref 11 222), (0, .nameAndType 117 223), (0, u "J"), (0, .fieldref 11 225), (0, .nameAndType 226 227), (0, u "nanos"), (0, u "I"), (11, .class_ 241), (1, u "java/time/Duration$DurationUnits"), (27, .class_ 271), (1, u "java/time/Duration$1"), (91, u "BI_NANOS_PER_SECOND"), (0, u "Ljava/math/BigInteger;"), (120, .class_ 486), (0, u "java/lang/Comparable"), (0, .class_ 488), (0, u "java/io/Serializable"), (0, u "serialVersionUID"), (8, u "ofMinutes")] 157

def k6c0 : Code := { maxStack := 3, maxLocals := 2, code := jdk_2316_method_3_code, exceptionTable := #[], attributes := #[] }
def k6m0 : Method := { name := "ofMinutes", desc := "(J)Ljava/time/Duration;", sig := { parameters := [.long], returnType := some (.object "java/time/Duration") }, accessFlags := 9, code := some k6c0 }
def k6c1 : Code := { maxStack := 3, maxLocals := 2, code := jdk_2316_method_4_code, exceptionTable := #[], attributes := #[] }
def k6m1 : Method := { name := "ofSeconds", desc := "(J)Ljava/time/Duration;", sig := { parameters := [.long], returnType := some (.object "java/time/Duration") }, accessFlags := 9, code := some k6c1 }
def k6c2 : Code := { maxStack := 5, maxLocals := 3, code := jdk_2316_method_16_code, exceptionTable := #[], attributes := #[] }
def k6m2 : Method := { name := "create", desc := "(JI)Ljava/time/Duration;", sig := { parameters := [.long, .int], returnType := some (.object "java/time/Duration") }, accessFlags := 10, code := some k6c2 }
def k6c3 : Code := { maxStack := 3, maxLocals := 4, code := jdk_2316_method_17_code, exceptionTable := #[], attributes := #[] }
def k6m3 : Method := { name := "<init>", desc := "(JI)V", sig := { parameters := [.long, .int], returnType := none }, accessFlags := 2, code := some k6c3 }
/-- java/time/Duration -/
def k6 : Class := { plain "java/time/Duration" (some 0) with
  accessFlags := 49
  interfaces := #[3, 4, 5]
  cf := some (fileOf pool6 11 #[.nestMembers #[269, 239, 79]] #[{ accessFlags := 9, nameIndex := 498, descriptorIndex := 199, attributes := #[] }, { accessFlags := 9, nameIndex := 178, descriptorIndex := 199, attributes := #[] }, { accessFlags := 10, nameIndex := 14, descriptorIndex := 15, attributes := #[] }, { accessFlags := 2, nameIndex := 139, descriptorIndex := 217, attributes := #[] }] 49 219 #[49, 485, 487] #[{ accessFlags := 25, nameIndex := 34, descriptorIndex := 35, attributes := #[] }, { accessFlags := 26, nameIndex := 489, descriptorIndex := 223, attributes := #[] }, { accessFlags := 26, nameIndex := 363, descriptorIndex := 364, attributes := #[] }, { accessFlags := 18, nameIndex := 117, descriptorIndex := 223, attributes := #[] }, { accessFlags := 18, nameIndex := 226, descriptorIndex := 227, attributes := #[] }])
  fields := #[{ name := "ZERO", type := (.object "java/time/Duration"), accessFlags := 25, slot := 0, constantValue := 0 }, { name := "serialVersionUID", type := .long, accessFlags := 26, slot := 1, constantValue := 0 }, { name := "BI_NANOS_PER_SECOND", type := (.object "java/math/BigInteger"), accessFlags := 26, slot := 2, constantValue := 0 }, { name := "seconds", type := .long, accessFlags := 18, slot := 0, constantValue := 0 }, { name := "nanos", type := .int, accessFlags := 18, slot := 1, constantValue := 0 }]
  methods := #[k6m0, k6m1, k6m2, k6m3]
  instanceTypes := #[.long, .int]
  staticTypes := #[(.object "java/time/Duration"), .long, (.object "java/math/BigInteger")]
  resolved := Array.replicate 656 none
  statics := none }

def pool7 : Array CpInfo := pool [(1, .class_ 2), (0, u "java/lang/Math"), (1, .class_ 6), (1, u "java/lang/Object"), (0, u "<init>"), (0, u "()V"), (89, .class_ 100), (1, u "java/lang/Math$RandomNumberGeneratorHolder"), (17, .methodref 1 119), (0, .nameAndType 120 121), (0, u "multiplyExact"), (0, u "(JJ)J"), (0, .methodref 1 123), (0, .nameAndType 124 125), (0, u "abs"), (0, u "(J)J"), (46, u "negativeZeroFloatBits"), (0, u "J"), (2, u "negativeZeroDoubleBits"), (68, u "$assertionsDisabled"), (0, u "Z"), (91, u "twoToTheDoubleScaleDown"), (0, u "D"), (4, u "twoToTheDoubleScaleUp"), (9, u "E"), (3, u "PI"), (2, u "TAU"), (2, u "DEGREES_TO_RADIANS"), (0, u "RADIANS_TO_DEGREES"), (29, u "(JI)J")] 64

def k7m0 : Method := { name := "<init>", desc := "()V", sig := { parameters := [], returnType := none }, accessFlags := 2, code := none }
def k7c1 : Code := { maxStack := 4, maxLocals := 3, code := jdk_29_method_29_code, exceptionTable := #[], attributes := #[] }
def k7m1 : Method := { name := "multiplyExact", desc := "(JI)J", sig := { parameters := [.long, .int], returnType := some .long }, accessFlags := 9, code := some k7c1 }
def k7c2 : Code := { maxStack := 4, maxLocals := 10, code := jdk_29_method_30_code, exceptionTable := #[], attributes := #[] }
def k7m2 : Method := { name := "multiplyExact", desc := "(JJ)J", sig := { parameters := [.long, .long], returnType := some .long }, accessFlags := 9, code := some k7c2 }
def k7c3 : Code := { maxStack := 4, maxLocals := 2, code := jdk_29_method_61_code, exceptionTable := #[], attributes := #[] }
def k7m3 : Method := { name := "abs", desc := "(J)J", sig := { parameters := [.long], returnType := some .long }, accessFlags := 9, code := some k7c3 }
/-- java/lang/Math -/
def k7 : Class := { plain "java/lang/Math" (some 0) with
  accessFlags := 49
  interfaces := #[]
  cf := some (fileOf pool7 1 #[.nestMembers #[98]] #[{ accessFlags := 2, nameIndex := 7, descriptorIndex := 8, attributes := #[] }, { accessFlags := 9, nameIndex := 120, descriptorIndex := 395, attributes := #[] }, { accessFlags := 9, nameIndex := 120, descriptorIndex := 121, attributes := #[] }, { accessFlags := 9, nameIndex := 124, descriptorIndex := 125, attributes := #[] }] 49 4 #[] #[{ accessFlags := 25, nameIndex := 354, descriptorIndex := 339, attributes := #[] }, { accessFlags := 25, nameIndex := 358, descriptorIndex := 339, attributes := #[] }, { accessFlags := 25, nameIndex := 361, descriptorIndex := 339, attributes := #[] }, { accessFlags := 26, nameIndex := 364, descriptorIndex := 339, attributes := #[] }, { accessFlags := 26, nameIndex := 365, descriptorIndex := 339, attributes := #[] }, { accessFlags := 26, nameIndex := 172, descriptorIndex := 173, attributes := #[] }, { accessFlags := 26, nameIndex := 176, descriptorIndex := 173, attributes := #[] }, { accessFlags := 8, nameIndex := 344, descriptorIndex := 339, attributes := #[] }, { accessFlags := 8, nameIndex := 338, descriptorIndex := 339, attributes := #[] }, { accessFlags := 4120, nameIndex := 245, descriptorIndex := 246, attributes := #[] }])
  fields := #[{ name := "E", type := .double, accessFlags := 25, slot := 0, constantValue := 0 }, { name := "PI", type := .double, accessFlags := 25, slot := 1, constantValue := 0 }, { name := "TAU", type := .double, accessFlags := 25, slot := 2, constantValue := 0 }, { name := "DEGREES_TO_RADIANS", type := .double, accessFlags := 26, slot := 3, constantValue := 0 }, { name := "RADIANS_TO_DEGREES", type := .double, accessFlags := 26, slot := 4, constantValue := 0 }, { name := "negativeZeroFloatBits", type := .long, accessFlags := 26, slot := 5, constantValue := 0 }, { name := "negativeZeroDoubleBits", type := .long, accessFlags := 26, slot := 6, constantValue := 0 }, { name := "twoToTheDoubleScaleUp", type := .double, accessFlags := 8, slot := 7, constantValue := 0 }, { name := "twoToTheDoubleScaleDown", type := .double, accessFlags := 8, slot := 8, constantValue := 0 }, { name := "$assertionsDisabled", type := .boolean, accessFlags := 4120, slot := 9, constantValue := 0 }]
  methods := #[k7m0, k7m1, k7m2, k7m3]
  instanceTypes := #[]
  staticTypes := #[.double, .double, .double, .double, .double, .long, .long, .double, .double, .boolean]
  resolved := Array.replicate 460 none
  statics := none }

def pool8 : Array CpInfo := pool [(1, u "java/lang/Cloneable"), (0, .class_ 1), (0, u "java/lang/Object"), (0, .class_ 3)] 3

/-- java/lang/Cloneable -/
def k8 : Class := { plain "java/lang/Cloneable" (some 0) with
  accessFlags := 1537
  interfaces := #[]
  cf := some (fileOf pool8 2 #[] #[] 1537 4 #[] #[])
  fields := #[]
  methods := #[]
  instanceTypes := #[]
  staticTypes := #[]
  resolved := Array.replicate 8 none
  statics := none }

/-- the primitive byte -/
def k9 : Class := { plain "byte" none with kind := .primitive 'B', accessFlags := 0x411 }
/-- [B -/
def k10 : Class := { plain "[B" (some 0) with kind := .array 9 .byte, interfaces := #[8, 5], accessFlags := 1041 }

def heap : Heap := #[]
def classes : Array Class := #[k0, k1, k2, k3, k4, k5, k6, k7, k8, k9, k10]
def interned : List (Array UInt16 × Addr) := []
def slotsUsed : Nat := 0
def theMethod : MethodId := ⟨1, 2⟩
def args0 : Array Value := #[.int 5, .int 6, .int 7, .int 8]
def aboutOver (below : List Frame) : State where
  vm := { classes := classes, interned := interned.toArray }
  heap := heap
  slotsUsed := slotsUsed
  threads := #[{ frames := .invoking theMethod args0 :: below }]
def below0 : List Frame := [.native { method := ⟨0, 0⟩, args := #[] }]
def about1 : State := aboutOver below0
def p0 : Program := .bare "" "" ""
def e0 : Env := launch0.env 0 0 0
theorem w_frames : about1.frames = Frame.invoking theMethod args0 :: below0 := rfl
set_option maxRecDepth 65536 in
theorem w_args : argsFit about1.vm theMethod args0 = true := by decide +kernel
set_option maxRecDepth 65536 in
theorem w_heap : heapFits about1 = true := by decide +kernel
set_option maxRecDepth 65536 in
theorem w_runnable : about1.curStatus? = some .runnable := by decide +kernel
set_option maxRecDepth 65536 in
theorem w_alone : about1.alone = true := by decide +kernel
set_option maxRecDepth 65536 in
theorem w_named : about1.methodNamed? x = some theMethod := by decide +kernel
set_option maxRecDepth 65536 in
theorem w_hears : about1.hears theMethod below0 = true := by decide +kernel
set_option maxRecDepth 65536 in
theorem w_ripe : about1.ripe theMethod args0 below0 = true := by decide +kernel
theorem w_running : about1.status = .running := rfl
set_option maxRecDepth 65536 in
theorem w_room : about1.hasRoom e0.platform room_1 = true :=
  launch0.hasRoom_least _ room_1 (by decide +kernel) (by decide +kernel) (by decide +kernel) (by decide +kernel) (by decide +kernel) (by decide +kernel)
theorem allAtoms_all (ts : List Jvm.Cond) (a : Array Jvm.Value) (st : Jvm.State) : (allAtoms ts).before a st = ts.all (fun c => c.before a st) := by
  induction ts with
  | nil => rfl
  | cons c t ih =>
    show (Jvm.Cond.and c (allAtoms t)).before a st = _
    rw [Jvm.Cond.before_and, ih, List.all_cons]
def words1 : List Jvm.Cond := Jvm.Cond.code x code maxLocals ret :: tables_1
/-- a 'code' word, met by the world's own term for the bytes: nothing is compared byte by byte -/
theorem code_word {y : MethodName} {bytes : ByteArray} {mx : Nat} {rt : Option FieldType} {a : Array Value} {s : State} {m : MethodId} {meth : Method} {c : Code} (h1 : s.methodNamed? y = some m) (h2 : s.vm.method? m = some meth) (h3 : meth.code = some c) (h4 : c.code = bytes)
    (h5 : (c.maxLocals == mx && c.exceptionTable.isEmpty && decide (c.maxStack ≤ mostOperands) && decide (meth.sig.returnType = rt) && !meth.locks && decide (parseMethodDescriptor y.desc = some meth.sig)) = true) : (Jvm.Cond.code y bytes mx rt).before a s = true := by
  simp only [Bool.and_eq_true, beq_iff_eq, Bool.not_eq_true', decide_eq_true_eq] at h5
  obtain ⟨⟨⟨⟨⟨g1, g2⟩, g3⟩, g4⟩, g5⟩, g6⟩ := h5
  simp [Cond.before, Cond.holds, Cond.value, h1, h2, h3, h4, g1, g2, g3, g4, g5, g6]
def isCode : Jvm.Cond → Bool
  | .code _ _ _ _ => true
  | _ => false
theorem all_split {L : List Jvm.Cond} {P : Jvm.Cond → Bool} (h1 : L.all (fun c => isCode c || P c) = true) (h2 : ∀ c ∈ L.filter isCode, P c = true) : L.all P = true := by
  refine List.all_eq_true.mpr fun c hc => ?_
  have h := List.all_eq_true.mp h1 c hc
  rcases Bool.eq_false_or_eq_true (isCode c) with hi | hi
  · exact h2 c (List.mem_filter.mpr ⟨hc, hi⟩)
  · simpa [hi] using h
set_option maxRecDepth 65536 in
theorem w_c0 : (Jvm.Cond.code x code maxLocals ret).before args0 about1 = true := code_word (m := ⟨1, 2⟩) (meth := k1m2) (c := k1c2) (by decide +kernel) rfl rfl rfl (by decide +kernel)
set_option maxRecDepth 65536 in
theorem w_c1 : (Jvm.Cond.code ({ cls := "com/example/pochta/pochta/amqp/ConnectionSettingsMaxMessageSizePinLaw", name := "size", desc := "(II)I" } : Jvm.MethodName) method_2_code (3 : Nat) (Option.some Jvm.ClassFile.FieldType.int)).before args0 about1 = true := code_word (m := ⟨1, 1⟩) (meth := k1m1) (c := k1c1) (by decide +kernel) rfl rfl rfl (by decide +kernel)
set_option maxRecDepth 65536 in
theorem w_c2 : (Jvm.Cond.code ({ cls := "com/example/pochta/pochta/amqp/ConnectionSettings", name := "<init>", desc := "()V" } : Jvm.MethodName) prog_2_method_1_code (1 : Nat) (Option.none : Option Jvm.ClassFile.FieldType)).before args0 about1 = true := code_word (m := ⟨2, 0⟩) (meth := k2m0) (c := k2c0) (by decide +kernel) rfl rfl rfl (by decide +kernel)
set_option maxRecDepth 65536 in
theorem w_c3 : (Jvm.Cond.code ({ cls := "java/lang/Object", name := "<init>", desc := "()V" } : Jvm.MethodName) object_method_1_code (1 : Nat) (Option.none : Option Jvm.ClassFile.FieldType)).before args0 about1 = true := code_word (m := ⟨0, 0⟩) (meth := k0m0) (c := k0c0) (by decide +kernel) rfl rfl rfl (by decide +kernel)
set_option maxRecDepth 65536 in
theorem w_c4 : (Jvm.Cond.code ({ cls := "java/time/Duration", name := "ofSeconds", desc := "(J)Ljava/time/Duration;" } : Jvm.MethodName) jdk_2316_method_4_code (2 : Nat) (Option.some (Jvm.ClassFile.FieldType.object "java/time/Duration"))).before args0 about1 = true := code_word (m := ⟨6, 1⟩) (meth := k6m1) (c := k6c1) (by decide +kernel) rfl rfl rfl (by decide +kernel)
set_option maxRecDepth 65536 in
theorem w_c5 : (Jvm.Cond.code ({ cls := "java/time/Duration", name := "create", desc := "(JI)Ljava/time/Duration;" } : Jvm.MethodName) jdk_2316_method_16_code (3 : Nat) (Option.some (Jvm.ClassFile.FieldType.object "java/time/Duration"))).before args0 about1 = true := code_word (m := ⟨6, 2⟩) (meth := k6m2) (c := k6c2) (by decide +kernel) rfl rfl rfl (by decide +kernel)
set_option maxRecDepth 65536 in
theorem w_c6 : (Jvm.Cond.code ({ cls := "java/time/Duration", name := "<init>", desc := "(JI)V" } : Jvm.MethodName) jdk_2316_method_17_code (4 : Nat) (Option.none : Option Jvm.ClassFile.FieldType)).before args0 about1 = true := code_word (m := ⟨6, 3⟩) (meth := k6m3) (c := k6c3) (by decide +kernel) rfl rfl rfl (by decide +kernel)
set_option maxRecDepth 65536 in
theorem w_c7 : (Jvm.Cond.code ({ cls := "java/time/Duration", name := "ofMinutes", desc := "(J)Ljava/time/Duration;" } : Jvm.MethodName) jdk_2316_method_3_code (2 : Nat) (Option.some (Jvm.ClassFile.FieldType.object "java/time/Duration"))).before args0 about1 = true := code_word (m := ⟨6, 0⟩) (meth := k6m0) (c := k6c0) (by decide +kernel) rfl rfl rfl (by decide +kernel)
set_option maxRecDepth 65536 in
theorem w_c8 : (Jvm.Cond.code ({ cls := "java/lang/Math", name := "multiplyExact", desc := "(JI)J" } : Jvm.MethodName) jdk_29_method_29_code (3 : Nat) (Option.some Jvm.ClassFile.FieldType.long)).before args0 about1 = true := code_word (m := ⟨7, 1⟩) (meth := k7m1) (c := k7c1) (by decide +kernel) rfl rfl rfl (by decide +kernel)
set_option maxRecDepth 65536 in
theorem w_c9 : (Jvm.Cond.code ({ cls := "java/lang/Math", name := "multiplyExact", desc := "(JJ)J" } : Jvm.MethodName) jdk_29_method_30_code (10 : Nat) (Option.some Jvm.ClassFile.FieldType.long)).before args0 about1 = true := code_word (m := ⟨7, 2⟩) (meth := k7m2) (c := k7c2) (by decide +kernel) rfl rfl rfl (by decide +kernel)
set_option maxRecDepth 65536 in
theorem w_c10 : (Jvm.Cond.code ({ cls := "java/lang/Math", name := "abs", desc := "(J)J" } : Jvm.MethodName) jdk_29_method_61_code (2 : Nat) (Option.some Jvm.ClassFile.FieldType.long)).before args0 about1 = true := code_word (m := ⟨7, 3⟩) (meth := k7m3) (c := k7c3) (by decide +kernel) rfl rfl rfl (by decide +kernel)
set_option maxRecDepth 65536 in
theorem w_c11 : (Jvm.Cond.code ({ cls := "com/example/pochta/pochta/amqp/ConnectionSettings", name := "openTimeout", desc := "()Ljava/time/Duration;" } : Jvm.MethodName) prog_2_method_3_code (1 : Nat) (Option.some (Jvm.ClassFile.FieldType.object "java/time/Duration"))).before args0 about1 = true := code_word (m := ⟨2, 1⟩) (meth := k2m1) (c := k2c1) (by decide +kernel) rfl rfl rfl (by decide +kernel)
set_option maxRecDepth 65536 in
theorem w_c12 : (Jvm.Cond.code ({ cls := "com/example/pochta/pochta/amqp/ConnectionSettings", name := "idleTimeout", desc := "()Ljava/time/Duration;" } : Jvm.MethodName) prog_2_method_5_code (1 : Nat) (Option.some (Jvm.ClassFile.FieldType.object "java/time/Duration"))).before args0 about1 = true := code_word (m := ⟨2, 2⟩) (meth := k2m2) (c := k2c2) (by decide +kernel) rfl rfl rfl (by decide +kernel)
set_option maxRecDepth 65536 in
theorem w_c13 : (Jvm.Cond.code ({ cls := "com/example/pochta/pochta/amqp/ConnectionSettings", name := "maxMessageSize", desc := "(I)Lcom/example/pochta/pochta/amqp/ConnectionSettings;" } : Jvm.MethodName) prog_2_method_8_code (2 : Nat) (Option.some (Jvm.ClassFile.FieldType.object "com/example/pochta/pochta/amqp/ConnectionSettings"))).before args0 about1 = true := code_word (m := ⟨2, 4⟩) (meth := k2m4) (c := k2c4) (by decide +kernel) rfl rfl rfl (by decide +kernel)
set_option maxRecDepth 65536 in
theorem w_c14 : (Jvm.Cond.code ({ cls := "com/example/pochta/pochta/amqp/ConnectionSettings", name := "maxMessageSize", desc := "()I" } : Jvm.MethodName) prog_2_method_7_code (1 : Nat) (Option.some Jvm.ClassFile.FieldType.int)).before args0 about1 = true := code_word (m := ⟨2, 3⟩) (meth := k2m3) (c := k2c3) (by decide +kernel) rfl rfl rfl (by decide +kernel)
def codes1 : List Jvm.Cond := [Jvm.Cond.code x code maxLocals ret, Jvm.Cond.code ({ cls := "com/example/pochta/pochta/amqp/ConnectionSettingsMaxMessageSizePinLaw", name := "size", desc := "(II)I" } : Jvm.MethodName) method_2_code (3 : Nat) (Option.some Jvm.ClassFile.FieldType.int), Jvm.Cond.code ({ cls := "com/example/pochta/pochta/amqp/ConnectionSettings", name := "<init>", desc := "()V" } : Jvm.MethodName) prog_2_method_1_code (1 : Nat) (Option.none : Option Jvm.ClassFile.FieldType), Jvm.Cond.code ({ cls := "java/lang/Object", name := "<init>", desc := "()V" } : Jvm.MethodName) object_method_1_code (1 : Nat) (Option.none : Option Jvm.ClassFile.FieldType), Jvm.Cond.code ({ cls := "java/time/Duration", name := "ofSeconds", desc := "(J)Ljava/time/Duration;" } : Jvm.MethodName) jdk_2316_method_4_code (2 : Nat) (Option.some (Jvm.ClassFile.FieldType.object "java/time/Duration")), Jvm.Cond.code ({ cls := "java/time/Duration", name := "create", desc := "(JI)Ljava/time/Duration;" } : Jvm.MethodName) jdk_2316_method_16_code (3 : Nat) (Option.some (Jvm.ClassFile.FieldType.object "java/time/Duration")), Jvm.Cond.code ({ cls := "java/time/Duration", name := "<init>", desc := "(JI)V" } : Jvm.MethodName) jdk_2316_method_17_code (4 : Nat) (Option.none : Option Jvm.ClassFile.FieldType), Jvm.Cond.code ({ cls := "java/time/Duration", name := "ofMinutes", desc := "(J)Ljava/time/Duration;" } : Jvm.MethodName) jdk_2316_method_3_code (2 : Nat) (Option.some (Jvm.ClassFile.FieldType.object "java/time/Duration")), Jvm.Cond.code ({ cls := "java/lang/Math", name := "multiplyExact", desc := "(JI)J" } : Jvm.MethodName) jdk_29_method_29_code (3 : Nat) (Option.some Jvm.ClassFile.FieldType.long), Jvm.Cond.code ({ cls := "java/lang/Math", name := "multiplyExact", desc := "(JJ)J" } : Jvm.MethodName) jdk_29_method_30_code (10 : Nat) (Option.some Jvm.ClassFile.FieldType.long), Jvm.Cond.code ({ cls := "java/lang/Math", name := "abs", desc := "(J)J" } : Jvm.MethodName) jdk_29_method_61_code (2 : Nat) (Option.some Jvm.ClassFile.FieldType.long), Jvm.Cond.code ({ cls := "com/example/pochta/pochta/amqp/ConnectionSettings", name := "openTimeout", desc := "()Ljava/time/Duration;" } : Jvm.MethodName) prog_2_method_3_code (1 : Nat) (Option.some (Jvm.ClassFile.FieldType.object "java/time/Duration")), Jvm.Cond.code ({ cls := "com/example/pochta/pochta/amqp/ConnectionSettings", name := "idleTimeout", desc := "()Ljava/time/Duration;" } : Jvm.MethodName) prog_2_method_5_code (1 : Nat) (Option.some (Jvm.ClassFile.FieldType.object "java/time/Duration")), Jvm.Cond.code ({ cls := "com/example/pochta/pochta/amqp/ConnectionSettings", name := "maxMessageSize", desc := "(I)Lcom/example/pochta/pochta/amqp/ConnectionSettings;" } : Jvm.MethodName) prog_2_method_8_code (2 : Nat) (Option.some (Jvm.ClassFile.FieldType.object "com/example/pochta/pochta/amqp/ConnectionSettings")), Jvm.Cond.code ({ cls := "com/example/pochta/pochta/amqp/ConnectionSettings", name := "maxMessageSize", desc := "()I" } : Jvm.MethodName) prog_2_method_7_code (1 : Nat) (Option.some Jvm.ClassFile.FieldType.int)]
set_option maxRecDepth 65536 in
theorem codes_eq : words1.filter isCode = codes1 := rfl
theorem w_codes : ∀ c ∈ words1.filter isCode, c.before args0 about1 = true := by
  rw [codes_eq]
  intro c hc
  simp only [codes1, List.mem_cons, List.not_mem_nil, or_false] at hc
  rcases hc with rfl | rfl | rfl | rfl | rfl | rfl | rfl | rfl | rfl | rfl | rfl | rfl | rfl | rfl | rfl
  · exact w_c0
  · exact w_c1
  · exact w_c2
  · exact w_c3
  · exact w_c4
  · exact w_c5
  · exact w_c6
  · exact w_c7
  · exact w_c8
  · exact w_c9
  · exact w_c10
  · exact w_c11
  · exact w_c12
  · exact w_c13
  · exact w_c14
set_option maxRecDepth 65536 in
theorem w_t1 : (words1.take 24).all (fun c => isCode c || c.before args0 about1) = true := by decide +kernel
set_option maxRecDepth 65536 in
theorem w_t2 : ((words1.drop 24).take 24).all (fun c => isCode c || c.before args0 about1) = true := by decide +kernel
set_option maxRecDepth 65536 in
theorem w_t3 : (((words1.drop 24).drop 24).take 24).all (fun c => isCode c || c.before args0 about1) = true := by decide +kernel
set_option maxRecDepth 65536 in
theorem w_t4 : (((words1.drop 24).drop 24).drop 24).all (fun c => isCode c || c.before args0 about1) = true := by decide +kernel
theorem w_tables : (allAtoms (Jvm.Cond.code x code maxLocals ret :: tables_1)).before args0 about1 = true := by
  rw [allAtoms_all]
  show words1.all (fun c => c.before args0 about1) = true
  refine all_split ?_ w_codes
  rw [← List.take_append_drop 24 words1, List.all_append, w_t1, ← List.take_append_drop 24 (words1.drop 24), List.all_append, w_t2, ← List.take_append_drop 24 ((words1.drop 24).drop 24), List.all_append, w_t3, w_t4]
  rfl
set_option maxRecDepth 65536 in
theorem w_case : (Jvm.Cond.and given_1 narrow_1).before args0 about1 = true := by decide +kernel
theorem w_applies : (headSpec (Jvm.Cond.code x code maxLocals ret :: tables_1) room_1).applies x e0.platform about1 = true :=
  (Spec.applies_iff w_frames).mpr ⟨w_running, w_runnable, w_alone, w_named, w_hears, w_ripe, w_room, w_tables⟩
theorem atStart : AtStart classFile x code maxLocals ret World_1 tables_1 room_1 Calls_1 rest_1 Pre_1 launch0 p0 e0 about1 theMethod args0 below0 :=
  ⟨lists_1, trivial, launch0.admits_env _ _ _, launch0.least_env, fairChoices_fair.cas, fairChoices_fair.clock, w_frames, w_args, w_heap, w_applies, trivial, trivial, w_case⟩
end start1
theorem witness_1 : WitnessClaimed_1 := ⟨start1.p0, start1.e0, start1.about1, start1.theMethod, start1.args0, start1.below0, start1.atStart⟩
end Jvm.Pilot.@@N@@
