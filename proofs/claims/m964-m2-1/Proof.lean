import JvmDerived
import JvmDerived.Pilot.@@N@@Statement
import JvmDerived.Pilot.@@N@@Code
set_option linter.unusedVariables false
set_option linter.unusedSimpArgs false
@@BLOCK:NumsL.lean.txt@@
namespace Jvm.RoadKit
open Sem ClassFile Op Lib Jvm.Stand Jvm.Free Jvm.LawKit
section New
variable {p : Program} {l : Launch} {e : Env} {R : Room} {s : State} {m : MethodId} {args : Array Value} {below : List Frame} {meth : Method} {c : Code} {T : State} {locs : List Loc} {cells slots : Nat}
theorem retI (X : Stand p l e R s m args below meth c T locs cells slots) (hx : p.tables.exec = Jvm.exec) {pc : Nat} {Ls : Array Slot} {z : Int32} {rest : List Value} (hret : meth.sig.returnType = some .int) (hd : decode c.code pc = .ok (.ireturn, 1)) {fs : List Frame}
    (hl : ∀ (f : JFrame) (acts : List Action), f.method = m → f.locked = none → f.entered = [] → (doReturn e (T.setTop f) acts (some (.int z))).1 = T.setFrames fs) : Steps p.tables e below (T.setTop (mkF m pc Ls (.int z :: rest))) (T.setFrames fs) := by
  have hm' : T.vm.method? m = some meth := X.method'
  have hn : narrow .int (.int z) = .int z := rfl
  show Steps p.tables e below (T.setTop { method := m, pc := pc, locals := Ls, stack := _ :: rest, locked := none }) _
  jvm_step X.here [X.here.top, hx, hd, hm', hret, hn]
  first | (intro acts; rw [hl _ acts rfl rfl rfl]) | rw [hl _ _ rfl rfl rfl]
  exact Steps.refl _
end New
end Jvm.RoadKit
namespace Jvm.Pilot.@@N@@
open Jvm Jvm.ClassFile Sem Op Lib Jvm.Free Jvm.Stand Jvm.LawKit Jvm.RoadKit Bundle Jvm.Pilot.@@N@@.Jvm.D
def fMix (q : Int64) : Int64 := (((((q ^^^ ((q.toUInt64 >>> ((30 : Int32) &&& 0x3f).toInt64.toUInt64).toInt64)) * (-4658895280553007687 : Int64)) ^^^ ((((q ^^^ ((q.toUInt64 >>> ((30 : Int32) &&& 0x3f).toInt64.toUInt64).toInt64)) * (-4658895280553007687 : Int64)).toUInt64 >>> ((27 : Int32) &&& 0x3f).toInt64.toUInt64).toInt64)) * (-7723592293110705685 : Int64)) ^^^ ((((((q ^^^ ((q.toUInt64 >>> ((30 : Int32) &&& 0x3f).toInt64.toUInt64).toInt64)) * (-4658895280553007687 : Int64)) ^^^ ((((q ^^^ ((q.toUInt64 >>> ((30 : Int32) &&& 0x3f).toInt64.toUInt64).toInt64)) * (-4658895280553007687 : Int64)).toUInt64 >>> ((27 : Int32) &&& 0x3f).toInt64.toUInt64).toInt64)) * (-7723592293110705685 : Int64)).toUInt64 >>> ((31 : Int32) &&& 0x3f).toInt64.toUInt64).toInt64))
def Q_rmM (q : Int64) (h0 : Heap) (n0 : Nat) (v : Option Value) (h : Heap) (L : List Loc) : Prop := v = some (.long (fMix q)) ∧ Fr n0 L ∧ h = h0
theorem pn_0 : plainName "com/example/haversack/haversack/evaluation/Seeds" = true := by first | (simp [plainName, overriddenIn]; done) | decide +kernel
theorem ef_rmM (m : MethodId) (x0 : Int64) : entryFrame m #[(.long x0)] 4 = mkF m 0 #[.val (.long x0), .second, .unset, .unset] [] := by first | (simp [entryFrame, mkF, argsToLocals, Value.category]; done) | rfl
theorem d2_0 : decode prog_82_method_3_code 0 = .ok (.lload_n 0, 1) := by decide +kernel
theorem d2_1 : decode prog_82_method_3_code 1 = .ok (.lload_n 0, 1) := by decide +kernel
theorem d2_2 : decode prog_82_method_3_code 2 = .ok (.bipush 30, 2) := by decide +kernel
theorem d2_4 : decode prog_82_method_3_code 4 = .ok (.lushr, 1) := by decide +kernel
theorem d2_5 : decode prog_82_method_3_code 5 = .ok (.lxor, 1) := by decide +kernel
theorem d2_6 : decode prog_82_method_3_code 6 = .ok (.ldc2_w 13, 3) := by decide +kernel
theorem d2_9 : decode prog_82_method_3_code 9 = .ok (.lmul, 1) := by decide +kernel
theorem d2_10 : decode prog_82_method_3_code 10 = .ok (.lstore_n 2, 1) := by decide +kernel
theorem d2_11 : decode prog_82_method_3_code 11 = .ok (.lload_n 2, 1) := by decide +kernel
theorem d2_12 : decode prog_82_method_3_code 12 = .ok (.lload_n 2, 1) := by decide +kernel
theorem d2_13 : decode prog_82_method_3_code 13 = .ok (.bipush 27, 2) := by decide +kernel
theorem d2_15 : decode prog_82_method_3_code 15 = .ok (.lushr, 1) := by decide +kernel
theorem d2_16 : decode prog_82_method_3_code 16 = .ok (.lxor, 1) := by decide +kernel
theorem d2_17 : decode prog_82_method_3_code 17 = .ok (.ldc2_w 15, 3) := by decide +kernel
theorem d2_20 : decode prog_82_method_3_code 20 = .ok (.lmul, 1) := by decide +kernel
theorem d2_21 : decode prog_82_method_3_code 21 = .ok (.lstore_n 2, 1) := by decide +kernel
theorem d2_22 : decode prog_82_method_3_code 22 = .ok (.lload_n 2, 1) := by decide +kernel
theorem d2_23 : decode prog_82_method_3_code 23 = .ok (.lload_n 2, 1) := by decide +kernel
theorem d2_24 : decode prog_82_method_3_code 24 = .ok (.bipush 31, 2) := by decide +kernel
theorem d2_26 : decode prog_82_method_3_code 26 = .ok (.lushr, 1) := by decide +kernel
theorem d2_27 : decode prog_82_method_3_code 27 = .ok (.lxor, 1) := by decide +kernel
theorem d2_28 : decode prog_82_method_3_code 28 = .ok (.lreturn, 1) := by decide +kernel
set_option maxRecDepth 65536 in
set_option maxHeartbeats 40000000 in
theorem rmM (l : Launch) (Z : State) (a0 : Array Value) (hw : ∀ d ∈ tables_1, d.before a0 Z = true) (ws : List Jvm.Cond) (q : Int64)  (h0 : Heap) (n0 : Nat) (Z0 : n0 ≤ h0.size)  :
    MetFree l (⟨"com/example/haversack/haversack/evaluation/Seeds", "mix", "(J)J"⟩ : MethodName) (head1 (Jvm.Cond.code (⟨"com/example/haversack/haversack/evaluation/Seeds", "mix", "(J)J"⟩ : MethodName) prog_82_method_3_code 4 (some .long) :: ws) ({ frames := 0, cells := 0, slots := 0, locals := 0 } : Room)) (fun a U => a = #[(.long q)] ∧ Z.Warmed39 U.vm ∧ U.heap = h0) (fun _ _ _ _ _ => True) (fun _ U o U' => ∃ v L, o = .returned v ∧ Q_rmM q h0 n0 v U'.heap L ∧ FrameEnd U o U' L ({ frames := 0, cells := 0, slots := 0, locals := 0 } : Room).cells ({ frames := 0, cells := 0, slots := 0, locals := 0 } : Room).slots) := by
  refine MetFree.of_bodySF (plainFor_of_name pn_0) hisR ?_
  intro p e s m args below meth c s₁ Bd hml0 hP hK
  obtain ⟨rfl, hZ, hh⟩ := hP
  have hx := Bd.exec
  have hby := Bd.bytes
  have hml : c.maxLocals = 4 := hml0
  have hown : s.vm.findClass "com/example/haversack/haversack/evaluation/Seeds" = some m.cls := findClass_of_methodNamed Bd.named
  have hnm := (name_of_methodNamed Bd.named Bd.method).1
  have X0 : Stand p l e ({ frames := 0, cells := 0, slots := 0, locals := 0 } : Room) s m #[(.long q)] below meth c s₁ [] 0 0 := Stand.of_body Bd
  have e0 : s₁.heap = h0 := by rw [← hh, Bd.state]; rfl
  have N0 := Fr.nil n0
  have pre0 : ∀ t, Steps p.tables e below (s₁.setTop (mkF m 0 #[.val (.long q), .second, .unset, .unset] [])) t → Steps p.tables e below (s₁.setTop (entryFrame m #[(.long q)] 4)) t := fun t k => castTop (ef_rmM m q) k
  obtain ⟨fs, hr, hrun, hended, hW, hsame⟩ := X0.leave (v := some (.long (fMix q))) (fun h => by rw [Bd.returns] at h; cases h)
  refine ⟨_, _, pre0 _ ?_, hrun, hended, _, _, rfl, ?_, ⟨_, rfl⟩, hW, hsame.mono (by decide) (by decide)⟩
  · have hq0 : (((((q ^^^ ((q.toUInt64 >>> ((30 : Int32) &&& 0x3f).toInt64.toUInt64).toInt64)) * (-4658895280553007687 : Int64)) ^^^ ((((q ^^^ ((q.toUInt64 >>> ((30 : Int32) &&& 0x3f).toInt64.toUInt64).toInt64)) * (-4658895280553007687 : Int64)).toUInt64 >>> ((27 : Int32) &&& 0x3f).toInt64.toUInt64).toInt64)) * (-7723592293110705685 : Int64)) ^^^ ((((((q ^^^ ((q.toUInt64 >>> ((30 : Int32) &&& 0x3f).toInt64.toUInt64).toInt64)) * (-4658895280553007687 : Int64)) ^^^ ((((q ^^^ ((q.toUInt64 >>> ((30 : Int32) &&& 0x3f).toInt64.toUInt64).toInt64)) * (-4658895280553007687 : Int64)).toUInt64 >>> ((27 : Int32) &&& 0x3f).toInt64.toUInt64).toInt64)) * (-7723592293110705685 : Int64)).toUInt64 >>> ((31 : Int32) &&& 0x3f).toInt64.toUInt64).toInt64)) = fMix q := rfl
    show Steps p.tables e below (s₁.setTop (mkF m 0 #[.val (.long q), .second, .unset, .unset] [])) _
    refine XS.lloadN X0.here hx rfl (hb hby d2_0) rfl ?_
    show Steps p.tables e below (s₁.setTop (mkF m 1 #[.val (.long q), .second, .unset, .unset] [(.long q)])) _
    refine XS.lloadN X0.here hx rfl (hb hby d2_1) rfl ?_
    show Steps p.tables e below (s₁.setTop (mkF m 2 #[.val (.long q), .second, .unset, .unset] [(.long q), (.long q)])) _
    refine XS.bipush X0.here hx rfl (hb hby d2_2) ?_
    show Steps p.tables e below (s₁.setTop (mkF m 4 #[.val (.long q), .second, .unset, .unset] [(.int (30 : Int32)), (.long q), (.long q)])) _
    refine XS.lushr X0.here hx rfl (hb hby d2_4) rfl ?_
    show Steps p.tables e below (s₁.setTop (mkF m 5 #[.val (.long q), .second, .unset, .unset] [(.long ((q.toUInt64 >>> ((30 : Int32) &&& 0x3f).toInt64.toUInt64).toInt64)), (.long q)])) _
    refine XS.lxor X0.here hx rfl (hb hby d2_5) rfl ?_
    show Steps p.tables e below (s₁.setTop (mkF m 6 #[.val (.long q), .second, .unset, .unset] [(.long (q ^^^ ((q.toUInt64 >>> ((30 : Int32) &&& 0x3f).toInt64.toUInt64).toInt64)))])) _
    refine X0.ldc2Long hx hown (mvT hZ (hw _ (List.mem_of_getElem? (i := 8) rfl))) (g := (mkF m 6 #[.val (.long q), .second, .unset, .unset] [(.long (q ^^^ ((q.toUInt64 >>> ((30 : Int32) &&& 0x3f).toInt64.toUInt64).toInt64)))])) rfl (hb hby d2_6) _ ?_
    show Steps p.tables e below (s₁.setTop (mkF m 9 #[.val (.long q), .second, .unset, .unset] [(.long (-4658895280553007687 : Int64)), (.long (q ^^^ ((q.toUInt64 >>> ((30 : Int32) &&& 0x3f).toInt64.toUInt64).toInt64)))])) _
    refine XS.lmul X0.here hx rfl (hb hby d2_9) rfl ?_
    show Steps p.tables e below (s₁.setTop (mkF m 10 #[.val (.long q), .second, .unset, .unset] [(.long ((q ^^^ ((q.toUInt64 >>> ((30 : Int32) &&& 0x3f).toInt64.toUInt64).toInt64)) * (-4658895280553007687 : Int64)))])) _
    refine XS.lstoreN X0.here hx rfl (hb hby d2_10) rfl (l' := #[.val (.long q), .second, .val (.long ((q ^^^ ((q.toUInt64 >>> ((30 : Int32) &&& 0x3f).toInt64.toUInt64).toInt64)) * (-4658895280553007687 : Int64))), .second]) rfl ?_
    show Steps p.tables e below (s₁.setTop (mkF m 11 #[.val (.long q), .second, .val (.long ((q ^^^ ((q.toUInt64 >>> ((30 : Int32) &&& 0x3f).toInt64.toUInt64).toInt64)) * (-4658895280553007687 : Int64))), .second] [])) _
    refine XS.lloadN X0.here hx rfl (hb hby d2_11) rfl ?_
    show Steps p.tables e below (s₁.setTop (mkF m 12 #[.val (.long q), .second, .val (.long ((q ^^^ ((q.toUInt64 >>> ((30 : Int32) &&& 0x3f).toInt64.toUInt64).toInt64)) * (-4658895280553007687 : Int64))), .second] [(.long ((q ^^^ ((q.toUInt64 >>> ((30 : Int32) &&& 0x3f).toInt64.toUInt64).toInt64)) * (-4658895280553007687 : Int64)))])) _
    refine XS.lloadN X0.here hx rfl (hb hby d2_12) rfl ?_
    show Steps p.tables e below (s₁.setTop (mkF m 13 #[.val (.long q), .second, .val (.long ((q ^^^ ((q.toUInt64 >>> ((30 : Int32) &&& 0x3f).toInt64.toUInt64).toInt64)) * (-4658895280553007687 : Int64))), .second] [(.long ((q ^^^ ((q.toUInt64 >>> ((30 : Int32) &&& 0x3f).toInt64.toUInt64).toInt64)) * (-4658895280553007687 : Int64))), (.long ((q ^^^ ((q.toUInt64 >>> ((30 : Int32) &&& 0x3f).toInt64.toUInt64).toInt64)) * (-4658895280553007687 : Int64)))])) _
    refine XS.bipush X0.here hx rfl (hb hby d2_13) ?_
    show Steps p.tables e below (s₁.setTop (mkF m 15 #[.val (.long q), .second, .val (.long ((q ^^^ ((q.toUInt64 >>> ((30 : Int32) &&& 0x3f).toInt64.toUInt64).toInt64)) * (-4658895280553007687 : Int64))), .second] [(.int (27 : Int32)), (.long ((q ^^^ ((q.toUInt64 >>> ((30 : Int32) &&& 0x3f).toInt64.toUInt64).toInt64)) * (-4658895280553007687 : Int64))), (.long ((q ^^^ ((q.toUInt64 >>> ((30 : Int32) &&& 0x3f).toInt64.toUInt64).toInt64)) * (-4658895280553007687 : Int64)))])) _
    refine XS.lushr X0.here hx rfl (hb hby d2_15) rfl ?_
    show Steps p.tables e below (s₁.setTop (mkF m 16 #[.val (.long q), .second, .val (.long ((q ^^^ ((q.toUInt64 >>> ((30 : Int32) &&& 0x3f).toInt64.toUInt64).toInt64)) * (-4658895280553007687 : Int64))), .second] [(.long ((((q ^^^ ((q.toUInt64 >>> ((30 : Int32) &&& 0x3f).toInt64.toUInt64).toInt64)) * (-4658895280553007687 : Int64)).toUInt64 >>> ((27 : Int32) &&& 0x3f).toInt64.toUInt64).toInt64)), (.long ((q ^^^ ((q.toUInt64 >>> ((30 : Int32) &&& 0x3f).toInt64.toUInt64).toInt64)) * (-4658895280553007687 : Int64)))])) _
    refine XS.lxor X0.here hx rfl (hb hby d2_16) rfl ?_
    show Steps p.tables e below (s₁.setTop (mkF m 17 #[.val (.long q), .second, .val (.long ((q ^^^ ((q.toUInt64 >>> ((30 : Int32) &&& 0x3f).toInt64.toUInt64).toInt64)) * (-4658895280553007687 : Int64))), .second] [(.long (((q ^^^ ((q.toUInt64 >>> ((30 : Int32) &&& 0x3f).toInt64.toUInt64).toInt64)) * (-4658895280553007687 : Int64)) ^^^ ((((q ^^^ ((q.toUInt64 >>> ((30 : Int32) &&& 0x3f).toInt64.toUInt64).toInt64)) * (-4658895280553007687 : Int64)).toUInt64 >>> ((27 : Int32) &&& 0x3f).toInt64.toUInt64).toInt64)))])) _
    refine X0.ldc2Long hx hown (mvT hZ (hw _ (List.mem_of_getElem? (i := 9) rfl))) (g := (mkF m 17 #[.val (.long q), .second, .val (.long ((q ^^^ ((q.toUInt64 >>> ((30 : Int32) &&& 0x3f).toInt64.toUInt64).toInt64)) * (-4658895280553007687 : Int64))), .second] [(.long (((q ^^^ ((q.toUInt64 >>> ((30 : Int32) &&& 0x3f).toInt64.toUInt64).toInt64)) * (-4658895280553007687 : Int64)) ^^^ ((((q ^^^ ((q.toUInt64 >>> ((30 : Int32) &&& 0x3f).toInt64.toUInt64).toInt64)) * (-4658895280553007687 : Int64)).toUInt64 >>> ((27 : Int32) &&& 0x3f).toInt64.toUInt64).toInt64)))])) rfl (hb hby d2_17) _ ?_
    show Steps p.tables e below (s₁.setTop (mkF m 20 #[.val (.long q), .second, .val (.long ((q ^^^ ((q.toUInt64 >>> ((30 : Int32) &&& 0x3f).toInt64.toUInt64).toInt64)) * (-4658895280553007687 : Int64))), .second] [(.long (-7723592293110705685 : Int64)), (.long (((q ^^^ ((q.toUInt64 >>> ((30 : Int32) &&& 0x3f).toInt64.toUInt64).toInt64)) * (-4658895280553007687 : Int64)) ^^^ ((((q ^^^ ((q.toUInt64 >>> ((30 : Int32) &&& 0x3f).toInt64.toUInt64).toInt64)) * (-4658895280553007687 : Int64)).toUInt64 >>> ((27 : Int32) &&& 0x3f).toInt64.toUInt64).toInt64)))])) _
    refine XS.lmul X0.here hx rfl (hb hby d2_20) rfl ?_
    show Steps p.tables e below (s₁.setTop (mkF m 21 #[.val (.long q), .second, .val (.long ((q ^^^ ((q.toUInt64 >>> ((30 : Int32) &&& 0x3f).toInt64.toUInt64).toInt64)) * (-4658895280553007687 : Int64))), .second] [(.long ((((q ^^^ ((q.toUInt64 >>> ((30 : Int32) &&& 0x3f).toInt64.toUInt64).toInt64)) * (-4658895280553007687 : Int64)) ^^^ ((((q ^^^ ((q.toUInt64 >>> ((30 : Int32) &&& 0x3f).toInt64.toUInt64).toInt64)) * (-4658895280553007687 : Int64)).toUInt64 >>> ((27 : Int32) &&& 0x3f).toInt64.toUInt64).toInt64)) * (-7723592293110705685 : Int64)))])) _
    refine XS.lstoreN X0.here hx rfl (hb hby d2_21) rfl (l' := #[.val (.long q), .second, .val (.long ((((q ^^^ ((q.toUInt64 >>> ((30 : Int32) &&& 0x3f).toInt64.toUInt64).toInt64)) * (-4658895280553007687 : Int64)) ^^^ ((((q ^^^ ((q.toUInt64 >>> ((30 : Int32) &&& 0x3f).toInt64.toUInt64).toInt64)) * (-4658895280553007687 : Int64)).toUInt64 >>> ((27 : Int32) &&& 0x3f).toInt64.toUInt64).toInt64)) * (-7723592293110705685 : Int64))), .second]) rfl ?_
    show Steps p.tables e below (s₁.setTop (mkF m 22 #[.val (.long q), .second, .val (.long ((((q ^^^ ((q.toUInt64 >>> ((30 : Int32) &&& 0x3f).toInt64.toUInt64).toInt64)) * (-4658895280553007687 : Int64)) ^^^ ((((q ^^^ ((q.toUInt64 >>> ((30 : Int32) &&& 0x3f).toInt64.toUInt64).toInt64)) * (-4658895280553007687 : Int64)).toUInt64 >>> ((27 : Int32) &&& 0x3f).toInt64.toUInt64).toInt64)) * (-7723592293110705685 : Int64))), .second] [])) _
    refine XS.lloadN X0.here hx rfl (hb hby d2_22) rfl ?_
    show Steps p.tables e below (s₁.setTop (mkF m 23 #[.val (.long q), .second, .val (.long ((((q ^^^ ((q.toUInt64 >>> ((30 : Int32) &&& 0x3f).toInt64.toUInt64).toInt64)) * (-4658895280553007687 : Int64)) ^^^ ((((q ^^^ ((q.toUInt64 >>> ((30 : Int32) &&& 0x3f).toInt64.toUInt64).toInt64)) * (-4658895280553007687 : Int64)).toUInt64 >>> ((27 : Int32) &&& 0x3f).toInt64.toUInt64).toInt64)) * (-7723592293110705685 : Int64))), .second] [(.long ((((q ^^^ ((q.toUInt64 >>> ((30 : Int32) &&& 0x3f).toInt64.toUInt64).toInt64)) * (-4658895280553007687 : Int64)) ^^^ ((((q ^^^ ((q.toUInt64 >>> ((30 : Int32) &&& 0x3f).toInt64.toUInt64).toInt64)) * (-4658895280553007687 : Int64)).toUInt64 >>> ((27 : Int32) &&& 0x3f).toInt64.toUInt64).toInt64)) * (-7723592293110705685 : Int64)))])) _
    refine XS.lloadN X0.here hx rfl (hb hby d2_23) rfl ?_
    show Steps p.tables e below (s₁.setTop (mkF m 24 #[.val (.long q), .second, .val (.long ((((q ^^^ ((q.toUInt64 >>> ((30 : Int32) &&& 0x3f).toInt64.toUInt64).toInt64)) * (-4658895280553007687 : Int64)) ^^^ ((((q ^^^ ((q.toUInt64 >>> ((30 : Int32) &&& 0x3f).toInt64.toUInt64).toInt64)) * (-4658895280553007687 : Int64)).toUInt64 >>> ((27 : Int32) &&& 0x3f).toInt64.toUInt64).toInt64)) * (-7723592293110705685 : Int64))), .second] [(.long ((((q ^^^ ((q.toUInt64 >>> ((30 : Int32) &&& 0x3f).toInt64.toUInt64).toInt64)) * (-4658895280553007687 : Int64)) ^^^ ((((q ^^^ ((q.toUInt64 >>> ((30 : Int32) &&& 0x3f).toInt64.toUInt64).toInt64)) * (-4658895280553007687 : Int64)).toUInt64 >>> ((27 : Int32) &&& 0x3f).toInt64.toUInt64).toInt64)) * (-7723592293110705685 : Int64))), (.long ((((q ^^^ ((q.toUInt64 >>> ((30 : Int32) &&& 0x3f).toInt64.toUInt64).toInt64)) * (-4658895280553007687 : Int64)) ^^^ ((((q ^^^ ((q.toUInt64 >>> ((30 : Int32) &&& 0x3f).toInt64.toUInt64).toInt64)) * (-4658895280553007687 : Int64)).toUInt64 >>> ((27 : Int32) &&& 0x3f).toInt64.toUInt64).toInt64)) * (-7723592293110705685 : Int64)))])) _
    refine XS.bipush X0.here hx rfl (hb hby d2_24) ?_
    show Steps p.tables e below (s₁.setTop (mkF m 26 #[.val (.long q), .second, .val (.long ((((q ^^^ ((q.toUInt64 >>> ((30 : Int32) &&& 0x3f).toInt64.toUInt64).toInt64)) * (-4658895280553007687 : Int64)) ^^^ ((((q ^^^ ((q.toUInt64 >>> ((30 : Int32) &&& 0x3f).toInt64.toUInt64).toInt64)) * (-4658895280553007687 : Int64)).toUInt64 >>> ((27 : Int32) &&& 0x3f).toInt64.toUInt64).toInt64)) * (-7723592293110705685 : Int64))), .second] [(.int (31 : Int32)), (.long ((((q ^^^ ((q.toUInt64 >>> ((30 : Int32) &&& 0x3f).toInt64.toUInt64).toInt64)) * (-4658895280553007687 : Int64)) ^^^ ((((q ^^^ ((q.toUInt64 >>> ((30 : Int32) &&& 0x3f).toInt64.toUInt64).toInt64)) * (-4658895280553007687 : Int64)).toUInt64 >>> ((27 : Int32) &&& 0x3f).toInt64.toUInt64).toInt64)) * (-7723592293110705685 : Int64))), (.long ((((q ^^^ ((q.toUInt64 >>> ((30 : Int32) &&& 0x3f).toInt64.toUInt64).toInt64)) * (-4658895280553007687 : Int64)) ^^^ ((((q ^^^ ((q.toUInt64 >>> ((30 : Int32) &&& 0x3f).toInt64.toUInt64).toInt64)) * (-4658895280553007687 : Int64)).toUInt64 >>> ((27 : Int32) &&& 0x3f).toInt64.toUInt64).toInt64)) * (-7723592293110705685 : Int64)))])) _
    refine XS.lushr X0.here hx rfl (hb hby d2_26) rfl ?_
    show Steps p.tables e below (s₁.setTop (mkF m 27 #[.val (.long q), .second, .val (.long ((((q ^^^ ((q.toUInt64 >>> ((30 : Int32) &&& 0x3f).toInt64.toUInt64).toInt64)) * (-4658895280553007687 : Int64)) ^^^ ((((q ^^^ ((q.toUInt64 >>> ((30 : Int32) &&& 0x3f).toInt64.toUInt64).toInt64)) * (-4658895280553007687 : Int64)).toUInt64 >>> ((27 : Int32) &&& 0x3f).toInt64.toUInt64).toInt64)) * (-7723592293110705685 : Int64))), .second] [(.long ((((((q ^^^ ((q.toUInt64 >>> ((30 : Int32) &&& 0x3f).toInt64.toUInt64).toInt64)) * (-4658895280553007687 : Int64)) ^^^ ((((q ^^^ ((q.toUInt64 >>> ((30 : Int32) &&& 0x3f).toInt64.toUInt64).toInt64)) * (-4658895280553007687 : Int64)).toUInt64 >>> ((27 : Int32) &&& 0x3f).toInt64.toUInt64).toInt64)) * (-7723592293110705685 : Int64)).toUInt64 >>> ((31 : Int32) &&& 0x3f).toInt64.toUInt64).toInt64)), (.long ((((q ^^^ ((q.toUInt64 >>> ((30 : Int32) &&& 0x3f).toInt64.toUInt64).toInt64)) * (-4658895280553007687 : Int64)) ^^^ ((((q ^^^ ((q.toUInt64 >>> ((30 : Int32) &&& 0x3f).toInt64.toUInt64).toInt64)) * (-4658895280553007687 : Int64)).toUInt64 >>> ((27 : Int32) &&& 0x3f).toInt64.toUInt64).toInt64)) * (-7723592293110705685 : Int64)))])) _
    refine XS.lxor X0.here hx rfl (hb hby d2_27) rfl ?_
    have hr1 := hr
    rw [← hq0] at hr1
    exact X0.lreturnOut hx Bd.returns (hb hby d2_28) hr1
  · show Q_rmM q h0 n0 _ s₁.heap _
    rw [e0]
    exact ⟨rfl, N0, rfl⟩
theorem own_bv (k : Nat) (hk : 22 ≤ k) (x y : BitVec 64) (h : x ^^^ (x >>> k) = y ^^^ (y >>> k)) : x = y := by
  have inv : ∀ z : BitVec 64, z = (z ^^^ (z >>> k)) ^^^ ((z ^^^ (z >>> k)) >>> k) ^^^ ((z ^^^ (z >>> k)) >>> (2 * k)) := by
    intro z
    apply BitVec.eq_of_getLsbD_eq
    intro i hi
    simp only [BitVec.getLsbD_xor, BitVec.getLsbD_ushiftRight]
    have e1 : k + (k + i) = 2 * k + i := by omega
    have e2 : z.getLsbD (k + (2 * k + i)) = false := BitVec.getLsbD_of_ge _ _ (by omega)
    rw [e1, e2]
    cases z.getLsbD i <;> cases z.getLsbD (k + i) <;> cases z.getLsbD (2 * k + i) <;> rfl
  calc x = (x ^^^ (x >>> k)) ^^^ ((x ^^^ (x >>> k)) >>> k) ^^^ ((x ^^^ (x >>> k)) >>> (2 * k)) := inv x
    _ = (y ^^^ (y >>> k)) ^^^ ((y ^^^ (y >>> k)) >>> k) ^^^ ((y ^^^ (y >>> k)) >>> (2 * k)) := by rw [h]
    _ = y := (inv y).symm
theorem own_sh30 (x : Int64) : (x ^^^ ((x.toUInt64 >>> ((30 : Int32) &&& 0x3f).toInt64.toUInt64).toInt64)).toBitVec = x.toBitVec ^^^ (x.toBitVec >>> 30) := by
  rw [Int64.toBitVec_xor]
  rfl
theorem own_xs30 {x y : Int64} (h : (x ^^^ ((x.toUInt64 >>> ((30 : Int32) &&& 0x3f).toInt64.toUInt64).toInt64)) = (y ^^^ ((y.toUInt64 >>> ((30 : Int32) &&& 0x3f).toInt64.toUInt64).toInt64))) : x = y := by
  have h1 := congrArg Int64.toBitVec h
  rw [own_sh30, own_sh30] at h1
  exact Int64.toBitVec_inj.mp (own_bv 30 (by decide) _ _ h1)
theorem own_sh27 (x : Int64) : (x ^^^ ((x.toUInt64 >>> ((27 : Int32) &&& 0x3f).toInt64.toUInt64).toInt64)).toBitVec = x.toBitVec ^^^ (x.toBitVec >>> 27) := by
  rw [Int64.toBitVec_xor]
  rfl
theorem own_xs27 {x y : Int64} (h : (x ^^^ ((x.toUInt64 >>> ((27 : Int32) &&& 0x3f).toInt64.toUInt64).toInt64)) = (y ^^^ ((y.toUInt64 >>> ((27 : Int32) &&& 0x3f).toInt64.toUInt64).toInt64))) : x = y := by
  have h1 := congrArg Int64.toBitVec h
  rw [own_sh27, own_sh27] at h1
  exact Int64.toBitVec_inj.mp (own_bv 27 (by decide) _ _ h1)
theorem own_sh31 (x : Int64) : (x ^^^ ((x.toUInt64 >>> ((31 : Int32) &&& 0x3f).toInt64.toUInt64).toInt64)).toBitVec = x.toBitVec ^^^ (x.toBitVec >>> 31) := by
  rw [Int64.toBitVec_xor]
  rfl
theorem own_xs31 {x y : Int64} (h : (x ^^^ ((x.toUInt64 >>> ((31 : Int32) &&& 0x3f).toInt64.toUInt64).toInt64)) = (y ^^^ ((y.toUInt64 >>> ((31 : Int32) &&& 0x3f).toInt64.toUInt64).toInt64))) : x = y := by
  have h1 := congrArg Int64.toBitVec h
  rw [own_sh31, own_sh31] at h1
  exact Int64.toBitVec_inj.mp (own_bv 31 (by decide) _ _ h1)
theorem own_mul (c d : Int64) (hcd : c * d = 1) {x y : Int64} (h : x * c = y * c) : x = y := by
  have h1 := congrArg (· * d) h
  simp only [Int64.mul_assoc, hcd, Int64.mul_one] at h1
  exact h1
theorem own_inj {x y : Int64} (h : fMix x = fMix y) : x = y := by
  simp only [fMix] at h
  exact own_xs30 (own_mul (-4658895280553007687) (-7575587736534282103) (by decide +kernel) (own_xs27 (own_mul (-7723592293110705685) (3573116690164977347) (by decide +kernel) (own_xs31 h))))
theorem own_injIf (x y : Int64) : (if x = y then (1 : Int32) else (0 : Int32)) = (if (fMix x) = (fMix y) then (1 : Int32) else (0 : Int32)) := by
  by_cases h : x = y
  · rw [if_pos h, if_pos (by rw [h])]
  · rw [if_neg h, if_neg fun q => h (own_inj q)]
theorem own_and3 (y : Int32) : (y &&& (3 : Int32)) = (0 : Int32) ∨ (y &&& (3 : Int32)) = (1 : Int32) ∨ (y &&& (3 : Int32)) = (2 : Int32) ∨ (y &&& (3 : Int32)) = (3 : Int32) := by
  have e := Jvm.Kit.i32_mask y 3 (k := 2) (by decide) (by decide)
  have l0 : (0 : Int32).toInt = 0 := rfl
  have l1 : (1 : Int32).toInt = 1 := rfl
  have l2 : (2 : Int32).toInt = 2 := rfl
  have l3 : (3 : Int32).toInt = 3 := rfl
  simp only [← Int32.toInt_inj, l0, l1, l2, l3]
  omega
def Q0 (Z : State) (p1 p2 p3 p4 p5 : Int64) (p6 : Int32) (h0 : Heap) (n0 : Nat) (v : Option Value) (h : Heap) (L : List Loc) : Prop := v = some (.int 1) ∧ Fr n0 L
def Q_rmD0 (Z : State) (q0 : Int64) (ra : Addr) (kk : ClassId) (h0 : Heap) (n0 : Nat) (v : Option Value) (h : Heap) (L : List Loc) : Prop := v = some (.long (fMix q0)) ∧ Fr n0 L ∧ h = h0
theorem pd_0 : parseMethodDescriptor "(J)J" = some ⟨[.long], some .long⟩ := by decide +kernel
theorem ef_rmD0 (m : MethodId) (x0 : Int64) (x1 : Addr) : entryFrame m #[(.long x0), (.ref x1)] 10 = mkF m 0 #[.val (.long x0), .second, .val (.ref x1), .unset, .unset, .unset, .unset, .unset, .unset, .unset] [] := by first | (simp [entryFrame, mkF, argsToLocals, Value.category]; done) | rfl
theorem d1_0 : decode prog_82_method_2_code 0 = .ok (.lload_n 0, 1) := by decide +kernel
theorem d1_1 : decode prog_82_method_2_code 1 = .ok (.invokestatic 7, 3) := by decide +kernel
theorem d1_4 : decode prog_82_method_2_code 4 = .ok (.lstore_n 3, 1) := by decide +kernel
theorem d1_5 : decode prog_82_method_2_code 5 = .ok (.aload_n 2, 1) := by decide +kernel
theorem d1_6 : decode prog_82_method_2_code 6 = .ok (.astore 5, 2) := by decide +kernel
theorem d1_8 : decode prog_82_method_2_code 8 = .ok (.aload 5, 2) := by decide +kernel
theorem d1_10 : decode prog_82_method_2_code 10 = .ok (.arraylength, 1) := by decide +kernel
theorem d1_11 : decode prog_82_method_2_code 11 = .ok (.istore 6, 2) := by decide +kernel
theorem d1_13 : decode prog_82_method_2_code 13 = .ok (.iconst 0, 1) := by decide +kernel
theorem d1_14 : decode prog_82_method_2_code 14 = .ok (.istore 7, 2) := by decide +kernel
theorem d1_16 : decode prog_82_method_2_code 16 = .ok (.iload 7, 2) := by decide +kernel
theorem d1_18 : decode prog_82_method_2_code 18 = .ok (.iload 6, 2) := by decide +kernel
theorem d1_20 : decode prog_82_method_2_code 20 = .ok (.if_icmp .ge 24, 3) := by decide +kernel
theorem d1_44 : decode prog_82_method_2_code 44 = .ok (.lload_n 3, 1) := by decide +kernel
theorem d1_45 : decode prog_82_method_2_code 45 = .ok (.lreturn, 1) := by decide +kernel
set_option maxRecDepth 65536 in
set_option maxHeartbeats 40000000 in
theorem rmD0 (l : Launch) (Z : State) (a0 : Array Value) (hw : ∀ d ∈ tables_1, d.before a0 Z = true) (ws : List Jvm.Cond) (q0 : Int64) (ra : Addr) (kk : ClassId) (h0 : Heap) (n0 : Nat) (Z0 : n0 ≤ h0.size) (P0 : Arv Z h0 ra kk .long (0 : Int32) [] (.long (0 : Int64))) :
    MetFree l (⟨"com/example/haversack/haversack/evaluation/Seeds", "derived", "(J[J)J"⟩ : MethodName) (head1 (Jvm.Cond.code (⟨"com/example/haversack/haversack/evaluation/Seeds", "derived", "(J[J)J"⟩ : MethodName) prog_82_method_2_code 10 (some .long) :: ws) ({ frames := 1, cells := 0, slots := 0, locals := 15 } : Room)) (fun a U => a = #[(.long q0), (.ref ra)] ∧ Z.Warmed39 U.vm ∧ U.heap = h0) (fun _ _ _ _ _ => True) (fun _ U o U' => ∃ v L, o = .returned v ∧ Q_rmD0 Z q0 ra kk h0 n0 v U'.heap L ∧ FrameEnd U o U' L ({ frames := 1, cells := 0, slots := 0, locals := 15 } : Room).cells ({ frames := 1, cells := 0, slots := 0, locals := 15 } : Room).slots) := by
  refine MetFree.of_bodySF (plainFor_of_name pn_0) hisR ?_
  intro p e s m args below meth c s₁ Bd hml0 hP hK
  obtain ⟨rfl, hZ, hh⟩ := hP
  have hx := Bd.exec
  have hby := Bd.bytes
  have hml : c.maxLocals = 10 := hml0
  have hown : s.vm.findClass "com/example/haversack/haversack/evaluation/Seeds" = some m.cls := findClass_of_methodNamed Bd.named
  have hnm := (name_of_methodNamed Bd.named Bd.method).1
  have X0 : Stand p l e ({ frames := 1, cells := 0, slots := 0, locals := 15 } : Room) s m #[(.long q0), (.ref ra)] below meth c s₁ [] 0 0 := Stand.of_body Bd
  have e0 : s₁.heap = h0 := by rw [← hh, Bd.state]; rfl
  have N0 := Fr.nil n0
  have pre0 : ∀ t, Steps p.tables e below (s₁.setTop (mkF m 0 #[.val (.long q0), .second, .val (.ref ra), .unset, .unset, .unset, .unset, .unset, .unset, .unset] [])) t → Steps p.tables e below (s₁.setTop (entryFrame m #[(.long q0), (.ref ra)] 10)) t := fun t k => castTop (ef_rmD0 m q0 ra) k
  have sg1 : ∀ t, Steps p.tables e below (s₁.setTop (mkF m 1 #[.val (.long q0), .second, .val (.ref ra), .unset, .unset, .unset, .unset, .unset, .unset, .unset] [(.long q0)])) t → Steps p.tables e below (s₁.setTop (mkF m 0 #[.val (.long q0), .second, .val (.ref ra), .unset, .unset, .unset, .unset, .unset, .unset, .unset] [])) t := by
    intro t k
    show Steps p.tables e below (s₁.setTop (mkF m 0 #[.val (.long q0), .second, .val (.ref ra), .unset, .unset, .unset, .unset, .unset, .unset, .unset] [])) _
    refine XS.lloadN X0.here hx rfl (hb hby d1_0) rfl ?_
    exact k
  obtain ⟨_, _, ⟨T2, L2, k2, n2⟩, -, X2, ⟨Lc2, hQ2, l2, y2, z2⟩, st2⟩ := Jvm.LawKit.callS X0 hx (y := (⟨"com/example/haversack/haversack/evaluation/Seeds", "mix", "(J)J"⟩ : MethodName)) hown (mvT hZ (hw _ (List.mem_of_getElem? (i := 5) rfl))) (mvT hZ (hw _ (List.mem_of_getElem? (i := 6) rfl))) (mvT hZ (hw _ (List.mem_of_getElem? (i := 3) rfl))) (mvT hZ (hw _ (List.mem_of_getElem? (i := 7) rfl))) (by decide) (backOf (W := 0) (rmM l Z a0 hw [] q0 h0 n0 Z0) hZ (hw _ (List.mem_of_getElem? (i := 7) rfl)) (hw _ (List.mem_of_getElem? (i := 3) rfl)) (by decide) (by decide)) (g := (mkF m 1 #[.val (.long q0), .second, .val (.ref ra), .unset, .unset, .unset, .unset, .unset, .unset, .unset] [(.long q0)])) rfl (by rw [hml]; rfl) (argsL := [(.long q0)]) (rest := []) (lenOf pd_0 rfl) rfl (by show 2 * 0 + _ ≤ _; exact Nat.le_of_eq rfl) (hb hby d1_1) (fun _ _ => ⟨rfl, e0, (by decide : 0 + 0 ≤ _), (by decide : 0 + 0 ≤ _)⟩)
  dsimp only [Pt.U, Pt.locs, Pt.cells, Pt.slots] at X2 l2 y2 z2 st2 hQ2
  subst l2 y2 z2
  obtain ⟨rfl, N2q, e2⟩ := hQ2
  have N2 := Fr.app N0 N2q
  have sg3 : ∀ t, Steps p.tables e below (T2.setTop (mkF m 10 #[.val (.long q0), .second, .val (.ref ra), .val (.long (fMix q0)), .second, .val (.ref ra), .unset, .unset, .unset, .unset] [(.ref ra)])) t → Steps p.tables e below (T2.setTop (mkF m 4 #[.val (.long q0), .second, .val (.ref ra), .unset, .unset, .unset, .unset, .unset, .unset, .unset] [(.long (fMix q0))])) t := by
    intro t k
    show Steps p.tables e below (T2.setTop (mkF m 4 #[.val (.long q0), .second, .val (.ref ra), .unset, .unset, .unset, .unset, .unset, .unset, .unset] [(.long (fMix q0))])) _
    refine XS.lstoreN X2.here hx rfl (hb hby d1_4) rfl (l' := #[.val (.long q0), .second, .val (.ref ra), .val (.long (fMix q0)), .second, .unset, .unset, .unset, .unset, .unset]) rfl ?_
    show Steps p.tables e below (T2.setTop (mkF m 5 #[.val (.long q0), .second, .val (.ref ra), .val (.long (fMix q0)), .second, .unset, .unset, .unset, .unset, .unset] [])) _
    refine XS.aloadN X2.here hx rfl (hb hby d1_5) rfl rfl ?_
    show Steps p.tables e below (T2.setTop (mkF m 6 #[.val (.long q0), .second, .val (.ref ra), .val (.long (fMix q0)), .second, .unset, .unset, .unset, .unset, .unset] [(.ref ra)])) _
    refine XS.astore X2.here hx rfl (hb hby d1_6) rfl rfl (l' := #[.val (.long q0), .second, .val (.ref ra), .val (.long (fMix q0)), .second, .val (.ref ra), .unset, .unset, .unset, .unset]) rfl ?_
    show Steps p.tables e below (T2.setTop (mkF m 8 #[.val (.long q0), .second, .val (.ref ra), .val (.long (fMix q0)), .second, .val (.ref ra), .unset, .unset, .unset, .unset] [])) _
    refine XS.aload X2.here hx rfl (hb hby d1_8) rfl rfl ?_
    exact k
  obtain ⟨cl4, Ar4, q4, Sz4, Nn4, Hs4, G4⟩ := id P0
  have st4 : ∀ t, Steps p.tables e below (T2.setTop (mkF m 11 #[.val (.long q0), .second, .val (.ref ra), .val (.long (fMix q0)), .second, .val (.ref ra), .unset, .unset, .unset, .unset] [(.int (0 : Int32))])) t → Steps p.tables e below (T2.setTop (mkF m 10 #[.val (.long q0), .second, .val (.ref ra), .val (.long (fMix q0)), .second, .val (.ref ra), .unset, .unset, .unset, .unset] [(.ref ra)])) t := by
    intro t k
    refine X2.arraylength hx (by rw [e2]; exact Ar4.1) (State.isArrayOf_alike hZ.alike Ar4.2.1) (g := (mkF m 10 #[.val (.long q0), .second, .val (.ref ra), .val (.long (fMix q0)), .second, .val (.ref ra), .unset, .unset, .unset, .unset] [(.ref ra)])) rfl rfl (hb hby d1_10) _ ?_
    rw [len_of Sz4 Nn4]
    exact k
  have sg5 : ∀ t, Steps p.tables e below (T2.setTop (mkF m 45 #[.val (.long q0), .second, .val (.ref ra), .val (.long (fMix q0)), .second, .val (.ref ra), .val (.int (0 : Int32)), .val (.int (0 : Int32)), .unset, .unset] [(.long (fMix q0))])) t → Steps p.tables e below (T2.setTop (mkF m 11 #[.val (.long q0), .second, .val (.ref ra), .val (.long (fMix q0)), .second, .val (.ref ra), .unset, .unset, .unset, .unset] [(.int (0 : Int32))])) t := by
    intro t k
    show Steps p.tables e below (T2.setTop (mkF m 11 #[.val (.long q0), .second, .val (.ref ra), .val (.long (fMix q0)), .second, .val (.ref ra), .unset, .unset, .unset, .unset] [(.int (0 : Int32))])) _
    refine XS.istore X2.here hx rfl (hb hby d1_11) rfl (l' := #[.val (.long q0), .second, .val (.ref ra), .val (.long (fMix q0)), .second, .val (.ref ra), .val (.int (0 : Int32)), .unset, .unset, .unset]) rfl ?_
    show Steps p.tables e below (T2.setTop (mkF m 13 #[.val (.long q0), .second, .val (.ref ra), .val (.long (fMix q0)), .second, .val (.ref ra), .val (.int (0 : Int32)), .unset, .unset, .unset] [])) _
    refine XS.iconst X2.here hx rfl (hb hby d1_13) ?_
    show Steps p.tables e below (T2.setTop (mkF m 14 #[.val (.long q0), .second, .val (.ref ra), .val (.long (fMix q0)), .second, .val (.ref ra), .val (.int (0 : Int32)), .unset, .unset, .unset] [(.int (0 : Int32))])) _
    refine XS.istore X2.here hx rfl (hb hby d1_14) rfl (l' := #[.val (.long q0), .second, .val (.ref ra), .val (.long (fMix q0)), .second, .val (.ref ra), .val (.int (0 : Int32)), .val (.int (0 : Int32)), .unset, .unset]) rfl ?_
    show Steps p.tables e below (T2.setTop (mkF m 16 #[.val (.long q0), .second, .val (.ref ra), .val (.long (fMix q0)), .second, .val (.ref ra), .val (.int (0 : Int32)), .val (.int (0 : Int32)), .unset, .unset] [])) _
    refine XS.iload X2.here hx rfl (hb hby d1_16) rfl ?_
    show Steps p.tables e below (T2.setTop (mkF m 18 #[.val (.long q0), .second, .val (.ref ra), .val (.long (fMix q0)), .second, .val (.ref ra), .val (.int (0 : Int32)), .val (.int (0 : Int32)), .unset, .unset] [(.int (0 : Int32))])) _
    refine XS.iload X2.here hx rfl (hb hby d1_18) rfl ?_
    show Steps p.tables e below (T2.setTop (mkF m 20 #[.val (.long q0), .second, .val (.ref ra), .val (.long (fMix q0)), .second, .val (.ref ra), .val (.int (0 : Int32)), .val (.int (0 : Int32)), .unset, .unset] [(.int (0 : Int32)), (.int (0 : Int32))])) _
    refine XS.icmpYes X2.here hx rfl (pc0 := 20) (pc' := 44) rfl (hb hby d1_20) rfl (flt (by decide : ¬ ((0 : Int32) < (0 : Int32)))).2.1 (by decide) (by decide) ?_
    show Steps p.tables e below (T2.setTop (mkF m 44 #[.val (.long q0), .second, .val (.ref ra), .val (.long (fMix q0)), .second, .val (.ref ra), .val (.int (0 : Int32)), .val (.int (0 : Int32)), .unset, .unset] [])) _
    refine XS.lloadN X2.here hx rfl (hb hby d1_44) rfl ?_
    exact k
  obtain ⟨fs, hr, hrun, hended, hW, hsame⟩ := X2.leave (v := some (.long (fMix q0))) (fun h => by rw [Bd.returns] at h; cases h)
  refine ⟨_, _, pre0 _ ?_, hrun, hended, _, _, rfl, ?_, ⟨_, rfl⟩, hW, hsame.mono (by decide) (by decide)⟩
  · show Steps p.tables e below (s₁.setTop (mkF m 0 #[.val (.long q0), .second, .val (.ref ra), .unset, .unset, .unset, .unset, .unset, .unset, .unset] [])) _
    refine sg1 _ ?_
    show Steps p.tables e below (s₁.setTop (mkF m 1 #[.val (.long q0), .second, .val (.ref ra), .unset, .unset, .unset, .unset, .unset, .unset, .unset] [(.long q0)])) _
    refine st2 _ ?_
    show Steps p.tables e below (T2.setTop (mkF m 4 #[.val (.long q0), .second, .val (.ref ra), .unset, .unset, .unset, .unset, .unset, .unset, .unset] [(.long (fMix q0))])) _
    refine sg3 _ ?_
    show Steps p.tables e below (T2.setTop (mkF m 10 #[.val (.long q0), .second, .val (.ref ra), .val (.long (fMix q0)), .second, .val (.ref ra), .unset, .unset, .unset, .unset] [(.ref ra)])) _
    refine st4 _ ?_
    show Steps p.tables e below (T2.setTop (mkF m 11 #[.val (.long q0), .second, .val (.ref ra), .val (.long (fMix q0)), .second, .val (.ref ra), .unset, .unset, .unset, .unset] [(.int (0 : Int32))])) _
    refine sg5 _ ?_
    show Steps p.tables e below (T2.setTop (mkF m 45 #[.val (.long q0), .second, .val (.ref ra), .val (.long (fMix q0)), .second, .val (.ref ra), .val (.int (0 : Int32)), .val (.int (0 : Int32)), .unset, .unset] [(.long (fMix q0))])) _
    jvm_step X2.here [X2.here.top, hx, (hb hby d1_45), X2.method', Bd.returns, narrow]
    first | (intro acts; rw [hr _ acts rfl rfl rfl]) | rw [hr _ _ rfl rfl rfl]
    exact Steps.refl _
  · show Q_rmD0 Z q0 ra kk h0 n0 _ T2.heap _
    rw [e2]
    exact ⟨rfl, N2, rfl⟩
def Q_rmD1 (Z : State) (q0 : Int64) (ra : Addr) (kk : ClassId) (q1 : Int64) (h0 : Heap) (n0 : Nat) (v : Option Value) (h : Heap) (L : List Loc) : Prop := v = some (.long (fMix ((fMix q0) ^^^ q1))) ∧ Fr n0 L ∧ h = h0
theorem ef_rmD1 (m : MethodId) (x0 : Int64) (x1 : Addr) : entryFrame m #[(.long x0), (.ref x1)] 10 = mkF m 0 #[.val (.long x0), .second, .val (.ref x1), .unset, .unset, .unset, .unset, .unset, .unset, .unset] [] := by first | (simp [entryFrame, mkF, argsToLocals, Value.category]; done) | rfl
theorem d1_23 : decode prog_82_method_2_code 23 = .ok (.aload 5, 2) := by decide +kernel
theorem d1_25 : decode prog_82_method_2_code 25 = .ok (.iload 7, 2) := by decide +kernel
theorem d1_27 : decode prog_82_method_2_code 27 = .ok (.laload, 1) := by decide +kernel
theorem d1_28 : decode prog_82_method_2_code 28 = .ok (.lstore 8, 2) := by decide +kernel
theorem d1_30 : decode prog_82_method_2_code 30 = .ok (.lload_n 3, 1) := by decide +kernel
theorem d1_31 : decode prog_82_method_2_code 31 = .ok (.lload 8, 2) := by decide +kernel
theorem d1_33 : decode prog_82_method_2_code 33 = .ok (.lxor, 1) := by decide +kernel
theorem d1_34 : decode prog_82_method_2_code 34 = .ok (.invokestatic 7, 3) := by decide +kernel
theorem d1_37 : decode prog_82_method_2_code 37 = .ok (.lstore_n 3, 1) := by decide +kernel
theorem d1_38 : decode prog_82_method_2_code 38 = .ok (.iinc 7 1, 3) := by decide +kernel
theorem d1_41 : decode prog_82_method_2_code 41 = .ok (.goto (-25), 3) := by decide +kernel
set_option maxRecDepth 65536 in
set_option maxHeartbeats 40000000 in
theorem rmD1 (l : Launch) (Z : State) (a0 : Array Value) (hw : ∀ d ∈ tables_1, d.before a0 Z = true) (ws : List Jvm.Cond) (q0 : Int64) (ra : Addr) (kk : ClassId) (q1 : Int64) (h0 : Heap) (n0 : Nat) (Z0 : n0 ≤ h0.size) (P0 : Arv Z h0 ra kk .long (1 : Int32) [(.long q1)] (.long (0 : Int64))) :
    MetFree l (⟨"com/example/haversack/haversack/evaluation/Seeds", "derived", "(J[J)J"⟩ : MethodName) (head1 (Jvm.Cond.code (⟨"com/example/haversack/haversack/evaluation/Seeds", "derived", "(J[J)J"⟩ : MethodName) prog_82_method_2_code 10 (some .long) :: ws) ({ frames := 1, cells := 0, slots := 0, locals := 15 } : Room)) (fun a U => a = #[(.long q0), (.ref ra)] ∧ Z.Warmed39 U.vm ∧ U.heap = h0) (fun _ _ _ _ _ => True) (fun _ U o U' => ∃ v L, o = .returned v ∧ Q_rmD1 Z q0 ra kk q1 h0 n0 v U'.heap L ∧ FrameEnd U o U' L ({ frames := 1, cells := 0, slots := 0, locals := 15 } : Room).cells ({ frames := 1, cells := 0, slots := 0, locals := 15 } : Room).slots) := by
  refine MetFree.of_bodySF (plainFor_of_name pn_0) hisR ?_
  intro p e s m args below meth c s₁ Bd hml0 hP hK
  obtain ⟨rfl, hZ, hh⟩ := hP
  have hx := Bd.exec
  have hby := Bd.bytes
  have hml : c.maxLocals = 10 := hml0
  have hown : s.vm.findClass "com/example/haversack/haversack/evaluation/Seeds" = some m.cls := findClass_of_methodNamed Bd.named
  have hnm := (name_of_methodNamed Bd.named Bd.method).1
  have X0 : Stand p l e ({ frames := 1, cells := 0, slots := 0, locals := 15 } : Room) s m #[(.long q0), (.ref ra)] below meth c s₁ [] 0 0 := Stand.of_body Bd
  have e0 : s₁.heap = h0 := by rw [← hh, Bd.state]; rfl
  have N0 := Fr.nil n0
  have pre0 : ∀ t, Steps p.tables e below (s₁.setTop (mkF m 0 #[.val (.long q0), .second, .val (.ref ra), .unset, .unset, .unset, .unset, .unset, .unset, .unset] [])) t → Steps p.tables e below (s₁.setTop (entryFrame m #[(.long q0), (.ref ra)] 10)) t := fun t k => castTop (ef_rmD1 m q0 ra) k
  have sg1 : ∀ t, Steps p.tables e below (s₁.setTop (mkF m 1 #[.val (.long q0), .second, .val (.ref ra), .unset, .unset, .unset, .unset, .unset, .unset, .unset] [(.long q0)])) t → Steps p.tables e below (s₁.setTop (mkF m 0 #[.val (.long q0), .second, .val (.ref ra), .unset, .unset, .unset, .unset, .unset, .unset, .unset] [])) t := by
    intro t k
    show Steps p.tables e below (s₁.setTop (mkF m 0 #[.val (.long q0), .second, .val (.ref ra), .unset, .unset, .unset, .unset, .unset, .unset, .unset] [])) _
    refine XS.lloadN X0.here hx rfl (hb hby d1_0) rfl ?_
    exact k
  obtain ⟨_, _, ⟨T2, L2, k2, n2⟩, -, X2, ⟨Lc2, hQ2, l2, y2, z2⟩, st2⟩ := Jvm.LawKit.callS X0 hx (y := (⟨"com/example/haversack/haversack/evaluation/Seeds", "mix", "(J)J"⟩ : MethodName)) hown (mvT hZ (hw _ (List.mem_of_getElem? (i := 5) rfl))) (mvT hZ (hw _ (List.mem_of_getElem? (i := 6) rfl))) (mvT hZ (hw _ (List.mem_of_getElem? (i := 3) rfl))) (mvT hZ (hw _ (List.mem_of_getElem? (i := 7) rfl))) (by decide) (backOf (W := 0) (rmM l Z a0 hw [] q0 h0 n0 Z0) hZ (hw _ (List.mem_of_getElem? (i := 7) rfl)) (hw _ (List.mem_of_getElem? (i := 3) rfl)) (by decide) (by decide)) (g := (mkF m 1 #[.val (.long q0), .second, .val (.ref ra), .unset, .unset, .unset, .unset, .unset, .unset, .unset] [(.long q0)])) rfl (by rw [hml]; rfl) (argsL := [(.long q0)]) (rest := []) (lenOf pd_0 rfl) rfl (by show 2 * 0 + _ ≤ _; exact Nat.le_of_eq rfl) (hb hby d1_1) (fun _ _ => ⟨rfl, e0, (by decide : 0 + 0 ≤ _), (by decide : 0 + 0 ≤ _)⟩)
  dsimp only [Pt.U, Pt.locs, Pt.cells, Pt.slots] at X2 l2 y2 z2 st2 hQ2
  subst l2 y2 z2
  obtain ⟨rfl, N2q, e2⟩ := hQ2
  have N2 := Fr.app N0 N2q
  have sg3 : ∀ t, Steps p.tables e below (T2.setTop (mkF m 10 #[.val (.long q0), .second, .val (.ref ra), .val (.long (fMix q0)), .second, .val (.ref ra), .unset, .unset, .unset, .unset] [(.ref ra)])) t → Steps p.tables e below (T2.setTop (mkF m 4 #[.val (.long q0), .second, .val (.ref ra), .unset, .unset, .unset, .unset, .unset, .unset, .unset] [(.long (fMix q0))])) t := by
    intro t k
    show Steps p.tables e below (T2.setTop (mkF m 4 #[.val (.long q0), .second, .val (.ref ra), .unset, .unset, .unset, .unset, .unset, .unset, .unset] [(.long (fMix q0))])) _
    refine XS.lstoreN X2.here hx rfl (hb hby d1_4) rfl (l' := #[.val (.long q0), .second, .val (.ref ra), .val (.long (fMix q0)), .second, .unset, .unset, .unset, .unset, .unset]) rfl ?_
    show Steps p.tables e below (T2.setTop (mkF m 5 #[.val (.long q0), .second, .val (.ref ra), .val (.long (fMix q0)), .second, .unset, .unset, .unset, .unset, .unset] [])) _
    refine XS.aloadN X2.here hx rfl (hb hby d1_5) rfl rfl ?_
    show Steps p.tables e below (T2.setTop (mkF m 6 #[.val (.long q0), .second, .val (.ref ra), .val (.long (fMix q0)), .second, .unset, .unset, .unset, .unset, .unset] [(.ref ra)])) _
    refine XS.astore X2.here hx rfl (hb hby d1_6) rfl rfl (l' := #[.val (.long q0), .second, .val (.ref ra), .val (.long (fMix q0)), .second, .val (.ref ra), .unset, .unset, .unset, .unset]) rfl ?_
    show Steps p.tables e below (T2.setTop (mkF m 8 #[.val (.long q0), .second, .val (.ref ra), .val (.long (fMix q0)), .second, .val (.ref ra), .unset, .unset, .unset, .unset] [])) _
    refine XS.aload X2.here hx rfl (hb hby d1_8) rfl rfl ?_
    exact k
  obtain ⟨cl4, Ar4, q4, Sz4, Nn4, Hs4, G4⟩ := id P0
  have st4 : ∀ t, Steps p.tables e below (T2.setTop (mkF m 11 #[.val (.long q0), .second, .val (.ref ra), .val (.long (fMix q0)), .second, .val (.ref ra), .unset, .unset, .unset, .unset] [(.int (1 : Int32))])) t → Steps p.tables e below (T2.setTop (mkF m 10 #[.val (.long q0), .second, .val (.ref ra), .val (.long (fMix q0)), .second, .val (.ref ra), .unset, .unset, .unset, .unset] [(.ref ra)])) t := by
    intro t k
    refine X2.arraylength hx (by rw [e2]; exact Ar4.1) (State.isArrayOf_alike hZ.alike Ar4.2.1) (g := (mkF m 10 #[.val (.long q0), .second, .val (.ref ra), .val (.long (fMix q0)), .second, .val (.ref ra), .unset, .unset, .unset, .unset] [(.ref ra)])) rfl rfl (hb hby d1_10) _ ?_
    rw [len_of Sz4 Nn4]
    exact k
  have sg5 : ∀ t, Steps p.tables e below (T2.setTop (mkF m 27 #[.val (.long q0), .second, .val (.ref ra), .val (.long (fMix q0)), .second, .val (.ref ra), .val (.int (1 : Int32)), .val (.int (0 : Int32)), .unset, .unset] [(.int (0 : Int32)), (.ref ra)])) t → Steps p.tables e below (T2.setTop (mkF m 11 #[.val (.long q0), .second, .val (.ref ra), .val (.long (fMix q0)), .second, .val (.ref ra), .unset, .unset, .unset, .unset] [(.int (1 : Int32))])) t := by
    intro t k
    show Steps p.tables e below (T2.setTop (mkF m 11 #[.val (.long q0), .second, .val (.ref ra), .val (.long (fMix q0)), .second, .val (.ref ra), .unset, .unset, .unset, .unset] [(.int (1 : Int32))])) _
    refine XS.istore X2.here hx rfl (hb hby d1_11) rfl (l' := #[.val (.long q0), .second, .val (.ref ra), .val (.long (fMix q0)), .second, .val (.ref ra), .val (.int (1 : Int32)), .unset, .unset, .unset]) rfl ?_
    show Steps p.tables e below (T2.setTop (mkF m 13 #[.val (.long q0), .second, .val (.ref ra), .val (.long (fMix q0)), .second, .val (.ref ra), .val (.int (1 : Int32)), .unset, .unset, .unset] [])) _
    refine XS.iconst X2.here hx rfl (hb hby d1_13) ?_
    show Steps p.tables e below (T2.setTop (mkF m 14 #[.val (.long q0), .second, .val (.ref ra), .val (.long (fMix q0)), .second, .val (.ref ra), .val (.int (1 : Int32)), .unset, .unset, .unset] [(.int (0 : Int32))])) _
    refine XS.istore X2.here hx rfl (hb hby d1_14) rfl (l' := #[.val (.long q0), .second, .val (.ref ra), .val (.long (fMix q0)), .second, .val (.ref ra), .val (.int (1 : Int32)), .val (.int (0 : Int32)), .unset, .unset]) rfl ?_
    show Steps p.tables e below (T2.setTop (mkF m 16 #[.val (.long q0), .second, .val (.ref ra), .val (.long (fMix q0)), .second, .val (.ref ra), .val (.int (1 : Int32)), .val (.int (0 : Int32)), .unset, .unset] [])) _
    refine XS.iload X2.here hx rfl (hb hby d1_16) rfl ?_
    show Steps p.tables e below (T2.setTop (mkF m 18 #[.val (.long q0), .second, .val (.ref ra), .val (.long (fMix q0)), .second, .val (.ref ra), .val (.int (1 : Int32)), .val (.int (0 : Int32)), .unset, .unset] [(.int (0 : Int32))])) _
    refine XS.iload X2.here hx rfl (hb hby d1_18) rfl ?_
    show Steps p.tables e below (T2.setTop (mkF m 20 #[.val (.long q0), .second, .val (.ref ra), .val (.long (fMix q0)), .second, .val (.ref ra), .val (.int (1 : Int32)), .val (.int (0 : Int32)), .unset, .unset] [(.int (1 : Int32)), (.int (0 : Int32))])) _
    refine XS.icmpNo X2.here hx rfl (hb hby d1_20) rfl (tlt (by decide : (0 : Int32) < (1 : Int32))).2.1 ?_
    show Steps p.tables e below (T2.setTop (mkF m 23 #[.val (.long q0), .second, .val (.ref ra), .val (.long (fMix q0)), .second, .val (.ref ra), .val (.int (1 : Int32)), .val (.int (0 : Int32)), .unset, .unset] [])) _
    refine XS.aload X2.here hx rfl (hb hby d1_23) rfl rfl ?_
    show Steps p.tables e below (T2.setTop (mkF m 25 #[.val (.long q0), .second, .val (.ref ra), .val (.long (fMix q0)), .second, .val (.ref ra), .val (.int (1 : Int32)), .val (.int (0 : Int32)), .unset, .unset] [(.ref ra)])) _
    refine XS.iload X2.here hx rfl (hb hby d1_25) rfl ?_
    exact k
  obtain ⟨cl6, Ar6, q6, Sz6, Nn6, Hs6, G6⟩ := id P0
  have hin6 : ¬ ((0 : Int32) < 0 ∨ cl6.slots.size ≤ ((0 : Int32)).toNatClampNeg) := inb_of Sz6 ⟨by decide, by decide⟩
  have hat6 : cl6.slots[((0 : Int32)).toNatClampNeg]? = some (.long q1) := Has.at Hs6 hin6 rfl
  have st6 : ∀ t, Steps p.tables e below (T2.setTop (mkF m 28 #[.val (.long q0), .second, .val (.ref ra), .val (.long (fMix q0)), .second, .val (.ref ra), .val (.int (1 : Int32)), .val (.int (0 : Int32)), .unset, .unset] [(.long q1)])) t → Steps p.tables e below (T2.setTop (mkF m 27 #[.val (.long q0), .second, .val (.ref ra), .val (.long (fMix q0)), .second, .val (.ref ra), .val (.int (1 : Int32)), .val (.int (0 : Int32)), .unset, .unset] [(.int (0 : Int32)), (.ref ra)])) t := by
    intro t k
    refine X2.laload hx (j := (0 : Int32)) (v := (.long q1)) (by rw [e2]; exact Ar6.1) (State.isArrayOf_alike hZ.alike Ar6.2.1) Ar6.2.2 hin6 hat6 (g := (mkF m 27 #[.val (.long q0), .second, .val (.ref ra), .val (.long (fMix q0)), .second, .val (.ref ra), .val (.int (1 : Int32)), .val (.int (0 : Int32)), .unset, .unset] [(.int (0 : Int32)), (.ref ra)])) rfl rfl (hb hby d1_27) _ ?_
    exact k
  have sg7 : ∀ t, Steps p.tables e below (T2.setTop (mkF m 34 #[.val (.long q0), .second, .val (.ref ra), .val (.long (fMix q0)), .second, .val (.ref ra), .val (.int (1 : Int32)), .val (.int (0 : Int32)), .val (.long q1), .second] [(.long ((fMix q0) ^^^ q1))])) t → Steps p.tables e below (T2.setTop (mkF m 28 #[.val (.long q0), .second, .val (.ref ra), .val (.long (fMix q0)), .second, .val (.ref ra), .val (.int (1 : Int32)), .val (.int (0 : Int32)), .unset, .unset] [(.long q1)])) t := by
    intro t k
    show Steps p.tables e below (T2.setTop (mkF m 28 #[.val (.long q0), .second, .val (.ref ra), .val (.long (fMix q0)), .second, .val (.ref ra), .val (.int (1 : Int32)), .val (.int (0 : Int32)), .unset, .unset] [(.long q1)])) _
    refine XS.lstore X2.here hx rfl (hb hby d1_28) rfl (l' := #[.val (.long q0), .second, .val (.ref ra), .val (.long (fMix q0)), .second, .val (.ref ra), .val (.int (1 : Int32)), .val (.int (0 : Int32)), .val (.long q1), .second]) rfl ?_
    show Steps p.tables e below (T2.setTop (mkF m 30 #[.val (.long q0), .second, .val (.ref ra), .val (.long (fMix q0)), .second, .val (.ref ra), .val (.int (1 : Int32)), .val (.int (0 : Int32)), .val (.long q1), .second] [])) _
    refine XS.lloadN X2.here hx rfl (hb hby d1_30) rfl ?_
    show Steps p.tables e below (T2.setTop (mkF m 31 #[.val (.long q0), .second, .val (.ref ra), .val (.long (fMix q0)), .second, .val (.ref ra), .val (.int (1 : Int32)), .val (.int (0 : Int32)), .val (.long q1), .second] [(.long (fMix q0))])) _
    refine XS.lload X2.here hx rfl (hb hby d1_31) rfl ?_
    show Steps p.tables e below (T2.setTop (mkF m 33 #[.val (.long q0), .second, .val (.ref ra), .val (.long (fMix q0)), .second, .val (.ref ra), .val (.int (1 : Int32)), .val (.int (0 : Int32)), .val (.long q1), .second] [(.long q1), (.long (fMix q0))])) _
    refine XS.lxor X2.here hx rfl (hb hby d1_33) rfl ?_
    exact k
  obtain ⟨_, _, ⟨T8, L8, k8, n8⟩, -, X8, ⟨Lc8, hQ8, l8, y8, z8⟩, st8⟩ := Jvm.LawKit.callS X2 hx (y := (⟨"com/example/haversack/haversack/evaluation/Seeds", "mix", "(J)J"⟩ : MethodName)) hown (mvT hZ (hw _ (List.mem_of_getElem? (i := 5) rfl))) (mvT hZ (hw _ (List.mem_of_getElem? (i := 6) rfl))) (mvT hZ (hw _ (List.mem_of_getElem? (i := 3) rfl))) (mvT hZ (hw _ (List.mem_of_getElem? (i := 7) rfl))) (by decide) (backOf (W := 0) (rmM l Z a0 hw [] ((fMix q0) ^^^ q1) h0 n0 Z0) hZ (hw _ (List.mem_of_getElem? (i := 7) rfl)) (hw _ (List.mem_of_getElem? (i := 3) rfl)) (by decide) (by decide)) (g := (mkF m 34 #[.val (.long q0), .second, .val (.ref ra), .val (.long (fMix q0)), .second, .val (.ref ra), .val (.int (1 : Int32)), .val (.int (0 : Int32)), .val (.long q1), .second] [(.long ((fMix q0) ^^^ q1))])) rfl (by rw [hml]; rfl) (argsL := [(.long ((fMix q0) ^^^ q1))]) (rest := []) (lenOf pd_0 rfl) rfl (by show 2 * 0 + _ ≤ _; exact Nat.le_of_eq rfl) (hb hby d1_34) (fun _ _ => ⟨rfl, e2, (by decide : 0 + 0 ≤ _), (by decide : 0 + 0 ≤ _)⟩)
  dsimp only [Pt.U, Pt.locs, Pt.cells, Pt.slots] at X8 l8 y8 z8 st8 hQ8
  subst l8 y8 z8
  obtain ⟨rfl, N8q, e8⟩ := hQ8
  have N8 := Fr.app N2 N8q
  have sg9 : ∀ t, Steps p.tables e below (T8.setTop (mkF m 45 #[.val (.long q0), .second, .val (.ref ra), .val (.long (fMix ((fMix q0) ^^^ q1))), .second, .val (.ref ra), .val (.int (1 : Int32)), .val (.int (1 : Int32)), .val (.long q1), .second] [(.long (fMix ((fMix q0) ^^^ q1)))])) t → Steps p.tables e below (T8.setTop (mkF m 37 #[.val (.long q0), .second, .val (.ref ra), .val (.long (fMix q0)), .second, .val (.ref ra), .val (.int (1 : Int32)), .val (.int (0 : Int32)), .val (.long q1), .second] [(.long (fMix ((fMix q0) ^^^ q1)))])) t := by
    intro t k
    show Steps p.tables e below (T8.setTop (mkF m 37 #[.val (.long q0), .second, .val (.ref ra), .val (.long (fMix q0)), .second, .val (.ref ra), .val (.int (1 : Int32)), .val (.int (0 : Int32)), .val (.long q1), .second] [(.long (fMix ((fMix q0) ^^^ q1)))])) _
    refine XS.lstoreN X8.here hx rfl (hb hby d1_37) rfl (l' := #[.val (.long q0), .second, .val (.ref ra), .val (.long (fMix ((fMix q0) ^^^ q1))), .second, .val (.ref ra), .val (.int (1 : Int32)), .val (.int (0 : Int32)), .val (.long q1), .second]) rfl ?_
    show Steps p.tables e below (T8.setTop (mkF m 38 #[.val (.long q0), .second, .val (.ref ra), .val (.long (fMix ((fMix q0) ^^^ q1))), .second, .val (.ref ra), .val (.int (1 : Int32)), .val (.int (0 : Int32)), .val (.long q1), .second] [])) _
    refine XS.iinc X8.here hx rfl (hb hby d1_38) rfl (l' := #[.val (.long q0), .second, .val (.ref ra), .val (.long (fMix ((fMix q0) ^^^ q1))), .second, .val (.ref ra), .val (.int (1 : Int32)), .val (.int (1 : Int32)), .val (.long q1), .second]) rfl ?_
    show Steps p.tables e below (T8.setTop (mkF m 41 #[.val (.long q0), .second, .val (.ref ra), .val (.long (fMix ((fMix q0) ^^^ q1))), .second, .val (.ref ra), .val (.int (1 : Int32)), .val (.int (1 : Int32)), .val (.long q1), .second] [])) _
    refine XS.goto X8.here hx rfl (pc0 := 41) (pc' := 16) rfl (hb hby d1_41) (by decide) (by decide) ?_
    show Steps p.tables e below (T8.setTop (mkF m 16 #[.val (.long q0), .second, .val (.ref ra), .val (.long (fMix ((fMix q0) ^^^ q1))), .second, .val (.ref ra), .val (.int (1 : Int32)), .val (.int (1 : Int32)), .val (.long q1), .second] [])) _
    refine XS.iload X8.here hx rfl (hb hby d1_16) rfl ?_
    show Steps p.tables e below (T8.setTop (mkF m 18 #[.val (.long q0), .second, .val (.ref ra), .val (.long (fMix ((fMix q0) ^^^ q1))), .second, .val (.ref ra), .val (.int (1 : Int32)), .val (.int (1 : Int32)), .val (.long q1), .second] [(.int (1 : Int32))])) _
    refine XS.iload X8.here hx rfl (hb hby d1_18) rfl ?_
    show Steps p.tables e below (T8.setTop (mkF m 20 #[.val (.long q0), .second, .val (.ref ra), .val (.long (fMix ((fMix q0) ^^^ q1))), .second, .val (.ref ra), .val (.int (1 : Int32)), .val (.int (1 : Int32)), .val (.long q1), .second] [(.int (1 : Int32)), (.int (1 : Int32))])) _
    refine XS.icmpYes X8.here hx rfl (pc0 := 20) (pc' := 44) rfl (hb hby d1_20) rfl (flt (by decide : ¬ ((1 : Int32) < (1 : Int32)))).2.1 (by decide) (by decide) ?_
    show Steps p.tables e below (T8.setTop (mkF m 44 #[.val (.long q0), .second, .val (.ref ra), .val (.long (fMix ((fMix q0) ^^^ q1))), .second, .val (.ref ra), .val (.int (1 : Int32)), .val (.int (1 : Int32)), .val (.long q1), .second] [])) _
    refine XS.lloadN X8.here hx rfl (hb hby d1_44) rfl ?_
    exact k
  obtain ⟨fs, hr, hrun, hended, hW, hsame⟩ := X8.leave (v := some (.long (fMix ((fMix q0) ^^^ q1)))) (fun h => by rw [Bd.returns] at h; cases h)
  refine ⟨_, _, pre0 _ ?_, hrun, hended, _, _, rfl, ?_, ⟨_, rfl⟩, hW, hsame.mono (by decide) (by decide)⟩
  · show Steps p.tables e below (s₁.setTop (mkF m 0 #[.val (.long q0), .second, .val (.ref ra), .unset, .unset, .unset, .unset, .unset, .unset, .unset] [])) _
    refine sg1 _ ?_
    show Steps p.tables e below (s₁.setTop (mkF m 1 #[.val (.long q0), .second, .val (.ref ra), .unset, .unset, .unset, .unset, .unset, .unset, .unset] [(.long q0)])) _
    refine st2 _ ?_
    show Steps p.tables e below (T2.setTop (mkF m 4 #[.val (.long q0), .second, .val (.ref ra), .unset, .unset, .unset, .unset, .unset, .unset, .unset] [(.long (fMix q0))])) _
    refine sg3 _ ?_
    show Steps p.tables e below (T2.setTop (mkF m 10 #[.val (.long q0), .second, .val (.ref ra), .val (.long (fMix q0)), .second, .val (.ref ra), .unset, .unset, .unset, .unset] [(.ref ra)])) _
    refine st4 _ ?_
    show Steps p.tables e below (T2.setTop (mkF m 11 #[.val (.long q0), .second, .val (.ref ra), .val (.long (fMix q0)), .second, .val (.ref ra), .unset, .unset, .unset, .unset] [(.int (1 : Int32))])) _
    refine sg5 _ ?_
    show Steps p.tables e below (T2.setTop (mkF m 27 #[.val (.long q0), .second, .val (.ref ra), .val (.long (fMix q0)), .second, .val (.ref ra), .val (.int (1 : Int32)), .val (.int (0 : Int32)), .unset, .unset] [(.int (0 : Int32)), (.ref ra)])) _
    refine st6 _ ?_
    show Steps p.tables e below (T2.setTop (mkF m 28 #[.val (.long q0), .second, .val (.ref ra), .val (.long (fMix q0)), .second, .val (.ref ra), .val (.int (1 : Int32)), .val (.int (0 : Int32)), .unset, .unset] [(.long q1)])) _
    refine sg7 _ ?_
    show Steps p.tables e below (T2.setTop (mkF m 34 #[.val (.long q0), .second, .val (.ref ra), .val (.long (fMix q0)), .second, .val (.ref ra), .val (.int (1 : Int32)), .val (.int (0 : Int32)), .val (.long q1), .second] [(.long ((fMix q0) ^^^ q1))])) _
    refine st8 _ ?_
    show Steps p.tables e below (T8.setTop (mkF m 37 #[.val (.long q0), .second, .val (.ref ra), .val (.long (fMix q0)), .second, .val (.ref ra), .val (.int (1 : Int32)), .val (.int (0 : Int32)), .val (.long q1), .second] [(.long (fMix ((fMix q0) ^^^ q1)))])) _
    refine sg9 _ ?_
    show Steps p.tables e below (T8.setTop (mkF m 45 #[.val (.long q0), .second, .val (.ref ra), .val (.long (fMix ((fMix q0) ^^^ q1))), .second, .val (.ref ra), .val (.int (1 : Int32)), .val (.int (1 : Int32)), .val (.long q1), .second] [(.long (fMix ((fMix q0) ^^^ q1)))])) _
    jvm_step X8.here [X8.here.top, hx, (hb hby d1_45), X8.method', Bd.returns, narrow]
    first | (intro acts; rw [hr _ acts rfl rfl rfl]) | rw [hr _ _ rfl rfl rfl]
    exact Steps.refl _
  · show Q_rmD1 Z q0 ra kk q1 h0 n0 _ T8.heap _
    rw [e8]
    exact ⟨rfl, N8, rfl⟩
def Q_rmD2 (Z : State) (q0 : Int64) (ra : Addr) (kk : ClassId) (q1 : Int64) (q2 : Int64) (h0 : Heap) (n0 : Nat) (v : Option Value) (h : Heap) (L : List Loc) : Prop := v = some (.long (fMix ((fMix ((fMix q0) ^^^ q1)) ^^^ q2))) ∧ Fr n0 L ∧ h = h0
theorem ef_rmD2 (m : MethodId) (x0 : Int64) (x1 : Addr) : entryFrame m #[(.long x0), (.ref x1)] 10 = mkF m 0 #[.val (.long x0), .second, .val (.ref x1), .unset, .unset, .unset, .unset, .unset, .unset, .unset] [] := by first | (simp [entryFrame, mkF, argsToLocals, Value.category]; done) | rfl
set_option maxRecDepth 65536 in
set_option maxHeartbeats 40000000 in
theorem rmD2 (l : Launch) (Z : State) (a0 : Array Value) (hw : ∀ d ∈ tables_1, d.before a0 Z = true) (ws : List Jvm.Cond) (q0 : Int64) (ra : Addr) (kk : ClassId) (q1 : Int64) (q2 : Int64) (h0 : Heap) (n0 : Nat) (Z0 : n0 ≤ h0.size) (P0 : Arv Z h0 ra kk .long (2 : Int32) [(.long q1), (.long q2)] (.long (0 : Int64))) :
    MetFree l (⟨"com/example/haversack/haversack/evaluation/Seeds", "derived", "(J[J)J"⟩ : MethodName) (head1 (Jvm.Cond.code (⟨"com/example/haversack/haversack/evaluation/Seeds", "derived", "(J[J)J"⟩ : MethodName) prog_82_method_2_code 10 (some .long) :: ws) ({ frames := 1, cells := 0, slots := 0, locals := 15 } : Room)) (fun a U => a = #[(.long q0), (.ref ra)] ∧ Z.Warmed39 U.vm ∧ U.heap = h0) (fun _ _ _ _ _ => True) (fun _ U o U' => ∃ v L, o = .returned v ∧ Q_rmD2 Z q0 ra kk q1 q2 h0 n0 v U'.heap L ∧ FrameEnd U o U' L ({ frames := 1, cells := 0, slots := 0, locals := 15 } : Room).cells ({ frames := 1, cells := 0, slots := 0, locals := 15 } : Room).slots) := by
  refine MetFree.of_bodySF (plainFor_of_name pn_0) hisR ?_
  intro p e s m args below meth c s₁ Bd hml0 hP hK
  obtain ⟨rfl, hZ, hh⟩ := hP
  have hx := Bd.exec
  have hby := Bd.bytes
  have hml : c.maxLocals = 10 := hml0
  have hown : s.vm.findClass "com/example/haversack/haversack/evaluation/Seeds" = some m.cls := findClass_of_methodNamed Bd.named
  have hnm := (name_of_methodNamed Bd.named Bd.method).1
  have X0 : Stand p l e ({ frames := 1, cells := 0, slots := 0, locals := 15 } : Room) s m #[(.long q0), (.ref ra)] below meth c s₁ [] 0 0 := Stand.of_body Bd
  have e0 : s₁.heap = h0 := by rw [← hh, Bd.state]; rfl
  have N0 := Fr.nil n0
  have pre0 : ∀ t, Steps p.tables e below (s₁.setTop (mkF m 0 #[.val (.long q0), .second, .val (.ref ra), .unset, .unset, .unset, .unset, .unset, .unset, .unset] [])) t → Steps p.tables e below (s₁.setTop (entryFrame m #[(.long q0), (.ref ra)] 10)) t := fun t k => castTop (ef_rmD2 m q0 ra) k
  have sg1 : ∀ t, Steps p.tables e below (s₁.setTop (mkF m 1 #[.val (.long q0), .second, .val (.ref ra), .unset, .unset, .unset, .unset, .unset, .unset, .unset] [(.long q0)])) t → Steps p.tables e below (s₁.setTop (mkF m 0 #[.val (.long q0), .second, .val (.ref ra), .unset, .unset, .unset, .unset, .unset, .unset, .unset] [])) t := by
    intro t k
    show Steps p.tables e below (s₁.setTop (mkF m 0 #[.val (.long q0), .second, .val (.ref ra), .unset, .unset, .unset, .unset, .unset, .unset, .unset] [])) _
    refine XS.lloadN X0.here hx rfl (hb hby d1_0) rfl ?_
    exact k
  obtain ⟨_, _, ⟨T2, L2, k2, n2⟩, -, X2, ⟨Lc2, hQ2, l2, y2, z2⟩, st2⟩ := Jvm.LawKit.callS X0 hx (y := (⟨"com/example/haversack/haversack/evaluation/Seeds", "mix", "(J)J"⟩ : MethodName)) hown (mvT hZ (hw _ (List.mem_of_getElem? (i := 5) rfl))) (mvT hZ (hw _ (List.mem_of_getElem? (i := 6) rfl))) (mvT hZ (hw _ (List.mem_of_getElem? (i := 3) rfl))) (mvT hZ (hw _ (List.mem_of_getElem? (i := 7) rfl))) (by decide) (backOf (W := 0) (rmM l Z a0 hw [] q0 h0 n0 Z0) hZ (hw _ (List.mem_of_getElem? (i := 7) rfl)) (hw _ (List.mem_of_getElem? (i := 3) rfl)) (by decide) (by decide)) (g := (mkF m 1 #[.val (.long q0), .second, .val (.ref ra), .unset, .unset, .unset, .unset, .unset, .unset, .unset] [(.long q0)])) rfl (by rw [hml]; rfl) (argsL := [(.long q0)]) (rest := []) (lenOf pd_0 rfl) rfl (by show 2 * 0 + _ ≤ _; exact Nat.le_of_eq rfl) (hb hby d1_1) (fun _ _ => ⟨rfl, e0, (by decide : 0 + 0 ≤ _), (by decide : 0 + 0 ≤ _)⟩)
  dsimp only [Pt.U, Pt.locs, Pt.cells, Pt.slots] at X2 l2 y2 z2 st2 hQ2
  subst l2 y2 z2
  obtain ⟨rfl, N2q, e2⟩ := hQ2
  have N2 := Fr.app N0 N2q
  have sg3 : ∀ t, Steps p.tables e below (T2.setTop (mkF m 10 #[.val (.long q0), .second, .val (.ref ra), .val (.long (fMix q0)), .second, .val (.ref ra), .unset, .unset, .unset, .unset] [(.ref ra)])) t → Steps p.tables e below (T2.setTop (mkF m 4 #[.val (.long q0), .second, .val (.ref ra), .unset, .unset, .unset, .unset, .unset, .unset, .unset] [(.long (fMix q0))])) t := by
    intro t k
    show Steps p.tables e below (T2.setTop (mkF m 4 #[.val (.long q0), .second, .val (.ref ra), .unset, .unset, .unset, .unset, .unset, .unset, .unset] [(.long (fMix q0))])) _
    refine XS.lstoreN X2.here hx rfl (hb hby d1_4) rfl (l' := #[.val (.long q0), .second, .val (.ref ra), .val (.long (fMix q0)), .second, .unset, .unset, .unset, .unset, .unset]) rfl ?_
    show Steps p.tables e below (T2.setTop (mkF m 5 #[.val (.long q0), .second, .val (.ref ra), .val (.long (fMix q0)), .second, .unset, .unset, .unset, .unset, .unset] [])) _
    refine XS.aloadN X2.here hx rfl (hb hby d1_5) rfl rfl ?_
    show Steps p.tables e below (T2.setTop (mkF m 6 #[.val (.long q0), .second, .val (.ref ra), .val (.long (fMix q0)), .second, .unset, .unset, .unset, .unset, .unset] [(.ref ra)])) _
    refine XS.astore X2.here hx rfl (hb hby d1_6) rfl rfl (l' := #[.val (.long q0), .second, .val (.ref ra), .val (.long (fMix q0)), .second, .val (.ref ra), .unset, .unset, .unset, .unset]) rfl ?_
    show Steps p.tables e below (T2.setTop (mkF m 8 #[.val (.long q0), .second, .val (.ref ra), .val (.long (fMix q0)), .second, .val (.ref ra), .unset, .unset, .unset, .unset] [])) _
    refine XS.aload X2.here hx rfl (hb hby d1_8) rfl rfl ?_
    exact k
  obtain ⟨cl4, Ar4, q4, Sz4, Nn4, Hs4, G4⟩ := id P0
  have st4 : ∀ t, Steps p.tables e below (T2.setTop (mkF m 11 #[.val (.long q0), .second, .val (.ref ra), .val (.long (fMix q0)), .second, .val (.ref ra), .unset, .unset, .unset, .unset] [(.int (2 : Int32))])) t → Steps p.tables e below (T2.setTop (mkF m 10 #[.val (.long q0), .second, .val (.ref ra), .val (.long (fMix q0)), .second, .val (.ref ra), .unset, .unset, .unset, .unset] [(.ref ra)])) t := by
    intro t k
    refine X2.arraylength hx (by rw [e2]; exact Ar4.1) (State.isArrayOf_alike hZ.alike Ar4.2.1) (g := (mkF m 10 #[.val (.long q0), .second, .val (.ref ra), .val (.long (fMix q0)), .second, .val (.ref ra), .unset, .unset, .unset, .unset] [(.ref ra)])) rfl rfl (hb hby d1_10) _ ?_
    rw [len_of Sz4 Nn4]
    exact k
  have sg5 : ∀ t, Steps p.tables e below (T2.setTop (mkF m 27 #[.val (.long q0), .second, .val (.ref ra), .val (.long (fMix q0)), .second, .val (.ref ra), .val (.int (2 : Int32)), .val (.int (0 : Int32)), .unset, .unset] [(.int (0 : Int32)), (.ref ra)])) t → Steps p.tables e below (T2.setTop (mkF m 11 #[.val (.long q0), .second, .val (.ref ra), .val (.long (fMix q0)), .second, .val (.ref ra), .unset, .unset, .unset, .unset] [(.int (2 : Int32))])) t := by
    intro t k
    show Steps p.tables e below (T2.setTop (mkF m 11 #[.val (.long q0), .second, .val (.ref ra), .val (.long (fMix q0)), .second, .val (.ref ra), .unset, .unset, .unset, .unset] [(.int (2 : Int32))])) _
    refine XS.istore X2.here hx rfl (hb hby d1_11) rfl (l' := #[.val (.long q0), .second, .val (.ref ra), .val (.long (fMix q0)), .second, .val (.ref ra), .val (.int (2 : Int32)), .unset, .unset, .unset]) rfl ?_
    show Steps p.tables e below (T2.setTop (mkF m 13 #[.val (.long q0), .second, .val (.ref ra), .val (.long (fMix q0)), .second, .val (.ref ra), .val (.int (2 : Int32)), .unset, .unset, .unset] [])) _
    refine XS.iconst X2.here hx rfl (hb hby d1_13) ?_
    show Steps p.tables e below (T2.setTop (mkF m 14 #[.val (.long q0), .second, .val (.ref ra), .val (.long (fMix q0)), .second, .val (.ref ra), .val (.int (2 : Int32)), .unset, .unset, .unset] [(.int (0 : Int32))])) _
    refine XS.istore X2.here hx rfl (hb hby d1_14) rfl (l' := #[.val (.long q0), .second, .val (.ref ra), .val (.long (fMix q0)), .second, .val (.ref ra), .val (.int (2 : Int32)), .val (.int (0 : Int32)), .unset, .unset]) rfl ?_
    show Steps p.tables e below (T2.setTop (mkF m 16 #[.val (.long q0), .second, .val (.ref ra), .val (.long (fMix q0)), .second, .val (.ref ra), .val (.int (2 : Int32)), .val (.int (0 : Int32)), .unset, .unset] [])) _
    refine XS.iload X2.here hx rfl (hb hby d1_16) rfl ?_
    show Steps p.tables e below (T2.setTop (mkF m 18 #[.val (.long q0), .second, .val (.ref ra), .val (.long (fMix q0)), .second, .val (.ref ra), .val (.int (2 : Int32)), .val (.int (0 : Int32)), .unset, .unset] [(.int (0 : Int32))])) _
    refine XS.iload X2.here hx rfl (hb hby d1_18) rfl ?_
    show Steps p.tables e below (T2.setTop (mkF m 20 #[.val (.long q0), .second, .val (.ref ra), .val (.long (fMix q0)), .second, .val (.ref ra), .val (.int (2 : Int32)), .val (.int (0 : Int32)), .unset, .unset] [(.int (2 : Int32)), (.int (0 : Int32))])) _
    refine XS.icmpNo X2.here hx rfl (hb hby d1_20) rfl (tlt (by decide : (0 : Int32) < (2 : Int32))).2.1 ?_
    show Steps p.tables e below (T2.setTop (mkF m 23 #[.val (.long q0), .second, .val (.ref ra), .val (.long (fMix q0)), .second, .val (.ref ra), .val (.int (2 : Int32)), .val (.int (0 : Int32)), .unset, .unset] [])) _
    refine XS.aload X2.here hx rfl (hb hby d1_23) rfl rfl ?_
    show Steps p.tables e below (T2.setTop (mkF m 25 #[.val (.long q0), .second, .val (.ref ra), .val (.long (fMix q0)), .second, .val (.ref ra), .val (.int (2 : Int32)), .val (.int (0 : Int32)), .unset, .unset] [(.ref ra)])) _
    refine XS.iload X2.here hx rfl (hb hby d1_25) rfl ?_
    exact k
  obtain ⟨cl6, Ar6, q6, Sz6, Nn6, Hs6, G6⟩ := id P0
  have hin6 : ¬ ((0 : Int32) < 0 ∨ cl6.slots.size ≤ ((0 : Int32)).toNatClampNeg) := inb_of Sz6 ⟨by decide, by decide⟩
  have hat6 : cl6.slots[((0 : Int32)).toNatClampNeg]? = some (.long q1) := Has.at Hs6 hin6 rfl
  have st6 : ∀ t, Steps p.tables e below (T2.setTop (mkF m 28 #[.val (.long q0), .second, .val (.ref ra), .val (.long (fMix q0)), .second, .val (.ref ra), .val (.int (2 : Int32)), .val (.int (0 : Int32)), .unset, .unset] [(.long q1)])) t → Steps p.tables e below (T2.setTop (mkF m 27 #[.val (.long q0), .second, .val (.ref ra), .val (.long (fMix q0)), .second, .val (.ref ra), .val (.int (2 : Int32)), .val (.int (0 : Int32)), .unset, .unset] [(.int (0 : Int32)), (.ref ra)])) t := by
    intro t k
    refine X2.laload hx (j := (0 : Int32)) (v := (.long q1)) (by rw [e2]; exact Ar6.1) (State.isArrayOf_alike hZ.alike Ar6.2.1) Ar6.2.2 hin6 hat6 (g := (mkF m 27 #[.val (.long q0), .second, .val (.ref ra), .val (.long (fMix q0)), .second, .val (.ref ra), .val (.int (2 : Int32)), .val (.int (0 : Int32)), .unset, .unset] [(.int (0 : Int32)), (.ref ra)])) rfl rfl (hb hby d1_27) _ ?_
    exact k
  have sg7 : ∀ t, Steps p.tables e below (T2.setTop (mkF m 34 #[.val (.long q0), .second, .val (.ref ra), .val (.long (fMix q0)), .second, .val (.ref ra), .val (.int (2 : Int32)), .val (.int (0 : Int32)), .val (.long q1), .second] [(.long ((fMix q0) ^^^ q1))])) t → Steps p.tables e below (T2.setTop (mkF m 28 #[.val (.long q0), .second, .val (.ref ra), .val (.long (fMix q0)), .second, .val (.ref ra), .val (.int (2 : Int32)), .val (.int (0 : Int32)), .unset, .unset] [(.long q1)])) t := by
    intro t k
    show Steps p.tables e below (T2.setTop (mkF m 28 #[.val (.long q0), .second, .val (.ref ra), .val (.long (fMix q0)), .second, .val (.ref ra), .val (.int (2 : Int32)), .val (.int (0 : Int32)), .unset, .unset] [(.long q1)])) _
    refine XS.lstore X2.here hx rfl (hb hby d1_28) rfl (l' := #[.val (.long q0), .second, .val (.ref ra), .val (.long (fMix q0)), .second, .val (.ref ra), .val (.int (2 : Int32)), .val (.int (0 : Int32)), .val (.long q1), .second]) rfl ?_
    show Steps p.tables e below (T2.setTop (mkF m 30 #[.val (.long q0), .second, .val (.ref ra), .val (.long (fMix q0)), .second, .val (.ref ra), .val (.int (2 : Int32)), .val (.int (0 : Int32)), .val (.long q1), .second] [])) _
    refine XS.lloadN X2.here hx rfl (hb hby d1_30) rfl ?_
    show Steps p.tables e below (T2.setTop (mkF m 31 #[.val (.long q0), .second, .val (.ref ra), .val (.long (fMix q0)), .second, .val (.ref ra), .val (.int (2 : Int32)), .val (.int (0 : Int32)), .val (.long q1), .second] [(.long (fMix q0))])) _
    refine XS.lload X2.here hx rfl (hb hby d1_31) rfl ?_
    show Steps p.tables e below (T2.setTop (mkF m 33 #[.val (.long q0), .second, .val (.ref ra), .val (.long (fMix q0)), .second, .val (.ref ra), .val (.int (2 : Int32)), .val (.int (0 : Int32)), .val (.long q1), .second] [(.long q1), (.long (fMix q0))])) _
    refine XS.lxor X2.here hx rfl (hb hby d1_33) rfl ?_
    exact k
  obtain ⟨_, _, ⟨T8, L8, k8, n8⟩, -, X8, ⟨Lc8, hQ8, l8, y8, z8⟩, st8⟩ := Jvm.LawKit.callS X2 hx (y := (⟨"com/example/haversack/haversack/evaluation/Seeds", "mix", "(J)J"⟩ : MethodName)) hown (mvT hZ (hw _ (List.mem_of_getElem? (i := 5) rfl))) (mvT hZ (hw _ (List.mem_of_getElem? (i := 6) rfl))) (mvT hZ (hw _ (List.mem_of_getElem? (i := 3) rfl))) (mvT hZ (hw _ (List.mem_of_getElem? (i := 7) rfl))) (by decide) (backOf (W := 0) (rmM l Z a0 hw [] ((fMix q0) ^^^ q1) h0 n0 Z0) hZ (hw _ (List.mem_of_getElem? (i := 7) rfl)) (hw _ (List.mem_of_getElem? (i := 3) rfl)) (by decide) (by decide)) (g := (mkF m 34 #[.val (.long q0), .second, .val (.ref ra), .val (.long (fMix q0)), .second, .val (.ref ra), .val (.int (2 : Int32)), .val (.int (0 : Int32)), .val (.long q1), .second] [(.long ((fMix q0) ^^^ q1))])) rfl (by rw [hml]; rfl) (argsL := [(.long ((fMix q0) ^^^ q1))]) (rest := []) (lenOf pd_0 rfl) rfl (by show 2 * 0 + _ ≤ _; exact Nat.le_of_eq rfl) (hb hby d1_34) (fun _ _ => ⟨rfl, e2, (by decide : 0 + 0 ≤ _), (by decide : 0 + 0 ≤ _)⟩)
  dsimp only [Pt.U, Pt.locs, Pt.cells, Pt.slots] at X8 l8 y8 z8 st8 hQ8
  subst l8 y8 z8
  obtain ⟨rfl, N8q, e8⟩ := hQ8
  have N8 := Fr.app N2 N8q
  have sg9 : ∀ t, Steps p.tables e below (T8.setTop (mkF m 27 #[.val (.long q0), .second, .val (.ref ra), .val (.long (fMix ((fMix q0) ^^^ q1))), .second, .val (.ref ra), .val (.int (2 : Int32)), .val (.int (1 : Int32)), .val (.long q1), .second] [(.int (1 : Int32)), (.ref ra)])) t → Steps p.tables e below (T8.setTop (mkF m 37 #[.val (.long q0), .second, .val (.ref ra), .val (.long (fMix q0)), .second, .val (.ref ra), .val (.int (2 : Int32)), .val (.int (0 : Int32)), .val (.long q1), .second] [(.long (fMix ((fMix q0) ^^^ q1)))])) t := by
    intro t k
    show Steps p.tables e below (T8.setTop (mkF m 37 #[.val (.long q0), .second, .val (.ref ra), .val (.long (fMix q0)), .second, .val (.ref ra), .val (.int (2 : Int32)), .val (.int (0 : Int32)), .val (.long q1), .second] [(.long (fMix ((fMix q0) ^^^ q1)))])) _
    refine XS.lstoreN X8.here hx rfl (hb hby d1_37) rfl (l' := #[.val (.long q0), .second, .val (.ref ra), .val (.long (fMix ((fMix q0) ^^^ q1))), .second, .val (.ref ra), .val (.int (2 : Int32)), .val (.int (0 : Int32)), .val (.long q1), .second]) rfl ?_
    show Steps p.tables e below (T8.setTop (mkF m 38 #[.val (.long q0), .second, .val (.ref ra), .val (.long (fMix ((fMix q0) ^^^ q1))), .second, .val (.ref ra), .val (.int (2 : Int32)), .val (.int (0 : Int32)), .val (.long q1), .second] [])) _
    refine XS.iinc X8.here hx rfl (hb hby d1_38) rfl (l' := #[.val (.long q0), .second, .val (.ref ra), .val (.long (fMix ((fMix q0) ^^^ q1))), .second, .val (.ref ra), .val (.int (2 : Int32)), .val (.int (1 : Int32)), .val (.long q1), .second]) rfl ?_
    show Steps p.tables e below (T8.setTop (mkF m 41 #[.val (.long q0), .second, .val (.ref ra), .val (.long (fMix ((fMix q0) ^^^ q1))), .second, .val (.ref ra), .val (.int (2 : Int32)), .val (.int (1 : Int32)), .val (.long q1), .second] [])) _
    refine XS.goto X8.here hx rfl (pc0 := 41) (pc' := 16) rfl (hb hby d1_41) (by decide) (by decide) ?_
    show Steps p.tables e below (T8.setTop (mkF m 16 #[.val (.long q0), .second, .val (.ref ra), .val (.long (fMix ((fMix q0) ^^^ q1))), .second, .val (.ref ra), .val (.int (2 : Int32)), .val (.int (1 : Int32)), .val (.long q1), .second] [])) _
    refine XS.iload X8.here hx rfl (hb hby d1_16) rfl ?_
    show Steps p.tables e below (T8.setTop (mkF m 18 #[.val (.long q0), .second, .val (.ref ra), .val (.long (fMix ((fMix q0) ^^^ q1))), .second, .val (.ref ra), .val (.int (2 : Int32)), .val (.int (1 : Int32)), .val (.long q1), .second] [(.int (1 : Int32))])) _
    refine XS.iload X8.here hx rfl (hb hby d1_18) rfl ?_
    show Steps p.tables e below (T8.setTop (mkF m 20 #[.val (.long q0), .second, .val (.ref ra), .val (.long (fMix ((fMix q0) ^^^ q1))), .second, .val (.ref ra), .val (.int (2 : Int32)), .val (.int (1 : Int32)), .val (.long q1), .second] [(.int (2 : Int32)), (.int (1 : Int32))])) _
    refine XS.icmpNo X8.here hx rfl (hb hby d1_20) rfl (tlt (by decide : (1 : Int32) < (2 : Int32))).2.1 ?_
    show Steps p.tables e below (T8.setTop (mkF m 23 #[.val (.long q0), .second, .val (.ref ra), .val (.long (fMix ((fMix q0) ^^^ q1))), .second, .val (.ref ra), .val (.int (2 : Int32)), .val (.int (1 : Int32)), .val (.long q1), .second] [])) _
    refine XS.aload X8.here hx rfl (hb hby d1_23) rfl rfl ?_
    show Steps p.tables e below (T8.setTop (mkF m 25 #[.val (.long q0), .second, .val (.ref ra), .val (.long (fMix ((fMix q0) ^^^ q1))), .second, .val (.ref ra), .val (.int (2 : Int32)), .val (.int (1 : Int32)), .val (.long q1), .second] [(.ref ra)])) _
    refine XS.iload X8.here hx rfl (hb hby d1_25) rfl ?_
    exact k
  obtain ⟨cl10, Ar10, q10, Sz10, Nn10, Hs10, G10⟩ := id P0
  have hin10 : ¬ ((1 : Int32) < 0 ∨ cl10.slots.size ≤ ((1 : Int32)).toNatClampNeg) := inb_of Sz10 ⟨by decide, by decide⟩
  have hat10 : cl10.slots[((1 : Int32)).toNatClampNeg]? = some (.long q2) := Has.at Hs10 hin10 rfl
  have st10 : ∀ t, Steps p.tables e below (T8.setTop (mkF m 28 #[.val (.long q0), .second, .val (.ref ra), .val (.long (fMix ((fMix q0) ^^^ q1))), .second, .val (.ref ra), .val (.int (2 : Int32)), .val (.int (1 : Int32)), .val (.long q1), .second] [(.long q2)])) t → Steps p.tables e below (T8.setTop (mkF m 27 #[.val (.long q0), .second, .val (.ref ra), .val (.long (fMix ((fMix q0) ^^^ q1))), .second, .val (.ref ra), .val (.int (2 : Int32)), .val (.int (1 : Int32)), .val (.long q1), .second] [(.int (1 : Int32)), (.ref ra)])) t := by
    intro t k
    refine X8.laload hx (j := (1 : Int32)) (v := (.long q2)) (by rw [e8]; exact Ar10.1) (State.isArrayOf_alike hZ.alike Ar10.2.1) Ar10.2.2 hin10 hat10 (g := (mkF m 27 #[.val (.long q0), .second, .val (.ref ra), .val (.long (fMix ((fMix q0) ^^^ q1))), .second, .val (.ref ra), .val (.int (2 : Int32)), .val (.int (1 : Int32)), .val (.long q1), .second] [(.int (1 : Int32)), (.ref ra)])) rfl rfl (hb hby d1_27) _ ?_
    exact k
  have sg11 : ∀ t, Steps p.tables e below (T8.setTop (mkF m 34 #[.val (.long q0), .second, .val (.ref ra), .val (.long (fMix ((fMix q0) ^^^ q1))), .second, .val (.ref ra), .val (.int (2 : Int32)), .val (.int (1 : Int32)), .val (.long q2), .second] [(.long ((fMix ((fMix q0) ^^^ q1)) ^^^ q2))])) t → Steps p.tables e below (T8.setTop (mkF m 28 #[.val (.long q0), .second, .val (.ref ra), .val (.long (fMix ((fMix q0) ^^^ q1))), .second, .val (.ref ra), .val (.int (2 : Int32)), .val (.int (1 : Int32)), .val (.long q1), .second] [(.long q2)])) t := by
    intro t k
    show Steps p.tables e below (T8.setTop (mkF m 28 #[.val (.long q0), .second, .val (.ref ra), .val (.long (fMix ((fMix q0) ^^^ q1))), .second, .val (.ref ra), .val (.int (2 : Int32)), .val (.int (1 : Int32)), .val (.long q1), .second] [(.long q2)])) _
    refine XS.lstore X8.here hx rfl (hb hby d1_28) rfl (l' := #[.val (.long q0), .second, .val (.ref ra), .val (.long (fMix ((fMix q0) ^^^ q1))), .second, .val (.ref ra), .val (.int (2 : Int32)), .val (.int (1 : Int32)), .val (.long q2), .second]) rfl ?_
    show Steps p.tables e below (T8.setTop (mkF m 30 #[.val (.long q0), .second, .val (.ref ra), .val (.long (fMix ((fMix q0) ^^^ q1))), .second, .val (.ref ra), .val (.int (2 : Int32)), .val (.int (1 : Int32)), .val (.long q2), .second] [])) _
    refine XS.lloadN X8.here hx rfl (hb hby d1_30) rfl ?_
    show Steps p.tables e below (T8.setTop (mkF m 31 #[.val (.long q0), .second, .val (.ref ra), .val (.long (fMix ((fMix q0) ^^^ q1))), .second, .val (.ref ra), .val (.int (2 : Int32)), .val (.int (1 : Int32)), .val (.long q2), .second] [(.long (fMix ((fMix q0) ^^^ q1)))])) _
    refine XS.lload X8.here hx rfl (hb hby d1_31) rfl ?_
    show Steps p.tables e below (T8.setTop (mkF m 33 #[.val (.long q0), .second, .val (.ref ra), .val (.long (fMix ((fMix q0) ^^^ q1))), .second, .val (.ref ra), .val (.int (2 : Int32)), .val (.int (1 : Int32)), .val (.long q2), .second] [(.long q2), (.long (fMix ((fMix q0) ^^^ q1)))])) _
    refine XS.lxor X8.here hx rfl (hb hby d1_33) rfl ?_
    exact k
  obtain ⟨_, _, ⟨T12, L12, k12, n12⟩, -, X12, ⟨Lc12, hQ12, l12, y12, z12⟩, st12⟩ := Jvm.LawKit.callS X8 hx (y := (⟨"com/example/haversack/haversack/evaluation/Seeds", "mix", "(J)J"⟩ : MethodName)) hown (mvT hZ (hw _ (List.mem_of_getElem? (i := 5) rfl))) (mvT hZ (hw _ (List.mem_of_getElem? (i := 6) rfl))) (mvT hZ (hw _ (List.mem_of_getElem? (i := 3) rfl))) (mvT hZ (hw _ (List.mem_of_getElem? (i := 7) rfl))) (by decide) (backOf (W := 0) (rmM l Z a0 hw [] ((fMix ((fMix q0) ^^^ q1)) ^^^ q2) h0 n0 Z0) hZ (hw _ (List.mem_of_getElem? (i := 7) rfl)) (hw _ (List.mem_of_getElem? (i := 3) rfl)) (by decide) (by decide)) (g := (mkF m 34 #[.val (.long q0), .second, .val (.ref ra), .val (.long (fMix ((fMix q0) ^^^ q1))), .second, .val (.ref ra), .val (.int (2 : Int32)), .val (.int (1 : Int32)), .val (.long q2), .second] [(.long ((fMix ((fMix q0) ^^^ q1)) ^^^ q2))])) rfl (by rw [hml]; rfl) (argsL := [(.long ((fMix ((fMix q0) ^^^ q1)) ^^^ q2))]) (rest := []) (lenOf pd_0 rfl) rfl (by show 2 * 0 + _ ≤ _; exact Nat.le_of_eq rfl) (hb hby d1_34) (fun _ _ => ⟨rfl, e8, (by decide : 0 + 0 ≤ _), (by decide : 0 + 0 ≤ _)⟩)
  dsimp only [Pt.U, Pt.locs, Pt.cells, Pt.slots] at X12 l12 y12 z12 st12 hQ12
  subst l12 y12 z12
  obtain ⟨rfl, N12q, e12⟩ := hQ12
  have N12 := Fr.app N8 N12q
  have sg13 : ∀ t, Steps p.tables e below (T12.setTop (mkF m 45 #[.val (.long q0), .second, .val (.ref ra), .val (.long (fMix ((fMix ((fMix q0) ^^^ q1)) ^^^ q2))), .second, .val (.ref ra), .val (.int (2 : Int32)), .val (.int (2 : Int32)), .val (.long q2), .second] [(.long (fMix ((fMix ((fMix q0) ^^^ q1)) ^^^ q2)))])) t → Steps p.tables e below (T12.setTop (mkF m 37 #[.val (.long q0), .second, .val (.ref ra), .val (.long (fMix ((fMix q0) ^^^ q1))), .second, .val (.ref ra), .val (.int (2 : Int32)), .val (.int (1 : Int32)), .val (.long q2), .second] [(.long (fMix ((fMix ((fMix q0) ^^^ q1)) ^^^ q2)))])) t := by
    intro t k
    show Steps p.tables e below (T12.setTop (mkF m 37 #[.val (.long q0), .second, .val (.ref ra), .val (.long (fMix ((fMix q0) ^^^ q1))), .second, .val (.ref ra), .val (.int (2 : Int32)), .val (.int (1 : Int32)), .val (.long q2), .second] [(.long (fMix ((fMix ((fMix q0) ^^^ q1)) ^^^ q2)))])) _
    refine XS.lstoreN X12.here hx rfl (hb hby d1_37) rfl (l' := #[.val (.long q0), .second, .val (.ref ra), .val (.long (fMix ((fMix ((fMix q0) ^^^ q1)) ^^^ q2))), .second, .val (.ref ra), .val (.int (2 : Int32)), .val (.int (1 : Int32)), .val (.long q2), .second]) rfl ?_
    show Steps p.tables e below (T12.setTop (mkF m 38 #[.val (.long q0), .second, .val (.ref ra), .val (.long (fMix ((fMix ((fMix q0) ^^^ q1)) ^^^ q2))), .second, .val (.ref ra), .val (.int (2 : Int32)), .val (.int (1 : Int32)), .val (.long q2), .second] [])) _
    refine XS.iinc X12.here hx rfl (hb hby d1_38) rfl (l' := #[.val (.long q0), .second, .val (.ref ra), .val (.long (fMix ((fMix ((fMix q0) ^^^ q1)) ^^^ q2))), .second, .val (.ref ra), .val (.int (2 : Int32)), .val (.int (2 : Int32)), .val (.long q2), .second]) rfl ?_
    show Steps p.tables e below (T12.setTop (mkF m 41 #[.val (.long q0), .second, .val (.ref ra), .val (.long (fMix ((fMix ((fMix q0) ^^^ q1)) ^^^ q2))), .second, .val (.ref ra), .val (.int (2 : Int32)), .val (.int (2 : Int32)), .val (.long q2), .second] [])) _
    refine XS.goto X12.here hx rfl (pc0 := 41) (pc' := 16) rfl (hb hby d1_41) (by decide) (by decide) ?_
    show Steps p.tables e below (T12.setTop (mkF m 16 #[.val (.long q0), .second, .val (.ref ra), .val (.long (fMix ((fMix ((fMix q0) ^^^ q1)) ^^^ q2))), .second, .val (.ref ra), .val (.int (2 : Int32)), .val (.int (2 : Int32)), .val (.long q2), .second] [])) _
    refine XS.iload X12.here hx rfl (hb hby d1_16) rfl ?_
    show Steps p.tables e below (T12.setTop (mkF m 18 #[.val (.long q0), .second, .val (.ref ra), .val (.long (fMix ((fMix ((fMix q0) ^^^ q1)) ^^^ q2))), .second, .val (.ref ra), .val (.int (2 : Int32)), .val (.int (2 : Int32)), .val (.long q2), .second] [(.int (2 : Int32))])) _
    refine XS.iload X12.here hx rfl (hb hby d1_18) rfl ?_
    show Steps p.tables e below (T12.setTop (mkF m 20 #[.val (.long q0), .second, .val (.ref ra), .val (.long (fMix ((fMix ((fMix q0) ^^^ q1)) ^^^ q2))), .second, .val (.ref ra), .val (.int (2 : Int32)), .val (.int (2 : Int32)), .val (.long q2), .second] [(.int (2 : Int32)), (.int (2 : Int32))])) _
    refine XS.icmpYes X12.here hx rfl (pc0 := 20) (pc' := 44) rfl (hb hby d1_20) rfl (flt (by decide : ¬ ((2 : Int32) < (2 : Int32)))).2.1 (by decide) (by decide) ?_
    show Steps p.tables e below (T12.setTop (mkF m 44 #[.val (.long q0), .second, .val (.ref ra), .val (.long (fMix ((fMix ((fMix q0) ^^^ q1)) ^^^ q2))), .second, .val (.ref ra), .val (.int (2 : Int32)), .val (.int (2 : Int32)), .val (.long q2), .second] [])) _
    refine XS.lloadN X12.here hx rfl (hb hby d1_44) rfl ?_
    exact k
  obtain ⟨fs, hr, hrun, hended, hW, hsame⟩ := X12.leave (v := some (.long (fMix ((fMix ((fMix q0) ^^^ q1)) ^^^ q2)))) (fun h => by rw [Bd.returns] at h; cases h)
  refine ⟨_, _, pre0 _ ?_, hrun, hended, _, _, rfl, ?_, ⟨_, rfl⟩, hW, hsame.mono (by decide) (by decide)⟩
  · show Steps p.tables e below (s₁.setTop (mkF m 0 #[.val (.long q0), .second, .val (.ref ra), .unset, .unset, .unset, .unset, .unset, .unset, .unset] [])) _
    refine sg1 _ ?_
    show Steps p.tables e below (s₁.setTop (mkF m 1 #[.val (.long q0), .second, .val (.ref ra), .unset, .unset, .unset, .unset, .unset, .unset, .unset] [(.long q0)])) _
    refine st2 _ ?_
    show Steps p.tables e below (T2.setTop (mkF m 4 #[.val (.long q0), .second, .val (.ref ra), .unset, .unset, .unset, .unset, .unset, .unset, .unset] [(.long (fMix q0))])) _
    refine sg3 _ ?_
    show Steps p.tables e below (T2.setTop (mkF m 10 #[.val (.long q0), .second, .val (.ref ra), .val (.long (fMix q0)), .second, .val (.ref ra), .unset, .unset, .unset, .unset] [(.ref ra)])) _
    refine st4 _ ?_
    show Steps p.tables e below (T2.setTop (mkF m 11 #[.val (.long q0), .second, .val (.ref ra), .val (.long (fMix q0)), .second, .val (.ref ra), .unset, .unset, .unset, .unset] [(.int (2 : Int32))])) _
    refine sg5 _ ?_
    show Steps p.tables e below (T2.setTop (mkF m 27 #[.val (.long q0), .second, .val (.ref ra), .val (.long (fMix q0)), .second, .val (.ref ra), .val (.int (2 : Int32)), .val (.int (0 : Int32)), .unset, .unset] [(.int (0 : Int32)), (.ref ra)])) _
    refine st6 _ ?_
    show Steps p.tables e below (T2.setTop (mkF m 28 #[.val (.long q0), .second, .val (.ref ra), .val (.long (fMix q0)), .second, .val (.ref ra), .val (.int (2 : Int32)), .val (.int (0 : Int32)), .unset, .unset] [(.long q1)])) _
    refine sg7 _ ?_
    show Steps p.tables e below (T2.setTop (mkF m 34 #[.val (.long q0), .second, .val (.ref ra), .val (.long (fMix q0)), .second, .val (.ref ra), .val (.int (2 : Int32)), .val (.int (0 : Int32)), .val (.long q1), .second] [(.long ((fMix q0) ^^^ q1))])) _
    refine st8 _ ?_
    show Steps p.tables e below (T8.setTop (mkF m 37 #[.val (.long q0), .second, .val (.ref ra), .val (.long (fMix q0)), .second, .val (.ref ra), .val (.int (2 : Int32)), .val (.int (0 : Int32)), .val (.long q1), .second] [(.long (fMix ((fMix q0) ^^^ q1)))])) _
    refine sg9 _ ?_
    show Steps p.tables e below (T8.setTop (mkF m 27 #[.val (.long q0), .second, .val (.ref ra), .val (.long (fMix ((fMix q0) ^^^ q1))), .second, .val (.ref ra), .val (.int (2 : Int32)), .val (.int (1 : Int32)), .val (.long q1), .second] [(.int (1 : Int32)), (.ref ra)])) _
    refine st10 _ ?_
    show Steps p.tables e below (T8.setTop (mkF m 28 #[.val (.long q0), .second, .val (.ref ra), .val (.long (fMix ((fMix q0) ^^^ q1))), .second, .val (.ref ra), .val (.int (2 : Int32)), .val (.int (1 : Int32)), .val (.long q1), .second] [(.long q2)])) _
    refine sg11 _ ?_
    show Steps p.tables e below (T8.setTop (mkF m 34 #[.val (.long q0), .second, .val (.ref ra), .val (.long (fMix ((fMix q0) ^^^ q1))), .second, .val (.ref ra), .val (.int (2 : Int32)), .val (.int (1 : Int32)), .val (.long q2), .second] [(.long ((fMix ((fMix q0) ^^^ q1)) ^^^ q2))])) _
    refine st12 _ ?_
    show Steps p.tables e below (T12.setTop (mkF m 37 #[.val (.long q0), .second, .val (.ref ra), .val (.long (fMix ((fMix q0) ^^^ q1))), .second, .val (.ref ra), .val (.int (2 : Int32)), .val (.int (1 : Int32)), .val (.long q2), .second] [(.long (fMix ((fMix ((fMix q0) ^^^ q1)) ^^^ q2)))])) _
    refine sg13 _ ?_
    show Steps p.tables e below (T12.setTop (mkF m 45 #[.val (.long q0), .second, .val (.ref ra), .val (.long (fMix ((fMix ((fMix q0) ^^^ q1)) ^^^ q2))), .second, .val (.ref ra), .val (.int (2 : Int32)), .val (.int (2 : Int32)), .val (.long q2), .second] [(.long (fMix ((fMix ((fMix q0) ^^^ q1)) ^^^ q2)))])) _
    jvm_step X12.here [X12.here.top, hx, (hb hby d1_45), X12.method', Bd.returns, narrow]
    first | (intro acts; rw [hr _ acts rfl rfl rfl]) | rw [hr _ _ rfl rfl rfl]
    exact Steps.refl _
  · show Q_rmD2 Z q0 ra kk q1 q2 h0 n0 _ T12.heap _
    rw [e12]
    exact ⟨rfl, N12, rfl⟩
def Q_rmD3 (Z : State) (q0 : Int64) (ra : Addr) (kk : ClassId) (q1 : Int64) (q2 : Int64) (q3 : Int64) (h0 : Heap) (n0 : Nat) (v : Option Value) (h : Heap) (L : List Loc) : Prop := v = some (.long (fMix ((fMix ((fMix ((fMix q0) ^^^ q1)) ^^^ q2)) ^^^ q3))) ∧ Fr n0 L ∧ h = h0
theorem ef_rmD3 (m : MethodId) (x0 : Int64) (x1 : Addr) : entryFrame m #[(.long x0), (.ref x1)] 10 = mkF m 0 #[.val (.long x0), .second, .val (.ref x1), .unset, .unset, .unset, .unset, .unset, .unset, .unset] [] := by first | (simp [entryFrame, mkF, argsToLocals, Value.category]; done) | rfl
set_option maxRecDepth 65536 in
set_option maxHeartbeats 40000000 in
theorem rmD3 (l : Launch) (Z : State) (a0 : Array Value) (hw : ∀ d ∈ tables_1, d.before a0 Z = true) (ws : List Jvm.Cond) (q0 : Int64) (ra : Addr) (kk : ClassId) (q1 : Int64) (q2 : Int64) (q3 : Int64) (h0 : Heap) (n0 : Nat) (Z0 : n0 ≤ h0.size) (P0 : Arv Z h0 ra kk .long (3 : Int32) [(.long q1), (.long q2), (.long q3)] (.long (0 : Int64))) :
    MetFree l (⟨"com/example/haversack/haversack/evaluation/Seeds", "derived", "(J[J)J"⟩ : MethodName) (head1 (Jvm.Cond.code (⟨"com/example/haversack/haversack/evaluation/Seeds", "derived", "(J[J)J"⟩ : MethodName) prog_82_method_2_code 10 (some .long) :: ws) ({ frames := 1, cells := 0, slots := 0, locals := 15 } : Room)) (fun a U => a = #[(.long q0), (.ref ra)] ∧ Z.Warmed39 U.vm ∧ U.heap = h0) (fun _ _ _ _ _ => True) (fun _ U o U' => ∃ v L, o = .returned v ∧ Q_rmD3 Z q0 ra kk q1 q2 q3 h0 n0 v U'.heap L ∧ FrameEnd U o U' L ({ frames := 1, cells := 0, slots := 0, locals := 15 } : Room).cells ({ frames := 1, cells := 0, slots := 0, locals := 15 } : Room).slots) := by
  refine MetFree.of_bodySF (plainFor_of_name pn_0) hisR ?_
  intro p e s m args below meth c s₁ Bd hml0 hP hK
  obtain ⟨rfl, hZ, hh⟩ := hP
  have hx := Bd.exec
  have hby := Bd.bytes
  have hml : c.maxLocals = 10 := hml0
  have hown : s.vm.findClass "com/example/haversack/haversack/evaluation/Seeds" = some m.cls := findClass_of_methodNamed Bd.named
  have hnm := (name_of_methodNamed Bd.named Bd.method).1
  have X0 : Stand p l e ({ frames := 1, cells := 0, slots := 0, locals := 15 } : Room) s m #[(.long q0), (.ref ra)] below meth c s₁ [] 0 0 := Stand.of_body Bd
  have e0 : s₁.heap = h0 := by rw [← hh, Bd.state]; rfl
  have N0 := Fr.nil n0
  have pre0 : ∀ t, Steps p.tables e below (s₁.setTop (mkF m 0 #[.val (.long q0), .second, .val (.ref ra), .unset, .unset, .unset, .unset, .unset, .unset, .unset] [])) t → Steps p.tables e below (s₁.setTop (entryFrame m #[(.long q0), (.ref ra)] 10)) t := fun t k => castTop (ef_rmD3 m q0 ra) k
  have sg1 : ∀ t, Steps p.tables e below (s₁.setTop (mkF m 1 #[.val (.long q0), .second, .val (.ref ra), .unset, .unset, .unset, .unset, .unset, .unset, .unset] [(.long q0)])) t → Steps p.tables e below (s₁.setTop (mkF m 0 #[.val (.long q0), .second, .val (.ref ra), .unset, .unset, .unset, .unset, .unset, .unset, .unset] [])) t := by
    intro t k
    show Steps p.tables e below (s₁.setTop (mkF m 0 #[.val (.long q0), .second, .val (.ref ra), .unset, .unset, .unset, .unset, .unset, .unset, .unset] [])) _
    refine XS.lloadN X0.here hx rfl (hb hby d1_0) rfl ?_
    exact k
  obtain ⟨_, _, ⟨T2, L2, k2, n2⟩, -, X2, ⟨Lc2, hQ2, l2, y2, z2⟩, st2⟩ := Jvm.LawKit.callS X0 hx (y := (⟨"com/example/haversack/haversack/evaluation/Seeds", "mix", "(J)J"⟩ : MethodName)) hown (mvT hZ (hw _ (List.mem_of_getElem? (i := 5) rfl))) (mvT hZ (hw _ (List.mem_of_getElem? (i := 6) rfl))) (mvT hZ (hw _ (List.mem_of_getElem? (i := 3) rfl))) (mvT hZ (hw _ (List.mem_of_getElem? (i := 7) rfl))) (by decide) (backOf (W := 0) (rmM l Z a0 hw [] q0 h0 n0 Z0) hZ (hw _ (List.mem_of_getElem? (i := 7) rfl)) (hw _ (List.mem_of_getElem? (i := 3) rfl)) (by decide) (by decide)) (g := (mkF m 1 #[.val (.long q0), .second, .val (.ref ra), .unset, .unset, .unset, .unset, .unset, .unset, .unset] [(.long q0)])) rfl (by rw [hml]; rfl) (argsL := [(.long q0)]) (rest := []) (lenOf pd_0 rfl) rfl (by show 2 * 0 + _ ≤ _; exact Nat.le_of_eq rfl) (hb hby d1_1) (fun _ _ => ⟨rfl, e0, (by decide : 0 + 0 ≤ _), (by decide : 0 + 0 ≤ _)⟩)
  dsimp only [Pt.U, Pt.locs, Pt.cells, Pt.slots] at X2 l2 y2 z2 st2 hQ2
  subst l2 y2 z2
  obtain ⟨rfl, N2q, e2⟩ := hQ2
  have N2 := Fr.app N0 N2q
  have sg3 : ∀ t, Steps p.tables e below (T2.setTop (mkF m 10 #[.val (.long q0), .second, .val (.ref ra), .val (.long (fMix q0)), .second, .val (.ref ra), .unset, .unset, .unset, .unset] [(.ref ra)])) t → Steps p.tables e below (T2.setTop (mkF m 4 #[.val (.long q0), .second, .val (.ref ra), .unset, .unset, .unset, .unset, .unset, .unset, .unset] [(.long (fMix q0))])) t := by
    intro t k
    show Steps p.tables e below (T2.setTop (mkF m 4 #[.val (.long q0), .second, .val (.ref ra), .unset, .unset, .unset, .unset, .unset, .unset, .unset] [(.long (fMix q0))])) _
    refine XS.lstoreN X2.here hx rfl (hb hby d1_4) rfl (l' := #[.val (.long q0), .second, .val (.ref ra), .val (.long (fMix q0)), .second, .unset, .unset, .unset, .unset, .unset]) rfl ?_
    show Steps p.tables e below (T2.setTop (mkF m 5 #[.val (.long q0), .second, .val (.ref ra), .val (.long (fMix q0)), .second, .unset, .unset, .unset, .unset, .unset] [])) _
    refine XS.aloadN X2.here hx rfl (hb hby d1_5) rfl rfl ?_
    show Steps p.tables e below (T2.setTop (mkF m 6 #[.val (.long q0), .second, .val (.ref ra), .val (.long (fMix q0)), .second, .unset, .unset, .unset, .unset, .unset] [(.ref ra)])) _
    refine XS.astore X2.here hx rfl (hb hby d1_6) rfl rfl (l' := #[.val (.long q0), .second, .val (.ref ra), .val (.long (fMix q0)), .second, .val (.ref ra), .unset, .unset, .unset, .unset]) rfl ?_
    show Steps p.tables e below (T2.setTop (mkF m 8 #[.val (.long q0), .second, .val (.ref ra), .val (.long (fMix q0)), .second, .val (.ref ra), .unset, .unset, .unset, .unset] [])) _
    refine XS.aload X2.here hx rfl (hb hby d1_8) rfl rfl ?_
    exact k
  obtain ⟨cl4, Ar4, q4, Sz4, Nn4, Hs4, G4⟩ := id P0
  have st4 : ∀ t, Steps p.tables e below (T2.setTop (mkF m 11 #[.val (.long q0), .second, .val (.ref ra), .val (.long (fMix q0)), .second, .val (.ref ra), .unset, .unset, .unset, .unset] [(.int (3 : Int32))])) t → Steps p.tables e below (T2.setTop (mkF m 10 #[.val (.long q0), .second, .val (.ref ra), .val (.long (fMix q0)), .second, .val (.ref ra), .unset, .unset, .unset, .unset] [(.ref ra)])) t := by
    intro t k
    refine X2.arraylength hx (by rw [e2]; exact Ar4.1) (State.isArrayOf_alike hZ.alike Ar4.2.1) (g := (mkF m 10 #[.val (.long q0), .second, .val (.ref ra), .val (.long (fMix q0)), .second, .val (.ref ra), .unset, .unset, .unset, .unset] [(.ref ra)])) rfl rfl (hb hby d1_10) _ ?_
    rw [len_of Sz4 Nn4]
    exact k
  have sg5 : ∀ t, Steps p.tables e below (T2.setTop (mkF m 27 #[.val (.long q0), .second, .val (.ref ra), .val (.long (fMix q0)), .second, .val (.ref ra), .val (.int (3 : Int32)), .val (.int (0 : Int32)), .unset, .unset] [(.int (0 : Int32)), (.ref ra)])) t → Steps p.tables e below (T2.setTop (mkF m 11 #[.val (.long q0), .second, .val (.ref ra), .val (.long (fMix q0)), .second, .val (.ref ra), .unset, .unset, .unset, .unset] [(.int (3 : Int32))])) t := by
    intro t k
    show Steps p.tables e below (T2.setTop (mkF m 11 #[.val (.long q0), .second, .val (.ref ra), .val (.long (fMix q0)), .second, .val (.ref ra), .unset, .unset, .unset, .unset] [(.int (3 : Int32))])) _
    refine XS.istore X2.here hx rfl (hb hby d1_11) rfl (l' := #[.val (.long q0), .second, .val (.ref ra), .val (.long (fMix q0)), .second, .val (.ref ra), .val (.int (3 : Int32)), .unset, .unset, .unset]) rfl ?_
    show Steps p.tables e below (T2.setTop (mkF m 13 #[.val (.long q0), .second, .val (.ref ra), .val (.long (fMix q0)), .second, .val (.ref ra), .val (.int (3 : Int32)), .unset, .unset, .unset] [])) _
    refine XS.iconst X2.here hx rfl (hb hby d1_13) ?_
    show Steps p.tables e below (T2.setTop (mkF m 14 #[.val (.long q0), .second, .val (.ref ra), .val (.long (fMix q0)), .second, .val (.ref ra), .val (.int (3 : Int32)), .unset, .unset, .unset] [(.int (0 : Int32))])) _
    refine XS.istore X2.here hx rfl (hb hby d1_14) rfl (l' := #[.val (.long q0), .second, .val (.ref ra), .val (.long (fMix q0)), .second, .val (.ref ra), .val (.int (3 : Int32)), .val (.int (0 : Int32)), .unset, .unset]) rfl ?_
    show Steps p.tables e below (T2.setTop (mkF m 16 #[.val (.long q0), .second, .val (.ref ra), .val (.long (fMix q0)), .second, .val (.ref ra), .val (.int (3 : Int32)), .val (.int (0 : Int32)), .unset, .unset] [])) _
    refine XS.iload X2.here hx rfl (hb hby d1_16) rfl ?_
    show Steps p.tables e below (T2.setTop (mkF m 18 #[.val (.long q0), .second, .val (.ref ra), .val (.long (fMix q0)), .second, .val (.ref ra), .val (.int (3 : Int32)), .val (.int (0 : Int32)), .unset, .unset] [(.int (0 : Int32))])) _
    refine XS.iload X2.here hx rfl (hb hby d1_18) rfl ?_
    show Steps p.tables e below (T2.setTop (mkF m 20 #[.val (.long q0), .second, .val (.ref ra), .val (.long (fMix q0)), .second, .val (.ref ra), .val (.int (3 : Int32)), .val (.int (0 : Int32)), .unset, .unset] [(.int (3 : Int32)), (.int (0 : Int32))])) _
    refine XS.icmpNo X2.here hx rfl (hb hby d1_20) rfl (tlt (by decide : (0 : Int32) < (3 : Int32))).2.1 ?_
    show Steps p.tables e below (T2.setTop (mkF m 23 #[.val (.long q0), .second, .val (.ref ra), .val (.long (fMix q0)), .second, .val (.ref ra), .val (.int (3 : Int32)), .val (.int (0 : Int32)), .unset, .unset] [])) _
    refine XS.aload X2.here hx rfl (hb hby d1_23) rfl rfl ?_
    show Steps p.tables e below (T2.setTop (mkF m 25 #[.val (.long q0), .second, .val (.ref ra), .val (.long (fMix q0)), .second, .val (.ref ra), .val (.int (3 : Int32)), .val (.int (0 : Int32)), .unset, .unset] [(.ref ra)])) _
    refine XS.iload X2.here hx rfl (hb hby d1_25) rfl ?_
    exact k
  obtain ⟨cl6, Ar6, q6, Sz6, Nn6, Hs6, G6⟩ := id P0
  have hin6 : ¬ ((0 : Int32) < 0 ∨ cl6.slots.size ≤ ((0 : Int32)).toNatClampNeg) := inb_of Sz6 ⟨by decide, by decide⟩
  have hat6 : cl6.slots[((0 : Int32)).toNatClampNeg]? = some (.long q1) := Has.at Hs6 hin6 rfl
  have st6 : ∀ t, Steps p.tables e below (T2.setTop (mkF m 28 #[.val (.long q0), .second, .val (.ref ra), .val (.long (fMix q0)), .second, .val (.ref ra), .val (.int (3 : Int32)), .val (.int (0 : Int32)), .unset, .unset] [(.long q1)])) t → Steps p.tables e below (T2.setTop (mkF m 27 #[.val (.long q0), .second, .val (.ref ra), .val (.long (fMix q0)), .second, .val (.ref ra), .val (.int (3 : Int32)), .val (.int (0 : Int32)), .unset, .unset] [(.int (0 : Int32)), (.ref ra)])) t := by
    intro t k
    refine X2.laload hx (j := (0 : Int32)) (v := (.long q1)) (by rw [e2]; exact Ar6.1) (State.isArrayOf_alike hZ.alike Ar6.2.1) Ar6.2.2 hin6 hat6 (g := (mkF m 27 #[.val (.long q0), .second, .val (.ref ra), .val (.long (fMix q0)), .second, .val (.ref ra), .val (.int (3 : Int32)), .val (.int (0 : Int32)), .unset, .unset] [(.int (0 : Int32)), (.ref ra)])) rfl rfl (hb hby d1_27) _ ?_
    exact k
  have sg7 : ∀ t, Steps p.tables e below (T2.setTop (mkF m 34 #[.val (.long q0), .second, .val (.ref ra), .val (.long (fMix q0)), .second, .val (.ref ra), .val (.int (3 : Int32)), .val (.int (0 : Int32)), .val (.long q1), .second] [(.long ((fMix q0) ^^^ q1))])) t → Steps p.tables e below (T2.setTop (mkF m 28 #[.val (.long q0), .second, .val (.ref ra), .val (.long (fMix q0)), .second, .val (.ref ra), .val (.int (3 : Int32)), .val (.int (0 : Int32)), .unset, .unset] [(.long q1)])) t := by
    intro t k
    show Steps p.tables e below (T2.setTop (mkF m 28 #[.val (.long q0), .second, .val (.ref ra), .val (.long (fMix q0)), .second, .val (.ref ra), .val (.int (3 : Int32)), .val (.int (0 : Int32)), .unset, .unset] [(.long q1)])) _
    refine XS.lstore X2.here hx rfl (hb hby d1_28) rfl (l' := #[.val (.long q0), .second, .val (.ref ra), .val (.long (fMix q0)), .second, .val (.ref ra), .val (.int (3 : Int32)), .val (.int (0 : Int32)), .val (.long q1), .second]) rfl ?_
    show Steps p.tables e below (T2.setTop (mkF m 30 #[.val (.long q0), .second, .val (.ref ra), .val (.long (fMix q0)), .second, .val (.ref ra), .val (.int (3 : Int32)), .val (.int (0 : Int32)), .val (.long q1), .second] [])) _
    refine XS.lloadN X2.here hx rfl (hb hby d1_30) rfl ?_
    show Steps p.tables e below (T2.setTop (mkF m 31 #[.val (.long q0), .second, .val (.ref ra), .val (.long (fMix q0)), .second, .val (.ref ra), .val (.int (3 : Int32)), .val (.int (0 : Int32)), .val (.long q1), .second] [(.long (fMix q0))])) _
    refine XS.lload X2.here hx rfl (hb hby d1_31) rfl ?_
    show Steps p.tables e below (T2.setTop (mkF m 33 #[.val (.long q0), .second, .val (.ref ra), .val (.long (fMix q0)), .second, .val (.ref ra), .val (.int (3 : Int32)), .val (.int (0 : Int32)), .val (.long q1), .second] [(.long q1), (.long (fMix q0))])) _
    refine XS.lxor X2.here hx rfl (hb hby d1_33) rfl ?_
    exact k
  obtain ⟨_, _, ⟨T8, L8, k8, n8⟩, -, X8, ⟨Lc8, hQ8, l8, y8, z8⟩, st8⟩ := Jvm.LawKit.callS X2 hx (y := (⟨"com/example/haversack/haversack/evaluation/Seeds", "mix", "(J)J"⟩ : MethodName)) hown (mvT hZ (hw _ (List.mem_of_getElem? (i := 5) rfl))) (mvT hZ (hw _ (List.mem_of_getElem? (i := 6) rfl))) (mvT hZ (hw _ (List.mem_of_getElem? (i := 3) rfl))) (mvT hZ (hw _ (List.mem_of_getElem? (i := 7) rfl))) (by decide) (backOf (W := 0) (rmM l Z a0 hw [] ((fMix q0) ^^^ q1) h0 n0 Z0) hZ (hw _ (List.mem_of_getElem? (i := 7) rfl)) (hw _ (List.mem_of_getElem? (i := 3) rfl)) (by decide) (by decide)) (g := (mkF m 34 #[.val (.long q0), .second, .val (.ref ra), .val (.long (fMix q0)), .second, .val (.ref ra), .val (.int (3 : Int32)), .val (.int (0 : Int32)), .val (.long q1), .second] [(.long ((fMix q0) ^^^ q1))])) rfl (by rw [hml]; rfl) (argsL := [(.long ((fMix q0) ^^^ q1))]) (rest := []) (lenOf pd_0 rfl) rfl (by show 2 * 0 + _ ≤ _; exact Nat.le_of_eq rfl) (hb hby d1_34) (fun _ _ => ⟨rfl, e2, (by decide : 0 + 0 ≤ _), (by decide : 0 + 0 ≤ _)⟩)
  dsimp only [Pt.U, Pt.locs, Pt.cells, Pt.slots] at X8 l8 y8 z8 st8 hQ8
  subst l8 y8 z8
  obtain ⟨rfl, N8q, e8⟩ := hQ8
  have N8 := Fr.app N2 N8q
  have sg9 : ∀ t, Steps p.tables e below (T8.setTop (mkF m 27 #[.val (.long q0), .second, .val (.ref ra), .val (.long (fMix ((fMix q0) ^^^ q1))), .second, .val (.ref ra), .val (.int (3 : Int32)), .val (.int (1 : Int32)), .val (.long q1), .second] [(.int (1 : Int32)), (.ref ra)])) t → Steps p.tables e below (T8.setTop (mkF m 37 #[.val (.long q0), .second, .val (.ref ra), .val (.long (fMix q0)), .second, .val (.ref ra), .val (.int (3 : Int32)), .val (.int (0 : Int32)), .val (.long q1), .second] [(.long (fMix ((fMix q0) ^^^ q1)))])) t := by
    intro t k
    show Steps p.tables e below (T8.setTop (mkF m 37 #[.val (.long q0), .second, .val (.ref ra), .val (.long (fMix q0)), .second, .val (.ref ra), .val (.int (3 : Int32)), .val (.int (0 : Int32)), .val (.long q1), .second] [(.long (fMix ((fMix q0) ^^^ q1)))])) _
    refine XS.lstoreN X8.here hx rfl (hb hby d1_37) rfl (l' := #[.val (.long q0), .second, .val (.ref ra), .val (.long (fMix ((fMix q0) ^^^ q1))), .second, .val (.ref ra), .val (.int (3 : Int32)), .val (.int (0 : Int32)), .val (.long q1), .second]) rfl ?_
    show Steps p.tables e below (T8.setTop (mkF m 38 #[.val (.long q0), .second, .val (.ref ra), .val (.long (fMix ((fMix q0) ^^^ q1))), .second, .val (.ref ra), .val (.int (3 : Int32)), .val (.int (0 : Int32)), .val (.long q1), .second] [])) _
    refine XS.iinc X8.here hx rfl (hb hby d1_38) rfl (l' := #[.val (.long q0), .second, .val (.ref ra), .val (.long (fMix ((fMix q0) ^^^ q1))), .second, .val (.ref ra), .val (.int (3 : Int32)), .val (.int (1 : Int32)), .val (.long q1), .second]) rfl ?_
    show Steps p.tables e below (T8.setTop (mkF m 41 #[.val (.long q0), .second, .val (.ref ra), .val (.long (fMix ((fMix q0) ^^^ q1))), .second, .val (.ref ra), .val (.int (3 : Int32)), .val (.int (1 : Int32)), .val (.long q1), .second] [])) _
    refine XS.goto X8.here hx rfl (pc0 := 41) (pc' := 16) rfl (hb hby d1_41) (by decide) (by decide) ?_
    show Steps p.tables e below (T8.setTop (mkF m 16 #[.val (.long q0), .second, .val (.ref ra), .val (.long (fMix ((fMix q0) ^^^ q1))), .second, .val (.ref ra), .val (.int (3 : Int32)), .val (.int (1 : Int32)), .val (.long q1), .second] [])) _
    refine XS.iload X8.here hx rfl (hb hby d1_16) rfl ?_
    show Steps p.tables e below (T8.setTop (mkF m 18 #[.val (.long q0), .second, .val (.ref ra), .val (.long (fMix ((fMix q0) ^^^ q1))), .second, .val (.ref ra), .val (.int (3 : Int32)), .val (.int (1 : Int32)), .val (.long q1), .second] [(.int (1 : Int32))])) _
    refine XS.iload X8.here hx rfl (hb hby d1_18) rfl ?_
    show Steps p.tables e below (T8.setTop (mkF m 20 #[.val (.long q0), .second, .val (.ref ra), .val (.long (fMix ((fMix q0) ^^^ q1))), .second, .val (.ref ra), .val (.int (3 : Int32)), .val (.int (1 : Int32)), .val (.long q1), .second] [(.int (3 : Int32)), (.int (1 : Int32))])) _
    refine XS.icmpNo X8.here hx rfl (hb hby d1_20) rfl (tlt (by decide : (1 : Int32) < (3 : Int32))).2.1 ?_
    show Steps p.tables e below (T8.setTop (mkF m 23 #[.val (.long q0), .second, .val (.ref ra), .val (.long (fMix ((fMix q0) ^^^ q1))), .second, .val (.ref ra), .val (.int (3 : Int32)), .val (.int (1 : Int32)), .val (.long q1), .second] [])) _
    refine XS.aload X8.here hx rfl (hb hby d1_23) rfl rfl ?_
    show Steps p.tables e below (T8.setTop (mkF m 25 #[.val (.long q0), .second, .val (.ref ra), .val (.long (fMix ((fMix q0) ^^^ q1))), .second, .val (.ref ra), .val (.int (3 : Int32)), .val (.int (1 : Int32)), .val (.long q1), .second] [(.ref ra)])) _
    refine XS.iload X8.here hx rfl (hb hby d1_25) rfl ?_
    exact k
  obtain ⟨cl10, Ar10, q10, Sz10, Nn10, Hs10, G10⟩ := id P0
  have hin10 : ¬ ((1 : Int32) < 0 ∨ cl10.slots.size ≤ ((1 : Int32)).toNatClampNeg) := inb_of Sz10 ⟨by decide, by decide⟩
  have hat10 : cl10.slots[((1 : Int32)).toNatClampNeg]? = some (.long q2) := Has.at Hs10 hin10 rfl
  have st10 : ∀ t, Steps p.tables e below (T8.setTop (mkF m 28 #[.val (.long q0), .second, .val (.ref ra), .val (.long (fMix ((fMix q0) ^^^ q1))), .second, .val (.ref ra), .val (.int (3 : Int32)), .val (.int (1 : Int32)), .val (.long q1), .second] [(.long q2)])) t → Steps p.tables e below (T8.setTop (mkF m 27 #[.val (.long q0), .second, .val (.ref ra), .val (.long (fMix ((fMix q0) ^^^ q1))), .second, .val (.ref ra), .val (.int (3 : Int32)), .val (.int (1 : Int32)), .val (.long q1), .second] [(.int (1 : Int32)), (.ref ra)])) t := by
    intro t k
    refine X8.laload hx (j := (1 : Int32)) (v := (.long q2)) (by rw [e8]; exact Ar10.1) (State.isArrayOf_alike hZ.alike Ar10.2.1) Ar10.2.2 hin10 hat10 (g := (mkF m 27 #[.val (.long q0), .second, .val (.ref ra), .val (.long (fMix ((fMix q0) ^^^ q1))), .second, .val (.ref ra), .val (.int (3 : Int32)), .val (.int (1 : Int32)), .val (.long q1), .second] [(.int (1 : Int32)), (.ref ra)])) rfl rfl (hb hby d1_27) _ ?_
    exact k
  have sg11 : ∀ t, Steps p.tables e below (T8.setTop (mkF m 34 #[.val (.long q0), .second, .val (.ref ra), .val (.long (fMix ((fMix q0) ^^^ q1))), .second, .val (.ref ra), .val (.int (3 : Int32)), .val (.int (1 : Int32)), .val (.long q2), .second] [(.long ((fMix ((fMix q0) ^^^ q1)) ^^^ q2))])) t → Steps p.tables e below (T8.setTop (mkF m 28 #[.val (.long q0), .second, .val (.ref ra), .val (.long (fMix ((fMix q0) ^^^ q1))), .second, .val (.ref ra), .val (.int (3 : Int32)), .val (.int (1 : Int32)), .val (.long q1), .second] [(.long q2)])) t := by
    intro t k
    show Steps p.tables e below (T8.setTop (mkF m 28 #[.val (.long q0), .second, .val (.ref ra), .val (.long (fMix ((fMix q0) ^^^ q1))), .second, .val (.ref ra), .val (.int (3 : Int32)), .val (.int (1 : Int32)), .val (.long q1), .second] [(.long q2)])) _
    refine XS.lstore X8.here hx rfl (hb hby d1_28) rfl (l' := #[.val (.long q0), .second, .val (.ref ra), .val (.long (fMix ((fMix q0) ^^^ q1))), .second, .val (.ref ra), .val (.int (3 : Int32)), .val (.int (1 : Int32)), .val (.long q2), .second]) rfl ?_
    show Steps p.tables e below (T8.setTop (mkF m 30 #[.val (.long q0), .second, .val (.ref ra), .val (.long (fMix ((fMix q0) ^^^ q1))), .second, .val (.ref ra), .val (.int (3 : Int32)), .val (.int (1 : Int32)), .val (.long q2), .second] [])) _
    refine XS.lloadN X8.here hx rfl (hb hby d1_30) rfl ?_
    show Steps p.tables e below (T8.setTop (mkF m 31 #[.val (.long q0), .second, .val (.ref ra), .val (.long (fMix ((fMix q0) ^^^ q1))), .second, .val (.ref ra), .val (.int (3 : Int32)), .val (.int (1 : Int32)), .val (.long q2), .second] [(.long (fMix ((fMix q0) ^^^ q1)))])) _
    refine XS.lload X8.here hx rfl (hb hby d1_31) rfl ?_
    show Steps p.tables e below (T8.setTop (mkF m 33 #[.val (.long q0), .second, .val (.ref ra), .val (.long (fMix ((fMix q0) ^^^ q1))), .second, .val (.ref ra), .val (.int (3 : Int32)), .val (.int (1 : Int32)), .val (.long q2), .second] [(.long q2), (.long (fMix ((fMix q0) ^^^ q1)))])) _
    refine XS.lxor X8.here hx rfl (hb hby d1_33) rfl ?_
    exact k
  obtain ⟨_, _, ⟨T12, L12, k12, n12⟩, -, X12, ⟨Lc12, hQ12, l12, y12, z12⟩, st12⟩ := Jvm.LawKit.callS X8 hx (y := (⟨"com/example/haversack/haversack/evaluation/Seeds", "mix", "(J)J"⟩ : MethodName)) hown (mvT hZ (hw _ (List.mem_of_getElem? (i := 5) rfl))) (mvT hZ (hw _ (List.mem_of_getElem? (i := 6) rfl))) (mvT hZ (hw _ (List.mem_of_getElem? (i := 3) rfl))) (mvT hZ (hw _ (List.mem_of_getElem? (i := 7) rfl))) (by decide) (backOf (W := 0) (rmM l Z a0 hw [] ((fMix ((fMix q0) ^^^ q1)) ^^^ q2) h0 n0 Z0) hZ (hw _ (List.mem_of_getElem? (i := 7) rfl)) (hw _ (List.mem_of_getElem? (i := 3) rfl)) (by decide) (by decide)) (g := (mkF m 34 #[.val (.long q0), .second, .val (.ref ra), .val (.long (fMix ((fMix q0) ^^^ q1))), .second, .val (.ref ra), .val (.int (3 : Int32)), .val (.int (1 : Int32)), .val (.long q2), .second] [(.long ((fMix ((fMix q0) ^^^ q1)) ^^^ q2))])) rfl (by rw [hml]; rfl) (argsL := [(.long ((fMix ((fMix q0) ^^^ q1)) ^^^ q2))]) (rest := []) (lenOf pd_0 rfl) rfl (by show 2 * 0 + _ ≤ _; exact Nat.le_of_eq rfl) (hb hby d1_34) (fun _ _ => ⟨rfl, e8, (by decide : 0 + 0 ≤ _), (by decide : 0 + 0 ≤ _)⟩)
  dsimp only [Pt.U, Pt.locs, Pt.cells, Pt.slots] at X12 l12 y12 z12 st12 hQ12
  subst l12 y12 z12
  obtain ⟨rfl, N12q, e12⟩ := hQ12
  have N12 := Fr.app N8 N12q
  have sg13 : ∀ t, Steps p.tables e below (T12.setTop (mkF m 27 #[.val (.long q0), .second, .val (.ref ra), .val (.long (fMix ((fMix ((fMix q0) ^^^ q1)) ^^^ q2))), .second, .val (.ref ra), .val (.int (3 : Int32)), .val (.int (2 : Int32)), .val (.long q2), .second] [(.int (2 : Int32)), (.ref ra)])) t → Steps p.tables e below (T12.setTop (mkF m 37 #[.val (.long q0), .second, .val (.ref ra), .val (.long (fMix ((fMix q0) ^^^ q1))), .second, .val (.ref ra), .val (.int (3 : Int32)), .val (.int (1 : Int32)), .val (.long q2), .second] [(.long (fMix ((fMix ((fMix q0) ^^^ q1)) ^^^ q2)))])) t := by
    intro t k
    show Steps p.tables e below (T12.setTop (mkF m 37 #[.val (.long q0), .second, .val (.ref ra), .val (.long (fMix ((fMix q0) ^^^ q1))), .second, .val (.ref ra), .val (.int (3 : Int32)), .val (.int (1 : Int32)), .val (.long q2), .second] [(.long (fMix ((fMix ((fMix q0) ^^^ q1)) ^^^ q2)))])) _
    refine XS.lstoreN X12.here hx rfl (hb hby d1_37) rfl (l' := #[.val (.long q0), .second, .val (.ref ra), .val (.long (fMix ((fMix ((fMix q0) ^^^ q1)) ^^^ q2))), .second, .val (.ref ra), .val (.int (3 : Int32)), .val (.int (1 : Int32)), .val (.long q2), .second]) rfl ?_
    show Steps p.tables e below (T12.setTop (mkF m 38 #[.val (.long q0), .second, .val (.ref ra), .val (.long (fMix ((fMix ((fMix q0) ^^^ q1)) ^^^ q2))), .second, .val (.ref ra), .val (.int (3 : Int32)), .val (.int (1 : Int32)), .val (.long q2), .second] [])) _
    refine XS.iinc X12.here hx rfl (hb hby d1_38) rfl (l' := #[.val (.long q0), .second, .val (.ref ra), .val (.long (fMix ((fMix ((fMix q0) ^^^ q1)) ^^^ q2))), .second, .val (.ref ra), .val (.int (3 : Int32)), .val (.int (2 : Int32)), .val (.long q2), .second]) rfl ?_
    show Steps p.tables e below (T12.setTop (mkF m 41 #[.val (.long q0), .second, .val (.ref ra), .val (.long (fMix ((fMix ((fMix q0) ^^^ q1)) ^^^ q2))), .second, .val (.ref ra), .val (.int (3 : Int32)), .val (.int (2 : Int32)), .val (.long q2), .second] [])) _
    refine XS.goto X12.here hx rfl (pc0 := 41) (pc' := 16) rfl (hb hby d1_41) (by decide) (by decide) ?_
    show Steps p.tables e below (T12.setTop (mkF m 16 #[.val (.long q0), .second, .val (.ref ra), .val (.long (fMix ((fMix ((fMix q0) ^^^ q1)) ^^^ q2))), .second, .val (.ref ra), .val (.int (3 : Int32)), .val (.int (2 : Int32)), .val (.long q2), .second] [])) _
    refine XS.iload X12.here hx rfl (hb hby d1_16) rfl ?_
    show Steps p.tables e below (T12.setTop (mkF m 18 #[.val (.long q0), .second, .val (.ref ra), .val (.long (fMix ((fMix ((fMix q0) ^^^ q1)) ^^^ q2))), .second, .val (.ref ra), .val (.int (3 : Int32)), .val (.int (2 : Int32)), .val (.long q2), .second] [(.int (2 : Int32))])) _
    refine XS.iload X12.here hx rfl (hb hby d1_18) rfl ?_
    show Steps p.tables e below (T12.setTop (mkF m 20 #[.val (.long q0), .second, .val (.ref ra), .val (.long (fMix ((fMix ((fMix q0) ^^^ q1)) ^^^ q2))), .second, .val (.ref ra), .val (.int (3 : Int32)), .val (.int (2 : Int32)), .val (.long q2), .second] [(.int (3 : Int32)), (.int (2 : Int32))])) _
    refine XS.icmpNo X12.here hx rfl (hb hby d1_20) rfl (tlt (by decide : (2 : Int32) < (3 : Int32))).2.1 ?_
    show Steps p.tables e below (T12.setTop (mkF m 23 #[.val (.long q0), .second, .val (.ref ra), .val (.long (fMix ((fMix ((fMix q0) ^^^ q1)) ^^^ q2))), .second, .val (.ref ra), .val (.int (3 : Int32)), .val (.int (2 : Int32)), .val (.long q2), .second] [])) _
    refine XS.aload X12.here hx rfl (hb hby d1_23) rfl rfl ?_
    show Steps p.tables e below (T12.setTop (mkF m 25 #[.val (.long q0), .second, .val (.ref ra), .val (.long (fMix ((fMix ((fMix q0) ^^^ q1)) ^^^ q2))), .second, .val (.ref ra), .val (.int (3 : Int32)), .val (.int (2 : Int32)), .val (.long q2), .second] [(.ref ra)])) _
    refine XS.iload X12.here hx rfl (hb hby d1_25) rfl ?_
    exact k
  obtain ⟨cl14, Ar14, q14, Sz14, Nn14, Hs14, G14⟩ := id P0
  have hin14 : ¬ ((2 : Int32) < 0 ∨ cl14.slots.size ≤ ((2 : Int32)).toNatClampNeg) := inb_of Sz14 ⟨by decide, by decide⟩
  have hat14 : cl14.slots[((2 : Int32)).toNatClampNeg]? = some (.long q3) := Has.at Hs14 hin14 rfl
  have st14 : ∀ t, Steps p.tables e below (T12.setTop (mkF m 28 #[.val (.long q0), .second, .val (.ref ra), .val (.long (fMix ((fMix ((fMix q0) ^^^ q1)) ^^^ q2))), .second, .val (.ref ra), .val (.int (3 : Int32)), .val (.int (2 : Int32)), .val (.long q2), .second] [(.long q3)])) t → Steps p.tables e below (T12.setTop (mkF m 27 #[.val (.long q0), .second, .val (.ref ra), .val (.long (fMix ((fMix ((fMix q0) ^^^ q1)) ^^^ q2))), .second, .val (.ref ra), .val (.int (3 : Int32)), .val (.int (2 : Int32)), .val (.long q2), .second] [(.int (2 : Int32)), (.ref ra)])) t := by
    intro t k
    refine X12.laload hx (j := (2 : Int32)) (v := (.long q3)) (by rw [e12]; exact Ar14.1) (State.isArrayOf_alike hZ.alike Ar14.2.1) Ar14.2.2 hin14 hat14 (g := (mkF m 27 #[.val (.long q0), .second, .val (.ref ra), .val (.long (fMix ((fMix ((fMix q0) ^^^ q1)) ^^^ q2))), .second, .val (.ref ra), .val (.int (3 : Int32)), .val (.int (2 : Int32)), .val (.long q2), .second] [(.int (2 : Int32)), (.ref ra)])) rfl rfl (hb hby d1_27) _ ?_
    exact k
  have sg15 : ∀ t, Steps p.tables e below (T12.setTop (mkF m 34 #[.val (.long q0), .second, .val (.ref ra), .val (.long (fMix ((fMix ((fMix q0) ^^^ q1)) ^^^ q2))), .second, .val (.ref ra), .val (.int (3 : Int32)), .val (.int (2 : Int32)), .val (.long q3), .second] [(.long ((fMix ((fMix ((fMix q0) ^^^ q1)) ^^^ q2)) ^^^ q3))])) t → Steps p.tables e below (T12.setTop (mkF m 28 #[.val (.long q0), .second, .val (.ref ra), .val (.long (fMix ((fMix ((fMix q0) ^^^ q1)) ^^^ q2))), .second, .val (.ref ra), .val (.int (3 : Int32)), .val (.int (2 : Int32)), .val (.long q2), .second] [(.long q3)])) t := by
    intro t k
    show Steps p.tables e below (T12.setTop (mkF m 28 #[.val (.long q0), .second, .val (.ref ra), .val (.long (fMix ((fMix ((fMix q0) ^^^ q1)) ^^^ q2))), .second, .val (.ref ra), .val (.int (3 : Int32)), .val (.int (2 : Int32)), .val (.long q2), .second] [(.long q3)])) _
    refine XS.lstore X12.here hx rfl (hb hby d1_28) rfl (l' := #[.val (.long q0), .second, .val (.ref ra), .val (.long (fMix ((fMix ((fMix q0) ^^^ q1)) ^^^ q2))), .second, .val (.ref ra), .val (.int (3 : Int32)), .val (.int (2 : Int32)), .val (.long q3), .second]) rfl ?_
    show Steps p.tables e below (T12.setTop (mkF m 30 #[.val (.long q0), .second, .val (.ref ra), .val (.long (fMix ((fMix ((fMix q0) ^^^ q1)) ^^^ q2))), .second, .val (.ref ra), .val (.int (3 : Int32)), .val (.int (2 : Int32)), .val (.long q3), .second] [])) _
    refine XS.lloadN X12.here hx rfl (hb hby d1_30) rfl ?_
    show Steps p.tables e below (T12.setTop (mkF m 31 #[.val (.long q0), .second, .val (.ref ra), .val (.long (fMix ((fMix ((fMix q0) ^^^ q1)) ^^^ q2))), .second, .val (.ref ra), .val (.int (3 : Int32)), .val (.int (2 : Int32)), .val (.long q3), .second] [(.long (fMix ((fMix ((fMix q0) ^^^ q1)) ^^^ q2)))])) _
    refine XS.lload X12.here hx rfl (hb hby d1_31) rfl ?_
    show Steps p.tables e below (T12.setTop (mkF m 33 #[.val (.long q0), .second, .val (.ref ra), .val (.long (fMix ((fMix ((fMix q0) ^^^ q1)) ^^^ q2))), .second, .val (.ref ra), .val (.int (3 : Int32)), .val (.int (2 : Int32)), .val (.long q3), .second] [(.long q3), (.long (fMix ((fMix ((fMix q0) ^^^ q1)) ^^^ q2)))])) _
    refine XS.lxor X12.here hx rfl (hb hby d1_33) rfl ?_
    exact k
  obtain ⟨_, _, ⟨T16, L16, k16, n16⟩, -, X16, ⟨Lc16, hQ16, l16, y16, z16⟩, st16⟩ := Jvm.LawKit.callS X12 hx (y := (⟨"com/example/haversack/haversack/evaluation/Seeds", "mix", "(J)J"⟩ : MethodName)) hown (mvT hZ (hw _ (List.mem_of_getElem? (i := 5) rfl))) (mvT hZ (hw _ (List.mem_of_getElem? (i := 6) rfl))) (mvT hZ (hw _ (List.mem_of_getElem? (i := 3) rfl))) (mvT hZ (hw _ (List.mem_of_getElem? (i := 7) rfl))) (by decide) (backOf (W := 0) (rmM l Z a0 hw [] ((fMix ((fMix ((fMix q0) ^^^ q1)) ^^^ q2)) ^^^ q3) h0 n0 Z0) hZ (hw _ (List.mem_of_getElem? (i := 7) rfl)) (hw _ (List.mem_of_getElem? (i := 3) rfl)) (by decide) (by decide)) (g := (mkF m 34 #[.val (.long q0), .second, .val (.ref ra), .val (.long (fMix ((fMix ((fMix q0) ^^^ q1)) ^^^ q2))), .second, .val (.ref ra), .val (.int (3 : Int32)), .val (.int (2 : Int32)), .val (.long q3), .second] [(.long ((fMix ((fMix ((fMix q0) ^^^ q1)) ^^^ q2)) ^^^ q3))])) rfl (by rw [hml]; rfl) (argsL := [(.long ((fMix ((fMix ((fMix q0) ^^^ q1)) ^^^ q2)) ^^^ q3))]) (rest := []) (lenOf pd_0 rfl) rfl (by show 2 * 0 + _ ≤ _; exact Nat.le_of_eq rfl) (hb hby d1_34) (fun _ _ => ⟨rfl, e12, (by decide : 0 + 0 ≤ _), (by decide : 0 + 0 ≤ _)⟩)
  dsimp only [Pt.U, Pt.locs, Pt.cells, Pt.slots] at X16 l16 y16 z16 st16 hQ16
  subst l16 y16 z16
  obtain ⟨rfl, N16q, e16⟩ := hQ16
  have N16 := Fr.app N12 N16q
  have sg17 : ∀ t, Steps p.tables e below (T16.setTop (mkF m 45 #[.val (.long q0), .second, .val (.ref ra), .val (.long (fMix ((fMix ((fMix ((fMix q0) ^^^ q1)) ^^^ q2)) ^^^ q3))), .second, .val (.ref ra), .val (.int (3 : Int32)), .val (.int (3 : Int32)), .val (.long q3), .second] [(.long (fMix ((fMix ((fMix ((fMix q0) ^^^ q1)) ^^^ q2)) ^^^ q3)))])) t → Steps p.tables e below (T16.setTop (mkF m 37 #[.val (.long q0), .second, .val (.ref ra), .val (.long (fMix ((fMix ((fMix q0) ^^^ q1)) ^^^ q2))), .second, .val (.ref ra), .val (.int (3 : Int32)), .val (.int (2 : Int32)), .val (.long q3), .second] [(.long (fMix ((fMix ((fMix ((fMix q0) ^^^ q1)) ^^^ q2)) ^^^ q3)))])) t := by
    intro t k
    show Steps p.tables e below (T16.setTop (mkF m 37 #[.val (.long q0), .second, .val (.ref ra), .val (.long (fMix ((fMix ((fMix q0) ^^^ q1)) ^^^ q2))), .second, .val (.ref ra), .val (.int (3 : Int32)), .val (.int (2 : Int32)), .val (.long q3), .second] [(.long (fMix ((fMix ((fMix ((fMix q0) ^^^ q1)) ^^^ q2)) ^^^ q3)))])) _
    refine XS.lstoreN X16.here hx rfl (hb hby d1_37) rfl (l' := #[.val (.long q0), .second, .val (.ref ra), .val (.long (fMix ((fMix ((fMix ((fMix q0) ^^^ q1)) ^^^ q2)) ^^^ q3))), .second, .val (.ref ra), .val (.int (3 : Int32)), .val (.int (2 : Int32)), .val (.long q3), .second]) rfl ?_
    show Steps p.tables e below (T16.setTop (mkF m 38 #[.val (.long q0), .second, .val (.ref ra), .val (.long (fMix ((fMix ((fMix ((fMix q0) ^^^ q1)) ^^^ q2)) ^^^ q3))), .second, .val (.ref ra), .val (.int (3 : Int32)), .val (.int (2 : Int32)), .val (.long q3), .second] [])) _
    refine XS.iinc X16.here hx rfl (hb hby d1_38) rfl (l' := #[.val (.long q0), .second, .val (.ref ra), .val (.long (fMix ((fMix ((fMix ((fMix q0) ^^^ q1)) ^^^ q2)) ^^^ q3))), .second, .val (.ref ra), .val (.int (3 : Int32)), .val (.int (3 : Int32)), .val (.long q3), .second]) rfl ?_
    show Steps p.tables e below (T16.setTop (mkF m 41 #[.val (.long q0), .second, .val (.ref ra), .val (.long (fMix ((fMix ((fMix ((fMix q0) ^^^ q1)) ^^^ q2)) ^^^ q3))), .second, .val (.ref ra), .val (.int (3 : Int32)), .val (.int (3 : Int32)), .val (.long q3), .second] [])) _
    refine XS.goto X16.here hx rfl (pc0 := 41) (pc' := 16) rfl (hb hby d1_41) (by decide) (by decide) ?_
    show Steps p.tables e below (T16.setTop (mkF m 16 #[.val (.long q0), .second, .val (.ref ra), .val (.long (fMix ((fMix ((fMix ((fMix q0) ^^^ q1)) ^^^ q2)) ^^^ q3))), .second, .val (.ref ra), .val (.int (3 : Int32)), .val (.int (3 : Int32)), .val (.long q3), .second] [])) _
    refine XS.iload X16.here hx rfl (hb hby d1_16) rfl ?_
    show Steps p.tables e below (T16.setTop (mkF m 18 #[.val (.long q0), .second, .val (.ref ra), .val (.long (fMix ((fMix ((fMix ((fMix q0) ^^^ q1)) ^^^ q2)) ^^^ q3))), .second, .val (.ref ra), .val (.int (3 : Int32)), .val (.int (3 : Int32)), .val (.long q3), .second] [(.int (3 : Int32))])) _
    refine XS.iload X16.here hx rfl (hb hby d1_18) rfl ?_
    show Steps p.tables e below (T16.setTop (mkF m 20 #[.val (.long q0), .second, .val (.ref ra), .val (.long (fMix ((fMix ((fMix ((fMix q0) ^^^ q1)) ^^^ q2)) ^^^ q3))), .second, .val (.ref ra), .val (.int (3 : Int32)), .val (.int (3 : Int32)), .val (.long q3), .second] [(.int (3 : Int32)), (.int (3 : Int32))])) _
    refine XS.icmpYes X16.here hx rfl (pc0 := 20) (pc' := 44) rfl (hb hby d1_20) rfl (flt (by decide : ¬ ((3 : Int32) < (3 : Int32)))).2.1 (by decide) (by decide) ?_
    show Steps p.tables e below (T16.setTop (mkF m 44 #[.val (.long q0), .second, .val (.ref ra), .val (.long (fMix ((fMix ((fMix ((fMix q0) ^^^ q1)) ^^^ q2)) ^^^ q3))), .second, .val (.ref ra), .val (.int (3 : Int32)), .val (.int (3 : Int32)), .val (.long q3), .second] [])) _
    refine XS.lloadN X16.here hx rfl (hb hby d1_44) rfl ?_
    exact k
  obtain ⟨fs, hr, hrun, hended, hW, hsame⟩ := X16.leave (v := some (.long (fMix ((fMix ((fMix ((fMix q0) ^^^ q1)) ^^^ q2)) ^^^ q3)))) (fun h => by rw [Bd.returns] at h; cases h)
  refine ⟨_, _, pre0 _ ?_, hrun, hended, _, _, rfl, ?_, ⟨_, rfl⟩, hW, hsame.mono (by decide) (by decide)⟩
  · show Steps p.tables e below (s₁.setTop (mkF m 0 #[.val (.long q0), .second, .val (.ref ra), .unset, .unset, .unset, .unset, .unset, .unset, .unset] [])) _
    refine sg1 _ ?_
    show Steps p.tables e below (s₁.setTop (mkF m 1 #[.val (.long q0), .second, .val (.ref ra), .unset, .unset, .unset, .unset, .unset, .unset, .unset] [(.long q0)])) _
    refine st2 _ ?_
    show Steps p.tables e below (T2.setTop (mkF m 4 #[.val (.long q0), .second, .val (.ref ra), .unset, .unset, .unset, .unset, .unset, .unset, .unset] [(.long (fMix q0))])) _
    refine sg3 _ ?_
    show Steps p.tables e below (T2.setTop (mkF m 10 #[.val (.long q0), .second, .val (.ref ra), .val (.long (fMix q0)), .second, .val (.ref ra), .unset, .unset, .unset, .unset] [(.ref ra)])) _
    refine st4 _ ?_
    show Steps p.tables e below (T2.setTop (mkF m 11 #[.val (.long q0), .second, .val (.ref ra), .val (.long (fMix q0)), .second, .val (.ref ra), .unset, .unset, .unset, .unset] [(.int (3 : Int32))])) _
    refine sg5 _ ?_
    show Steps p.tables e below (T2.setTop (mkF m 27 #[.val (.long q0), .second, .val (.ref ra), .val (.long (fMix q0)), .second, .val (.ref ra), .val (.int (3 : Int32)), .val (.int (0 : Int32)), .unset, .unset] [(.int (0 : Int32)), (.ref ra)])) _
    refine st6 _ ?_
    show Steps p.tables e below (T2.setTop (mkF m 28 #[.val (.long q0), .second, .val (.ref ra), .val (.long (fMix q0)), .second, .val (.ref ra), .val (.int (3 : Int32)), .val (.int (0 : Int32)), .unset, .unset] [(.long q1)])) _
    refine sg7 _ ?_
    show Steps p.tables e below (T2.setTop (mkF m 34 #[.val (.long q0), .second, .val (.ref ra), .val (.long (fMix q0)), .second, .val (.ref ra), .val (.int (3 : Int32)), .val (.int (0 : Int32)), .val (.long q1), .second] [(.long ((fMix q0) ^^^ q1))])) _
    refine st8 _ ?_
    show Steps p.tables e below (T8.setTop (mkF m 37 #[.val (.long q0), .second, .val (.ref ra), .val (.long (fMix q0)), .second, .val (.ref ra), .val (.int (3 : Int32)), .val (.int (0 : Int32)), .val (.long q1), .second] [(.long (fMix ((fMix q0) ^^^ q1)))])) _
    refine sg9 _ ?_
    show Steps p.tables e below (T8.setTop (mkF m 27 #[.val (.long q0), .second, .val (.ref ra), .val (.long (fMix ((fMix q0) ^^^ q1))), .second, .val (.ref ra), .val (.int (3 : Int32)), .val (.int (1 : Int32)), .val (.long q1), .second] [(.int (1 : Int32)), (.ref ra)])) _
    refine st10 _ ?_
    show Steps p.tables e below (T8.setTop (mkF m 28 #[.val (.long q0), .second, .val (.ref ra), .val (.long (fMix ((fMix q0) ^^^ q1))), .second, .val (.ref ra), .val (.int (3 : Int32)), .val (.int (1 : Int32)), .val (.long q1), .second] [(.long q2)])) _
    refine sg11 _ ?_
    show Steps p.tables e below (T8.setTop (mkF m 34 #[.val (.long q0), .second, .val (.ref ra), .val (.long (fMix ((fMix q0) ^^^ q1))), .second, .val (.ref ra), .val (.int (3 : Int32)), .val (.int (1 : Int32)), .val (.long q2), .second] [(.long ((fMix ((fMix q0) ^^^ q1)) ^^^ q2))])) _
    refine st12 _ ?_
    show Steps p.tables e below (T12.setTop (mkF m 37 #[.val (.long q0), .second, .val (.ref ra), .val (.long (fMix ((fMix q0) ^^^ q1))), .second, .val (.ref ra), .val (.int (3 : Int32)), .val (.int (1 : Int32)), .val (.long q2), .second] [(.long (fMix ((fMix ((fMix q0) ^^^ q1)) ^^^ q2)))])) _
    refine sg13 _ ?_
    show Steps p.tables e below (T12.setTop (mkF m 27 #[.val (.long q0), .second, .val (.ref ra), .val (.long (fMix ((fMix ((fMix q0) ^^^ q1)) ^^^ q2))), .second, .val (.ref ra), .val (.int (3 : Int32)), .val (.int (2 : Int32)), .val (.long q2), .second] [(.int (2 : Int32)), (.ref ra)])) _
    refine st14 _ ?_
    show Steps p.tables e below (T12.setTop (mkF m 28 #[.val (.long q0), .second, .val (.ref ra), .val (.long (fMix ((fMix ((fMix q0) ^^^ q1)) ^^^ q2))), .second, .val (.ref ra), .val (.int (3 : Int32)), .val (.int (2 : Int32)), .val (.long q2), .second] [(.long q3)])) _
    refine sg15 _ ?_
    show Steps p.tables e below (T12.setTop (mkF m 34 #[.val (.long q0), .second, .val (.ref ra), .val (.long (fMix ((fMix ((fMix q0) ^^^ q1)) ^^^ q2))), .second, .val (.ref ra), .val (.int (3 : Int32)), .val (.int (2 : Int32)), .val (.long q3), .second] [(.long ((fMix ((fMix ((fMix q0) ^^^ q1)) ^^^ q2)) ^^^ q3))])) _
    refine st16 _ ?_
    show Steps p.tables e below (T16.setTop (mkF m 37 #[.val (.long q0), .second, .val (.ref ra), .val (.long (fMix ((fMix ((fMix q0) ^^^ q1)) ^^^ q2))), .second, .val (.ref ra), .val (.int (3 : Int32)), .val (.int (2 : Int32)), .val (.long q3), .second] [(.long (fMix ((fMix ((fMix ((fMix q0) ^^^ q1)) ^^^ q2)) ^^^ q3)))])) _
    refine sg17 _ ?_
    show Steps p.tables e below (T16.setTop (mkF m 45 #[.val (.long q0), .second, .val (.ref ra), .val (.long (fMix ((fMix ((fMix ((fMix q0) ^^^ q1)) ^^^ q2)) ^^^ q3))), .second, .val (.ref ra), .val (.int (3 : Int32)), .val (.int (3 : Int32)), .val (.long q3), .second] [(.long (fMix ((fMix ((fMix ((fMix q0) ^^^ q1)) ^^^ q2)) ^^^ q3)))])) _
    jvm_step X16.here [X16.here.top, hx, (hb hby d1_45), X16.method', Bd.returns, narrow]
    first | (intro acts; rw [hr _ acts rfl rfl rfl]) | rw [hr _ _ rfl rfl rfl]
    exact Steps.refl _
  · show Q_rmD3 Z q0 ra kk q1 q2 q3 h0 n0 _ T16.heap _
    rw [e16]
    exact ⟨rfl, N16, rfl⟩
theorem pd_1 : parseMethodDescriptor "(J[J)J" = some ⟨[.long, (.array .long)], some .long⟩ := by decide +kernel
theorem pn_1 : plainName "com/example/haversack/haversack/evaluation/SeedsDerivedPinLaw" = true := by first | (simp [plainName, overriddenIn]; done) | decide +kernel
theorem ef_rm0 (m : MethodId) (x0 : Int64) (x1 : Int64) (x2 : Int64) (x3 : Int64) (x4 : Int64) (x5 : Int32) : entryFrame m #[(.long x0), (.long x1), (.long x2), (.long x3), (.long x4), (.int x5)] maxLocals = mkF m 0 #[.val (.long x0), .second, .val (.long x1), .second, .val (.long x2), .second, .val (.long x3), .second, .val (.long x4), .second, .val (.int x5), .unset, .unset, .unset, .unset, .unset, .unset, .unset, .unset, .unset, .unset, .unset, .unset] [] := by first | (simp [entryFrame, mkF, argsToLocals, Value.category, maxLocals]; done) | rfl
set_option maxRecDepth 65536 in
set_option maxHeartbeats 40000000 in
theorem rm0 (l : Launch) (Z : State) (a0 : Array Value) (hw : ∀ d ∈ tables_1, d.before a0 Z = true) (ws : List Jvm.Cond) (p1 : Int64) (p2 : Int64) (p3 : Int64) (p4 : Int64) (p5 : Int64) (p6 : Int32)  (h0 : Heap) (n0 : Nat) (Z0 : n0 ≤ h0.size)  :
    MetFree l x (head1 (Jvm.Cond.code x code maxLocals ret :: ws) room_1) (fun a U => a = #[(.long p1), (.long p2), (.long p3), (.long p4), (.long p5), (.int p6)] ∧ Z.Warmed39 U.vm ∧ U.heap = h0) (fun _ _ _ _ _ => True) (fun _ U o U' => ∃ v L, o = .returned v ∧ Q0 Z p1 p2 p3 p4 p5 p6 h0 n0 v U'.heap L ∧ FrameEnd U o U' L 24 128) := by
  refine MetFree.of_bodySF (plainFor_of_name pn_1) hisR ?_
  intro p e s m args below meth c s₁ Bd hml0 hP hK
  obtain ⟨rfl, hZ, hh⟩ := hP
  have hx := Bd.exec
  have hby := Bd.bytes
  have hml : c.maxLocals = 23 := hml0
  have hown : s.vm.findClass "com/example/haversack/haversack/evaluation/SeedsDerivedPinLaw" = some m.cls := findClass_of_methodNamed Bd.named
  have hnm := (name_of_methodNamed Bd.named Bd.method).1
  have X0 : Stand p l e room_1 s m #[(.long p1), (.long p2), (.long p3), (.long p4), (.long p5), (.int p6)] below meth c s₁ [] 0 0 := Stand.of_body Bd
  have e0 : s₁.heap = h0 := by rw [← hh, Bd.state]; rfl
  have N0 := Fr.nil n0
  have pre0 : ∀ t, Steps p.tables e below (s₁.setTop (mkF m 0 #[.val (.long p1), .second, .val (.long p2), .second, .val (.long p3), .second, .val (.long p4), .second, .val (.long p5), .second, .val (.int p6), .unset, .unset, .unset, .unset, .unset, .unset, .unset, .unset, .unset, .unset, .unset, .unset] [])) t → Steps p.tables e below (s₁.setTop (entryFrame m #[(.long p1), (.long p2), (.long p3), (.long p4), (.long p5), (.int p6)] maxLocals)) t := fun t k => castTop (ef_rm0 m p1 p2 p3 p4 p5 p6) k
  have sg1 : ∀ t, Steps p.tables e below (s₁.setTop (mkF m 6 #[.val (.long p1), .second, .val (.long p2), .second, .val (.long p3), .second, .val (.long p4), .second, .val (.long p5), .second, .val (.int p6), .val (.int (p6 &&& (3 : Int32))), .unset, .unset, .unset, .unset, .unset, .unset, .unset, .unset, .unset, .unset, .unset] [])) t → Steps p.tables e below (s₁.setTop (mkF m 0 #[.val (.long p1), .second, .val (.long p2), .second, .val (.long p3), .second, .val (.long p4), .second, .val (.long p5), .second, .val (.int p6), .unset, .unset, .unset, .unset, .unset, .unset, .unset, .unset, .unset, .unset, .unset, .unset] [])) t := by
    intro t k
    show Steps p.tables e below (s₁.setTop (mkF m 0 #[.val (.long p1), .second, .val (.long p2), .second, .val (.long p3), .second, .val (.long p4), .second, .val (.long p5), .second, .val (.int p6), .unset, .unset, .unset, .unset, .unset, .unset, .unset, .unset, .unset, .unset, .unset, .unset] [])) _
    refine XS.iload X0.here hx rfl (hb hby at_0) rfl ?_
    show Steps p.tables e below (s₁.setTop (mkF m 2 #[.val (.long p1), .second, .val (.long p2), .second, .val (.long p3), .second, .val (.long p4), .second, .val (.long p5), .second, .val (.int p6), .unset, .unset, .unset, .unset, .unset, .unset, .unset, .unset, .unset, .unset, .unset, .unset] [(.int p6)])) _
    refine XS.iconst X0.here hx rfl (hb hby at_2) ?_
    show Steps p.tables e below (s₁.setTop (mkF m 3 #[.val (.long p1), .second, .val (.long p2), .second, .val (.long p3), .second, .val (.long p4), .second, .val (.long p5), .second, .val (.int p6), .unset, .unset, .unset, .unset, .unset, .unset, .unset, .unset, .unset, .unset, .unset, .unset] [(.int (3 : Int32)), (.int p6)])) _
    refine XS.iand X0.here hx rfl (hb hby at_3) rfl ?_
    show Steps p.tables e below (s₁.setTop (mkF m 4 #[.val (.long p1), .second, .val (.long p2), .second, .val (.long p3), .second, .val (.long p4), .second, .val (.long p5), .second, .val (.int p6), .unset, .unset, .unset, .unset, .unset, .unset, .unset, .unset, .unset, .unset, .unset, .unset] [(.int (p6 &&& (3 : Int32)))])) _
    refine XS.istore X0.here hx rfl (hb hby at_4) rfl (l' := #[.val (.long p1), .second, .val (.long p2), .second, .val (.long p3), .second, .val (.long p4), .second, .val (.long p5), .second, .val (.int p6), .val (.int (p6 &&& (3 : Int32))), .unset, .unset, .unset, .unset, .unset, .unset, .unset, .unset, .unset, .unset, .unset]) rfl ?_
    exact k
  rcases own_and3 p6 with hn | hn | hn | hn
  · rw [hn] at sg1
    have sg2 : ∀ t, Steps p.tables e below (s₁.setTop (mkF m 8 #[.val (.long p1), .second, .val (.long p2), .second, .val (.long p3), .second, .val (.long p4), .second, .val (.long p5), .second, .val (.int p6), .val (.int (0 : Int32)), .unset, .unset, .unset, .unset, .unset, .unset, .unset, .unset, .unset, .unset, .unset] [(.int (0 : Int32))])) t → Steps p.tables e below (s₁.setTop (mkF m 6 #[.val (.long p1), .second, .val (.long p2), .second, .val (.long p3), .second, .val (.long p4), .second, .val (.long p5), .second, .val (.int p6), .val (.int (0 : Int32)), .unset, .unset, .unset, .unset, .unset, .unset, .unset, .unset, .unset, .unset, .unset] [])) t := by
      intro t k
      show Steps p.tables e below (s₁.setTop (mkF m 6 #[.val (.long p1), .second, .val (.long p2), .second, .val (.long p3), .second, .val (.long p4), .second, .val (.long p5), .second, .val (.int p6), .val (.int (0 : Int32)), .unset, .unset, .unset, .unset, .unset, .unset, .unset, .unset, .unset, .unset, .unset] [])) _
      refine XS.iload X0.here hx rfl (hb hby at_6) rfl ?_
      exact k
    obtain ⟨T3, h3, k3, X3, e3, E3, A3, st3⟩ := newP X0 hx hZ (hw _ (List.mem_of_getElem? (i := 0) rfl)) e0 (g := (mkF m 8 #[.val (.long p1), .second, .val (.long p2), .second, .val (.long p3), .second, .val (.long p4), .second, .val (.long p5), .second, .val (.int p6), .val (.int (0 : Int32)), .unset, .unset, .unset, .unset, .unset, .unset, .unset, .unset, .unset, .unset, .unset] [(.int (0 : Int32))])) rfl (hb hby at_8) rfl (by decide) (cap := 0) (by decide) (by decide) (by decide) (by decide)
    obtain ⟨b3, g3⟩ : ∃ z, z = h0.size := ⟨_, rfl⟩
    rw [← g3] at A3 st3
    have gn_b3 : n0 ≤ b3 := Nat.le_trans Z0 (Nat.le_of_eq g3.symm)
    have z4 : n0 ≤ h3.size := Nat.le_trans Z0 E3.1
    have f5 : Arv Z h3 b3 k3 .long (0 : Int32) [] (.long (0 : Int64)) := (Arv.new A3 (by decide))
    have sg6 : ∀ t, Steps p.tables e below (T3.setTop (mkF m 49 #[.val (.long p1), .second, .val (.long p2), .second, .val (.long p3), .second, .val (.long p4), .second, .val (.long p5), .second, .val (.int p6), .val (.int (0 : Int32)), .val (.ref b3), .unset, .unset, .unset, .unset, .unset, .unset, .unset, .unset, .unset, .unset] [(.ref b3), (.long p1)])) t → Steps p.tables e below (T3.setTop (mkF m 10 #[.val (.long p1), .second, .val (.long p2), .second, .val (.long p3), .second, .val (.long p4), .second, .val (.long p5), .second, .val (.int p6), .val (.int (0 : Int32)), .unset, .unset, .unset, .unset, .unset, .unset, .unset, .unset, .unset, .unset, .unset] [(.ref b3)])) t := by
      intro t k
      show Steps p.tables e below (T3.setTop (mkF m 10 #[.val (.long p1), .second, .val (.long p2), .second, .val (.long p3), .second, .val (.long p4), .second, .val (.long p5), .second, .val (.int p6), .val (.int (0 : Int32)), .unset, .unset, .unset, .unset, .unset, .unset, .unset, .unset, .unset, .unset, .unset] [(.ref b3)])) _
      refine XS.astore X3.here hx rfl (hb hby at_10) rfl rfl (l' := #[.val (.long p1), .second, .val (.long p2), .second, .val (.long p3), .second, .val (.long p4), .second, .val (.long p5), .second, .val (.int p6), .val (.int (0 : Int32)), .val (.ref b3), .unset, .unset, .unset, .unset, .unset, .unset, .unset, .unset, .unset, .unset]) rfl ?_
      show Steps p.tables e below (T3.setTop (mkF m 12 #[.val (.long p1), .second, .val (.long p2), .second, .val (.long p3), .second, .val (.long p4), .second, .val (.long p5), .second, .val (.int p6), .val (.int (0 : Int32)), .val (.ref b3), .unset, .unset, .unset, .unset, .unset, .unset, .unset, .unset, .unset, .unset] [])) _
      refine XS.iload X3.here hx rfl (hb hby at_12) rfl ?_
      show Steps p.tables e below (T3.setTop (mkF m 14 #[.val (.long p1), .second, .val (.long p2), .second, .val (.long p3), .second, .val (.long p4), .second, .val (.long p5), .second, .val (.int p6), .val (.int (0 : Int32)), .val (.ref b3), .unset, .unset, .unset, .unset, .unset, .unset, .unset, .unset, .unset, .unset] [(.int (0 : Int32))])) _
      refine XS.ifYes X3.here hx rfl (pc0 := 14) (pc' := 22) rfl (hb hby at_14) rfl ((if0 _ _).trans (flt (by decide : ¬ ((0 : Int32) < (0 : Int32)))).2.2.2) (by decide) (by decide) ?_
      show Steps p.tables e below (T3.setTop (mkF m 22 #[.val (.long p1), .second, .val (.long p2), .second, .val (.long p3), .second, .val (.long p4), .second, .val (.long p5), .second, .val (.int p6), .val (.int (0 : Int32)), .val (.ref b3), .unset, .unset, .unset, .unset, .unset, .unset, .unset, .unset, .unset, .unset] [])) _
      refine XS.iload X3.here hx rfl (hb hby at_22) rfl ?_
      show Steps p.tables e below (T3.setTop (mkF m 24 #[.val (.long p1), .second, .val (.long p2), .second, .val (.long p3), .second, .val (.long p4), .second, .val (.long p5), .second, .val (.int p6), .val (.int (0 : Int32)), .val (.ref b3), .unset, .unset, .unset, .unset, .unset, .unset, .unset, .unset, .unset, .unset] [(.int (0 : Int32))])) _
      refine XS.iconst X3.here hx rfl (hb hby at_24) ?_
      show Steps p.tables e below (T3.setTop (mkF m 25 #[.val (.long p1), .second, .val (.long p2), .second, .val (.long p3), .second, .val (.long p4), .second, .val (.long p5), .second, .val (.int p6), .val (.int (0 : Int32)), .val (.ref b3), .unset, .unset, .unset, .unset, .unset, .unset, .unset, .unset, .unset, .unset] [(.int (1 : Int32)), (.int (0 : Int32))])) _
      refine XS.icmpYes X3.here hx rfl (pc0 := 25) (pc' := 34) rfl (hb hby at_25) rfl (flt (by decide : ¬ ((1 : Int32) < (0 : Int32)))).2.2.2 (by decide) (by decide) ?_
      show Steps p.tables e below (T3.setTop (mkF m 34 #[.val (.long p1), .second, .val (.long p2), .second, .val (.long p3), .second, .val (.long p4), .second, .val (.long p5), .second, .val (.int p6), .val (.int (0 : Int32)), .val (.ref b3), .unset, .unset, .unset, .unset, .unset, .unset, .unset, .unset, .unset, .unset] [])) _
      refine XS.iload X3.here hx rfl (hb hby at_34) rfl ?_
      show Steps p.tables e below (T3.setTop (mkF m 36 #[.val (.long p1), .second, .val (.long p2), .second, .val (.long p3), .second, .val (.long p4), .second, .val (.long p5), .second, .val (.int p6), .val (.int (0 : Int32)), .val (.ref b3), .unset, .unset, .unset, .unset, .unset, .unset, .unset, .unset, .unset, .unset] [(.int (0 : Int32))])) _
      refine XS.iconst X3.here hx rfl (hb hby at_36) ?_
      show Steps p.tables e below (T3.setTop (mkF m 37 #[.val (.long p1), .second, .val (.long p2), .second, .val (.long p3), .second, .val (.long p4), .second, .val (.long p5), .second, .val (.int p6), .val (.int (0 : Int32)), .val (.ref b3), .unset, .unset, .unset, .unset, .unset, .unset, .unset, .unset, .unset, .unset] [(.int (2 : Int32)), (.int (0 : Int32))])) _
      refine XS.icmpYes X3.here hx rfl (pc0 := 37) (pc' := 46) rfl (hb hby at_37) rfl (flt (by decide : ¬ ((2 : Int32) < (0 : Int32)))).2.2.2 (by decide) (by decide) ?_
      show Steps p.tables e below (T3.setTop (mkF m 46 #[.val (.long p1), .second, .val (.long p2), .second, .val (.long p3), .second, .val (.long p4), .second, .val (.long p5), .second, .val (.int p6), .val (.int (0 : Int32)), .val (.ref b3), .unset, .unset, .unset, .unset, .unset, .unset, .unset, .unset, .unset, .unset] [])) _
      refine XS.lloadN X3.here hx rfl (hb hby at_46) rfl ?_
      show Steps p.tables e below (T3.setTop (mkF m 47 #[.val (.long p1), .second, .val (.long p2), .second, .val (.long p3), .second, .val (.long p4), .second, .val (.long p5), .second, .val (.int p6), .val (.int (0 : Int32)), .val (.ref b3), .unset, .unset, .unset, .unset, .unset, .unset, .unset, .unset, .unset, .unset] [(.long p1)])) _
      refine XS.aload X3.here hx rfl (hb hby at_47) rfl rfl ?_
      exact k
    obtain ⟨_, _, ⟨T7, L7, k7, n7⟩, -, X7, ⟨Lc7, hQ7, l7, y7, z7⟩, st7⟩ := Jvm.LawKit.callS X3 hx (y := (⟨"com/example/haversack/haversack/evaluation/Seeds", "derived", "(J[J)J"⟩ : MethodName)) hown (mvT hZ (hw _ (List.mem_of_getElem? (i := 1) rfl))) (mvT hZ (hw _ (List.mem_of_getElem? (i := 2) rfl))) (mvT hZ (hw _ (List.mem_of_getElem? (i := 3) rfl))) (mvT hZ (hw _ (List.mem_of_getElem? (i := 4) rfl))) (by decide) (backOf (W := 0) (rmD0 l Z a0 hw [] p1 b3 k3 h3 n0 z4 f5) hZ (hw _ (List.mem_of_getElem? (i := 4) rfl)) (hw _ (List.mem_of_getElem? (i := 3) rfl)) (by decide) (by decide)) (g := (mkF m 49 #[.val (.long p1), .second, .val (.long p2), .second, .val (.long p3), .second, .val (.long p4), .second, .val (.long p5), .second, .val (.int p6), .val (.int (0 : Int32)), .val (.ref b3), .unset, .unset, .unset, .unset, .unset, .unset, .unset, .unset, .unset, .unset] [(.ref b3), (.long p1)])) rfl (by rw [hml]; rfl) (argsL := [(.long p1), (.ref b3)]) (rest := []) (lenOf pd_1 rfl) rfl (by show 2 * 0 + _ ≤ _; exact Nat.le_of_eq rfl) (hb hby at_49) (fun _ _ => ⟨rfl, e3, (by decide : 1 + 0 ≤ _), (by decide : 0 + 0 ≤ _)⟩)
    dsimp only [Pt.U, Pt.locs, Pt.cells, Pt.slots] at X7 l7 y7 z7 st7 hQ7
    subst l7 y7 z7
    obtain ⟨rfl, N7q, e7⟩ := hQ7
    have N7 := Fr.app N0 N7q
    have sg8 : ∀ t, Steps p.tables e below (T7.setTop (mkF m 56 #[.val (.long p1), .second, .val (.long p2), .second, .val (.long p3), .second, .val (.long p4), .second, .val (.long p5), .second, .val (.int p6), .val (.int (0 : Int32)), .val (.ref b3), .val (.long (fMix p1)), .second, .unset, .unset, .unset, .unset, .unset, .unset, .unset, .unset] [(.int (0 : Int32)), (.long p1)])) t → Steps p.tables e below (T7.setTop (mkF m 52 #[.val (.long p1), .second, .val (.long p2), .second, .val (.long p3), .second, .val (.long p4), .second, .val (.long p5), .second, .val (.int p6), .val (.int (0 : Int32)), .val (.ref b3), .unset, .unset, .unset, .unset, .unset, .unset, .unset, .unset, .unset, .unset] [(.long (fMix p1))])) t := by
      intro t k
      show Steps p.tables e below (T7.setTop (mkF m 52 #[.val (.long p1), .second, .val (.long p2), .second, .val (.long p3), .second, .val (.long p4), .second, .val (.long p5), .second, .val (.int p6), .val (.int (0 : Int32)), .val (.ref b3), .unset, .unset, .unset, .unset, .unset, .unset, .unset, .unset, .unset, .unset] [(.long (fMix p1))])) _
      refine XS.lstore X7.here hx rfl (hb hby at_52) rfl (l' := #[.val (.long p1), .second, .val (.long p2), .second, .val (.long p3), .second, .val (.long p4), .second, .val (.long p5), .second, .val (.int p6), .val (.int (0 : Int32)), .val (.ref b3), .val (.long (fMix p1)), .second, .unset, .unset, .unset, .unset, .unset, .unset, .unset, .unset]) rfl ?_
      show Steps p.tables e below (T7.setTop (mkF m 54 #[.val (.long p1), .second, .val (.long p2), .second, .val (.long p3), .second, .val (.long p4), .second, .val (.long p5), .second, .val (.int p6), .val (.int (0 : Int32)), .val (.ref b3), .val (.long (fMix p1)), .second, .unset, .unset, .unset, .unset, .unset, .unset, .unset, .unset] [])) _
      refine XS.lloadN X7.here hx rfl (hb hby at_54) rfl ?_
      show Steps p.tables e below (T7.setTop (mkF m 55 #[.val (.long p1), .second, .val (.long p2), .second, .val (.long p3), .second, .val (.long p4), .second, .val (.long p5), .second, .val (.int p6), .val (.int (0 : Int32)), .val (.ref b3), .val (.long (fMix p1)), .second, .unset, .unset, .unset, .unset, .unset, .unset, .unset, .unset] [(.long p1)])) _
      refine XS.iconst X7.here hx rfl (hb hby at_55) ?_
      exact k
    obtain ⟨T9, h9, k9, X9, e9, E9, A9, st9⟩ := newP X7 hx hZ (hw _ (List.mem_of_getElem? (i := 0) rfl)) e7 (g := (mkF m 56 #[.val (.long p1), .second, .val (.long p2), .second, .val (.long p3), .second, .val (.long p4), .second, .val (.long p5), .second, .val (.int p6), .val (.int (0 : Int32)), .val (.ref b3), .val (.long (fMix p1)), .second, .unset, .unset, .unset, .unset, .unset, .unset, .unset, .unset] [(.int (0 : Int32)), (.long p1)])) rfl (hb hby at_56) rfl (by decide) (cap := 0) (by decide) (by decide) (by decide) (by decide)
    obtain ⟨b9, g9⟩ : ∃ z, z = h3.size := ⟨_, rfl⟩
    rw [← g9] at A9 st9
    have ne10 : b3 ≠ b9 := Nat.ne_of_lt (Nat.lt_of_lt_of_le f5.lt (Nat.le_of_eq g9.symm))
    have gn_b9 : n0 ≤ b9 := Nat.le_trans z4 (Nat.le_of_eq g9.symm)
    have f11 : Arv Z h9 b3 k3 .long (0 : Int32) [] (.long (0 : Int64)) := f5.ext E9
    have z12 : n0 ≤ h9.size := Nat.le_trans z4 E9.1
    have f13 : Arv Z h9 b9 k9 .long (0 : Int32) [] (.long (0 : Int64)) := (Arv.new A9 (by decide))
    obtain ⟨_, _, ⟨T14, L14, k14, n14⟩, -, X14, ⟨Lc14, hQ14, l14, y14, z14⟩, st14⟩ := Jvm.LawKit.callS X9 hx (y := (⟨"com/example/haversack/haversack/evaluation/Seeds", "derived", "(J[J)J"⟩ : MethodName)) hown (mvT hZ (hw _ (List.mem_of_getElem? (i := 1) rfl))) (mvT hZ (hw _ (List.mem_of_getElem? (i := 2) rfl))) (mvT hZ (hw _ (List.mem_of_getElem? (i := 3) rfl))) (mvT hZ (hw _ (List.mem_of_getElem? (i := 4) rfl))) (by decide) (backOf (W := 0) (rmD0 l Z a0 hw [] p1 b9 k9 h9 n0 z12 f13) hZ (hw _ (List.mem_of_getElem? (i := 4) rfl)) (hw _ (List.mem_of_getElem? (i := 3) rfl)) (by decide) (by decide)) (g := (mkF m 58 #[.val (.long p1), .second, .val (.long p2), .second, .val (.long p3), .second, .val (.long p4), .second, .val (.long p5), .second, .val (.int p6), .val (.int (0 : Int32)), .val (.ref b3), .val (.long (fMix p1)), .second, .unset, .unset, .unset, .unset, .unset, .unset, .unset, .unset] [(.ref b9), (.long p1)])) rfl (by rw [hml]; rfl) (argsL := [(.long p1), (.ref b9)]) (rest := []) (lenOf pd_1 rfl) rfl (by show 2 * 0 + _ ≤ _; exact Nat.le_of_eq rfl) (hb hby at_58) (fun _ _ => ⟨rfl, e9, (by decide : 2 + 0 ≤ _), (by decide : 0 + 0 ≤ _)⟩)
    dsimp only [Pt.U, Pt.locs, Pt.cells, Pt.slots] at X14 l14 y14 z14 st14 hQ14
    subst l14 y14 z14
    obtain ⟨rfl, N14q, e14⟩ := hQ14
    have N14 := Fr.app N7 N14q
    have sg15 : ∀ t, Steps p.tables e below (T14.setTop (mkF m 141 #[.val (.long p1), .second, .val (.long p2), .second, .val (.long p3), .second, .val (.long p4), .second, .val (.long p5), .second, .val (.int p6), .val (.int (0 : Int32)), .val (.ref b3), .val (.long (fMix p1)), .second, .val (.long (fMix p1)), .second, .val (.long (fMix p1)), .second, .val (.int (1 : Int32)), .unset, .unset, .unset] [(.int (lcmpW p1 p5))])) t → Steps p.tables e below (T14.setTop (mkF m 61 #[.val (.long p1), .second, .val (.long p2), .second, .val (.long p3), .second, .val (.long p4), .second, .val (.long p5), .second, .val (.int p6), .val (.int (0 : Int32)), .val (.ref b3), .val (.long (fMix p1)), .second, .unset, .unset, .unset, .unset, .unset, .unset, .unset, .unset] [(.long (fMix p1))])) t := by
      intro t k
      show Steps p.tables e below (T14.setTop (mkF m 61 #[.val (.long p1), .second, .val (.long p2), .second, .val (.long p3), .second, .val (.long p4), .second, .val (.long p5), .second, .val (.int p6), .val (.int (0 : Int32)), .val (.ref b3), .val (.long (fMix p1)), .second, .unset, .unset, .unset, .unset, .unset, .unset, .unset, .unset] [(.long (fMix p1))])) _
      refine XS.lstore X14.here hx rfl (hb hby at_61) rfl (l' := #[.val (.long p1), .second, .val (.long p2), .second, .val (.long p3), .second, .val (.long p4), .second, .val (.long p5), .second, .val (.int p6), .val (.int (0 : Int32)), .val (.ref b3), .val (.long (fMix p1)), .second, .val (.long (fMix p1)), .second, .unset, .unset, .unset, .unset, .unset, .unset]) rfl ?_
      show Steps p.tables e below (T14.setTop (mkF m 63 #[.val (.long p1), .second, .val (.long p2), .second, .val (.long p3), .second, .val (.long p4), .second, .val (.long p5), .second, .val (.int p6), .val (.int (0 : Int32)), .val (.ref b3), .val (.long (fMix p1)), .second, .val (.long (fMix p1)), .second, .unset, .unset, .unset, .unset, .unset, .unset] [])) _
      refine XS.lload X14.here hx rfl (hb hby at_63) rfl ?_
      show Steps p.tables e below (T14.setTop (mkF m 65 #[.val (.long p1), .second, .val (.long p2), .second, .val (.long p3), .second, .val (.long p4), .second, .val (.long p5), .second, .val (.int p6), .val (.int (0 : Int32)), .val (.ref b3), .val (.long (fMix p1)), .second, .val (.long (fMix p1)), .second, .unset, .unset, .unset, .unset, .unset, .unset] [(.long (fMix p1))])) _
      refine XS.lstore X14.here hx rfl (hb hby at_65) rfl (l' := #[.val (.long p1), .second, .val (.long p2), .second, .val (.long p3), .second, .val (.long p4), .second, .val (.long p5), .second, .val (.int p6), .val (.int (0 : Int32)), .val (.ref b3), .val (.long (fMix p1)), .second, .val (.long (fMix p1)), .second, .val (.long (fMix p1)), .second, .unset, .unset, .unset, .unset]) rfl ?_
      show Steps p.tables e below (T14.setTop (mkF m 67 #[.val (.long p1), .second, .val (.long p2), .second, .val (.long p3), .second, .val (.long p4), .second, .val (.long p5), .second, .val (.int p6), .val (.int (0 : Int32)), .val (.ref b3), .val (.long (fMix p1)), .second, .val (.long (fMix p1)), .second, .val (.long (fMix p1)), .second, .unset, .unset, .unset, .unset] [])) _
      refine XS.iload X14.here hx rfl (hb hby at_67) rfl ?_
      show Steps p.tables e below (T14.setTop (mkF m 69 #[.val (.long p1), .second, .val (.long p2), .second, .val (.long p3), .second, .val (.long p4), .second, .val (.long p5), .second, .val (.int p6), .val (.int (0 : Int32)), .val (.ref b3), .val (.long (fMix p1)), .second, .val (.long (fMix p1)), .second, .val (.long (fMix p1)), .second, .unset, .unset, .unset, .unset] [(.int (0 : Int32))])) _
      refine XS.ifYes X14.here hx rfl (pc0 := 69) (pc' := 84) rfl (hb hby at_69) rfl ((if0 _ _).trans (flt (by decide : ¬ ((0 : Int32) < (0 : Int32)))).2.2.2) (by decide) (by decide) ?_
      show Steps p.tables e below (T14.setTop (mkF m 84 #[.val (.long p1), .second, .val (.long p2), .second, .val (.long p3), .second, .val (.long p4), .second, .val (.long p5), .second, .val (.int p6), .val (.int (0 : Int32)), .val (.ref b3), .val (.long (fMix p1)), .second, .val (.long (fMix p1)), .second, .val (.long (fMix p1)), .second, .unset, .unset, .unset, .unset] [])) _
      refine XS.iload X14.here hx rfl (hb hby at_84) rfl ?_
      show Steps p.tables e below (T14.setTop (mkF m 86 #[.val (.long p1), .second, .val (.long p2), .second, .val (.long p3), .second, .val (.long p4), .second, .val (.long p5), .second, .val (.int p6), .val (.int (0 : Int32)), .val (.ref b3), .val (.long (fMix p1)), .second, .val (.long (fMix p1)), .second, .val (.long (fMix p1)), .second, .unset, .unset, .unset, .unset] [(.int (0 : Int32))])) _
      refine XS.iconst X14.here hx rfl (hb hby at_86) ?_
      show Steps p.tables e below (T14.setTop (mkF m 87 #[.val (.long p1), .second, .val (.long p2), .second, .val (.long p3), .second, .val (.long p4), .second, .val (.long p5), .second, .val (.int p6), .val (.int (0 : Int32)), .val (.ref b3), .val (.long (fMix p1)), .second, .val (.long (fMix p1)), .second, .val (.long (fMix p1)), .second, .unset, .unset, .unset, .unset] [(.int (1 : Int32)), (.int (0 : Int32))])) _
      refine XS.icmpYes X14.here hx rfl (pc0 := 87) (pc' := 103) rfl (hb hby at_87) rfl (flt (by decide : ¬ ((1 : Int32) < (0 : Int32)))).2.2.2 (by decide) (by decide) ?_
      show Steps p.tables e below (T14.setTop (mkF m 103 #[.val (.long p1), .second, .val (.long p2), .second, .val (.long p3), .second, .val (.long p4), .second, .val (.long p5), .second, .val (.int p6), .val (.int (0 : Int32)), .val (.ref b3), .val (.long (fMix p1)), .second, .val (.long (fMix p1)), .second, .val (.long (fMix p1)), .second, .unset, .unset, .unset, .unset] [])) _
      refine XS.iload X14.here hx rfl (hb hby at_103) rfl ?_
      show Steps p.tables e below (T14.setTop (mkF m 105 #[.val (.long p1), .second, .val (.long p2), .second, .val (.long p3), .second, .val (.long p4), .second, .val (.long p5), .second, .val (.int p6), .val (.int (0 : Int32)), .val (.ref b3), .val (.long (fMix p1)), .second, .val (.long (fMix p1)), .second, .val (.long (fMix p1)), .second, .unset, .unset, .unset, .unset] [(.int (0 : Int32))])) _
      refine XS.iconst X14.here hx rfl (hb hby at_105) ?_
      show Steps p.tables e below (T14.setTop (mkF m 106 #[.val (.long p1), .second, .val (.long p2), .second, .val (.long p3), .second, .val (.long p4), .second, .val (.long p5), .second, .val (.int p6), .val (.int (0 : Int32)), .val (.ref b3), .val (.long (fMix p1)), .second, .val (.long (fMix p1)), .second, .val (.long (fMix p1)), .second, .unset, .unset, .unset, .unset] [(.int (2 : Int32)), (.int (0 : Int32))])) _
      refine XS.icmpYes X14.here hx rfl (pc0 := 106) (pc' := 122) rfl (hb hby at_106) rfl (flt (by decide : ¬ ((2 : Int32) < (0 : Int32)))).2.2.2 (by decide) (by decide) ?_
      show Steps p.tables e below (T14.setTop (mkF m 122 #[.val (.long p1), .second, .val (.long p2), .second, .val (.long p3), .second, .val (.long p4), .second, .val (.long p5), .second, .val (.int p6), .val (.int (0 : Int32)), .val (.ref b3), .val (.long (fMix p1)), .second, .val (.long (fMix p1)), .second, .val (.long (fMix p1)), .second, .unset, .unset, .unset, .unset] [])) _
      refine XS.lload X14.here hx rfl (hb hby at_122) rfl ?_
      show Steps p.tables e below (T14.setTop (mkF m 124 #[.val (.long p1), .second, .val (.long p2), .second, .val (.long p3), .second, .val (.long p4), .second, .val (.long p5), .second, .val (.int p6), .val (.int (0 : Int32)), .val (.ref b3), .val (.long (fMix p1)), .second, .val (.long (fMix p1)), .second, .val (.long (fMix p1)), .second, .unset, .unset, .unset, .unset] [(.long (fMix p1))])) _
      refine XS.lload X14.here hx rfl (hb hby at_124) rfl ?_
      show Steps p.tables e below (T14.setTop (mkF m 126 #[.val (.long p1), .second, .val (.long p2), .second, .val (.long p3), .second, .val (.long p4), .second, .val (.long p5), .second, .val (.int p6), .val (.int (0 : Int32)), .val (.ref b3), .val (.long (fMix p1)), .second, .val (.long (fMix p1)), .second, .val (.long (fMix p1)), .second, .unset, .unset, .unset, .unset] [(.long (fMix p1)), (.long (fMix p1))])) _
      refine XS.lcmp X14.here hx rfl (hb hby at_126) rfl ?_
      show Steps p.tables e below (T14.setTop (mkF m 127 #[.val (.long p1), .second, .val (.long p2), .second, .val (.long p3), .second, .val (.long p4), .second, .val (.long p5), .second, .val (.int p6), .val (.int (0 : Int32)), .val (.ref b3), .val (.long (fMix p1)), .second, .val (.long (fMix p1)), .second, .val (.long (fMix p1)), .second, .unset, .unset, .unset, .unset] [(.int (lcmpW (fMix p1) (fMix p1)))])) _
      refine XS.ifNo X14.here hx rfl (hb hby at_127) rfl ((if0 _ _).trans (teq ((lw_eq _ _).mpr (rfl : (fMix p1) = (fMix p1)))).2) ?_
      show Steps p.tables e below (T14.setTop (mkF m 130 #[.val (.long p1), .second, .val (.long p2), .second, .val (.long p3), .second, .val (.long p4), .second, .val (.long p5), .second, .val (.int p6), .val (.int (0 : Int32)), .val (.ref b3), .val (.long (fMix p1)), .second, .val (.long (fMix p1)), .second, .val (.long (fMix p1)), .second, .unset, .unset, .unset, .unset] [])) _
      refine XS.iconst X14.here hx rfl (hb hby at_130) ?_
      show Steps p.tables e below (T14.setTop (mkF m 131 #[.val (.long p1), .second, .val (.long p2), .second, .val (.long p3), .second, .val (.long p4), .second, .val (.long p5), .second, .val (.int p6), .val (.int (0 : Int32)), .val (.ref b3), .val (.long (fMix p1)), .second, .val (.long (fMix p1)), .second, .val (.long (fMix p1)), .second, .unset, .unset, .unset, .unset] [(.int (1 : Int32))])) _
      refine XS.goto X14.here hx rfl (pc0 := 131) (pc' := 135) rfl (hb hby at_131) (by decide) (by decide) ?_
      show Steps p.tables e below (T14.setTop (mkF m 135 #[.val (.long p1), .second, .val (.long p2), .second, .val (.long p3), .second, .val (.long p4), .second, .val (.long p5), .second, .val (.int p6), .val (.int (0 : Int32)), .val (.ref b3), .val (.long (fMix p1)), .second, .val (.long (fMix p1)), .second, .val (.long (fMix p1)), .second, .unset, .unset, .unset, .unset] [(.int (1 : Int32))])) _
      refine XS.istore X14.here hx rfl (hb hby at_135) rfl (l' := #[.val (.long p1), .second, .val (.long p2), .second, .val (.long p3), .second, .val (.long p4), .second, .val (.long p5), .second, .val (.int p6), .val (.int (0 : Int32)), .val (.ref b3), .val (.long (fMix p1)), .second, .val (.long (fMix p1)), .second, .val (.long (fMix p1)), .second, .val (.int (1 : Int32)), .unset, .unset, .unset]) rfl ?_
      show Steps p.tables e below (T14.setTop (mkF m 137 #[.val (.long p1), .second, .val (.long p2), .second, .val (.long p3), .second, .val (.long p4), .second, .val (.long p5), .second, .val (.int p6), .val (.int (0 : Int32)), .val (.ref b3), .val (.long (fMix p1)), .second, .val (.long (fMix p1)), .second, .val (.long (fMix p1)), .second, .val (.int (1 : Int32)), .unset, .unset, .unset] [])) _
      refine XS.lloadN X14.here hx rfl (hb hby at_137) rfl ?_
      show Steps p.tables e below (T14.setTop (mkF m 138 #[.val (.long p1), .second, .val (.long p2), .second, .val (.long p3), .second, .val (.long p4), .second, .val (.long p5), .second, .val (.int p6), .val (.int (0 : Int32)), .val (.ref b3), .val (.long (fMix p1)), .second, .val (.long (fMix p1)), .second, .val (.long (fMix p1)), .second, .val (.int (1 : Int32)), .unset, .unset, .unset] [(.long p1)])) _
      refine XS.lload X14.here hx rfl (hb hby at_138) rfl ?_
      show Steps p.tables e below (T14.setTop (mkF m 140 #[.val (.long p1), .second, .val (.long p2), .second, .val (.long p3), .second, .val (.long p4), .second, .val (.long p5), .second, .val (.int p6), .val (.int (0 : Int32)), .val (.ref b3), .val (.long (fMix p1)), .second, .val (.long (fMix p1)), .second, .val (.long (fMix p1)), .second, .val (.int (1 : Int32)), .unset, .unset, .unset] [(.long p5), (.long p1)])) _
      refine XS.lcmp X14.here hx rfl (hb hby at_140) rfl ?_
      exact k
    obtain ⟨v1, hv1⟩ : ∃ v : Int32, v = (if p1 = p5 then (1 : Int32) else (0 : Int32)) := ⟨_, rfl⟩
    have sg16 : ∀ t, Steps p.tables e below (T14.setTop (mkF m 149 #[.val (.long p1), .second, .val (.long p2), .second, .val (.long p3), .second, .val (.long p4), .second, .val (.long p5), .second, .val (.int p6), .val (.int (0 : Int32)), .val (.ref b3), .val (.long (fMix p1)), .second, .val (.long (fMix p1)), .second, .val (.long (fMix p1)), .second, .val (.int (1 : Int32)), .unset, .unset, .unset] [(.int v1)])) t → Steps p.tables e below (T14.setTop (mkF m 141 #[.val (.long p1), .second, .val (.long p2), .second, .val (.long p3), .second, .val (.long p4), .second, .val (.long p5), .second, .val (.int p6), .val (.int (0 : Int32)), .val (.ref b3), .val (.long (fMix p1)), .second, .val (.long (fMix p1)), .second, .val (.long (fMix p1)), .second, .val (.int (1 : Int32)), .unset, .unset, .unset] [(.int (lcmpW p1 p5))])) t := by
      intro t k
      show Steps p.tables e below (T14.setTop (mkF m 141 #[.val (.long p1), .second, .val (.long p2), .second, .val (.long p3), .second, .val (.long p4), .second, .val (.long p5), .second, .val (.int p6), .val (.int (0 : Int32)), .val (.ref b3), .val (.long (fMix p1)), .second, .val (.long (fMix p1)), .second, .val (.long (fMix p1)), .second, .val (.int (1 : Int32)), .unset, .unset, .unset] [(.int (lcmpW p1 p5))])) _
      by_cases hc141 : p1 = p5
      · refine XS.ifNo X14.here hx rfl (hb hby at_141) rfl ((if0 _ _).trans (teq ((lw_eq _ _).mpr hc141)).2) ?_
        show Steps p.tables e below (T14.setTop (mkF m 144 #[.val (.long p1), .second, .val (.long p2), .second, .val (.long p3), .second, .val (.long p4), .second, .val (.long p5), .second, .val (.int p6), .val (.int (0 : Int32)), .val (.ref b3), .val (.long (fMix p1)), .second, .val (.long (fMix p1)), .second, .val (.long (fMix p1)), .second, .val (.int (1 : Int32)), .unset, .unset, .unset] [])) _
        refine XS.iconst X14.here hx rfl (hb hby at_144) ?_
        show Steps p.tables e below (T14.setTop (mkF m 145 #[.val (.long p1), .second, .val (.long p2), .second, .val (.long p3), .second, .val (.long p4), .second, .val (.long p5), .second, .val (.int p6), .val (.int (0 : Int32)), .val (.ref b3), .val (.long (fMix p1)), .second, .val (.long (fMix p1)), .second, .val (.long (fMix p1)), .second, .val (.int (1 : Int32)), .unset, .unset, .unset] [(.int (1 : Int32))])) _
        refine XS.goto X14.here hx rfl (pc0 := 145) (pc' := 149) rfl (hb hby at_145) (by decide) (by decide) ?_
        rw [show v1 = (1 : Int32) from by rw [hv1, if_pos hc141]] at k
        exact k
      · refine XS.ifYes X14.here hx rfl (pc0 := 141) (pc' := 148) rfl (hb hby at_141) rfl ((if0 _ _).trans (feq (mt (lw_eq _ _).mp hc141)).2) (by decide) (by decide) ?_
        show Steps p.tables e below (T14.setTop (mkF m 148 #[.val (.long p1), .second, .val (.long p2), .second, .val (.long p3), .second, .val (.long p4), .second, .val (.long p5), .second, .val (.int p6), .val (.int (0 : Int32)), .val (.ref b3), .val (.long (fMix p1)), .second, .val (.long (fMix p1)), .second, .val (.long (fMix p1)), .second, .val (.int (1 : Int32)), .unset, .unset, .unset] [])) _
        refine XS.iconst X14.here hx rfl (hb hby at_148) ?_
        rw [show v1 = (0 : Int32) from by rw [hv1, if_neg hc141]] at k
        exact k
    have sg17 : ∀ t, Steps p.tables e below (T14.setTop (mkF m 154 #[.val (.long p1), .second, .val (.long p2), .second, .val (.long p3), .second, .val (.long p4), .second, .val (.long p5), .second, .val (.int p6), .val (.int (0 : Int32)), .val (.ref b3), .val (.long (fMix p1)), .second, .val (.long (fMix p1)), .second, .val (.long (fMix p1)), .second, .val (.int (1 : Int32)), .unset, .unset, .unset] [(.int (0 : Int32)), (.long p5), (.long (fMix p1)), (.int v1)])) t → Steps p.tables e below (T14.setTop (mkF m 149 #[.val (.long p1), .second, .val (.long p2), .second, .val (.long p3), .second, .val (.long p4), .second, .val (.long p5), .second, .val (.int p6), .val (.int (0 : Int32)), .val (.ref b3), .val (.long (fMix p1)), .second, .val (.long (fMix p1)), .second, .val (.long (fMix p1)), .second, .val (.int (1 : Int32)), .unset, .unset, .unset] [(.int v1)])) t := by
      intro t k
      show Steps p.tables e below (T14.setTop (mkF m 149 #[.val (.long p1), .second, .val (.long p2), .second, .val (.long p3), .second, .val (.long p4), .second, .val (.long p5), .second, .val (.int p6), .val (.int (0 : Int32)), .val (.ref b3), .val (.long (fMix p1)), .second, .val (.long (fMix p1)), .second, .val (.long (fMix p1)), .second, .val (.int (1 : Int32)), .unset, .unset, .unset] [(.int v1)])) _
      refine XS.lload X14.here hx rfl (hb hby at_149) rfl ?_
      show Steps p.tables e below (T14.setTop (mkF m 151 #[.val (.long p1), .second, .val (.long p2), .second, .val (.long p3), .second, .val (.long p4), .second, .val (.long p5), .second, .val (.int p6), .val (.int (0 : Int32)), .val (.ref b3), .val (.long (fMix p1)), .second, .val (.long (fMix p1)), .second, .val (.long (fMix p1)), .second, .val (.int (1 : Int32)), .unset, .unset, .unset] [(.long (fMix p1)), (.int v1)])) _
      refine XS.lload X14.here hx rfl (hb hby at_151) rfl ?_
      show Steps p.tables e below (T14.setTop (mkF m 153 #[.val (.long p1), .second, .val (.long p2), .second, .val (.long p3), .second, .val (.long p4), .second, .val (.long p5), .second, .val (.int p6), .val (.int (0 : Int32)), .val (.ref b3), .val (.long (fMix p1)), .second, .val (.long (fMix p1)), .second, .val (.long (fMix p1)), .second, .val (.int (1 : Int32)), .unset, .unset, .unset] [(.long p5), (.long (fMix p1)), (.int v1)])) _
      refine XS.iconst X14.here hx rfl (hb hby at_153) ?_
      exact k
    obtain ⟨T18, h18, k18, X18, e18, E18, A18, st18⟩ := newP X14 hx hZ (hw _ (List.mem_of_getElem? (i := 0) rfl)) e14 (g := (mkF m 154 #[.val (.long p1), .second, .val (.long p2), .second, .val (.long p3), .second, .val (.long p4), .second, .val (.long p5), .second, .val (.int p6), .val (.int (0 : Int32)), .val (.ref b3), .val (.long (fMix p1)), .second, .val (.long (fMix p1)), .second, .val (.long (fMix p1)), .second, .val (.int (1 : Int32)), .unset, .unset, .unset] [(.int (0 : Int32)), (.long p5), (.long (fMix p1)), (.int v1)])) rfl (hb hby at_154) rfl (by decide) (cap := 0) (by decide) (by decide) (by decide) (by decide)
    obtain ⟨b18, g18⟩ : ∃ z, z = h9.size := ⟨_, rfl⟩
    rw [← g18] at A18 st18
    have ne19 : b3 ≠ b18 := Nat.ne_of_lt (Nat.lt_of_lt_of_le f11.lt (Nat.le_of_eq g18.symm))
    have ne20 : b9 ≠ b18 := Nat.ne_of_lt (Nat.lt_of_lt_of_le f13.lt (Nat.le_of_eq g18.symm))
    have gn_b18 : n0 ≤ b18 := Nat.le_trans z12 (Nat.le_of_eq g18.symm)
    have f21 : Arv Z h18 b3 k3 .long (0 : Int32) [] (.long (0 : Int64)) := f11.ext E18
    have f22 : Arv Z h18 b9 k9 .long (0 : Int32) [] (.long (0 : Int64)) := f13.ext E18
    have z23 : n0 ≤ h18.size := Nat.le_trans z12 E18.1
    have f24 : Arv Z h18 b18 k18 .long (0 : Int32) [] (.long (0 : Int64)) := (Arv.new A18 (by decide))
    obtain ⟨_, _, ⟨T25, L25, k25, n25⟩, -, X25, ⟨Lc25, hQ25, l25, y25, z25⟩, st25⟩ := Jvm.LawKit.callS X18 hx (y := (⟨"com/example/haversack/haversack/evaluation/Seeds", "derived", "(J[J)J"⟩ : MethodName)) hown (mvT hZ (hw _ (List.mem_of_getElem? (i := 1) rfl))) (mvT hZ (hw _ (List.mem_of_getElem? (i := 2) rfl))) (mvT hZ (hw _ (List.mem_of_getElem? (i := 3) rfl))) (mvT hZ (hw _ (List.mem_of_getElem? (i := 4) rfl))) (by decide) (backOf (W := 3) (rmD0 l Z a0 hw [] p5 b18 k18 h18 n0 z23 f24) hZ (hw _ (List.mem_of_getElem? (i := 4) rfl)) (hw _ (List.mem_of_getElem? (i := 3) rfl)) (by decide) (by decide)) (g := (mkF m 156 #[.val (.long p1), .second, .val (.long p2), .second, .val (.long p3), .second, .val (.long p4), .second, .val (.long p5), .second, .val (.int p6), .val (.int (0 : Int32)), .val (.ref b3), .val (.long (fMix p1)), .second, .val (.long (fMix p1)), .second, .val (.long (fMix p1)), .second, .val (.int (1 : Int32)), .unset, .unset, .unset] [(.ref b18), (.long p5), (.long (fMix p1)), (.int v1)])) rfl (by rw [hml]; rfl) (argsL := [(.long p5), (.ref b18)]) (rest := [(.long (fMix p1)), (.int v1)]) (lenOf pd_1 rfl) rfl (by show 2 * 0 + _ ≤ _; exact Nat.le_of_eq rfl) (hb hby at_156) (fun _ _ => ⟨rfl, e18, (by decide : 3 + 0 ≤ _), (by decide : 0 + 0 ≤ _)⟩)
    dsimp only [Pt.U, Pt.locs, Pt.cells, Pt.slots] at X25 l25 y25 z25 st25 hQ25
    subst l25 y25 z25
    obtain ⟨rfl, N25q, e25⟩ := hQ25
    have N25 := Fr.app N14 N25q
    have sg26 : ∀ t, Steps p.tables e below (T25.setTop (mkF m 160 #[.val (.long p1), .second, .val (.long p2), .second, .val (.long p3), .second, .val (.long p4), .second, .val (.long p5), .second, .val (.int p6), .val (.int (0 : Int32)), .val (.ref b3), .val (.long (fMix p1)), .second, .val (.long (fMix p1)), .second, .val (.long (fMix p1)), .second, .val (.int (1 : Int32)), .unset, .unset, .unset] [(.int (lcmpW (fMix p1) (fMix p5))), (.int v1)])) t → Steps p.tables e below (T25.setTop (mkF m 159 #[.val (.long p1), .second, .val (.long p2), .second, .val (.long p3), .second, .val (.long p4), .second, .val (.long p5), .second, .val (.int p6), .val (.int (0 : Int32)), .val (.ref b3), .val (.long (fMix p1)), .second, .val (.long (fMix p1)), .second, .val (.long (fMix p1)), .second, .val (.int (1 : Int32)), .unset, .unset, .unset] [(.long (fMix p5)), (.long (fMix p1)), (.int v1)])) t := by
      intro t k
      show Steps p.tables e below (T25.setTop (mkF m 159 #[.val (.long p1), .second, .val (.long p2), .second, .val (.long p3), .second, .val (.long p4), .second, .val (.long p5), .second, .val (.int p6), .val (.int (0 : Int32)), .val (.ref b3), .val (.long (fMix p1)), .second, .val (.long (fMix p1)), .second, .val (.long (fMix p1)), .second, .val (.int (1 : Int32)), .unset, .unset, .unset] [(.long (fMix p5)), (.long (fMix p1)), (.int v1)])) _
      refine XS.lcmp X25.here hx rfl (hb hby at_159) rfl ?_
      exact k
    obtain ⟨v2, hv2⟩ : ∃ v : Int32, v = (if (fMix p1) = (fMix p5) then (1 : Int32) else (0 : Int32)) := ⟨_, rfl⟩
    have sg27 : ∀ t, Steps p.tables e below (T25.setTop (mkF m 168 #[.val (.long p1), .second, .val (.long p2), .second, .val (.long p3), .second, .val (.long p4), .second, .val (.long p5), .second, .val (.int p6), .val (.int (0 : Int32)), .val (.ref b3), .val (.long (fMix p1)), .second, .val (.long (fMix p1)), .second, .val (.long (fMix p1)), .second, .val (.int (1 : Int32)), .unset, .unset, .unset] [(.int v2), (.int v1)])) t → Steps p.tables e below (T25.setTop (mkF m 160 #[.val (.long p1), .second, .val (.long p2), .second, .val (.long p3), .second, .val (.long p4), .second, .val (.long p5), .second, .val (.int p6), .val (.int (0 : Int32)), .val (.ref b3), .val (.long (fMix p1)), .second, .val (.long (fMix p1)), .second, .val (.long (fMix p1)), .second, .val (.int (1 : Int32)), .unset, .unset, .unset] [(.int (lcmpW (fMix p1) (fMix p5))), (.int v1)])) t := by
      intro t k
      show Steps p.tables e below (T25.setTop (mkF m 160 #[.val (.long p1), .second, .val (.long p2), .second, .val (.long p3), .second, .val (.long p4), .second, .val (.long p5), .second, .val (.int p6), .val (.int (0 : Int32)), .val (.ref b3), .val (.long (fMix p1)), .second, .val (.long (fMix p1)), .second, .val (.long (fMix p1)), .second, .val (.int (1 : Int32)), .unset, .unset, .unset] [(.int (lcmpW (fMix p1) (fMix p5))), (.int v1)])) _
      by_cases hc160 : (fMix p1) = (fMix p5)
      · refine XS.ifNo X25.here hx rfl (hb hby at_160) rfl ((if0 _ _).trans (teq ((lw_eq _ _).mpr hc160)).2) ?_
        show Steps p.tables e below (T25.setTop (mkF m 163 #[.val (.long p1), .second, .val (.long p2), .second, .val (.long p3), .second, .val (.long p4), .second, .val (.long p5), .second, .val (.int p6), .val (.int (0 : Int32)), .val (.ref b3), .val (.long (fMix p1)), .second, .val (.long (fMix p1)), .second, .val (.long (fMix p1)), .second, .val (.int (1 : Int32)), .unset, .unset, .unset] [(.int v1)])) _
        refine XS.iconst X25.here hx rfl (hb hby at_163) ?_
        show Steps p.tables e below (T25.setTop (mkF m 164 #[.val (.long p1), .second, .val (.long p2), .second, .val (.long p3), .second, .val (.long p4), .second, .val (.long p5), .second, .val (.int p6), .val (.int (0 : Int32)), .val (.ref b3), .val (.long (fMix p1)), .second, .val (.long (fMix p1)), .second, .val (.long (fMix p1)), .second, .val (.int (1 : Int32)), .unset, .unset, .unset] [(.int (1 : Int32)), (.int v1)])) _
        refine XS.goto X25.here hx rfl (pc0 := 164) (pc' := 168) rfl (hb hby at_164) (by decide) (by decide) ?_
        rw [show v2 = (1 : Int32) from by rw [hv2, if_pos hc160]] at k
        exact k
      · refine XS.ifYes X25.here hx rfl (pc0 := 160) (pc' := 167) rfl (hb hby at_160) rfl ((if0 _ _).trans (feq (mt (lw_eq _ _).mp hc160)).2) (by decide) (by decide) ?_
        show Steps p.tables e below (T25.setTop (mkF m 167 #[.val (.long p1), .second, .val (.long p2), .second, .val (.long p3), .second, .val (.long p4), .second, .val (.long p5), .second, .val (.int p6), .val (.int (0 : Int32)), .val (.ref b3), .val (.long (fMix p1)), .second, .val (.long (fMix p1)), .second, .val (.long (fMix p1)), .second, .val (.int (1 : Int32)), .unset, .unset, .unset] [(.int v1)])) _
        refine XS.iconst X25.here hx rfl (hb hby at_167) ?_
        rw [show v2 = (0 : Int32) from by rw [hv2, if_neg hc160]] at k
        exact k
    have sg28 : ∀ t, Steps p.tables e below (T25.setTop (mkF m 182 #[.val (.long p1), .second, .val (.long p2), .second, .val (.long p3), .second, .val (.long p4), .second, .val (.long p5), .second, .val (.int p6), .val (.int (0 : Int32)), .val (.ref b3), .val (.long (fMix p1)), .second, .val (.long (fMix p1)), .second, .val (.long (fMix p1)), .second, .val (.int (1 : Int32)), .val (.int (1 : Int32)), .unset, .unset] [(.int (0 : Int32)), (.long (-7046029254386353131 : Int64))])) t → Steps p.tables e below (T25.setTop (mkF m 168 #[.val (.long p1), .second, .val (.long p2), .second, .val (.long p3), .second, .val (.long p4), .second, .val (.long p5), .second, .val (.int p6), .val (.int (0 : Int32)), .val (.ref b3), .val (.long (fMix p1)), .second, .val (.long (fMix p1)), .second, .val (.long (fMix p1)), .second, .val (.int (1 : Int32)), .unset, .unset, .unset] [(.int v2), (.int v1)])) t := by
      intro t k
      show Steps p.tables e below (T25.setTop (mkF m 168 #[.val (.long p1), .second, .val (.long p2), .second, .val (.long p3), .second, .val (.long p4), .second, .val (.long p5), .second, .val (.int p6), .val (.int (0 : Int32)), .val (.ref b3), .val (.long (fMix p1)), .second, .val (.long (fMix p1)), .second, .val (.long (fMix p1)), .second, .val (.int (1 : Int32)), .unset, .unset, .unset] [(.int v2), (.int v1)])) _
      refine XS.icmpNo X25.here hx rfl (hb hby at_168) rfl (teq ((by rw [hv1, hv2]; exact own_injIf _ _) : v1 = v2)).2 ?_
      show Steps p.tables e below (T25.setTop (mkF m 171 #[.val (.long p1), .second, .val (.long p2), .second, .val (.long p3), .second, .val (.long p4), .second, .val (.long p5), .second, .val (.int p6), .val (.int (0 : Int32)), .val (.ref b3), .val (.long (fMix p1)), .second, .val (.long (fMix p1)), .second, .val (.long (fMix p1)), .second, .val (.int (1 : Int32)), .unset, .unset, .unset] [])) _
      refine XS.iconst X25.here hx rfl (hb hby at_171) ?_
      show Steps p.tables e below (T25.setTop (mkF m 172 #[.val (.long p1), .second, .val (.long p2), .second, .val (.long p3), .second, .val (.long p4), .second, .val (.long p5), .second, .val (.int p6), .val (.int (0 : Int32)), .val (.ref b3), .val (.long (fMix p1)), .second, .val (.long (fMix p1)), .second, .val (.long (fMix p1)), .second, .val (.int (1 : Int32)), .unset, .unset, .unset] [(.int (1 : Int32))])) _
      refine XS.goto X25.here hx rfl (pc0 := 172) (pc' := 176) rfl (hb hby at_172) (by decide) (by decide) ?_
      show Steps p.tables e below (T25.setTop (mkF m 176 #[.val (.long p1), .second, .val (.long p2), .second, .val (.long p3), .second, .val (.long p4), .second, .val (.long p5), .second, .val (.int p6), .val (.int (0 : Int32)), .val (.ref b3), .val (.long (fMix p1)), .second, .val (.long (fMix p1)), .second, .val (.long (fMix p1)), .second, .val (.int (1 : Int32)), .unset, .unset, .unset] [(.int (1 : Int32))])) _
      refine XS.istore X25.here hx rfl (hb hby at_176) rfl (l' := #[.val (.long p1), .second, .val (.long p2), .second, .val (.long p3), .second, .val (.long p4), .second, .val (.long p5), .second, .val (.int p6), .val (.int (0 : Int32)), .val (.ref b3), .val (.long (fMix p1)), .second, .val (.long (fMix p1)), .second, .val (.long (fMix p1)), .second, .val (.int (1 : Int32)), .val (.int (1 : Int32)), .unset, .unset]) rfl ?_
      show Steps p.tables e below (T25.setTop (mkF m 178 #[.val (.long p1), .second, .val (.long p2), .second, .val (.long p3), .second, .val (.long p4), .second, .val (.long p5), .second, .val (.int p6), .val (.int (0 : Int32)), .val (.ref b3), .val (.long (fMix p1)), .second, .val (.long (fMix p1)), .second, .val (.long (fMix p1)), .second, .val (.int (1 : Int32)), .val (.int (1 : Int32)), .unset, .unset] [])) _
      refine X25.ldc2Long hx hown (mvT hZ (hw _ (List.mem_of_getElem? (i := 10) rfl))) (g := (mkF m 178 #[.val (.long p1), .second, .val (.long p2), .second, .val (.long p3), .second, .val (.long p4), .second, .val (.long p5), .second, .val (.int p6), .val (.int (0 : Int32)), .val (.ref b3), .val (.long (fMix p1)), .second, .val (.long (fMix p1)), .second, .val (.long (fMix p1)), .second, .val (.int (1 : Int32)), .val (.int (1 : Int32)), .unset, .unset] [])) rfl (hb hby at_178) _ ?_
      show Steps p.tables e below (T25.setTop (mkF m 181 #[.val (.long p1), .second, .val (.long p2), .second, .val (.long p3), .second, .val (.long p4), .second, .val (.long p5), .second, .val (.int p6), .val (.int (0 : Int32)), .val (.ref b3), .val (.long (fMix p1)), .second, .val (.long (fMix p1)), .second, .val (.long (fMix p1)), .second, .val (.int (1 : Int32)), .val (.int (1 : Int32)), .unset, .unset] [(.long (-7046029254386353131 : Int64))])) _
      refine XS.iconst X25.here hx rfl (hb hby at_181) ?_
      exact k
    obtain ⟨T29, h29, k29, X29, e29, E29, A29, st29⟩ := newP X25 hx hZ (hw _ (List.mem_of_getElem? (i := 0) rfl)) e25 (g := (mkF m 182 #[.val (.long p1), .second, .val (.long p2), .second, .val (.long p3), .second, .val (.long p4), .second, .val (.long p5), .second, .val (.int p6), .val (.int (0 : Int32)), .val (.ref b3), .val (.long (fMix p1)), .second, .val (.long (fMix p1)), .second, .val (.long (fMix p1)), .second, .val (.int (1 : Int32)), .val (.int (1 : Int32)), .unset, .unset] [(.int (0 : Int32)), (.long (-7046029254386353131 : Int64))])) rfl (hb hby at_182) rfl (by decide) (cap := 0) (by decide) (by decide) (by decide) (by decide)
    obtain ⟨b29, g29⟩ : ∃ z, z = h18.size := ⟨_, rfl⟩
    rw [← g29] at A29 st29
    have ne30 : b3 ≠ b29 := Nat.ne_of_lt (Nat.lt_of_lt_of_le f21.lt (Nat.le_of_eq g29.symm))
    have ne31 : b9 ≠ b29 := Nat.ne_of_lt (Nat.lt_of_lt_of_le f22.lt (Nat.le_of_eq g29.symm))
    have ne32 : b18 ≠ b29 := Nat.ne_of_lt (Nat.lt_of_lt_of_le f24.lt (Nat.le_of_eq g29.symm))
    have gn_b29 : n0 ≤ b29 := Nat.le_trans z23 (Nat.le_of_eq g29.symm)
    have f33 : Arv Z h29 b3 k3 .long (0 : Int32) [] (.long (0 : Int64)) := f21.ext E29
    have f34 : Arv Z h29 b9 k9 .long (0 : Int32) [] (.long (0 : Int64)) := f22.ext E29
    have f35 : Arv Z h29 b18 k18 .long (0 : Int32) [] (.long (0 : Int64)) := f24.ext E29
    have z36 : n0 ≤ h29.size := Nat.le_trans z23 E29.1
    have f37 : Arv Z h29 b29 k29 .long (0 : Int32) [] (.long (0 : Int64)) := (Arv.new A29 (by decide))
    obtain ⟨_, _, ⟨T38, L38, k38, n38⟩, -, X38, ⟨Lc38, hQ38, l38, y38, z38⟩, st38⟩ := Jvm.LawKit.callS X29 hx (y := (⟨"com/example/haversack/haversack/evaluation/Seeds", "derived", "(J[J)J"⟩ : MethodName)) hown (mvT hZ (hw _ (List.mem_of_getElem? (i := 1) rfl))) (mvT hZ (hw _ (List.mem_of_getElem? (i := 2) rfl))) (mvT hZ (hw _ (List.mem_of_getElem? (i := 3) rfl))) (mvT hZ (hw _ (List.mem_of_getElem? (i := 4) rfl))) (by decide) (backOf (W := 0) (rmD0 l Z a0 hw [] (-7046029254386353131 : Int64) b29 k29 h29 n0 z36 f37) hZ (hw _ (List.mem_of_getElem? (i := 4) rfl)) (hw _ (List.mem_of_getElem? (i := 3) rfl)) (by decide) (by decide)) (g := (mkF m 184 #[.val (.long p1), .second, .val (.long p2), .second, .val (.long p3), .second, .val (.long p4), .second, .val (.long p5), .second, .val (.int p6), .val (.int (0 : Int32)), .val (.ref b3), .val (.long (fMix p1)), .second, .val (.long (fMix p1)), .second, .val (.long (fMix p1)), .second, .val (.int (1 : Int32)), .val (.int (1 : Int32)), .unset, .unset] [(.ref b29), (.long (-7046029254386353131 : Int64))])) rfl (by rw [hml]; rfl) (argsL := [(.long (-7046029254386353131 : Int64)), (.ref b29)]) (rest := []) (lenOf pd_1 rfl) rfl (by show 2 * 0 + _ ≤ _; exact Nat.le_of_eq rfl) (hb hby at_184) (fun _ _ => ⟨rfl, e29, (by decide : 4 + 0 ≤ _), (by decide : 0 + 0 ≤ _)⟩)
    dsimp only [Pt.U, Pt.locs, Pt.cells, Pt.slots] at X38 l38 y38 z38 st38 hQ38
    subst l38 y38 z38
    obtain ⟨rfl, N38q, e38⟩ := hQ38
    have N38 := Fr.app N25 N38q
    have sg39 : ∀ t, Steps p.tables e below (T38.setTop (mkF m 203 #[.val (.long p1), .second, .val (.long p2), .second, .val (.long p3), .second, .val (.long p4), .second, .val (.long p5), .second, .val (.int p6), .val (.int (0 : Int32)), .val (.ref b3), .val (.long (fMix p1)), .second, .val (.long (fMix p1)), .second, .val (.long (fMix p1)), .second, .val (.int (1 : Int32)), .val (.int (1 : Int32)), .val (.int (1 : Int32)), .unset] [(.int (0 : Int32)), (.long (0 : Int64))])) t → Steps p.tables e below (T38.setTop (mkF m 187 #[.val (.long p1), .second, .val (.long p2), .second, .val (.long p3), .second, .val (.long p4), .second, .val (.long p5), .second, .val (.int p6), .val (.int (0 : Int32)), .val (.ref b3), .val (.long (fMix p1)), .second, .val (.long (fMix p1)), .second, .val (.long (fMix p1)), .second, .val (.int (1 : Int32)), .val (.int (1 : Int32)), .unset, .unset] [(.long (fMix (-7046029254386353131 : Int64)))])) t := by
      intro t k
      show Steps p.tables e below (T38.setTop (mkF m 187 #[.val (.long p1), .second, .val (.long p2), .second, .val (.long p3), .second, .val (.long p4), .second, .val (.long p5), .second, .val (.int p6), .val (.int (0 : Int32)), .val (.ref b3), .val (.long (fMix p1)), .second, .val (.long (fMix p1)), .second, .val (.long (fMix p1)), .second, .val (.int (1 : Int32)), .val (.int (1 : Int32)), .unset, .unset] [(.long (fMix (-7046029254386353131 : Int64)))])) _
      refine X38.ldc2Long hx hown (mvT hZ (hw _ (List.mem_of_getElem? (i := 11) rfl))) (g := (mkF m 187 #[.val (.long p1), .second, .val (.long p2), .second, .val (.long p3), .second, .val (.long p4), .second, .val (.long p5), .second, .val (.int p6), .val (.int (0 : Int32)), .val (.ref b3), .val (.long (fMix p1)), .second, .val (.long (fMix p1)), .second, .val (.long (fMix p1)), .second, .val (.int (1 : Int32)), .val (.int (1 : Int32)), .unset, .unset] [(.long (fMix (-7046029254386353131 : Int64)))])) rfl (hb hby at_187) _ ?_
      show Steps p.tables e below (T38.setTop (mkF m 190 #[.val (.long p1), .second, .val (.long p2), .second, .val (.long p3), .second, .val (.long p4), .second, .val (.long p5), .second, .val (.int p6), .val (.int (0 : Int32)), .val (.ref b3), .val (.long (fMix p1)), .second, .val (.long (fMix p1)), .second, .val (.long (fMix p1)), .second, .val (.int (1 : Int32)), .val (.int (1 : Int32)), .unset, .unset] [(.long (-2152535657050944081 : Int64)), (.long (fMix (-7046029254386353131 : Int64)))])) _
      refine XS.lcmp X38.here hx rfl (hb hby at_190) rfl ?_
      show Steps p.tables e below (T38.setTop (mkF m 191 #[.val (.long p1), .second, .val (.long p2), .second, .val (.long p3), .second, .val (.long p4), .second, .val (.long p5), .second, .val (.int p6), .val (.int (0 : Int32)), .val (.ref b3), .val (.long (fMix p1)), .second, .val (.long (fMix p1)), .second, .val (.long (fMix p1)), .second, .val (.int (1 : Int32)), .val (.int (1 : Int32)), .unset, .unset] [(.int (lcmpW (fMix (-7046029254386353131 : Int64)) (-2152535657050944081 : Int64)))])) _
      refine XS.ifNo X38.here hx rfl (hb hby at_191) rfl ((if0 _ _).trans (teq ((lw_eq _ _).mpr ((by decide +kernel) : (fMix (-7046029254386353131 : Int64)) = (-2152535657050944081 : Int64)))).2) ?_
      show Steps p.tables e below (T38.setTop (mkF m 194 #[.val (.long p1), .second, .val (.long p2), .second, .val (.long p3), .second, .val (.long p4), .second, .val (.long p5), .second, .val (.int p6), .val (.int (0 : Int32)), .val (.ref b3), .val (.long (fMix p1)), .second, .val (.long (fMix p1)), .second, .val (.long (fMix p1)), .second, .val (.int (1 : Int32)), .val (.int (1 : Int32)), .unset, .unset] [])) _
      refine XS.iconst X38.here hx rfl (hb hby at_194) ?_
      show Steps p.tables e below (T38.setTop (mkF m 195 #[.val (.long p1), .second, .val (.long p2), .second, .val (.long p3), .second, .val (.long p4), .second, .val (.long p5), .second, .val (.int p6), .val (.int (0 : Int32)), .val (.ref b3), .val (.long (fMix p1)), .second, .val (.long (fMix p1)), .second, .val (.long (fMix p1)), .second, .val (.int (1 : Int32)), .val (.int (1 : Int32)), .unset, .unset] [(.int (1 : Int32))])) _
      refine XS.goto X38.here hx rfl (pc0 := 195) (pc' := 199) rfl (hb hby at_195) (by decide) (by decide) ?_
      show Steps p.tables e below (T38.setTop (mkF m 199 #[.val (.long p1), .second, .val (.long p2), .second, .val (.long p3), .second, .val (.long p4), .second, .val (.long p5), .second, .val (.int p6), .val (.int (0 : Int32)), .val (.ref b3), .val (.long (fMix p1)), .second, .val (.long (fMix p1)), .second, .val (.long (fMix p1)), .second, .val (.int (1 : Int32)), .val (.int (1 : Int32)), .unset, .unset] [(.int (1 : Int32))])) _
      refine XS.istore X38.here hx rfl (hb hby at_199) rfl (l' := #[.val (.long p1), .second, .val (.long p2), .second, .val (.long p3), .second, .val (.long p4), .second, .val (.long p5), .second, .val (.int p6), .val (.int (0 : Int32)), .val (.ref b3), .val (.long (fMix p1)), .second, .val (.long (fMix p1)), .second, .val (.long (fMix p1)), .second, .val (.int (1 : Int32)), .val (.int (1 : Int32)), .val (.int (1 : Int32)), .unset]) rfl ?_
      show Steps p.tables e below (T38.setTop (mkF m 201 #[.val (.long p1), .second, .val (.long p2), .second, .val (.long p3), .second, .val (.long p4), .second, .val (.long p5), .second, .val (.int p6), .val (.int (0 : Int32)), .val (.ref b3), .val (.long (fMix p1)), .second, .val (.long (fMix p1)), .second, .val (.long (fMix p1)), .second, .val (.int (1 : Int32)), .val (.int (1 : Int32)), .val (.int (1 : Int32)), .unset] [])) _
      refine XS.lconst X38.here hx rfl (hb hby at_201) ?_
      show Steps p.tables e below (T38.setTop (mkF m 202 #[.val (.long p1), .second, .val (.long p2), .second, .val (.long p3), .second, .val (.long p4), .second, .val (.long p5), .second, .val (.int p6), .val (.int (0 : Int32)), .val (.ref b3), .val (.long (fMix p1)), .second, .val (.long (fMix p1)), .second, .val (.long (fMix p1)), .second, .val (.int (1 : Int32)), .val (.int (1 : Int32)), .val (.int (1 : Int32)), .unset] [(.long (0 : Int64))])) _
      refine XS.iconst X38.here hx rfl (hb hby at_202) ?_
      exact k
    obtain ⟨T40, h40, k40, X40, e40, E40, A40, st40⟩ := newP X38 hx hZ (hw _ (List.mem_of_getElem? (i := 0) rfl)) e38 (g := (mkF m 203 #[.val (.long p1), .second, .val (.long p2), .second, .val (.long p3), .second, .val (.long p4), .second, .val (.long p5), .second, .val (.int p6), .val (.int (0 : Int32)), .val (.ref b3), .val (.long (fMix p1)), .second, .val (.long (fMix p1)), .second, .val (.long (fMix p1)), .second, .val (.int (1 : Int32)), .val (.int (1 : Int32)), .val (.int (1 : Int32)), .unset] [(.int (0 : Int32)), (.long (0 : Int64))])) rfl (hb hby at_203) rfl (by decide) (cap := 0) (by decide) (by decide) (by decide) (by decide)
    obtain ⟨b40, g40⟩ : ∃ z, z = h29.size := ⟨_, rfl⟩
    rw [← g40] at A40 st40
    have ne41 : b3 ≠ b40 := Nat.ne_of_lt (Nat.lt_of_lt_of_le f33.lt (Nat.le_of_eq g40.symm))
    have ne42 : b9 ≠ b40 := Nat.ne_of_lt (Nat.lt_of_lt_of_le f34.lt (Nat.le_of_eq g40.symm))
    have ne43 : b18 ≠ b40 := Nat.ne_of_lt (Nat.lt_of_lt_of_le f35.lt (Nat.le_of_eq g40.symm))
    have ne44 : b29 ≠ b40 := Nat.ne_of_lt (Nat.lt_of_lt_of_le f37.lt (Nat.le_of_eq g40.symm))
    have gn_b40 : n0 ≤ b40 := Nat.le_trans z36 (Nat.le_of_eq g40.symm)
    have f45 : Arv Z h40 b3 k3 .long (0 : Int32) [] (.long (0 : Int64)) := f33.ext E40
    have f46 : Arv Z h40 b9 k9 .long (0 : Int32) [] (.long (0 : Int64)) := f34.ext E40
    have f47 : Arv Z h40 b18 k18 .long (0 : Int32) [] (.long (0 : Int64)) := f35.ext E40
    have f48 : Arv Z h40 b29 k29 .long (0 : Int32) [] (.long (0 : Int64)) := f37.ext E40
    have z49 : n0 ≤ h40.size := Nat.le_trans z36 E40.1
    have f50 : Arv Z h40 b40 k40 .long (0 : Int32) [] (.long (0 : Int64)) := (Arv.new A40 (by decide))
    obtain ⟨_, _, ⟨T51, L51, k51, n51⟩, -, X51, ⟨Lc51, hQ51, l51, y51, z51⟩, st51⟩ := Jvm.LawKit.callS X40 hx (y := (⟨"com/example/haversack/haversack/evaluation/Seeds", "derived", "(J[J)J"⟩ : MethodName)) hown (mvT hZ (hw _ (List.mem_of_getElem? (i := 1) rfl))) (mvT hZ (hw _ (List.mem_of_getElem? (i := 2) rfl))) (mvT hZ (hw _ (List.mem_of_getElem? (i := 3) rfl))) (mvT hZ (hw _ (List.mem_of_getElem? (i := 4) rfl))) (by decide) (backOf (W := 0) (rmD0 l Z a0 hw [] (0 : Int64) b40 k40 h40 n0 z49 f50) hZ (hw _ (List.mem_of_getElem? (i := 4) rfl)) (hw _ (List.mem_of_getElem? (i := 3) rfl)) (by decide) (by decide)) (g := (mkF m 205 #[.val (.long p1), .second, .val (.long p2), .second, .val (.long p3), .second, .val (.long p4), .second, .val (.long p5), .second, .val (.int p6), .val (.int (0 : Int32)), .val (.ref b3), .val (.long (fMix p1)), .second, .val (.long (fMix p1)), .second, .val (.long (fMix p1)), .second, .val (.int (1 : Int32)), .val (.int (1 : Int32)), .val (.int (1 : Int32)), .unset] [(.ref b40), (.long (0 : Int64))])) rfl (by rw [hml]; rfl) (argsL := [(.long (0 : Int64)), (.ref b40)]) (rest := []) (lenOf pd_1 rfl) rfl (by show 2 * 0 + _ ≤ _; exact Nat.le_of_eq rfl) (hb hby at_205) (fun _ _ => ⟨rfl, e40, (by decide : 5 + 0 ≤ _), (by decide : 0 + 0 ≤ _)⟩)
    dsimp only [Pt.U, Pt.locs, Pt.cells, Pt.slots] at X51 l51 y51 z51 st51 hQ51
    subst l51 y51 z51
    obtain ⟨rfl, N51q, e51⟩ := hQ51
    have N51 := Fr.app N38 N51q
    have sg52 : ∀ t, Steps p.tables e below (T51.setTop (mkF m 245 #[.val (.long p1), .second, .val (.long p2), .second, .val (.long p3), .second, .val (.long p4), .second, .val (.long p5), .second, .val (.int p6), .val (.int (0 : Int32)), .val (.ref b3), .val (.long (fMix p1)), .second, .val (.long (fMix p1)), .second, .val (.long (fMix p1)), .second, .val (.int (1 : Int32)), .val (.int (1 : Int32)), .val (.int (1 : Int32)), .val (.int (1 : Int32))] [(.int (1 : Int32))])) t → Steps p.tables e below (T51.setTop (mkF m 208 #[.val (.long p1), .second, .val (.long p2), .second, .val (.long p3), .second, .val (.long p4), .second, .val (.long p5), .second, .val (.int p6), .val (.int (0 : Int32)), .val (.ref b3), .val (.long (fMix p1)), .second, .val (.long (fMix p1)), .second, .val (.long (fMix p1)), .second, .val (.int (1 : Int32)), .val (.int (1 : Int32)), .val (.int (1 : Int32)), .unset] [(.long (fMix (0 : Int64)))])) t := by
      intro t k
      show Steps p.tables e below (T51.setTop (mkF m 208 #[.val (.long p1), .second, .val (.long p2), .second, .val (.long p3), .second, .val (.long p4), .second, .val (.long p5), .second, .val (.int p6), .val (.int (0 : Int32)), .val (.ref b3), .val (.long (fMix p1)), .second, .val (.long (fMix p1)), .second, .val (.long (fMix p1)), .second, .val (.int (1 : Int32)), .val (.int (1 : Int32)), .val (.int (1 : Int32)), .unset] [(.long (fMix (0 : Int64)))])) _
      refine XS.lconst X51.here hx rfl (hb hby at_208) ?_
      show Steps p.tables e below (T51.setTop (mkF m 209 #[.val (.long p1), .second, .val (.long p2), .second, .val (.long p3), .second, .val (.long p4), .second, .val (.long p5), .second, .val (.int p6), .val (.int (0 : Int32)), .val (.ref b3), .val (.long (fMix p1)), .second, .val (.long (fMix p1)), .second, .val (.long (fMix p1)), .second, .val (.int (1 : Int32)), .val (.int (1 : Int32)), .val (.int (1 : Int32)), .unset] [(.long (0 : Int64)), (.long (fMix (0 : Int64)))])) _
      refine XS.lcmp X51.here hx rfl (hb hby at_209) rfl ?_
      show Steps p.tables e below (T51.setTop (mkF m 210 #[.val (.long p1), .second, .val (.long p2), .second, .val (.long p3), .second, .val (.long p4), .second, .val (.long p5), .second, .val (.int p6), .val (.int (0 : Int32)), .val (.ref b3), .val (.long (fMix p1)), .second, .val (.long (fMix p1)), .second, .val (.long (fMix p1)), .second, .val (.int (1 : Int32)), .val (.int (1 : Int32)), .val (.int (1 : Int32)), .unset] [(.int (lcmpW (fMix (0 : Int64)) (0 : Int64)))])) _
      refine XS.ifNo X51.here hx rfl (hb hby at_210) rfl ((if0 _ _).trans (teq ((lw_eq _ _).mpr ((by decide +kernel) : (fMix (0 : Int64)) = (0 : Int64)))).2) ?_
      show Steps p.tables e below (T51.setTop (mkF m 213 #[.val (.long p1), .second, .val (.long p2), .second, .val (.long p3), .second, .val (.long p4), .second, .val (.long p5), .second, .val (.int p6), .val (.int (0 : Int32)), .val (.ref b3), .val (.long (fMix p1)), .second, .val (.long (fMix p1)), .second, .val (.long (fMix p1)), .second, .val (.int (1 : Int32)), .val (.int (1 : Int32)), .val (.int (1 : Int32)), .unset] [])) _
      refine XS.iconst X51.here hx rfl (hb hby at_213) ?_
      show Steps p.tables e below (T51.setTop (mkF m 214 #[.val (.long p1), .second, .val (.long p2), .second, .val (.long p3), .second, .val (.long p4), .second, .val (.long p5), .second, .val (.int p6), .val (.int (0 : Int32)), .val (.ref b3), .val (.long (fMix p1)), .second, .val (.long (fMix p1)), .second, .val (.long (fMix p1)), .second, .val (.int (1 : Int32)), .val (.int (1 : Int32)), .val (.int (1 : Int32)), .unset] [(.int (1 : Int32))])) _
      refine XS.goto X51.here hx rfl (pc0 := 214) (pc' := 218) rfl (hb hby at_214) (by decide) (by decide) ?_
      show Steps p.tables e below (T51.setTop (mkF m 218 #[.val (.long p1), .second, .val (.long p2), .second, .val (.long p3), .second, .val (.long p4), .second, .val (.long p5), .second, .val (.int p6), .val (.int (0 : Int32)), .val (.ref b3), .val (.long (fMix p1)), .second, .val (.long (fMix p1)), .second, .val (.long (fMix p1)), .second, .val (.int (1 : Int32)), .val (.int (1 : Int32)), .val (.int (1 : Int32)), .unset] [(.int (1 : Int32))])) _
      refine XS.istore X51.here hx rfl (hb hby at_218) rfl (l' := #[.val (.long p1), .second, .val (.long p2), .second, .val (.long p3), .second, .val (.long p4), .second, .val (.long p5), .second, .val (.int p6), .val (.int (0 : Int32)), .val (.ref b3), .val (.long (fMix p1)), .second, .val (.long (fMix p1)), .second, .val (.long (fMix p1)), .second, .val (.int (1 : Int32)), .val (.int (1 : Int32)), .val (.int (1 : Int32)), .val (.int (1 : Int32))]) rfl ?_
      show Steps p.tables e below (T51.setTop (mkF m 220 #[.val (.long p1), .second, .val (.long p2), .second, .val (.long p3), .second, .val (.long p4), .second, .val (.long p5), .second, .val (.int p6), .val (.int (0 : Int32)), .val (.ref b3), .val (.long (fMix p1)), .second, .val (.long (fMix p1)), .second, .val (.long (fMix p1)), .second, .val (.int (1 : Int32)), .val (.int (1 : Int32)), .val (.int (1 : Int32)), .val (.int (1 : Int32))] [])) _
      refine XS.iload X51.here hx rfl (hb hby at_220) rfl ?_
      show Steps p.tables e below (T51.setTop (mkF m 222 #[.val (.long p1), .second, .val (.long p2), .second, .val (.long p3), .second, .val (.long p4), .second, .val (.long p5), .second, .val (.int p6), .val (.int (0 : Int32)), .val (.ref b3), .val (.long (fMix p1)), .second, .val (.long (fMix p1)), .second, .val (.long (fMix p1)), .second, .val (.int (1 : Int32)), .val (.int (1 : Int32)), .val (.int (1 : Int32)), .val (.int (1 : Int32))] [(.int (1 : Int32))])) _
      refine XS.ifNo X51.here hx rfl (hb hby at_222) rfl ((if0 _ _).trans (feq (by decide : ¬ ((1 : Int32) = (0 : Int32)))).1) ?_
      show Steps p.tables e below (T51.setTop (mkF m 225 #[.val (.long p1), .second, .val (.long p2), .second, .val (.long p3), .second, .val (.long p4), .second, .val (.long p5), .second, .val (.int p6), .val (.int (0 : Int32)), .val (.ref b3), .val (.long (fMix p1)), .second, .val (.long (fMix p1)), .second, .val (.long (fMix p1)), .second, .val (.int (1 : Int32)), .val (.int (1 : Int32)), .val (.int (1 : Int32)), .val (.int (1 : Int32))] [])) _
      refine XS.iload X51.here hx rfl (hb hby at_225) rfl ?_
      show Steps p.tables e below (T51.setTop (mkF m 227 #[.val (.long p1), .second, .val (.long p2), .second, .val (.long p3), .second, .val (.long p4), .second, .val (.long p5), .second, .val (.int p6), .val (.int (0 : Int32)), .val (.ref b3), .val (.long (fMix p1)), .second, .val (.long (fMix p1)), .second, .val (.long (fMix p1)), .second, .val (.int (1 : Int32)), .val (.int (1 : Int32)), .val (.int (1 : Int32)), .val (.int (1 : Int32))] [(.int (1 : Int32))])) _
      refine XS.ifNo X51.here hx rfl (hb hby at_227) rfl ((if0 _ _).trans (feq (by decide : ¬ ((1 : Int32) = (0 : Int32)))).1) ?_
      show Steps p.tables e below (T51.setTop (mkF m 230 #[.val (.long p1), .second, .val (.long p2), .second, .val (.long p3), .second, .val (.long p4), .second, .val (.long p5), .second, .val (.int p6), .val (.int (0 : Int32)), .val (.ref b3), .val (.long (fMix p1)), .second, .val (.long (fMix p1)), .second, .val (.long (fMix p1)), .second, .val (.int (1 : Int32)), .val (.int (1 : Int32)), .val (.int (1 : Int32)), .val (.int (1 : Int32))] [])) _
      refine XS.iload X51.here hx rfl (hb hby at_230) rfl ?_
      show Steps p.tables e below (T51.setTop (mkF m 232 #[.val (.long p1), .second, .val (.long p2), .second, .val (.long p3), .second, .val (.long p4), .second, .val (.long p5), .second, .val (.int p6), .val (.int (0 : Int32)), .val (.ref b3), .val (.long (fMix p1)), .second, .val (.long (fMix p1)), .second, .val (.long (fMix p1)), .second, .val (.int (1 : Int32)), .val (.int (1 : Int32)), .val (.int (1 : Int32)), .val (.int (1 : Int32))] [(.int (1 : Int32))])) _
      refine XS.ifNo X51.here hx rfl (hb hby at_232) rfl ((if0 _ _).trans (feq (by decide : ¬ ((1 : Int32) = (0 : Int32)))).1) ?_
      show Steps p.tables e below (T51.setTop (mkF m 235 #[.val (.long p1), .second, .val (.long p2), .second, .val (.long p3), .second, .val (.long p4), .second, .val (.long p5), .second, .val (.int p6), .val (.int (0 : Int32)), .val (.ref b3), .val (.long (fMix p1)), .second, .val (.long (fMix p1)), .second, .val (.long (fMix p1)), .second, .val (.int (1 : Int32)), .val (.int (1 : Int32)), .val (.int (1 : Int32)), .val (.int (1 : Int32))] [])) _
      refine XS.iload X51.here hx rfl (hb hby at_235) rfl ?_
      show Steps p.tables e below (T51.setTop (mkF m 237 #[.val (.long p1), .second, .val (.long p2), .second, .val (.long p3), .second, .val (.long p4), .second, .val (.long p5), .second, .val (.int p6), .val (.int (0 : Int32)), .val (.ref b3), .val (.long (fMix p1)), .second, .val (.long (fMix p1)), .second, .val (.long (fMix p1)), .second, .val (.int (1 : Int32)), .val (.int (1 : Int32)), .val (.int (1 : Int32)), .val (.int (1 : Int32))] [(.int (1 : Int32))])) _
      refine XS.ifNo X51.here hx rfl (hb hby at_237) rfl ((if0 _ _).trans (feq (by decide : ¬ ((1 : Int32) = (0 : Int32)))).1) ?_
      show Steps p.tables e below (T51.setTop (mkF m 240 #[.val (.long p1), .second, .val (.long p2), .second, .val (.long p3), .second, .val (.long p4), .second, .val (.long p5), .second, .val (.int p6), .val (.int (0 : Int32)), .val (.ref b3), .val (.long (fMix p1)), .second, .val (.long (fMix p1)), .second, .val (.long (fMix p1)), .second, .val (.int (1 : Int32)), .val (.int (1 : Int32)), .val (.int (1 : Int32)), .val (.int (1 : Int32))] [])) _
      refine XS.iconst X51.here hx rfl (hb hby at_240) ?_
      show Steps p.tables e below (T51.setTop (mkF m 241 #[.val (.long p1), .second, .val (.long p2), .second, .val (.long p3), .second, .val (.long p4), .second, .val (.long p5), .second, .val (.int p6), .val (.int (0 : Int32)), .val (.ref b3), .val (.long (fMix p1)), .second, .val (.long (fMix p1)), .second, .val (.long (fMix p1)), .second, .val (.int (1 : Int32)), .val (.int (1 : Int32)), .val (.int (1 : Int32)), .val (.int (1 : Int32))] [(.int (1 : Int32))])) _
      refine XS.goto X51.here hx rfl (pc0 := 241) (pc' := 245) rfl (hb hby at_241) (by decide) (by decide) ?_
      exact k
    obtain ⟨fs, hr, hrun, hended, hW, hsame⟩ := X51.leave (v := some (.int (1 : Int32))) (fun h => by rw [Bd.returns] at h; cases h)
    refine ⟨_, _, pre0 _ ?_, hrun, hended, _, _, rfl, ?_, ⟨_, rfl⟩, hW, hsame.mono (by decide) (by decide)⟩
    · show Steps p.tables e below (s₁.setTop (mkF m 0 #[.val (.long p1), .second, .val (.long p2), .second, .val (.long p3), .second, .val (.long p4), .second, .val (.long p5), .second, .val (.int p6), .unset, .unset, .unset, .unset, .unset, .unset, .unset, .unset, .unset, .unset, .unset, .unset] [])) _
      refine sg1 _ ?_
      show Steps p.tables e below (s₁.setTop (mkF m 6 #[.val (.long p1), .second, .val (.long p2), .second, .val (.long p3), .second, .val (.long p4), .second, .val (.long p5), .second, .val (.int p6), .val (.int (0 : Int32)), .unset, .unset, .unset, .unset, .unset, .unset, .unset, .unset, .unset, .unset, .unset] [])) _
      refine sg2 _ ?_
      show Steps p.tables e below (s₁.setTop (mkF m 8 #[.val (.long p1), .second, .val (.long p2), .second, .val (.long p3), .second, .val (.long p4), .second, .val (.long p5), .second, .val (.int p6), .val (.int (0 : Int32)), .unset, .unset, .unset, .unset, .unset, .unset, .unset, .unset, .unset, .unset, .unset] [(.int (0 : Int32))])) _
      refine st3 _ ?_
      show Steps p.tables e below (T3.setTop (mkF m 10 #[.val (.long p1), .second, .val (.long p2), .second, .val (.long p3), .second, .val (.long p4), .second, .val (.long p5), .second, .val (.int p6), .val (.int (0 : Int32)), .unset, .unset, .unset, .unset, .unset, .unset, .unset, .unset, .unset, .unset, .unset] [(.ref b3)])) _
      refine sg6 _ ?_
      show Steps p.tables e below (T3.setTop (mkF m 49 #[.val (.long p1), .second, .val (.long p2), .second, .val (.long p3), .second, .val (.long p4), .second, .val (.long p5), .second, .val (.int p6), .val (.int (0 : Int32)), .val (.ref b3), .unset, .unset, .unset, .unset, .unset, .unset, .unset, .unset, .unset, .unset] [(.ref b3), (.long p1)])) _
      refine st7 _ ?_
      show Steps p.tables e below (T7.setTop (mkF m 52 #[.val (.long p1), .second, .val (.long p2), .second, .val (.long p3), .second, .val (.long p4), .second, .val (.long p5), .second, .val (.int p6), .val (.int (0 : Int32)), .val (.ref b3), .unset, .unset, .unset, .unset, .unset, .unset, .unset, .unset, .unset, .unset] [(.long (fMix p1))])) _
      refine sg8 _ ?_
      show Steps p.tables e below (T7.setTop (mkF m 56 #[.val (.long p1), .second, .val (.long p2), .second, .val (.long p3), .second, .val (.long p4), .second, .val (.long p5), .second, .val (.int p6), .val (.int (0 : Int32)), .val (.ref b3), .val (.long (fMix p1)), .second, .unset, .unset, .unset, .unset, .unset, .unset, .unset, .unset] [(.int (0 : Int32)), (.long p1)])) _
      refine st9 _ ?_
      show Steps p.tables e below (T9.setTop (mkF m 58 #[.val (.long p1), .second, .val (.long p2), .second, .val (.long p3), .second, .val (.long p4), .second, .val (.long p5), .second, .val (.int p6), .val (.int (0 : Int32)), .val (.ref b3), .val (.long (fMix p1)), .second, .unset, .unset, .unset, .unset, .unset, .unset, .unset, .unset] [(.ref b9), (.long p1)])) _
      refine st14 _ ?_
      show Steps p.tables e below (T14.setTop (mkF m 61 #[.val (.long p1), .second, .val (.long p2), .second, .val (.long p3), .second, .val (.long p4), .second, .val (.long p5), .second, .val (.int p6), .val (.int (0 : Int32)), .val (.ref b3), .val (.long (fMix p1)), .second, .unset, .unset, .unset, .unset, .unset, .unset, .unset, .unset] [(.long (fMix p1))])) _
      refine sg15 _ ?_
      show Steps p.tables e below (T14.setTop (mkF m 141 #[.val (.long p1), .second, .val (.long p2), .second, .val (.long p3), .second, .val (.long p4), .second, .val (.long p5), .second, .val (.int p6), .val (.int (0 : Int32)), .val (.ref b3), .val (.long (fMix p1)), .second, .val (.long (fMix p1)), .second, .val (.long (fMix p1)), .second, .val (.int (1 : Int32)), .unset, .unset, .unset] [(.int (lcmpW p1 p5))])) _
      refine sg16 _ ?_
      show Steps p.tables e below (T14.setTop (mkF m 149 #[.val (.long p1), .second, .val (.long p2), .second, .val (.long p3), .second, .val (.long p4), .second, .val (.long p5), .second, .val (.int p6), .val (.int (0 : Int32)), .val (.ref b3), .val (.long (fMix p1)), .second, .val (.long (fMix p1)), .second, .val (.long (fMix p1)), .second, .val (.int (1 : Int32)), .unset, .unset, .unset] [(.int v1)])) _
      refine sg17 _ ?_
      show Steps p.tables e below (T14.setTop (mkF m 154 #[.val (.long p1), .second, .val (.long p2), .second, .val (.long p3), .second, .val (.long p4), .second, .val (.long p5), .second, .val (.int p6), .val (.int (0 : Int32)), .val (.ref b3), .val (.long (fMix p1)), .second, .val (.long (fMix p1)), .second, .val (.long (fMix p1)), .second, .val (.int (1 : Int32)), .unset, .unset, .unset] [(.int (0 : Int32)), (.long p5), (.long (fMix p1)), (.int v1)])) _
      refine st18 _ ?_
      show Steps p.tables e below (T18.setTop (mkF m 156 #[.val (.long p1), .second, .val (.long p2), .second, .val (.long p3), .second, .val (.long p4), .second, .val (.long p5), .second, .val (.int p6), .val (.int (0 : Int32)), .val (.ref b3), .val (.long (fMix p1)), .second, .val (.long (fMix p1)), .second, .val (.long (fMix p1)), .second, .val (.int (1 : Int32)), .unset, .unset, .unset] [(.ref b18), (.long p5), (.long (fMix p1)), (.int v1)])) _
      refine st25 _ ?_
      show Steps p.tables e below (T25.setTop (mkF m 159 #[.val (.long p1), .second, .val (.long p2), .second, .val (.long p3), .second, .val (.long p4), .second, .val (.long p5), .second, .val (.int p6), .val (.int (0 : Int32)), .val (.ref b3), .val (.long (fMix p1)), .second, .val (.long (fMix p1)), .second, .val (.long (fMix p1)), .second, .val (.int (1 : Int32)), .unset, .unset, .unset] [(.long (fMix p5)), (.long (fMix p1)), (.int v1)])) _
      refine sg26 _ ?_
      show Steps p.tables e below (T25.setTop (mkF m 160 #[.val (.long p1), .second, .val (.long p2), .second, .val (.long p3), .second, .val (.long p4), .second, .val (.long p5), .second, .val (.int p6), .val (.int (0 : Int32)), .val (.ref b3), .val (.long (fMix p1)), .second, .val (.long (fMix p1)), .second, .val (.long (fMix p1)), .second, .val (.int (1 : Int32)), .unset, .unset, .unset] [(.int (lcmpW (fMix p1) (fMix p5))), (.int v1)])) _
      refine sg27 _ ?_
      show Steps p.tables e below (T25.setTop (mkF m 168 #[.val (.long p1), .second, .val (.long p2), .second, .val (.long p3), .second, .val (.long p4), .second, .val (.long p5), .second, .val (.int p6), .val (.int (0 : Int32)), .val (.ref b3), .val (.long (fMix p1)), .second, .val (.long (fMix p1)), .second, .val (.long (fMix p1)), .second, .val (.int (1 : Int32)), .unset, .unset, .unset] [(.int v2), (.int v1)])) _
      refine sg28 _ ?_
      show Steps p.tables e below (T25.setTop (mkF m 182 #[.val (.long p1), .second, .val (.long p2), .second, .val (.long p3), .second, .val (.long p4), .second, .val (.long p5), .second, .val (.int p6), .val (.int (0 : Int32)), .val (.ref b3), .val (.long (fMix p1)), .second, .val (.long (fMix p1)), .second, .val (.long (fMix p1)), .second, .val (.int (1 : Int32)), .val (.int (1 : Int32)), .unset, .unset] [(.int (0 : Int32)), (.long (-7046029254386353131 : Int64))])) _
      refine st29 _ ?_
      show Steps p.tables e below (T29.setTop (mkF m 184 #[.val (.long p1), .second, .val (.long p2), .second, .val (.long p3), .second, .val (.long p4), .second, .val (.long p5), .second, .val (.int p6), .val (.int (0 : Int32)), .val (.ref b3), .val (.long (fMix p1)), .second, .val (.long (fMix p1)), .second, .val (.long (fMix p1)), .second, .val (.int (1 : Int32)), .val (.int (1 : Int32)), .unset, .unset] [(.ref b29), (.long (-7046029254386353131 : Int64))])) _
      refine st38 _ ?_
      show Steps p.tables e below (T38.setTop (mkF m 187 #[.val (.long p1), .second, .val (.long p2), .second, .val (.long p3), .second, .val (.long p4), .second, .val (.long p5), .second, .val (.int p6), .val (.int (0 : Int32)), .val (.ref b3), .val (.long (fMix p1)), .second, .val (.long (fMix p1)), .second, .val (.long (fMix p1)), .second, .val (.int (1 : Int32)), .val (.int (1 : Int32)), .unset, .unset] [(.long (fMix (-7046029254386353131 : Int64)))])) _
      refine sg39 _ ?_
      show Steps p.tables e below (T38.setTop (mkF m 203 #[.val (.long p1), .second, .val (.long p2), .second, .val (.long p3), .second, .val (.long p4), .second, .val (.long p5), .second, .val (.int p6), .val (.int (0 : Int32)), .val (.ref b3), .val (.long (fMix p1)), .second, .val (.long (fMix p1)), .second, .val (.long (fMix p1)), .second, .val (.int (1 : Int32)), .val (.int (1 : Int32)), .val (.int (1 : Int32)), .unset] [(.int (0 : Int32)), (.long (0 : Int64))])) _
      refine st40 _ ?_
      show Steps p.tables e below (T40.setTop (mkF m 205 #[.val (.long p1), .second, .val (.long p2), .second, .val (.long p3), .second, .val (.long p4), .second, .val (.long p5), .second, .val (.int p6), .val (.int (0 : Int32)), .val (.ref b3), .val (.long (fMix p1)), .second, .val (.long (fMix p1)), .second, .val (.long (fMix p1)), .second, .val (.int (1 : Int32)), .val (.int (1 : Int32)), .val (.int (1 : Int32)), .unset] [(.ref b40), (.long (0 : Int64))])) _
      refine st51 _ ?_
      show Steps p.tables e below (T51.setTop (mkF m 208 #[.val (.long p1), .second, .val (.long p2), .second, .val (.long p3), .second, .val (.long p4), .second, .val (.long p5), .second, .val (.int p6), .val (.int (0 : Int32)), .val (.ref b3), .val (.long (fMix p1)), .second, .val (.long (fMix p1)), .second, .val (.long (fMix p1)), .second, .val (.int (1 : Int32)), .val (.int (1 : Int32)), .val (.int (1 : Int32)), .unset] [(.long (fMix (0 : Int64)))])) _
      refine sg52 _ ?_
      show Steps p.tables e below (T51.setTop (mkF m 245 #[.val (.long p1), .second, .val (.long p2), .second, .val (.long p3), .second, .val (.long p4), .second, .val (.long p5), .second, .val (.int p6), .val (.int (0 : Int32)), .val (.ref b3), .val (.long (fMix p1)), .second, .val (.long (fMix p1)), .second, .val (.long (fMix p1)), .second, .val (.int (1 : Int32)), .val (.int (1 : Int32)), .val (.int (1 : Int32)), .val (.int (1 : Int32))] [(.int (1 : Int32))])) _
      exact retN X51 hx (t := .boolean) Bd.returns (by simp) (hb hby at_245) hr
    · show Q0 Z p1 p2 p3 p4 p5 p6 h0 n0 _ T51.heap _
      rw [e51]
      exact ⟨rfl, N51⟩
  · rw [hn] at sg1
    have sg53 : ∀ t, Steps p.tables e below (s₁.setTop (mkF m 8 #[.val (.long p1), .second, .val (.long p2), .second, .val (.long p3), .second, .val (.long p4), .second, .val (.long p5), .second, .val (.int p6), .val (.int (1 : Int32)), .unset, .unset, .unset, .unset, .unset, .unset, .unset, .unset, .unset, .unset, .unset] [(.int (1 : Int32))])) t → Steps p.tables e below (s₁.setTop (mkF m 6 #[.val (.long p1), .second, .val (.long p2), .second, .val (.long p3), .second, .val (.long p4), .second, .val (.long p5), .second, .val (.int p6), .val (.int (1 : Int32)), .unset, .unset, .unset, .unset, .unset, .unset, .unset, .unset, .unset, .unset, .unset] [])) t := by
      intro t k
      show Steps p.tables e below (s₁.setTop (mkF m 6 #[.val (.long p1), .second, .val (.long p2), .second, .val (.long p3), .second, .val (.long p4), .second, .val (.long p5), .second, .val (.int p6), .val (.int (1 : Int32)), .unset, .unset, .unset, .unset, .unset, .unset, .unset, .unset, .unset, .unset, .unset] [])) _
      refine XS.iload X0.here hx rfl (hb hby at_6) rfl ?_
      exact k
    obtain ⟨T54, h54, k54, X54, e54, E54, A54, st54⟩ := newP X0 hx hZ (hw _ (List.mem_of_getElem? (i := 0) rfl)) e0 (g := (mkF m 8 #[.val (.long p1), .second, .val (.long p2), .second, .val (.long p3), .second, .val (.long p4), .second, .val (.long p5), .second, .val (.int p6), .val (.int (1 : Int32)), .unset, .unset, .unset, .unset, .unset, .unset, .unset, .unset, .unset, .unset, .unset] [(.int (1 : Int32))])) rfl (hb hby at_8) rfl (by decide) (cap := 1) (by decide) (by decide) (by decide) (by decide)
    obtain ⟨b54, g54⟩ : ∃ z, z = h0.size := ⟨_, rfl⟩
    rw [← g54] at A54 st54
    have gn_b54 : n0 ≤ b54 := Nat.le_trans Z0 (Nat.le_of_eq g54.symm)
    have z55 : n0 ≤ h54.size := Nat.le_trans Z0 E54.1
    have f56 : Arv Z h54 b54 k54 .long (1 : Int32) [(.long (0 : Int64))] (.long (0 : Int64)) := (Arv.new A54 (by decide)).pad (pad_rep [] (.long (0 : Int64)) 1)
    have sg57 : ∀ t, Steps p.tables e below (T54.setTop (mkF m 21 #[.val (.long p1), .second, .val (.long p2), .second, .val (.long p3), .second, .val (.long p4), .second, .val (.long p5), .second, .val (.int p6), .val (.int (1 : Int32)), .val (.ref b54), .unset, .unset, .unset, .unset, .unset, .unset, .unset, .unset, .unset, .unset] [(.long p2), (.int (0 : Int32)), (.ref b54)])) t → Steps p.tables e below (T54.setTop (mkF m 10 #[.val (.long p1), .second, .val (.long p2), .second, .val (.long p3), .second, .val (.long p4), .second, .val (.long p5), .second, .val (.int p6), .val (.int (1 : Int32)), .unset, .unset, .unset, .unset, .unset, .unset, .unset, .unset, .unset, .unset, .unset] [(.ref b54)])) t := by
      intro t k
      show Steps p.tables e below (T54.setTop (mkF m 10 #[.val (.long p1), .second, .val (.long p2), .second, .val (.long p3), .second, .val (.long p4), .second, .val (.long p5), .second, .val (.int p6), .val (.int (1 : Int32)), .unset, .unset, .unset, .unset, .unset, .unset, .unset, .unset, .unset, .unset, .unset] [(.ref b54)])) _
      refine XS.astore X54.here hx rfl (hb hby at_10) rfl rfl (l' := #[.val (.long p1), .second, .val (.long p2), .second, .val (.long p3), .second, .val (.long p4), .second, .val (.long p5), .second, .val (.int p6), .val (.int (1 : Int32)), .val (.ref b54), .unset, .unset, .unset, .unset, .unset, .unset, .unset, .unset, .unset, .unset]) rfl ?_
      show Steps p.tables e below (T54.setTop (mkF m 12 #[.val (.long p1), .second, .val (.long p2), .second, .val (.long p3), .second, .val (.long p4), .second, .val (.long p5), .second, .val (.int p6), .val (.int (1 : Int32)), .val (.ref b54), .unset, .unset, .unset, .unset, .unset, .unset, .unset, .unset, .unset, .unset] [])) _
      refine XS.iload X54.here hx rfl (hb hby at_12) rfl ?_
      show Steps p.tables e below (T54.setTop (mkF m 14 #[.val (.long p1), .second, .val (.long p2), .second, .val (.long p3), .second, .val (.long p4), .second, .val (.long p5), .second, .val (.int p6), .val (.int (1 : Int32)), .val (.ref b54), .unset, .unset, .unset, .unset, .unset, .unset, .unset, .unset, .unset, .unset] [(.int (1 : Int32))])) _
      refine XS.ifNo X54.here hx rfl (hb hby at_14) rfl ((if0 _ _).trans (tlt (by decide : (0 : Int32) < (1 : Int32))).2.2.2) ?_
      show Steps p.tables e below (T54.setTop (mkF m 17 #[.val (.long p1), .second, .val (.long p2), .second, .val (.long p3), .second, .val (.long p4), .second, .val (.long p5), .second, .val (.int p6), .val (.int (1 : Int32)), .val (.ref b54), .unset, .unset, .unset, .unset, .unset, .unset, .unset, .unset, .unset, .unset] [])) _
      refine XS.aload X54.here hx rfl (hb hby at_17) rfl rfl ?_
      show Steps p.tables e below (T54.setTop (mkF m 19 #[.val (.long p1), .second, .val (.long p2), .second, .val (.long p3), .second, .val (.long p4), .second, .val (.long p5), .second, .val (.int p6), .val (.int (1 : Int32)), .val (.ref b54), .unset, .unset, .unset, .unset, .unset, .unset, .unset, .unset, .unset, .unset] [(.ref b54)])) _
      refine XS.iconst X54.here hx rfl (hb hby at_19) ?_
      show Steps p.tables e below (T54.setTop (mkF m 20 #[.val (.long p1), .second, .val (.long p2), .second, .val (.long p3), .second, .val (.long p4), .second, .val (.long p5), .second, .val (.int p6), .val (.int (1 : Int32)), .val (.ref b54), .unset, .unset, .unset, .unset, .unset, .unset, .unset, .unset, .unset, .unset] [(.int (0 : Int32)), (.ref b54)])) _
      refine XS.lloadN X54.here hx rfl (hb hby at_20) rfl ?_
      exact k
    obtain ⟨cl58, Ar58, q58, Sz58, Nn58, Hs58, G58⟩ := id f56
    have hin58 : ¬ ((0 : Int32) < 0 ∨ cl58.slots.size ≤ ((0 : Int32)).toNatClampNeg) := inb_of Sz58 ⟨by decide, by decide⟩
    obtain ⟨T58, h58, X58, e58, W58, st58⟩ := stJ X54 hx hZ e54 Ar58 (j := (0 : Int32)) hin58 (g := (mkF m 21 #[.val (.long p1), .second, .val (.long p2), .second, .val (.long p3), .second, .val (.long p4), .second, .val (.long p5), .second, .val (.int p6), .val (.int (1 : Int32)), .val (.ref b54), .unset, .unset, .unset, .unset, .unset, .unset, .unset, .unset, .unset, .unset] [(.long p2), (.int (0 : Int32)), (.ref b54)])) rfl rfl (hb hby at_21)
    have V58 : Arv Z h58 b54 k54 .long (1 : Int32) [(.long p2)] (.long (0 : Int64)) := Arv.set Ar58 q58 Sz58 Nn58 Hs58 G58 rfl W58 0 rfl (Nat.le_of_ble_eq_true rfl)
    have N58 := Fr.snoc X58 N0 gn_b54
    have z59 : n0 ≤ h58.size := Nat.le_trans z55 (Keep.of_wr W58).1
    have sg60 : ∀ t, Steps p.tables e below (T58.setTop (mkF m 49 #[.val (.long p1), .second, .val (.long p2), .second, .val (.long p3), .second, .val (.long p4), .second, .val (.long p5), .second, .val (.int p6), .val (.int (1 : Int32)), .val (.ref b54), .unset, .unset, .unset, .unset, .unset, .unset, .unset, .unset, .unset, .unset] [(.ref b54), (.long p1)])) t → Steps p.tables e below (T58.setTop (mkF m 22 #[.val (.long p1), .second, .val (.long p2), .second, .val (.long p3), .second, .val (.long p4), .second, .val (.long p5), .second, .val (.int p6), .val (.int (1 : Int32)), .val (.ref b54), .unset, .unset, .unset, .unset, .unset, .unset, .unset, .unset, .unset, .unset] [])) t := by
      intro t k
      show Steps p.tables e below (T58.setTop (mkF m 22 #[.val (.long p1), .second, .val (.long p2), .second, .val (.long p3), .second, .val (.long p4), .second, .val (.long p5), .second, .val (.int p6), .val (.int (1 : Int32)), .val (.ref b54), .unset, .unset, .unset, .unset, .unset, .unset, .unset, .unset, .unset, .unset] [])) _
      refine XS.iload X58.here hx rfl (hb hby at_22) rfl ?_
      show Steps p.tables e below (T58.setTop (mkF m 24 #[.val (.long p1), .second, .val (.long p2), .second, .val (.long p3), .second, .val (.long p4), .second, .val (.long p5), .second, .val (.int p6), .val (.int (1 : Int32)), .val (.ref b54), .unset, .unset, .unset, .unset, .unset, .unset, .unset, .unset, .unset, .unset] [(.int (1 : Int32))])) _
      refine XS.iconst X58.here hx rfl (hb hby at_24) ?_
      show Steps p.tables e below (T58.setTop (mkF m 25 #[.val (.long p1), .second, .val (.long p2), .second, .val (.long p3), .second, .val (.long p4), .second, .val (.long p5), .second, .val (.int p6), .val (.int (1 : Int32)), .val (.ref b54), .unset, .unset, .unset, .unset, .unset, .unset, .unset, .unset, .unset, .unset] [(.int (1 : Int32)), (.int (1 : Int32))])) _
      refine XS.icmpYes X58.here hx rfl (pc0 := 25) (pc' := 34) rfl (hb hby at_25) rfl (flt (by decide : ¬ ((1 : Int32) < (1 : Int32)))).2.2.2 (by decide) (by decide) ?_
      show Steps p.tables e below (T58.setTop (mkF m 34 #[.val (.long p1), .second, .val (.long p2), .second, .val (.long p3), .second, .val (.long p4), .second, .val (.long p5), .second, .val (.int p6), .val (.int (1 : Int32)), .val (.ref b54), .unset, .unset, .unset, .unset, .unset, .unset, .unset, .unset, .unset, .unset] [])) _
      refine XS.iload X58.here hx rfl (hb hby at_34) rfl ?_
      show Steps p.tables e below (T58.setTop (mkF m 36 #[.val (.long p1), .second, .val (.long p2), .second, .val (.long p3), .second, .val (.long p4), .second, .val (.long p5), .second, .val (.int p6), .val (.int (1 : Int32)), .val (.ref b54), .unset, .unset, .unset, .unset, .unset, .unset, .unset, .unset, .unset, .unset] [(.int (1 : Int32))])) _
      refine XS.iconst X58.here hx rfl (hb hby at_36) ?_
      show Steps p.tables e below (T58.setTop (mkF m 37 #[.val (.long p1), .second, .val (.long p2), .second, .val (.long p3), .second, .val (.long p4), .second, .val (.long p5), .second, .val (.int p6), .val (.int (1 : Int32)), .val (.ref b54), .unset, .unset, .unset, .unset, .unset, .unset, .unset, .unset, .unset, .unset] [(.int (2 : Int32)), (.int (1 : Int32))])) _
      refine XS.icmpYes X58.here hx rfl (pc0 := 37) (pc' := 46) rfl (hb hby at_37) rfl (flt (by decide : ¬ ((2 : Int32) < (1 : Int32)))).2.2.2 (by decide) (by decide) ?_
      show Steps p.tables e below (T58.setTop (mkF m 46 #[.val (.long p1), .second, .val (.long p2), .second, .val (.long p3), .second, .val (.long p4), .second, .val (.long p5), .second, .val (.int p6), .val (.int (1 : Int32)), .val (.ref b54), .unset, .unset, .unset, .unset, .unset, .unset, .unset, .unset, .unset, .unset] [])) _
      refine XS.lloadN X58.here hx rfl (hb hby at_46) rfl ?_
      show Steps p.tables e below (T58.setTop (mkF m 47 #[.val (.long p1), .second, .val (.long p2), .second, .val (.long p3), .second, .val (.long p4), .second, .val (.long p5), .second, .val (.int p6), .val (.int (1 : Int32)), .val (.ref b54), .unset, .unset, .unset, .unset, .unset, .unset, .unset, .unset, .unset, .unset] [(.long p1)])) _
      refine XS.aload X58.here hx rfl (hb hby at_47) rfl rfl ?_
      exact k
    obtain ⟨_, _, ⟨T61, L61, k61, n61⟩, -, X61, ⟨Lc61, hQ61, l61, y61, z61⟩, st61⟩ := Jvm.LawKit.callS X58 hx (y := (⟨"com/example/haversack/haversack/evaluation/Seeds", "derived", "(J[J)J"⟩ : MethodName)) hown (mvT hZ (hw _ (List.mem_of_getElem? (i := 1) rfl))) (mvT hZ (hw _ (List.mem_of_getElem? (i := 2) rfl))) (mvT hZ (hw _ (List.mem_of_getElem? (i := 3) rfl))) (mvT hZ (hw _ (List.mem_of_getElem? (i := 4) rfl))) (by decide) (backOf (W := 0) (rmD1 l Z a0 hw [] p1 b54 k54 p2 h58 n0 z59 V58) hZ (hw _ (List.mem_of_getElem? (i := 4) rfl)) (hw _ (List.mem_of_getElem? (i := 3) rfl)) (by decide) (by decide)) (g := (mkF m 49 #[.val (.long p1), .second, .val (.long p2), .second, .val (.long p3), .second, .val (.long p4), .second, .val (.long p5), .second, .val (.int p6), .val (.int (1 : Int32)), .val (.ref b54), .unset, .unset, .unset, .unset, .unset, .unset, .unset, .unset, .unset, .unset] [(.ref b54), (.long p1)])) rfl (by rw [hml]; rfl) (argsL := [(.long p1), (.ref b54)]) (rest := []) (lenOf pd_1 rfl) rfl (by show 2 * 0 + _ ≤ _; exact Nat.le_of_eq rfl) (hb hby at_49) (fun _ _ => ⟨rfl, e58, (by decide : 1 + 0 ≤ _), (by decide : 1 + 0 ≤ _)⟩)
    dsimp only [Pt.U, Pt.locs, Pt.cells, Pt.slots] at X61 l61 y61 z61 st61 hQ61
    subst l61 y61 z61
    obtain ⟨rfl, N61q, e61⟩ := hQ61
    have N61 := Fr.app N58 N61q
    have sg62 : ∀ t, Steps p.tables e below (T61.setTop (mkF m 56 #[.val (.long p1), .second, .val (.long p2), .second, .val (.long p3), .second, .val (.long p4), .second, .val (.long p5), .second, .val (.int p6), .val (.int (1 : Int32)), .val (.ref b54), .val (.long (fMix ((fMix p1) ^^^ p2))), .second, .unset, .unset, .unset, .unset, .unset, .unset, .unset, .unset] [(.int (0 : Int32)), (.long p1)])) t → Steps p.tables e below (T61.setTop (mkF m 52 #[.val (.long p1), .second, .val (.long p2), .second, .val (.long p3), .second, .val (.long p4), .second, .val (.long p5), .second, .val (.int p6), .val (.int (1 : Int32)), .val (.ref b54), .unset, .unset, .unset, .unset, .unset, .unset, .unset, .unset, .unset, .unset] [(.long (fMix ((fMix p1) ^^^ p2)))])) t := by
      intro t k
      show Steps p.tables e below (T61.setTop (mkF m 52 #[.val (.long p1), .second, .val (.long p2), .second, .val (.long p3), .second, .val (.long p4), .second, .val (.long p5), .second, .val (.int p6), .val (.int (1 : Int32)), .val (.ref b54), .unset, .unset, .unset, .unset, .unset, .unset, .unset, .unset, .unset, .unset] [(.long (fMix ((fMix p1) ^^^ p2)))])) _
      refine XS.lstore X61.here hx rfl (hb hby at_52) rfl (l' := #[.val (.long p1), .second, .val (.long p2), .second, .val (.long p3), .second, .val (.long p4), .second, .val (.long p5), .second, .val (.int p6), .val (.int (1 : Int32)), .val (.ref b54), .val (.long (fMix ((fMix p1) ^^^ p2))), .second, .unset, .unset, .unset, .unset, .unset, .unset, .unset, .unset]) rfl ?_
      show Steps p.tables e below (T61.setTop (mkF m 54 #[.val (.long p1), .second, .val (.long p2), .second, .val (.long p3), .second, .val (.long p4), .second, .val (.long p5), .second, .val (.int p6), .val (.int (1 : Int32)), .val (.ref b54), .val (.long (fMix ((fMix p1) ^^^ p2))), .second, .unset, .unset, .unset, .unset, .unset, .unset, .unset, .unset] [])) _
      refine XS.lloadN X61.here hx rfl (hb hby at_54) rfl ?_
      show Steps p.tables e below (T61.setTop (mkF m 55 #[.val (.long p1), .second, .val (.long p2), .second, .val (.long p3), .second, .val (.long p4), .second, .val (.long p5), .second, .val (.int p6), .val (.int (1 : Int32)), .val (.ref b54), .val (.long (fMix ((fMix p1) ^^^ p2))), .second, .unset, .unset, .unset, .unset, .unset, .unset, .unset, .unset] [(.long p1)])) _
      refine XS.iconst X61.here hx rfl (hb hby at_55) ?_
      exact k
    obtain ⟨T63, h63, k63, X63, e63, E63, A63, st63⟩ := newP X61 hx hZ (hw _ (List.mem_of_getElem? (i := 0) rfl)) e61 (g := (mkF m 56 #[.val (.long p1), .second, .val (.long p2), .second, .val (.long p3), .second, .val (.long p4), .second, .val (.long p5), .second, .val (.int p6), .val (.int (1 : Int32)), .val (.ref b54), .val (.long (fMix ((fMix p1) ^^^ p2))), .second, .unset, .unset, .unset, .unset, .unset, .unset, .unset, .unset] [(.int (0 : Int32)), (.long p1)])) rfl (hb hby at_56) rfl (by decide) (cap := 0) (by decide) (by decide) (by decide) (by decide)
    obtain ⟨b63, g63⟩ : ∃ z, z = h58.size := ⟨_, rfl⟩
    rw [← g63] at A63 st63
    have ne64 : b54 ≠ b63 := Nat.ne_of_lt (Nat.lt_of_lt_of_le V58.lt (Nat.le_of_eq g63.symm))
    have gn_b63 : n0 ≤ b63 := Nat.le_trans z59 (Nat.le_of_eq g63.symm)
    have f65 : Arv Z h63 b54 k54 .long (1 : Int32) [(.long p2)] (.long (0 : Int64)) := V58.ext E63
    have z66 : n0 ≤ h63.size := Nat.le_trans z59 E63.1
    have f67 : Arv Z h63 b63 k63 .long (0 : Int32) [] (.long (0 : Int64)) := (Arv.new A63 (by decide))
    obtain ⟨_, _, ⟨T68, L68, k68, n68⟩, -, X68, ⟨Lc68, hQ68, l68, y68, z68⟩, st68⟩ := Jvm.LawKit.callS X63 hx (y := (⟨"com/example/haversack/haversack/evaluation/Seeds", "derived", "(J[J)J"⟩ : MethodName)) hown (mvT hZ (hw _ (List.mem_of_getElem? (i := 1) rfl))) (mvT hZ (hw _ (List.mem_of_getElem? (i := 2) rfl))) (mvT hZ (hw _ (List.mem_of_getElem? (i := 3) rfl))) (mvT hZ (hw _ (List.mem_of_getElem? (i := 4) rfl))) (by decide) (backOf (W := 0) (rmD0 l Z a0 hw [] p1 b63 k63 h63 n0 z66 f67) hZ (hw _ (List.mem_of_getElem? (i := 4) rfl)) (hw _ (List.mem_of_getElem? (i := 3) rfl)) (by decide) (by decide)) (g := (mkF m 58 #[.val (.long p1), .second, .val (.long p2), .second, .val (.long p3), .second, .val (.long p4), .second, .val (.long p5), .second, .val (.int p6), .val (.int (1 : Int32)), .val (.ref b54), .val (.long (fMix ((fMix p1) ^^^ p2))), .second, .unset, .unset, .unset, .unset, .unset, .unset, .unset, .unset] [(.ref b63), (.long p1)])) rfl (by rw [hml]; rfl) (argsL := [(.long p1), (.ref b63)]) (rest := []) (lenOf pd_1 rfl) rfl (by show 2 * 0 + _ ≤ _; exact Nat.le_of_eq rfl) (hb hby at_58) (fun _ _ => ⟨rfl, e63, (by decide : 2 + 0 ≤ _), (by decide : 1 + 0 ≤ _)⟩)
    dsimp only [Pt.U, Pt.locs, Pt.cells, Pt.slots] at X68 l68 y68 z68 st68 hQ68
    subst l68 y68 z68
    obtain ⟨rfl, N68q, e68⟩ := hQ68
    have N68 := Fr.app N61 N68q
    have sg69 : ∀ t, Steps p.tables e below (T68.setTop (mkF m 77 #[.val (.long p1), .second, .val (.long p2), .second, .val (.long p3), .second, .val (.long p4), .second, .val (.long p5), .second, .val (.int p6), .val (.int (1 : Int32)), .val (.ref b54), .val (.long (fMix ((fMix p1) ^^^ p2))), .second, .val (.long (fMix p1)), .second, .val (.long (fMix p1)), .second, .unset, .unset, .unset, .unset] [(.int (0 : Int32)), (.long ((fMix p1) ^^^ p2))])) t → Steps p.tables e below (T68.setTop (mkF m 61 #[.val (.long p1), .second, .val (.long p2), .second, .val (.long p3), .second, .val (.long p4), .second, .val (.long p5), .second, .val (.int p6), .val (.int (1 : Int32)), .val (.ref b54), .val (.long (fMix ((fMix p1) ^^^ p2))), .second, .unset, .unset, .unset, .unset, .unset, .unset, .unset, .unset] [(.long (fMix p1))])) t := by
      intro t k
      show Steps p.tables e below (T68.setTop (mkF m 61 #[.val (.long p1), .second, .val (.long p2), .second, .val (.long p3), .second, .val (.long p4), .second, .val (.long p5), .second, .val (.int p6), .val (.int (1 : Int32)), .val (.ref b54), .val (.long (fMix ((fMix p1) ^^^ p2))), .second, .unset, .unset, .unset, .unset, .unset, .unset, .unset, .unset] [(.long (fMix p1))])) _
      refine XS.lstore X68.here hx rfl (hb hby at_61) rfl (l' := #[.val (.long p1), .second, .val (.long p2), .second, .val (.long p3), .second, .val (.long p4), .second, .val (.long p5), .second, .val (.int p6), .val (.int (1 : Int32)), .val (.ref b54), .val (.long (fMix ((fMix p1) ^^^ p2))), .second, .val (.long (fMix p1)), .second, .unset, .unset, .unset, .unset, .unset, .unset]) rfl ?_
      show Steps p.tables e below (T68.setTop (mkF m 63 #[.val (.long p1), .second, .val (.long p2), .second, .val (.long p3), .second, .val (.long p4), .second, .val (.long p5), .second, .val (.int p6), .val (.int (1 : Int32)), .val (.ref b54), .val (.long (fMix ((fMix p1) ^^^ p2))), .second, .val (.long (fMix p1)), .second, .unset, .unset, .unset, .unset, .unset, .unset] [])) _
      refine XS.lload X68.here hx rfl (hb hby at_63) rfl ?_
      show Steps p.tables e below (T68.setTop (mkF m 65 #[.val (.long p1), .second, .val (.long p2), .second, .val (.long p3), .second, .val (.long p4), .second, .val (.long p5), .second, .val (.int p6), .val (.int (1 : Int32)), .val (.ref b54), .val (.long (fMix ((fMix p1) ^^^ p2))), .second, .val (.long (fMix p1)), .second, .unset, .unset, .unset, .unset, .unset, .unset] [(.long (fMix p1))])) _
      refine XS.lstore X68.here hx rfl (hb hby at_65) rfl (l' := #[.val (.long p1), .second, .val (.long p2), .second, .val (.long p3), .second, .val (.long p4), .second, .val (.long p5), .second, .val (.int p6), .val (.int (1 : Int32)), .val (.ref b54), .val (.long (fMix ((fMix p1) ^^^ p2))), .second, .val (.long (fMix p1)), .second, .val (.long (fMix p1)), .second, .unset, .unset, .unset, .unset]) rfl ?_
      show Steps p.tables e below (T68.setTop (mkF m 67 #[.val (.long p1), .second, .val (.long p2), .second, .val (.long p3), .second, .val (.long p4), .second, .val (.long p5), .second, .val (.int p6), .val (.int (1 : Int32)), .val (.ref b54), .val (.long (fMix ((fMix p1) ^^^ p2))), .second, .val (.long (fMix p1)), .second, .val (.long (fMix p1)), .second, .unset, .unset, .unset, .unset] [])) _
      refine XS.iload X68.here hx rfl (hb hby at_67) rfl ?_
      show Steps p.tables e below (T68.setTop (mkF m 69 #[.val (.long p1), .second, .val (.long p2), .second, .val (.long p3), .second, .val (.long p4), .second, .val (.long p5), .second, .val (.int p6), .val (.int (1 : Int32)), .val (.ref b54), .val (.long (fMix ((fMix p1) ^^^ p2))), .second, .val (.long (fMix p1)), .second, .val (.long (fMix p1)), .second, .unset, .unset, .unset, .unset] [(.int (1 : Int32))])) _
      refine XS.ifNo X68.here hx rfl (hb hby at_69) rfl ((if0 _ _).trans (tlt (by decide : (0 : Int32) < (1 : Int32))).2.2.2) ?_
      show Steps p.tables e below (T68.setTop (mkF m 72 #[.val (.long p1), .second, .val (.long p2), .second, .val (.long p3), .second, .val (.long p4), .second, .val (.long p5), .second, .val (.int p6), .val (.int (1 : Int32)), .val (.ref b54), .val (.long (fMix ((fMix p1) ^^^ p2))), .second, .val (.long (fMix p1)), .second, .val (.long (fMix p1)), .second, .unset, .unset, .unset, .unset] [])) _
      refine XS.lload X68.here hx rfl (hb hby at_72) rfl ?_
      show Steps p.tables e below (T68.setTop (mkF m 74 #[.val (.long p1), .second, .val (.long p2), .second, .val (.long p3), .second, .val (.long p4), .second, .val (.long p5), .second, .val (.int p6), .val (.int (1 : Int32)), .val (.ref b54), .val (.long (fMix ((fMix p1) ^^^ p2))), .second, .val (.long (fMix p1)), .second, .val (.long (fMix p1)), .second, .unset, .unset, .unset, .unset] [(.long (fMix p1))])) _
      refine XS.lloadN X68.here hx rfl (hb hby at_74) rfl ?_
      show Steps p.tables e below (T68.setTop (mkF m 75 #[.val (.long p1), .second, .val (.long p2), .second, .val (.long p3), .second, .val (.long p4), .second, .val (.long p5), .second, .val (.int p6), .val (.int (1 : Int32)), .val (.ref b54), .val (.long (fMix ((fMix p1) ^^^ p2))), .second, .val (.long (fMix p1)), .second, .val (.long (fMix p1)), .second, .unset, .unset, .unset, .unset] [(.long p2), (.long (fMix p1))])) _
      refine XS.lxor X68.here hx rfl (hb hby at_75) rfl ?_
      show Steps p.tables e below (T68.setTop (mkF m 76 #[.val (.long p1), .second, .val (.long p2), .second, .val (.long p3), .second, .val (.long p4), .second, .val (.long p5), .second, .val (.int p6), .val (.int (1 : Int32)), .val (.ref b54), .val (.long (fMix ((fMix p1) ^^^ p2))), .second, .val (.long (fMix p1)), .second, .val (.long (fMix p1)), .second, .unset, .unset, .unset, .unset] [(.long ((fMix p1) ^^^ p2))])) _
      refine XS.iconst X68.here hx rfl (hb hby at_76) ?_
      exact k
    obtain ⟨T70, h70, k70, X70, e70, E70, A70, st70⟩ := newP X68 hx hZ (hw _ (List.mem_of_getElem? (i := 0) rfl)) e68 (g := (mkF m 77 #[.val (.long p1), .second, .val (.long p2), .second, .val (.long p3), .second, .val (.long p4), .second, .val (.long p5), .second, .val (.int p6), .val (.int (1 : Int32)), .val (.ref b54), .val (.long (fMix ((fMix p1) ^^^ p2))), .second, .val (.long (fMix p1)), .second, .val (.long (fMix p1)), .second, .unset, .unset, .unset, .unset] [(.int (0 : Int32)), (.long ((fMix p1) ^^^ p2))])) rfl (hb hby at_77) rfl (by decide) (cap := 0) (by decide) (by decide) (by decide) (by decide)
    obtain ⟨b70, g70⟩ : ∃ z, z = h63.size := ⟨_, rfl⟩
    rw [← g70] at A70 st70
    have ne71 : b54 ≠ b70 := Nat.ne_of_lt (Nat.lt_of_lt_of_le f65.lt (Nat.le_of_eq g70.symm))
    have ne72 : b63 ≠ b70 := Nat.ne_of_lt (Nat.lt_of_lt_of_le f67.lt (Nat.le_of_eq g70.symm))
    have gn_b70 : n0 ≤ b70 := Nat.le_trans z66 (Nat.le_of_eq g70.symm)
    have f73 : Arv Z h70 b54 k54 .long (1 : Int32) [(.long p2)] (.long (0 : Int64)) := f65.ext E70
    have f74 : Arv Z h70 b63 k63 .long (0 : Int32) [] (.long (0 : Int64)) := f67.ext E70
    have z75 : n0 ≤ h70.size := Nat.le_trans z66 E70.1
    have f76 : Arv Z h70 b70 k70 .long (0 : Int32) [] (.long (0 : Int64)) := (Arv.new A70 (by decide))
    obtain ⟨_, _, ⟨T77, L77, k77, n77⟩, -, X77, ⟨Lc77, hQ77, l77, y77, z77⟩, st77⟩ := Jvm.LawKit.callS X70 hx (y := (⟨"com/example/haversack/haversack/evaluation/Seeds", "derived", "(J[J)J"⟩ : MethodName)) hown (mvT hZ (hw _ (List.mem_of_getElem? (i := 1) rfl))) (mvT hZ (hw _ (List.mem_of_getElem? (i := 2) rfl))) (mvT hZ (hw _ (List.mem_of_getElem? (i := 3) rfl))) (mvT hZ (hw _ (List.mem_of_getElem? (i := 4) rfl))) (by decide) (backOf (W := 0) (rmD0 l Z a0 hw [] ((fMix p1) ^^^ p2) b70 k70 h70 n0 z75 f76) hZ (hw _ (List.mem_of_getElem? (i := 4) rfl)) (hw _ (List.mem_of_getElem? (i := 3) rfl)) (by decide) (by decide)) (g := (mkF m 79 #[.val (.long p1), .second, .val (.long p2), .second, .val (.long p3), .second, .val (.long p4), .second, .val (.long p5), .second, .val (.int p6), .val (.int (1 : Int32)), .val (.ref b54), .val (.long (fMix ((fMix p1) ^^^ p2))), .second, .val (.long (fMix p1)), .second, .val (.long (fMix p1)), .second, .unset, .unset, .unset, .unset] [(.ref b70), (.long ((fMix p1) ^^^ p2))])) rfl (by rw [hml]; rfl) (argsL := [(.long ((fMix p1) ^^^ p2)), (.ref b70)]) (rest := []) (lenOf pd_1 rfl) rfl (by show 2 * 0 + _ ≤ _; exact Nat.le_of_eq rfl) (hb hby at_79) (fun _ _ => ⟨rfl, e70, (by decide : 3 + 0 ≤ _), (by decide : 1 + 0 ≤ _)⟩)
    dsimp only [Pt.U, Pt.locs, Pt.cells, Pt.slots] at X77 l77 y77 z77 st77 hQ77
    subst l77 y77 z77
    obtain ⟨rfl, N77q, e77⟩ := hQ77
    have N77 := Fr.app N68 N77q
    have sg78 : ∀ t, Steps p.tables e below (T77.setTop (mkF m 141 #[.val (.long p1), .second, .val (.long p2), .second, .val (.long p3), .second, .val (.long p4), .second, .val (.long p5), .second, .val (.int p6), .val (.int (1 : Int32)), .val (.ref b54), .val (.long (fMix ((fMix p1) ^^^ p2))), .second, .val (.long (fMix p1)), .second, .val (.long (fMix ((fMix p1) ^^^ p2))), .second, .val (.int (1 : Int32)), .unset, .unset, .unset] [(.int (lcmpW p1 p5))])) t → Steps p.tables e below (T77.setTop (mkF m 82 #[.val (.long p1), .second, .val (.long p2), .second, .val (.long p3), .second, .val (.long p4), .second, .val (.long p5), .second, .val (.int p6), .val (.int (1 : Int32)), .val (.ref b54), .val (.long (fMix ((fMix p1) ^^^ p2))), .second, .val (.long (fMix p1)), .second, .val (.long (fMix p1)), .second, .unset, .unset, .unset, .unset] [(.long (fMix ((fMix p1) ^^^ p2)))])) t := by
      intro t k
      show Steps p.tables e below (T77.setTop (mkF m 82 #[.val (.long p1), .second, .val (.long p2), .second, .val (.long p3), .second, .val (.long p4), .second, .val (.long p5), .second, .val (.int p6), .val (.int (1 : Int32)), .val (.ref b54), .val (.long (fMix ((fMix p1) ^^^ p2))), .second, .val (.long (fMix p1)), .second, .val (.long (fMix p1)), .second, .unset, .unset, .unset, .unset] [(.long (fMix ((fMix p1) ^^^ p2)))])) _
      refine XS.lstore X77.here hx rfl (hb hby at_82) rfl (l' := #[.val (.long p1), .second, .val (.long p2), .second, .val (.long p3), .second, .val (.long p4), .second, .val (.long p5), .second, .val (.int p6), .val (.int (1 : Int32)), .val (.ref b54), .val (.long (fMix ((fMix p1) ^^^ p2))), .second, .val (.long (fMix p1)), .second, .val (.long (fMix ((fMix p1) ^^^ p2))), .second, .unset, .unset, .unset, .unset]) rfl ?_
      show Steps p.tables e below (T77.setTop (mkF m 84 #[.val (.long p1), .second, .val (.long p2), .second, .val (.long p3), .second, .val (.long p4), .second, .val (.long p5), .second, .val (.int p6), .val (.int (1 : Int32)), .val (.ref b54), .val (.long (fMix ((fMix p1) ^^^ p2))), .second, .val (.long (fMix p1)), .second, .val (.long (fMix ((fMix p1) ^^^ p2))), .second, .unset, .unset, .unset, .unset] [])) _
      refine XS.iload X77.here hx rfl (hb hby at_84) rfl ?_
      show Steps p.tables e below (T77.setTop (mkF m 86 #[.val (.long p1), .second, .val (.long p2), .second, .val (.long p3), .second, .val (.long p4), .second, .val (.long p5), .second, .val (.int p6), .val (.int (1 : Int32)), .val (.ref b54), .val (.long (fMix ((fMix p1) ^^^ p2))), .second, .val (.long (fMix p1)), .second, .val (.long (fMix ((fMix p1) ^^^ p2))), .second, .unset, .unset, .unset, .unset] [(.int (1 : Int32))])) _
      refine XS.iconst X77.here hx rfl (hb hby at_86) ?_
      show Steps p.tables e below (T77.setTop (mkF m 87 #[.val (.long p1), .second, .val (.long p2), .second, .val (.long p3), .second, .val (.long p4), .second, .val (.long p5), .second, .val (.int p6), .val (.int (1 : Int32)), .val (.ref b54), .val (.long (fMix ((fMix p1) ^^^ p2))), .second, .val (.long (fMix p1)), .second, .val (.long (fMix ((fMix p1) ^^^ p2))), .second, .unset, .unset, .unset, .unset] [(.int (1 : Int32)), (.int (1 : Int32))])) _
      refine XS.icmpYes X77.here hx rfl (pc0 := 87) (pc' := 103) rfl (hb hby at_87) rfl (flt (by decide : ¬ ((1 : Int32) < (1 : Int32)))).2.2.2 (by decide) (by decide) ?_
      show Steps p.tables e below (T77.setTop (mkF m 103 #[.val (.long p1), .second, .val (.long p2), .second, .val (.long p3), .second, .val (.long p4), .second, .val (.long p5), .second, .val (.int p6), .val (.int (1 : Int32)), .val (.ref b54), .val (.long (fMix ((fMix p1) ^^^ p2))), .second, .val (.long (fMix p1)), .second, .val (.long (fMix ((fMix p1) ^^^ p2))), .second, .unset, .unset, .unset, .unset] [])) _
      refine XS.iload X77.here hx rfl (hb hby at_103) rfl ?_
      show Steps p.tables e below (T77.setTop (mkF m 105 #[.val (.long p1), .second, .val (.long p2), .second, .val (.long p3), .second, .val (.long p4), .second, .val (.long p5), .second, .val (.int p6), .val (.int (1 : Int32)), .val (.ref b54), .val (.long (fMix ((fMix p1) ^^^ p2))), .second, .val (.long (fMix p1)), .second, .val (.long (fMix ((fMix p1) ^^^ p2))), .second, .unset, .unset, .unset, .unset] [(.int (1 : Int32))])) _
      refine XS.iconst X77.here hx rfl (hb hby at_105) ?_
      show Steps p.tables e below (T77.setTop (mkF m 106 #[.val (.long p1), .second, .val (.long p2), .second, .val (.long p3), .second, .val (.long p4), .second, .val (.long p5), .second, .val (.int p6), .val (.int (1 : Int32)), .val (.ref b54), .val (.long (fMix ((fMix p1) ^^^ p2))), .second, .val (.long (fMix p1)), .second, .val (.long (fMix ((fMix p1) ^^^ p2))), .second, .unset, .unset, .unset, .unset] [(.int (2 : Int32)), (.int (1 : Int32))])) _
      refine XS.icmpYes X77.here hx rfl (pc0 := 106) (pc' := 122) rfl (hb hby at_106) rfl (flt (by decide : ¬ ((2 : Int32) < (1 : Int32)))).2.2.2 (by decide) (by decide) ?_
      show Steps p.tables e below (T77.setTop (mkF m 122 #[.val (.long p1), .second, .val (.long p2), .second, .val (.long p3), .second, .val (.long p4), .second, .val (.long p5), .second, .val (.int p6), .val (.int (1 : Int32)), .val (.ref b54), .val (.long (fMix ((fMix p1) ^^^ p2))), .second, .val (.long (fMix p1)), .second, .val (.long (fMix ((fMix p1) ^^^ p2))), .second, .unset, .unset, .unset, .unset] [])) _
      refine XS.lload X77.here hx rfl (hb hby at_122) rfl ?_
      show Steps p.tables e below (T77.setTop (mkF m 124 #[.val (.long p1), .second, .val (.long p2), .second, .val (.long p3), .second, .val (.long p4), .second, .val (.long p5), .second, .val (.int p6), .val (.int (1 : Int32)), .val (.ref b54), .val (.long (fMix ((fMix p1) ^^^ p2))), .second, .val (.long (fMix p1)), .second, .val (.long (fMix ((fMix p1) ^^^ p2))), .second, .unset, .unset, .unset, .unset] [(.long (fMix ((fMix p1) ^^^ p2)))])) _
      refine XS.lload X77.here hx rfl (hb hby at_124) rfl ?_
      show Steps p.tables e below (T77.setTop (mkF m 126 #[.val (.long p1), .second, .val (.long p2), .second, .val (.long p3), .second, .val (.long p4), .second, .val (.long p5), .second, .val (.int p6), .val (.int (1 : Int32)), .val (.ref b54), .val (.long (fMix ((fMix p1) ^^^ p2))), .second, .val (.long (fMix p1)), .second, .val (.long (fMix ((fMix p1) ^^^ p2))), .second, .unset, .unset, .unset, .unset] [(.long (fMix ((fMix p1) ^^^ p2))), (.long (fMix ((fMix p1) ^^^ p2)))])) _
      refine XS.lcmp X77.here hx rfl (hb hby at_126) rfl ?_
      show Steps p.tables e below (T77.setTop (mkF m 127 #[.val (.long p1), .second, .val (.long p2), .second, .val (.long p3), .second, .val (.long p4), .second, .val (.long p5), .second, .val (.int p6), .val (.int (1 : Int32)), .val (.ref b54), .val (.long (fMix ((fMix p1) ^^^ p2))), .second, .val (.long (fMix p1)), .second, .val (.long (fMix ((fMix p1) ^^^ p2))), .second, .unset, .unset, .unset, .unset] [(.int (lcmpW (fMix ((fMix p1) ^^^ p2)) (fMix ((fMix p1) ^^^ p2))))])) _
      refine XS.ifNo X77.here hx rfl (hb hby at_127) rfl ((if0 _ _).trans (teq ((lw_eq _ _).mpr (rfl : (fMix ((fMix p1) ^^^ p2)) = (fMix ((fMix p1) ^^^ p2))))).2) ?_
      show Steps p.tables e below (T77.setTop (mkF m 130 #[.val (.long p1), .second, .val (.long p2), .second, .val (.long p3), .second, .val (.long p4), .second, .val (.long p5), .second, .val (.int p6), .val (.int (1 : Int32)), .val (.ref b54), .val (.long (fMix ((fMix p1) ^^^ p2))), .second, .val (.long (fMix p1)), .second, .val (.long (fMix ((fMix p1) ^^^ p2))), .second, .unset, .unset, .unset, .unset] [])) _
      refine XS.iconst X77.here hx rfl (hb hby at_130) ?_
      show Steps p.tables e below (T77.setTop (mkF m 131 #[.val (.long p1), .second, .val (.long p2), .second, .val (.long p3), .second, .val (.long p4), .second, .val (.long p5), .second, .val (.int p6), .val (.int (1 : Int32)), .val (.ref b54), .val (.long (fMix ((fMix p1) ^^^ p2))), .second, .val (.long (fMix p1)), .second, .val (.long (fMix ((fMix p1) ^^^ p2))), .second, .unset, .unset, .unset, .unset] [(.int (1 : Int32))])) _
      refine XS.goto X77.here hx rfl (pc0 := 131) (pc' := 135) rfl (hb hby at_131) (by decide) (by decide) ?_
      show Steps p.tables e below (T77.setTop (mkF m 135 #[.val (.long p1), .second, .val (.long p2), .second, .val (.long p3), .second, .val (.long p4), .second, .val (.long p5), .second, .val (.int p6), .val (.int (1 : Int32)), .val (.ref b54), .val (.long (fMix ((fMix p1) ^^^ p2))), .second, .val (.long (fMix p1)), .second, .val (.long (fMix ((fMix p1) ^^^ p2))), .second, .unset, .unset, .unset, .unset] [(.int (1 : Int32))])) _
      refine XS.istore X77.here hx rfl (hb hby at_135) rfl (l' := #[.val (.long p1), .second, .val (.long p2), .second, .val (.long p3), .second, .val (.long p4), .second, .val (.long p5), .second, .val (.int p6), .val (.int (1 : Int32)), .val (.ref b54), .val (.long (fMix ((fMix p1) ^^^ p2))), .second, .val (.long (fMix p1)), .second, .val (.long (fMix ((fMix p1) ^^^ p2))), .second, .val (.int (1 : Int32)), .unset, .unset, .unset]) rfl ?_
      show Steps p.tables e below (T77.setTop (mkF m 137 #[.val (.long p1), .second, .val (.long p2), .second, .val (.long p3), .second, .val (.long p4), .second, .val (.long p5), .second, .val (.int p6), .val (.int (1 : Int32)), .val (.ref b54), .val (.long (fMix ((fMix p1) ^^^ p2))), .second, .val (.long (fMix p1)), .second, .val (.long (fMix ((fMix p1) ^^^ p2))), .second, .val (.int (1 : Int32)), .unset, .unset, .unset] [])) _
      refine XS.lloadN X77.here hx rfl (hb hby at_137) rfl ?_
      show Steps p.tables e below (T77.setTop (mkF m 138 #[.val (.long p1), .second, .val (.long p2), .second, .val (.long p3), .second, .val (.long p4), .second, .val (.long p5), .second, .val (.int p6), .val (.int (1 : Int32)), .val (.ref b54), .val (.long (fMix ((fMix p1) ^^^ p2))), .second, .val (.long (fMix p1)), .second, .val (.long (fMix ((fMix p1) ^^^ p2))), .second, .val (.int (1 : Int32)), .unset, .unset, .unset] [(.long p1)])) _
      refine XS.lload X77.here hx rfl (hb hby at_138) rfl ?_
      show Steps p.tables e below (T77.setTop (mkF m 140 #[.val (.long p1), .second, .val (.long p2), .second, .val (.long p3), .second, .val (.long p4), .second, .val (.long p5), .second, .val (.int p6), .val (.int (1 : Int32)), .val (.ref b54), .val (.long (fMix ((fMix p1) ^^^ p2))), .second, .val (.long (fMix p1)), .second, .val (.long (fMix ((fMix p1) ^^^ p2))), .second, .val (.int (1 : Int32)), .unset, .unset, .unset] [(.long p5), (.long p1)])) _
      refine XS.lcmp X77.here hx rfl (hb hby at_140) rfl ?_
      exact k
    obtain ⟨v1, hv1⟩ : ∃ v : Int32, v = (if p1 = p5 then (1 : Int32) else (0 : Int32)) := ⟨_, rfl⟩
    have sg79 : ∀ t, Steps p.tables e below (T77.setTop (mkF m 149 #[.val (.long p1), .second, .val (.long p2), .second, .val (.long p3), .second, .val (.long p4), .second, .val (.long p5), .second, .val (.int p6), .val (.int (1 : Int32)), .val (.ref b54), .val (.long (fMix ((fMix p1) ^^^ p2))), .second, .val (.long (fMix p1)), .second, .val (.long (fMix ((fMix p1) ^^^ p2))), .second, .val (.int (1 : Int32)), .unset, .unset, .unset] [(.int v1)])) t → Steps p.tables e below (T77.setTop (mkF m 141 #[.val (.long p1), .second, .val (.long p2), .second, .val (.long p3), .second, .val (.long p4), .second, .val (.long p5), .second, .val (.int p6), .val (.int (1 : Int32)), .val (.ref b54), .val (.long (fMix ((fMix p1) ^^^ p2))), .second, .val (.long (fMix p1)), .second, .val (.long (fMix ((fMix p1) ^^^ p2))), .second, .val (.int (1 : Int32)), .unset, .unset, .unset] [(.int (lcmpW p1 p5))])) t := by
      intro t k
      show Steps p.tables e below (T77.setTop (mkF m 141 #[.val (.long p1), .second, .val (.long p2), .second, .val (.long p3), .second, .val (.long p4), .second, .val (.long p5), .second, .val (.int p6), .val (.int (1 : Int32)), .val (.ref b54), .val (.long (fMix ((fMix p1) ^^^ p2))), .second, .val (.long (fMix p1)), .second, .val (.long (fMix ((fMix p1) ^^^ p2))), .second, .val (.int (1 : Int32)), .unset, .unset, .unset] [(.int (lcmpW p1 p5))])) _
      by_cases hc141 : p1 = p5
      · refine XS.ifNo X77.here hx rfl (hb hby at_141) rfl ((if0 _ _).trans (teq ((lw_eq _ _).mpr hc141)).2) ?_
        show Steps p.tables e below (T77.setTop (mkF m 144 #[.val (.long p1), .second, .val (.long p2), .second, .val (.long p3), .second, .val (.long p4), .second, .val (.long p5), .second, .val (.int p6), .val (.int (1 : Int32)), .val (.ref b54), .val (.long (fMix ((fMix p1) ^^^ p2))), .second, .val (.long (fMix p1)), .second, .val (.long (fMix ((fMix p1) ^^^ p2))), .second, .val (.int (1 : Int32)), .unset, .unset, .unset] [])) _
        refine XS.iconst X77.here hx rfl (hb hby at_144) ?_
        show Steps p.tables e below (T77.setTop (mkF m 145 #[.val (.long p1), .second, .val (.long p2), .second, .val (.long p3), .second, .val (.long p4), .second, .val (.long p5), .second, .val (.int p6), .val (.int (1 : Int32)), .val (.ref b54), .val (.long (fMix ((fMix p1) ^^^ p2))), .second, .val (.long (fMix p1)), .second, .val (.long (fMix ((fMix p1) ^^^ p2))), .second, .val (.int (1 : Int32)), .unset, .unset, .unset] [(.int (1 : Int32))])) _
        refine XS.goto X77.here hx rfl (pc0 := 145) (pc' := 149) rfl (hb hby at_145) (by decide) (by decide) ?_
        rw [show v1 = (1 : Int32) from by rw [hv1, if_pos hc141]] at k
        exact k
      · refine XS.ifYes X77.here hx rfl (pc0 := 141) (pc' := 148) rfl (hb hby at_141) rfl ((if0 _ _).trans (feq (mt (lw_eq _ _).mp hc141)).2) (by decide) (by decide) ?_
        show Steps p.tables e below (T77.setTop (mkF m 148 #[.val (.long p1), .second, .val (.long p2), .second, .val (.long p3), .second, .val (.long p4), .second, .val (.long p5), .second, .val (.int p6), .val (.int (1 : Int32)), .val (.ref b54), .val (.long (fMix ((fMix p1) ^^^ p2))), .second, .val (.long (fMix p1)), .second, .val (.long (fMix ((fMix p1) ^^^ p2))), .second, .val (.int (1 : Int32)), .unset, .unset, .unset] [])) _
        refine XS.iconst X77.here hx rfl (hb hby at_148) ?_
        rw [show v1 = (0 : Int32) from by rw [hv1, if_neg hc141]] at k
        exact k
    have sg80 : ∀ t, Steps p.tables e below (T77.setTop (mkF m 154 #[.val (.long p1), .second, .val (.long p2), .second, .val (.long p3), .second, .val (.long p4), .second, .val (.long p5), .second, .val (.int p6), .val (.int (1 : Int32)), .val (.ref b54), .val (.long (fMix ((fMix p1) ^^^ p2))), .second, .val (.long (fMix p1)), .second, .val (.long (fMix ((fMix p1) ^^^ p2))), .second, .val (.int (1 : Int32)), .unset, .unset, .unset] [(.int (0 : Int32)), (.long p5), (.long (fMix p1)), (.int v1)])) t → Steps p.tables e below (T77.setTop (mkF m 149 #[.val (.long p1), .second, .val (.long p2), .second, .val (.long p3), .second, .val (.long p4), .second, .val (.long p5), .second, .val (.int p6), .val (.int (1 : Int32)), .val (.ref b54), .val (.long (fMix ((fMix p1) ^^^ p2))), .second, .val (.long (fMix p1)), .second, .val (.long (fMix ((fMix p1) ^^^ p2))), .second, .val (.int (1 : Int32)), .unset, .unset, .unset] [(.int v1)])) t := by
      intro t k
      show Steps p.tables e below (T77.setTop (mkF m 149 #[.val (.long p1), .second, .val (.long p2), .second, .val (.long p3), .second, .val (.long p4), .second, .val (.long p5), .second, .val (.int p6), .val (.int (1 : Int32)), .val (.ref b54), .val (.long (fMix ((fMix p1) ^^^ p2))), .second, .val (.long (fMix p1)), .second, .val (.long (fMix ((fMix p1) ^^^ p2))), .second, .val (.int (1 : Int32)), .unset, .unset, .unset] [(.int v1)])) _
      refine XS.lload X77.here hx rfl (hb hby at_149) rfl ?_
      show Steps p.tables e below (T77.setTop (mkF m 151 #[.val (.long p1), .second, .val (.long p2), .second, .val (.long p3), .second, .val (.long p4), .second, .val (.long p5), .second, .val (.int p6), .val (.int (1 : Int32)), .val (.ref b54), .val (.long (fMix ((fMix p1) ^^^ p2))), .second, .val (.long (fMix p1)), .second, .val (.long (fMix ((fMix p1) ^^^ p2))), .second, .val (.int (1 : Int32)), .unset, .unset, .unset] [(.long (fMix p1)), (.int v1)])) _
      refine XS.lload X77.here hx rfl (hb hby at_151) rfl ?_
      show Steps p.tables e below (T77.setTop (mkF m 153 #[.val (.long p1), .second, .val (.long p2), .second, .val (.long p3), .second, .val (.long p4), .second, .val (.long p5), .second, .val (.int p6), .val (.int (1 : Int32)), .val (.ref b54), .val (.long (fMix ((fMix p1) ^^^ p2))), .second, .val (.long (fMix p1)), .second, .val (.long (fMix ((fMix p1) ^^^ p2))), .second, .val (.int (1 : Int32)), .unset, .unset, .unset] [(.long p5), (.long (fMix p1)), (.int v1)])) _
      refine XS.iconst X77.here hx rfl (hb hby at_153) ?_
      exact k
    obtain ⟨T81, h81, k81, X81, e81, E81, A81, st81⟩ := newP X77 hx hZ (hw _ (List.mem_of_getElem? (i := 0) rfl)) e77 (g := (mkF m 154 #[.val (.long p1), .second, .val (.long p2), .second, .val (.long p3), .second, .val (.long p4), .second, .val (.long p5), .second, .val (.int p6), .val (.int (1 : Int32)), .val (.ref b54), .val (.long (fMix ((fMix p1) ^^^ p2))), .second, .val (.long (fMix p1)), .second, .val (.long (fMix ((fMix p1) ^^^ p2))), .second, .val (.int (1 : Int32)), .unset, .unset, .unset] [(.int (0 : Int32)), (.long p5), (.long (fMix p1)), (.int v1)])) rfl (hb hby at_154) rfl (by decide) (cap := 0) (by decide) (by decide) (by decide) (by decide)
    obtain ⟨b81, g81⟩ : ∃ z, z = h70.size := ⟨_, rfl⟩
    rw [← g81] at A81 st81
    have ne82 : b54 ≠ b81 := Nat.ne_of_lt (Nat.lt_of_lt_of_le f73.lt (Nat.le_of_eq g81.symm))
    have ne83 : b63 ≠ b81 := Nat.ne_of_lt (Nat.lt_of_lt_of_le f74.lt (Nat.le_of_eq g81.symm))
    have ne84 : b70 ≠ b81 := Nat.ne_of_lt (Nat.lt_of_lt_of_le f76.lt (Nat.le_of_eq g81.symm))
    have gn_b81 : n0 ≤ b81 := Nat.le_trans z75 (Nat.le_of_eq g81.symm)
    have f85 : Arv Z h81 b54 k54 .long (1 : Int32) [(.long p2)] (.long (0 : Int64)) := f73.ext E81
    have f86 : Arv Z h81 b63 k63 .long (0 : Int32) [] (.long (0 : Int64)) := f74.ext E81
    have f87 : Arv Z h81 b70 k70 .long (0 : Int32) [] (.long (0 : Int64)) := f76.ext E81
    have z88 : n0 ≤ h81.size := Nat.le_trans z75 E81.1
    have f89 : Arv Z h81 b81 k81 .long (0 : Int32) [] (.long (0 : Int64)) := (Arv.new A81 (by decide))
    obtain ⟨_, _, ⟨T90, L90, k90, n90⟩, -, X90, ⟨Lc90, hQ90, l90, y90, z90⟩, st90⟩ := Jvm.LawKit.callS X81 hx (y := (⟨"com/example/haversack/haversack/evaluation/Seeds", "derived", "(J[J)J"⟩ : MethodName)) hown (mvT hZ (hw _ (List.mem_of_getElem? (i := 1) rfl))) (mvT hZ (hw _ (List.mem_of_getElem? (i := 2) rfl))) (mvT hZ (hw _ (List.mem_of_getElem? (i := 3) rfl))) (mvT hZ (hw _ (List.mem_of_getElem? (i := 4) rfl))) (by decide) (backOf (W := 3) (rmD0 l Z a0 hw [] p5 b81 k81 h81 n0 z88 f89) hZ (hw _ (List.mem_of_getElem? (i := 4) rfl)) (hw _ (List.mem_of_getElem? (i := 3) rfl)) (by decide) (by decide)) (g := (mkF m 156 #[.val (.long p1), .second, .val (.long p2), .second, .val (.long p3), .second, .val (.long p4), .second, .val (.long p5), .second, .val (.int p6), .val (.int (1 : Int32)), .val (.ref b54), .val (.long (fMix ((fMix p1) ^^^ p2))), .second, .val (.long (fMix p1)), .second, .val (.long (fMix ((fMix p1) ^^^ p2))), .second, .val (.int (1 : Int32)), .unset, .unset, .unset] [(.ref b81), (.long p5), (.long (fMix p1)), (.int v1)])) rfl (by rw [hml]; rfl) (argsL := [(.long p5), (.ref b81)]) (rest := [(.long (fMix p1)), (.int v1)]) (lenOf pd_1 rfl) rfl (by show 2 * 0 + _ ≤ _; exact Nat.le_of_eq rfl) (hb hby at_156) (fun _ _ => ⟨rfl, e81, (by decide : 4 + 0 ≤ _), (by decide : 1 + 0 ≤ _)⟩)
    dsimp only [Pt.U, Pt.locs, Pt.cells, Pt.slots] at X90 l90 y90 z90 st90 hQ90
    subst l90 y90 z90
    obtain ⟨rfl, N90q, e90⟩ := hQ90
    have N90 := Fr.app N77 N90q
    have sg91 : ∀ t, Steps p.tables e below (T90.setTop (mkF m 160 #[.val (.long p1), .second, .val (.long p2), .second, .val (.long p3), .second, .val (.long p4), .second, .val (.long p5), .second, .val (.int p6), .val (.int (1 : Int32)), .val (.ref b54), .val (.long (fMix ((fMix p1) ^^^ p2))), .second, .val (.long (fMix p1)), .second, .val (.long (fMix ((fMix p1) ^^^ p2))), .second, .val (.int (1 : Int32)), .unset, .unset, .unset] [(.int (lcmpW (fMix p1) (fMix p5))), (.int v1)])) t → Steps p.tables e below (T90.setTop (mkF m 159 #[.val (.long p1), .second, .val (.long p2), .second, .val (.long p3), .second, .val (.long p4), .second, .val (.long p5), .second, .val (.int p6), .val (.int (1 : Int32)), .val (.ref b54), .val (.long (fMix ((fMix p1) ^^^ p2))), .second, .val (.long (fMix p1)), .second, .val (.long (fMix ((fMix p1) ^^^ p2))), .second, .val (.int (1 : Int32)), .unset, .unset, .unset] [(.long (fMix p5)), (.long (fMix p1)), (.int v1)])) t := by
      intro t k
      show Steps p.tables e below (T90.setTop (mkF m 159 #[.val (.long p1), .second, .val (.long p2), .second, .val (.long p3), .second, .val (.long p4), .second, .val (.long p5), .second, .val (.int p6), .val (.int (1 : Int32)), .val (.ref b54), .val (.long (fMix ((fMix p1) ^^^ p2))), .second, .val (.long (fMix p1)), .second, .val (.long (fMix ((fMix p1) ^^^ p2))), .second, .val (.int (1 : Int32)), .unset, .unset, .unset] [(.long (fMix p5)), (.long (fMix p1)), (.int v1)])) _
      refine XS.lcmp X90.here hx rfl (hb hby at_159) rfl ?_
      exact k
    obtain ⟨v2, hv2⟩ : ∃ v : Int32, v = (if (fMix p1) = (fMix p5) then (1 : Int32) else (0 : Int32)) := ⟨_, rfl⟩
    have sg92 : ∀ t, Steps p.tables e below (T90.setTop (mkF m 168 #[.val (.long p1), .second, .val (.long p2), .second, .val (.long p3), .second, .val (.long p4), .second, .val (.long p5), .second, .val (.int p6), .val (.int (1 : Int32)), .val (.ref b54), .val (.long (fMix ((fMix p1) ^^^ p2))), .second, .val (.long (fMix p1)), .second, .val (.long (fMix ((fMix p1) ^^^ p2))), .second, .val (.int (1 : Int32)), .unset, .unset, .unset] [(.int v2), (.int v1)])) t → Steps p.tables e below (T90.setTop (mkF m 160 #[.val (.long p1), .second, .val (.long p2), .second, .val (.long p3), .second, .val (.long p4), .second, .val (.long p5), .second, .val (.int p6), .val (.int (1 : Int32)), .val (.ref b54), .val (.long (fMix ((fMix p1) ^^^ p2))), .second, .val (.long (fMix p1)), .second, .val (.long (fMix ((fMix p1) ^^^ p2))), .second, .val (.int (1 : Int32)), .unset, .unset, .unset] [(.int (lcmpW (fMix p1) (fMix p5))), (.int v1)])) t := by
      intro t k
      show Steps p.tables e below (T90.setTop (mkF m 160 #[.val (.long p1), .second, .val (.long p2), .second, .val (.long p3), .second, .val (.long p4), .second, .val (.long p5), .second, .val (.int p6), .val (.int (1 : Int32)), .val (.ref b54), .val (.long (fMix ((fMix p1) ^^^ p2))), .second, .val (.long (fMix p1)), .second, .val (.long (fMix ((fMix p1) ^^^ p2))), .second, .val (.int (1 : Int32)), .unset, .unset, .unset] [(.int (lcmpW (fMix p1) (fMix p5))), (.int v1)])) _
      by_cases hc160 : (fMix p1) = (fMix p5)
      · refine XS.ifNo X90.here hx rfl (hb hby at_160) rfl ((if0 _ _).trans (teq ((lw_eq _ _).mpr hc160)).2) ?_
        show Steps p.tables e below (T90.setTop (mkF m 163 #[.val (.long p1), .second, .val (.long p2), .second, .val (.long p3), .second, .val (.long p4), .second, .val (.long p5), .second, .val (.int p6), .val (.int (1 : Int32)), .val (.ref b54), .val (.long (fMix ((fMix p1) ^^^ p2))), .second, .val (.long (fMix p1)), .second, .val (.long (fMix ((fMix p1) ^^^ p2))), .second, .val (.int (1 : Int32)), .unset, .unset, .unset] [(.int v1)])) _
        refine XS.iconst X90.here hx rfl (hb hby at_163) ?_
        show Steps p.tables e below (T90.setTop (mkF m 164 #[.val (.long p1), .second, .val (.long p2), .second, .val (.long p3), .second, .val (.long p4), .second, .val (.long p5), .second, .val (.int p6), .val (.int (1 : Int32)), .val (.ref b54), .val (.long (fMix ((fMix p1) ^^^ p2))), .second, .val (.long (fMix p1)), .second, .val (.long (fMix ((fMix p1) ^^^ p2))), .second, .val (.int (1 : Int32)), .unset, .unset, .unset] [(.int (1 : Int32)), (.int v1)])) _
        refine XS.goto X90.here hx rfl (pc0 := 164) (pc' := 168) rfl (hb hby at_164) (by decide) (by decide) ?_
        rw [show v2 = (1 : Int32) from by rw [hv2, if_pos hc160]] at k
        exact k
      · refine XS.ifYes X90.here hx rfl (pc0 := 160) (pc' := 167) rfl (hb hby at_160) rfl ((if0 _ _).trans (feq (mt (lw_eq _ _).mp hc160)).2) (by decide) (by decide) ?_
        show Steps p.tables e below (T90.setTop (mkF m 167 #[.val (.long p1), .second, .val (.long p2), .second, .val (.long p3), .second, .val (.long p4), .second, .val (.long p5), .second, .val (.int p6), .val (.int (1 : Int32)), .val (.ref b54), .val (.long (fMix ((fMix p1) ^^^ p2))), .second, .val (.long (fMix p1)), .second, .val (.long (fMix ((fMix p1) ^^^ p2))), .second, .val (.int (1 : Int32)), .unset, .unset, .unset] [(.int v1)])) _
        refine XS.iconst X90.here hx rfl (hb hby at_167) ?_
        rw [show v2 = (0 : Int32) from by rw [hv2, if_neg hc160]] at k
        exact k
    have sg93 : ∀ t, Steps p.tables e below (T90.setTop (mkF m 182 #[.val (.long p1), .second, .val (.long p2), .second, .val (.long p3), .second, .val (.long p4), .second, .val (.long p5), .second, .val (.int p6), .val (.int (1 : Int32)), .val (.ref b54), .val (.long (fMix ((fMix p1) ^^^ p2))), .second, .val (.long (fMix p1)), .second, .val (.long (fMix ((fMix p1) ^^^ p2))), .second, .val (.int (1 : Int32)), .val (.int (1 : Int32)), .unset, .unset] [(.int (0 : Int32)), (.long (-7046029254386353131 : Int64))])) t → Steps p.tables e below (T90.setTop (mkF m 168 #[.val (.long p1), .second, .val (.long p2), .second, .val (.long p3), .second, .val (.long p4), .second, .val (.long p5), .second, .val (.int p6), .val (.int (1 : Int32)), .val (.ref b54), .val (.long (fMix ((fMix p1) ^^^ p2))), .second, .val (.long (fMix p1)), .second, .val (.long (fMix ((fMix p1) ^^^ p2))), .second, .val (.int (1 : Int32)), .unset, .unset, .unset] [(.int v2), (.int v1)])) t := by
      intro t k
      show Steps p.tables e below (T90.setTop (mkF m 168 #[.val (.long p1), .second, .val (.long p2), .second, .val (.long p3), .second, .val (.long p4), .second, .val (.long p5), .second, .val (.int p6), .val (.int (1 : Int32)), .val (.ref b54), .val (.long (fMix ((fMix p1) ^^^ p2))), .second, .val (.long (fMix p1)), .second, .val (.long (fMix ((fMix p1) ^^^ p2))), .second, .val (.int (1 : Int32)), .unset, .unset, .unset] [(.int v2), (.int v1)])) _
      refine XS.icmpNo X90.here hx rfl (hb hby at_168) rfl (teq ((by rw [hv1, hv2]; exact own_injIf _ _) : v1 = v2)).2 ?_
      show Steps p.tables e below (T90.setTop (mkF m 171 #[.val (.long p1), .second, .val (.long p2), .second, .val (.long p3), .second, .val (.long p4), .second, .val (.long p5), .second, .val (.int p6), .val (.int (1 : Int32)), .val (.ref b54), .val (.long (fMix ((fMix p1) ^^^ p2))), .second, .val (.long (fMix p1)), .second, .val (.long (fMix ((fMix p1) ^^^ p2))), .second, .val (.int (1 : Int32)), .unset, .unset, .unset] [])) _
      refine XS.iconst X90.here hx rfl (hb hby at_171) ?_
      show Steps p.tables e below (T90.setTop (mkF m 172 #[.val (.long p1), .second, .val (.long p2), .second, .val (.long p3), .second, .val (.long p4), .second, .val (.long p5), .second, .val (.int p6), .val (.int (1 : Int32)), .val (.ref b54), .val (.long (fMix ((fMix p1) ^^^ p2))), .second, .val (.long (fMix p1)), .second, .val (.long (fMix ((fMix p1) ^^^ p2))), .second, .val (.int (1 : Int32)), .unset, .unset, .unset] [(.int (1 : Int32))])) _
      refine XS.goto X90.here hx rfl (pc0 := 172) (pc' := 176) rfl (hb hby at_172) (by decide) (by decide) ?_
      show Steps p.tables e below (T90.setTop (mkF m 176 #[.val (.long p1), .second, .val (.long p2), .second, .val (.long p3), .second, .val (.long p4), .second, .val (.long p5), .second, .val (.int p6), .val (.int (1 : Int32)), .val (.ref b54), .val (.long (fMix ((fMix p1) ^^^ p2))), .second, .val (.long (fMix p1)), .second, .val (.long (fMix ((fMix p1) ^^^ p2))), .second, .val (.int (1 : Int32)), .unset, .unset, .unset] [(.int (1 : Int32))])) _
      refine XS.istore X90.here hx rfl (hb hby at_176) rfl (l' := #[.val (.long p1), .second, .val (.long p2), .second, .val (.long p3), .second, .val (.long p4), .second, .val (.long p5), .second, .val (.int p6), .val (.int (1 : Int32)), .val (.ref b54), .val (.long (fMix ((fMix p1) ^^^ p2))), .second, .val (.long (fMix p1)), .second, .val (.long (fMix ((fMix p1) ^^^ p2))), .second, .val (.int (1 : Int32)), .val (.int (1 : Int32)), .unset, .unset]) rfl ?_
      show Steps p.tables e below (T90.setTop (mkF m 178 #[.val (.long p1), .second, .val (.long p2), .second, .val (.long p3), .second, .val (.long p4), .second, .val (.long p5), .second, .val (.int p6), .val (.int (1 : Int32)), .val (.ref b54), .val (.long (fMix ((fMix p1) ^^^ p2))), .second, .val (.long (fMix p1)), .second, .val (.long (fMix ((fMix p1) ^^^ p2))), .second, .val (.int (1 : Int32)), .val (.int (1 : Int32)), .unset, .unset] [])) _
      refine X90.ldc2Long hx hown (mvT hZ (hw _ (List.mem_of_getElem? (i := 10) rfl))) (g := (mkF m 178 #[.val (.long p1), .second, .val (.long p2), .second, .val (.long p3), .second, .val (.long p4), .second, .val (.long p5), .second, .val (.int p6), .val (.int (1 : Int32)), .val (.ref b54), .val (.long (fMix ((fMix p1) ^^^ p2))), .second, .val (.long (fMix p1)), .second, .val (.long (fMix ((fMix p1) ^^^ p2))), .second, .val (.int (1 : Int32)), .val (.int (1 : Int32)), .unset, .unset] [])) rfl (hb hby at_178) _ ?_
      show Steps p.tables e below (T90.setTop (mkF m 181 #[.val (.long p1), .second, .val (.long p2), .second, .val (.long p3), .second, .val (.long p4), .second, .val (.long p5), .second, .val (.int p6), .val (.int (1 : Int32)), .val (.ref b54), .val (.long (fMix ((fMix p1) ^^^ p2))), .second, .val (.long (fMix p1)), .second, .val (.long (fMix ((fMix p1) ^^^ p2))), .second, .val (.int (1 : Int32)), .val (.int (1 : Int32)), .unset, .unset] [(.long (-7046029254386353131 : Int64))])) _
      refine XS.iconst X90.here hx rfl (hb hby at_181) ?_
      exact k
    obtain ⟨T94, h94, k94, X94, e94, E94, A94, st94⟩ := newP X90 hx hZ (hw _ (List.mem_of_getElem? (i := 0) rfl)) e90 (g := (mkF m 182 #[.val (.long p1), .second, .val (.long p2), .second, .val (.long p3), .second, .val (.long p4), .second, .val (.long p5), .second, .val (.int p6), .val (.int (1 : Int32)), .val (.ref b54), .val (.long (fMix ((fMix p1) ^^^ p2))), .second, .val (.long (fMix p1)), .second, .val (.long (fMix ((fMix p1) ^^^ p2))), .second, .val (.int (1 : Int32)), .val (.int (1 : Int32)), .unset, .unset] [(.int (0 : Int32)), (.long (-7046029254386353131 : Int64))])) rfl (hb hby at_182) rfl (by decide) (cap := 0) (by decide) (by decide) (by decide) (by decide)
    obtain ⟨b94, g94⟩ : ∃ z, z = h81.size := ⟨_, rfl⟩
    rw [← g94] at A94 st94
    have ne95 : b54 ≠ b94 := Nat.ne_of_lt (Nat.lt_of_lt_of_le f85.lt (Nat.le_of_eq g94.symm))
    have ne96 : b63 ≠ b94 := Nat.ne_of_lt (Nat.lt_of_lt_of_le f86.lt (Nat.le_of_eq g94.symm))
    have ne97 : b70 ≠ b94 := Nat.ne_of_lt (Nat.lt_of_lt_of_le f87.lt (Nat.le_of_eq g94.symm))
    have ne98 : b81 ≠ b94 := Nat.ne_of_lt (Nat.lt_of_lt_of_le f89.lt (Nat.le_of_eq g94.symm))
    have gn_b94 : n0 ≤ b94 := Nat.le_trans z88 (Nat.le_of_eq g94.symm)
    have f99 : Arv Z h94 b54 k54 .long (1 : Int32) [(.long p2)] (.long (0 : Int64)) := f85.ext E94
    have f100 : Arv Z h94 b63 k63 .long (0 : Int32) [] (.long (0 : Int64)) := f86.ext E94
    have f101 : Arv Z h94 b70 k70 .long (0 : Int32) [] (.long (0 : Int64)) := f87.ext E94
    have f102 : Arv Z h94 b81 k81 .long (0 : Int32) [] (.long (0 : Int64)) := f89.ext E94
    have z103 : n0 ≤ h94.size := Nat.le_trans z88 E94.1
    have f104 : Arv Z h94 b94 k94 .long (0 : Int32) [] (.long (0 : Int64)) := (Arv.new A94 (by decide))
    obtain ⟨_, _, ⟨T105, L105, k105, n105⟩, -, X105, ⟨Lc105, hQ105, l105, y105, z105⟩, st105⟩ := Jvm.LawKit.callS X94 hx (y := (⟨"com/example/haversack/haversack/evaluation/Seeds", "derived", "(J[J)J"⟩ : MethodName)) hown (mvT hZ (hw _ (List.mem_of_getElem? (i := 1) rfl))) (mvT hZ (hw _ (List.mem_of_getElem? (i := 2) rfl))) (mvT hZ (hw _ (List.mem_of_getElem? (i := 3) rfl))) (mvT hZ (hw _ (List.mem_of_getElem? (i := 4) rfl))) (by decide) (backOf (W := 0) (rmD0 l Z a0 hw [] (-7046029254386353131 : Int64) b94 k94 h94 n0 z103 f104) hZ (hw _ (List.mem_of_getElem? (i := 4) rfl)) (hw _ (List.mem_of_getElem? (i := 3) rfl)) (by decide) (by decide)) (g := (mkF m 184 #[.val (.long p1), .second, .val (.long p2), .second, .val (.long p3), .second, .val (.long p4), .second, .val (.long p5), .second, .val (.int p6), .val (.int (1 : Int32)), .val (.ref b54), .val (.long (fMix ((fMix p1) ^^^ p2))), .second, .val (.long (fMix p1)), .second, .val (.long (fMix ((fMix p1) ^^^ p2))), .second, .val (.int (1 : Int32)), .val (.int (1 : Int32)), .unset, .unset] [(.ref b94), (.long (-7046029254386353131 : Int64))])) rfl (by rw [hml]; rfl) (argsL := [(.long (-7046029254386353131 : Int64)), (.ref b94)]) (rest := []) (lenOf pd_1 rfl) rfl (by show 2 * 0 + _ ≤ _; exact Nat.le_of_eq rfl) (hb hby at_184) (fun _ _ => ⟨rfl, e94, (by decide : 5 + 0 ≤ _), (by decide : 1 + 0 ≤ _)⟩)
    dsimp only [Pt.U, Pt.locs, Pt.cells, Pt.slots] at X105 l105 y105 z105 st105 hQ105
    subst l105 y105 z105
    obtain ⟨rfl, N105q, e105⟩ := hQ105
    have N105 := Fr.app N90 N105q
    have sg106 : ∀ t, Steps p.tables e below (T105.setTop (mkF m 203 #[.val (.long p1), .second, .val (.long p2), .second, .val (.long p3), .second, .val (.long p4), .second, .val (.long p5), .second, .val (.int p6), .val (.int (1 : Int32)), .val (.ref b54), .val (.long (fMix ((fMix p1) ^^^ p2))), .second, .val (.long (fMix p1)), .second, .val (.long (fMix ((fMix p1) ^^^ p2))), .second, .val (.int (1 : Int32)), .val (.int (1 : Int32)), .val (.int (1 : Int32)), .unset] [(.int (0 : Int32)), (.long (0 : Int64))])) t → Steps p.tables e below (T105.setTop (mkF m 187 #[.val (.long p1), .second, .val (.long p2), .second, .val (.long p3), .second, .val (.long p4), .second, .val (.long p5), .second, .val (.int p6), .val (.int (1 : Int32)), .val (.ref b54), .val (.long (fMix ((fMix p1) ^^^ p2))), .second, .val (.long (fMix p1)), .second, .val (.long (fMix ((fMix p1) ^^^ p2))), .second, .val (.int (1 : Int32)), .val (.int (1 : Int32)), .unset, .unset] [(.long (fMix (-7046029254386353131 : Int64)))])) t := by
      intro t k
      show Steps p.tables e below (T105.setTop (mkF m 187 #[.val (.long p1), .second, .val (.long p2), .second, .val (.long p3), .second, .val (.long p4), .second, .val (.long p5), .second, .val (.int p6), .val (.int (1 : Int32)), .val (.ref b54), .val (.long (fMix ((fMix p1) ^^^ p2))), .second, .val (.long (fMix p1)), .second, .val (.long (fMix ((fMix p1) ^^^ p2))), .second, .val (.int (1 : Int32)), .val (.int (1 : Int32)), .unset, .unset] [(.long (fMix (-7046029254386353131 : Int64)))])) _
      refine X105.ldc2Long hx hown (mvT hZ (hw _ (List.mem_of_getElem? (i := 11) rfl))) (g := (mkF m 187 #[.val (.long p1), .second, .val (.long p2), .second, .val (.long p3), .second, .val (.long p4), .second, .val (.long p5), .second, .val (.int p6), .val (.int (1 : Int32)), .val (.ref b54), .val (.long (fMix ((fMix p1) ^^^ p2))), .second, .val (.long (fMix p1)), .second, .val (.long (fMix ((fMix p1) ^^^ p2))), .second, .val (.int (1 : Int32)), .val (.int (1 : Int32)), .unset, .unset] [(.long (fMix (-7046029254386353131 : Int64)))])) rfl (hb hby at_187) _ ?_
      show Steps p.tables e below (T105.setTop (mkF m 190 #[.val (.long p1), .second, .val (.long p2), .second, .val (.long p3), .second, .val (.long p4), .second, .val (.long p5), .second, .val (.int p6), .val (.int (1 : Int32)), .val (.ref b54), .val (.long (fMix ((fMix p1) ^^^ p2))), .second, .val (.long (fMix p1)), .second, .val (.long (fMix ((fMix p1) ^^^ p2))), .second, .val (.int (1 : Int32)), .val (.int (1 : Int32)), .unset, .unset] [(.long (-2152535657050944081 : Int64)), (.long (fMix (-7046029254386353131 : Int64)))])) _
      refine XS.lcmp X105.here hx rfl (hb hby at_190) rfl ?_
      show Steps p.tables e below (T105.setTop (mkF m 191 #[.val (.long p1), .second, .val (.long p2), .second, .val (.long p3), .second, .val (.long p4), .second, .val (.long p5), .second, .val (.int p6), .val (.int (1 : Int32)), .val (.ref b54), .val (.long (fMix ((fMix p1) ^^^ p2))), .second, .val (.long (fMix p1)), .second, .val (.long (fMix ((fMix p1) ^^^ p2))), .second, .val (.int (1 : Int32)), .val (.int (1 : Int32)), .unset, .unset] [(.int (lcmpW (fMix (-7046029254386353131 : Int64)) (-2152535657050944081 : Int64)))])) _
      refine XS.ifNo X105.here hx rfl (hb hby at_191) rfl ((if0 _ _).trans (teq ((lw_eq _ _).mpr ((by decide +kernel) : (fMix (-7046029254386353131 : Int64)) = (-2152535657050944081 : Int64)))).2) ?_
      show Steps p.tables e below (T105.setTop (mkF m 194 #[.val (.long p1), .second, .val (.long p2), .second, .val (.long p3), .second, .val (.long p4), .second, .val (.long p5), .second, .val (.int p6), .val (.int (1 : Int32)), .val (.ref b54), .val (.long (fMix ((fMix p1) ^^^ p2))), .second, .val (.long (fMix p1)), .second, .val (.long (fMix ((fMix p1) ^^^ p2))), .second, .val (.int (1 : Int32)), .val (.int (1 : Int32)), .unset, .unset] [])) _
      refine XS.iconst X105.here hx rfl (hb hby at_194) ?_
      show Steps p.tables e below (T105.setTop (mkF m 195 #[.val (.long p1), .second, .val (.long p2), .second, .val (.long p3), .second, .val (.long p4), .second, .val (.long p5), .second, .val (.int p6), .val (.int (1 : Int32)), .val (.ref b54), .val (.long (fMix ((fMix p1) ^^^ p2))), .second, .val (.long (fMix p1)), .second, .val (.long (fMix ((fMix p1) ^^^ p2))), .second, .val (.int (1 : Int32)), .val (.int (1 : Int32)), .unset, .unset] [(.int (1 : Int32))])) _
      refine XS.goto X105.here hx rfl (pc0 := 195) (pc' := 199) rfl (hb hby at_195) (by decide) (by decide) ?_
      show Steps p.tables e below (T105.setTop (mkF m 199 #[.val (.long p1), .second, .val (.long p2), .second, .val (.long p3), .second, .val (.long p4), .second, .val (.long p5), .second, .val (.int p6), .val (.int (1 : Int32)), .val (.ref b54), .val (.long (fMix ((fMix p1) ^^^ p2))), .second, .val (.long (fMix p1)), .second, .val (.long (fMix ((fMix p1) ^^^ p2))), .second, .val (.int (1 : Int32)), .val (.int (1 : Int32)), .unset, .unset] [(.int (1 : Int32))])) _
      refine XS.istore X105.here hx rfl (hb hby at_199) rfl (l' := #[.val (.long p1), .second, .val (.long p2), .second, .val (.long p3), .second, .val (.long p4), .second, .val (.long p5), .second, .val (.int p6), .val (.int (1 : Int32)), .val (.ref b54), .val (.long (fMix ((fMix p1) ^^^ p2))), .second, .val (.long (fMix p1)), .second, .val (.long (fMix ((fMix p1) ^^^ p2))), .second, .val (.int (1 : Int32)), .val (.int (1 : Int32)), .val (.int (1 : Int32)), .unset]) rfl ?_
      show Steps p.tables e below (T105.setTop (mkF m 201 #[.val (.long p1), .second, .val (.long p2), .second, .val (.long p3), .second, .val (.long p4), .second, .val (.long p5), .second, .val (.int p6), .val (.int (1 : Int32)), .val (.ref b54), .val (.long (fMix ((fMix p1) ^^^ p2))), .second, .val (.long (fMix p1)), .second, .val (.long (fMix ((fMix p1) ^^^ p2))), .second, .val (.int (1 : Int32)), .val (.int (1 : Int32)), .val (.int (1 : Int32)), .unset] [])) _
      refine XS.lconst X105.here hx rfl (hb hby at_201) ?_
      show Steps p.tables e below (T105.setTop (mkF m 202 #[.val (.long p1), .second, .val (.long p2), .second, .val (.long p3), .second, .val (.long p4), .second, .val (.long p5), .second, .val (.int p6), .val (.int (1 : Int32)), .val (.ref b54), .val (.long (fMix ((fMix p1) ^^^ p2))), .second, .val (.long (fMix p1)), .second, .val (.long (fMix ((fMix p1) ^^^ p2))), .second, .val (.int (1 : Int32)), .val (.int (1 : Int32)), .val (.int (1 : Int32)), .unset] [(.long (0 : Int64))])) _
      refine XS.iconst X105.here hx rfl (hb hby at_202) ?_
      exact k
    obtain ⟨T107, h107, k107, X107, e107, E107, A107, st107⟩ := newP X105 hx hZ (hw _ (List.mem_of_getElem? (i := 0) rfl)) e105 (g := (mkF m 203 #[.val (.long p1), .second, .val (.long p2), .second, .val (.long p3), .second, .val (.long p4), .second, .val (.long p5), .second, .val (.int p6), .val (.int (1 : Int32)), .val (.ref b54), .val (.long (fMix ((fMix p1) ^^^ p2))), .second, .val (.long (fMix p1)), .second, .val (.long (fMix ((fMix p1) ^^^ p2))), .second, .val (.int (1 : Int32)), .val (.int (1 : Int32)), .val (.int (1 : Int32)), .unset] [(.int (0 : Int32)), (.long (0 : Int64))])) rfl (hb hby at_203) rfl (by decide) (cap := 0) (by decide) (by decide) (by decide) (by decide)
    obtain ⟨b107, g107⟩ : ∃ z, z = h94.size := ⟨_, rfl⟩
    rw [← g107] at A107 st107
    have ne108 : b54 ≠ b107 := Nat.ne_of_lt (Nat.lt_of_lt_of_le f99.lt (Nat.le_of_eq g107.symm))
    have ne109 : b63 ≠ b107 := Nat.ne_of_lt (Nat.lt_of_lt_of_le f100.lt (Nat.le_of_eq g107.symm))
    have ne110 : b70 ≠ b107 := Nat.ne_of_lt (Nat.lt_of_lt_of_le f101.lt (Nat.le_of_eq g107.symm))
    have ne111 : b81 ≠ b107 := Nat.ne_of_lt (Nat.lt_of_lt_of_le f102.lt (Nat.le_of_eq g107.symm))
    have ne112 : b94 ≠ b107 := Nat.ne_of_lt (Nat.lt_of_lt_of_le f104.lt (Nat.le_of_eq g107.symm))
    have gn_b107 : n0 ≤ b107 := Nat.le_trans z103 (Nat.le_of_eq g107.symm)
    have f113 : Arv Z h107 b54 k54 .long (1 : Int32) [(.long p2)] (.long (0 : Int64)) := f99.ext E107
    have f114 : Arv Z h107 b63 k63 .long (0 : Int32) [] (.long (0 : Int64)) := f100.ext E107
    have f115 : Arv Z h107 b70 k70 .long (0 : Int32) [] (.long (0 : Int64)) := f101.ext E107
    have f116 : Arv Z h107 b81 k81 .long (0 : Int32) [] (.long (0 : Int64)) := f102.ext E107
    have f117 : Arv Z h107 b94 k94 .long (0 : Int32) [] (.long (0 : Int64)) := f104.ext E107
    have z118 : n0 ≤ h107.size := Nat.le_trans z103 E107.1
    have f119 : Arv Z h107 b107 k107 .long (0 : Int32) [] (.long (0 : Int64)) := (Arv.new A107 (by decide))
    obtain ⟨_, _, ⟨T120, L120, k120, n120⟩, -, X120, ⟨Lc120, hQ120, l120, y120, z120⟩, st120⟩ := Jvm.LawKit.callS X107 hx (y := (⟨"com/example/haversack/haversack/evaluation/Seeds", "derived", "(J[J)J"⟩ : MethodName)) hown (mvT hZ (hw _ (List.mem_of_getElem? (i := 1) rfl))) (mvT hZ (hw _ (List.mem_of_getElem? (i := 2) rfl))) (mvT hZ (hw _ (List.mem_of_getElem? (i := 3) rfl))) (mvT hZ (hw _ (List.mem_of_getElem? (i := 4) rfl))) (by decide) (backOf (W := 0) (rmD0 l Z a0 hw [] (0 : Int64) b107 k107 h107 n0 z118 f119) hZ (hw _ (List.mem_of_getElem? (i := 4) rfl)) (hw _ (List.mem_of_getElem? (i := 3) rfl)) (by decide) (by decide)) (g := (mkF m 205 #[.val (.long p1), .second, .val (.long p2), .second, .val (.long p3), .second, .val (.long p4), .second, .val (.long p5), .second, .val (.int p6), .val (.int (1 : Int32)), .val (.ref b54), .val (.long (fMix ((fMix p1) ^^^ p2))), .second, .val (.long (fMix p1)), .second, .val (.long (fMix ((fMix p1) ^^^ p2))), .second, .val (.int (1 : Int32)), .val (.int (1 : Int32)), .val (.int (1 : Int32)), .unset] [(.ref b107), (.long (0 : Int64))])) rfl (by rw [hml]; rfl) (argsL := [(.long (0 : Int64)), (.ref b107)]) (rest := []) (lenOf pd_1 rfl) rfl (by show 2 * 0 + _ ≤ _; exact Nat.le_of_eq rfl) (hb hby at_205) (fun _ _ => ⟨rfl, e107, (by decide : 6 + 0 ≤ _), (by decide : 1 + 0 ≤ _)⟩)
    dsimp only [Pt.U, Pt.locs, Pt.cells, Pt.slots] at X120 l120 y120 z120 st120 hQ120
    subst l120 y120 z120
    obtain ⟨rfl, N120q, e120⟩ := hQ120
    have N120 := Fr.app N105 N120q
    have sg121 : ∀ t, Steps p.tables e below (T120.setTop (mkF m 245 #[.val (.long p1), .second, .val (.long p2), .second, .val (.long p3), .second, .val (.long p4), .second, .val (.long p5), .second, .val (.int p6), .val (.int (1 : Int32)), .val (.ref b54), .val (.long (fMix ((fMix p1) ^^^ p2))), .second, .val (.long (fMix p1)), .second, .val (.long (fMix ((fMix p1) ^^^ p2))), .second, .val (.int (1 : Int32)), .val (.int (1 : Int32)), .val (.int (1 : Int32)), .val (.int (1 : Int32))] [(.int (1 : Int32))])) t → Steps p.tables e below (T120.setTop (mkF m 208 #[.val (.long p1), .second, .val (.long p2), .second, .val (.long p3), .second, .val (.long p4), .second, .val (.long p5), .second, .val (.int p6), .val (.int (1 : Int32)), .val (.ref b54), .val (.long (fMix ((fMix p1) ^^^ p2))), .second, .val (.long (fMix p1)), .second, .val (.long (fMix ((fMix p1) ^^^ p2))), .second, .val (.int (1 : Int32)), .val (.int (1 : Int32)), .val (.int (1 : Int32)), .unset] [(.long (fMix (0 : Int64)))])) t := by
      intro t k
      show Steps p.tables e below (T120.setTop (mkF m 208 #[.val (.long p1), .second, .val (.long p2), .second, .val (.long p3), .second, .val (.long p4), .second, .val (.long p5), .second, .val (.int p6), .val (.int (1 : Int32)), .val (.ref b54), .val (.long (fMix ((fMix p1) ^^^ p2))), .second, .val (.long (fMix p1)), .second, .val (.long (fMix ((fMix p1) ^^^ p2))), .second, .val (.int (1 : Int32)), .val (.int (1 : Int32)), .val (.int (1 : Int32)), .unset] [(.long (fMix (0 : Int64)))])) _
      refine XS.lconst X120.here hx rfl (hb hby at_208) ?_
      show Steps p.tables e below (T120.setTop (mkF m 209 #[.val (.long p1), .second, .val (.long p2), .second, .val (.long p3), .second, .val (.long p4), .second, .val (.long p5), .second, .val (.int p6), .val (.int (1 : Int32)), .val (.ref b54), .val (.long (fMix ((fMix p1) ^^^ p2))), .second, .val (.long (fMix p1)), .second, .val (.long (fMix ((fMix p1) ^^^ p2))), .second, .val (.int (1 : Int32)), .val (.int (1 : Int32)), .val (.int (1 : Int32)), .unset] [(.long (0 : Int64)), (.long (fMix (0 : Int64)))])) _
      refine XS.lcmp X120.here hx rfl (hb hby at_209) rfl ?_
      show Steps p.tables e below (T120.setTop (mkF m 210 #[.val (.long p1), .second, .val (.long p2), .second, .val (.long p3), .second, .val (.long p4), .second, .val (.long p5), .second, .val (.int p6), .val (.int (1 : Int32)), .val (.ref b54), .val (.long (fMix ((fMix p1) ^^^ p2))), .second, .val (.long (fMix p1)), .second, .val (.long (fMix ((fMix p1) ^^^ p2))), .second, .val (.int (1 : Int32)), .val (.int (1 : Int32)), .val (.int (1 : Int32)), .unset] [(.int (lcmpW (fMix (0 : Int64)) (0 : Int64)))])) _
      refine XS.ifNo X120.here hx rfl (hb hby at_210) rfl ((if0 _ _).trans (teq ((lw_eq _ _).mpr ((by decide +kernel) : (fMix (0 : Int64)) = (0 : Int64)))).2) ?_
      show Steps p.tables e below (T120.setTop (mkF m 213 #[.val (.long p1), .second, .val (.long p2), .second, .val (.long p3), .second, .val (.long p4), .second, .val (.long p5), .second, .val (.int p6), .val (.int (1 : Int32)), .val (.ref b54), .val (.long (fMix ((fMix p1) ^^^ p2))), .second, .val (.long (fMix p1)), .second, .val (.long (fMix ((fMix p1) ^^^ p2))), .second, .val (.int (1 : Int32)), .val (.int (1 : Int32)), .val (.int (1 : Int32)), .unset] [])) _
      refine XS.iconst X120.here hx rfl (hb hby at_213) ?_
      show Steps p.tables e below (T120.setTop (mkF m 214 #[.val (.long p1), .second, .val (.long p2), .second, .val (.long p3), .second, .val (.long p4), .second, .val (.long p5), .second, .val (.int p6), .val (.int (1 : Int32)), .val (.ref b54), .val (.long (fMix ((fMix p1) ^^^ p2))), .second, .val (.long (fMix p1)), .second, .val (.long (fMix ((fMix p1) ^^^ p2))), .second, .val (.int (1 : Int32)), .val (.int (1 : Int32)), .val (.int (1 : Int32)), .unset] [(.int (1 : Int32))])) _
      refine XS.goto X120.here hx rfl (pc0 := 214) (pc' := 218) rfl (hb hby at_214) (by decide) (by decide) ?_
      show Steps p.tables e below (T120.setTop (mkF m 218 #[.val (.long p1), .second, .val (.long p2), .second, .val (.long p3), .second, .val (.long p4), .second, .val (.long p5), .second, .val (.int p6), .val (.int (1 : Int32)), .val (.ref b54), .val (.long (fMix ((fMix p1) ^^^ p2))), .second, .val (.long (fMix p1)), .second, .val (.long (fMix ((fMix p1) ^^^ p2))), .second, .val (.int (1 : Int32)), .val (.int (1 : Int32)), .val (.int (1 : Int32)), .unset] [(.int (1 : Int32))])) _
      refine XS.istore X120.here hx rfl (hb hby at_218) rfl (l' := #[.val (.long p1), .second, .val (.long p2), .second, .val (.long p3), .second, .val (.long p4), .second, .val (.long p5), .second, .val (.int p6), .val (.int (1 : Int32)), .val (.ref b54), .val (.long (fMix ((fMix p1) ^^^ p2))), .second, .val (.long (fMix p1)), .second, .val (.long (fMix ((fMix p1) ^^^ p2))), .second, .val (.int (1 : Int32)), .val (.int (1 : Int32)), .val (.int (1 : Int32)), .val (.int (1 : Int32))]) rfl ?_
      show Steps p.tables e below (T120.setTop (mkF m 220 #[.val (.long p1), .second, .val (.long p2), .second, .val (.long p3), .second, .val (.long p4), .second, .val (.long p5), .second, .val (.int p6), .val (.int (1 : Int32)), .val (.ref b54), .val (.long (fMix ((fMix p1) ^^^ p2))), .second, .val (.long (fMix p1)), .second, .val (.long (fMix ((fMix p1) ^^^ p2))), .second, .val (.int (1 : Int32)), .val (.int (1 : Int32)), .val (.int (1 : Int32)), .val (.int (1 : Int32))] [])) _
      refine XS.iload X120.here hx rfl (hb hby at_220) rfl ?_
      show Steps p.tables e below (T120.setTop (mkF m 222 #[.val (.long p1), .second, .val (.long p2), .second, .val (.long p3), .second, .val (.long p4), .second, .val (.long p5), .second, .val (.int p6), .val (.int (1 : Int32)), .val (.ref b54), .val (.long (fMix ((fMix p1) ^^^ p2))), .second, .val (.long (fMix p1)), .second, .val (.long (fMix ((fMix p1) ^^^ p2))), .second, .val (.int (1 : Int32)), .val (.int (1 : Int32)), .val (.int (1 : Int32)), .val (.int (1 : Int32))] [(.int (1 : Int32))])) _
      refine XS.ifNo X120.here hx rfl (hb hby at_222) rfl ((if0 _ _).trans (feq (by decide : ¬ ((1 : Int32) = (0 : Int32)))).1) ?_
      show Steps p.tables e below (T120.setTop (mkF m 225 #[.val (.long p1), .second, .val (.long p2), .second, .val (.long p3), .second, .val (.long p4), .second, .val (.long p5), .second, .val (.int p6), .val (.int (1 : Int32)), .val (.ref b54), .val (.long (fMix ((fMix p1) ^^^ p2))), .second, .val (.long (fMix p1)), .second, .val (.long (fMix ((fMix p1) ^^^ p2))), .second, .val (.int (1 : Int32)), .val (.int (1 : Int32)), .val (.int (1 : Int32)), .val (.int (1 : Int32))] [])) _
      refine XS.iload X120.here hx rfl (hb hby at_225) rfl ?_
      show Steps p.tables e below (T120.setTop (mkF m 227 #[.val (.long p1), .second, .val (.long p2), .second, .val (.long p3), .second, .val (.long p4), .second, .val (.long p5), .second, .val (.int p6), .val (.int (1 : Int32)), .val (.ref b54), .val (.long (fMix ((fMix p1) ^^^ p2))), .second, .val (.long (fMix p1)), .second, .val (.long (fMix ((fMix p1) ^^^ p2))), .second, .val (.int (1 : Int32)), .val (.int (1 : Int32)), .val (.int (1 : Int32)), .val (.int (1 : Int32))] [(.int (1 : Int32))])) _
      refine XS.ifNo X120.here hx rfl (hb hby at_227) rfl ((if0 _ _).trans (feq (by decide : ¬ ((1 : Int32) = (0 : Int32)))).1) ?_
      show Steps p.tables e below (T120.setTop (mkF m 230 #[.val (.long p1), .second, .val (.long p2), .second, .val (.long p3), .second, .val (.long p4), .second, .val (.long p5), .second, .val (.int p6), .val (.int (1 : Int32)), .val (.ref b54), .val (.long (fMix ((fMix p1) ^^^ p2))), .second, .val (.long (fMix p1)), .second, .val (.long (fMix ((fMix p1) ^^^ p2))), .second, .val (.int (1 : Int32)), .val (.int (1 : Int32)), .val (.int (1 : Int32)), .val (.int (1 : Int32))] [])) _
      refine XS.iload X120.here hx rfl (hb hby at_230) rfl ?_
      show Steps p.tables e below (T120.setTop (mkF m 232 #[.val (.long p1), .second, .val (.long p2), .second, .val (.long p3), .second, .val (.long p4), .second, .val (.long p5), .second, .val (.int p6), .val (.int (1 : Int32)), .val (.ref b54), .val (.long (fMix ((fMix p1) ^^^ p2))), .second, .val (.long (fMix p1)), .second, .val (.long (fMix ((fMix p1) ^^^ p2))), .second, .val (.int (1 : Int32)), .val (.int (1 : Int32)), .val (.int (1 : Int32)), .val (.int (1 : Int32))] [(.int (1 : Int32))])) _
      refine XS.ifNo X120.here hx rfl (hb hby at_232) rfl ((if0 _ _).trans (feq (by decide : ¬ ((1 : Int32) = (0 : Int32)))).1) ?_
      show Steps p.tables e below (T120.setTop (mkF m 235 #[.val (.long p1), .second, .val (.long p2), .second, .val (.long p3), .second, .val (.long p4), .second, .val (.long p5), .second, .val (.int p6), .val (.int (1 : Int32)), .val (.ref b54), .val (.long (fMix ((fMix p1) ^^^ p2))), .second, .val (.long (fMix p1)), .second, .val (.long (fMix ((fMix p1) ^^^ p2))), .second, .val (.int (1 : Int32)), .val (.int (1 : Int32)), .val (.int (1 : Int32)), .val (.int (1 : Int32))] [])) _
      refine XS.iload X120.here hx rfl (hb hby at_235) rfl ?_
      show Steps p.tables e below (T120.setTop (mkF m 237 #[.val (.long p1), .second, .val (.long p2), .second, .val (.long p3), .second, .val (.long p4), .second, .val (.long p5), .second, .val (.int p6), .val (.int (1 : Int32)), .val (.ref b54), .val (.long (fMix ((fMix p1) ^^^ p2))), .second, .val (.long (fMix p1)), .second, .val (.long (fMix ((fMix p1) ^^^ p2))), .second, .val (.int (1 : Int32)), .val (.int (1 : Int32)), .val (.int (1 : Int32)), .val (.int (1 : Int32))] [(.int (1 : Int32))])) _
      refine XS.ifNo X120.here hx rfl (hb hby at_237) rfl ((if0 _ _).trans (feq (by decide : ¬ ((1 : Int32) = (0 : Int32)))).1) ?_
      show Steps p.tables e below (T120.setTop (mkF m 240 #[.val (.long p1), .second, .val (.long p2), .second, .val (.long p3), .second, .val (.long p4), .second, .val (.long p5), .second, .val (.int p6), .val (.int (1 : Int32)), .val (.ref b54), .val (.long (fMix ((fMix p1) ^^^ p2))), .second, .val (.long (fMix p1)), .second, .val (.long (fMix ((fMix p1) ^^^ p2))), .second, .val (.int (1 : Int32)), .val (.int (1 : Int32)), .val (.int (1 : Int32)), .val (.int (1 : Int32))] [])) _
      refine XS.iconst X120.here hx rfl (hb hby at_240) ?_
      show Steps p.tables e below (T120.setTop (mkF m 241 #[.val (.long p1), .second, .val (.long p2), .second, .val (.long p3), .second, .val (.long p4), .second, .val (.long p5), .second, .val (.int p6), .val (.int (1 : Int32)), .val (.ref b54), .val (.long (fMix ((fMix p1) ^^^ p2))), .second, .val (.long (fMix p1)), .second, .val (.long (fMix ((fMix p1) ^^^ p2))), .second, .val (.int (1 : Int32)), .val (.int (1 : Int32)), .val (.int (1 : Int32)), .val (.int (1 : Int32))] [(.int (1 : Int32))])) _
      refine XS.goto X120.here hx rfl (pc0 := 241) (pc' := 245) rfl (hb hby at_241) (by decide) (by decide) ?_
      exact k
    obtain ⟨fs, hr, hrun, hended, hW, hsame⟩ := X120.leave (v := some (.int (1 : Int32))) (fun h => by rw [Bd.returns] at h; cases h)
    refine ⟨_, _, pre0 _ ?_, hrun, hended, _, _, rfl, ?_, ⟨_, rfl⟩, hW, hsame.mono (by decide) (by decide)⟩
    · show Steps p.tables e below (s₁.setTop (mkF m 0 #[.val (.long p1), .second, .val (.long p2), .second, .val (.long p3), .second, .val (.long p4), .second, .val (.long p5), .second, .val (.int p6), .unset, .unset, .unset, .unset, .unset, .unset, .unset, .unset, .unset, .unset, .unset, .unset] [])) _
      refine sg1 _ ?_
      show Steps p.tables e below (s₁.setTop (mkF m 6 #[.val (.long p1), .second, .val (.long p2), .second, .val (.long p3), .second, .val (.long p4), .second, .val (.long p5), .second, .val (.int p6), .val (.int (1 : Int32)), .unset, .unset, .unset, .unset, .unset, .unset, .unset, .unset, .unset, .unset, .unset] [])) _
      refine sg53 _ ?_
      show Steps p.tables e below (s₁.setTop (mkF m 8 #[.val (.long p1), .second, .val (.long p2), .second, .val (.long p3), .second, .val (.long p4), .second, .val (.long p5), .second, .val (.int p6), .val (.int (1 : Int32)), .unset, .unset, .unset, .unset, .unset, .unset, .unset, .unset, .unset, .unset, .unset] [(.int (1 : Int32))])) _
      refine st54 _ ?_
      show Steps p.tables e below (T54.setTop (mkF m 10 #[.val (.long p1), .second, .val (.long p2), .second, .val (.long p3), .second, .val (.long p4), .second, .val (.long p5), .second, .val (.int p6), .val (.int (1 : Int32)), .unset, .unset, .unset, .unset, .unset, .unset, .unset, .unset, .unset, .unset, .unset] [(.ref b54)])) _
      refine sg57 _ ?_
      show Steps p.tables e below (T54.setTop (mkF m 21 #[.val (.long p1), .second, .val (.long p2), .second, .val (.long p3), .second, .val (.long p4), .second, .val (.long p5), .second, .val (.int p6), .val (.int (1 : Int32)), .val (.ref b54), .unset, .unset, .unset, .unset, .unset, .unset, .unset, .unset, .unset, .unset] [(.long p2), (.int (0 : Int32)), (.ref b54)])) _
      refine st58 _ ?_
      show Steps p.tables e below (T58.setTop (mkF m 22 #[.val (.long p1), .second, .val (.long p2), .second, .val (.long p3), .second, .val (.long p4), .second, .val (.long p5), .second, .val (.int p6), .val (.int (1 : Int32)), .val (.ref b54), .unset, .unset, .unset, .unset, .unset, .unset, .unset, .unset, .unset, .unset] [])) _
      refine sg60 _ ?_
      show Steps p.tables e below (T58.setTop (mkF m 49 #[.val (.long p1), .second, .val (.long p2), .second, .val (.long p3), .second, .val (.long p4), .second, .val (.long p5), .second, .val (.int p6), .val (.int (1 : Int32)), .val (.ref b54), .unset, .unset, .unset, .unset, .unset, .unset, .unset, .unset, .unset, .unset] [(.ref b54), (.long p1)])) _
      refine st61 _ ?_
      show Steps p.tables e below (T61.setTop (mkF m 52 #[.val (.long p1), .second, .val (.long p2), .second, .val (.long p3), .second, .val (.long p4), .second, .val (.long p5), .second, .val (.int p6), .val (.int (1 : Int32)), .val (.ref b54), .unset, .unset, .unset, .unset, .unset, .unset, .unset, .unset, .unset, .unset] [(.long (fMix ((fMix p1) ^^^ p2)))])) _
      refine sg62 _ ?_
      show Steps p.tables e below (T61.setTop (mkF m 56 #[.val (.long p1), .second, .val (.long p2), .second, .val (.long p3), .second, .val (.long p4), .second, .val (.long p5), .second, .val (.int p6), .val (.int (1 : Int32)), .val (.ref b54), .val (.long (fMix ((fMix p1) ^^^ p2))), .second, .unset, .unset, .unset, .unset, .unset, .unset, .unset, .unset] [(.int (0 : Int32)), (.long p1)])) _
      refine st63 _ ?_
      show Steps p.tables e below (T63.setTop (mkF m 58 #[.val (.long p1), .second, .val (.long p2), .second, .val (.long p3), .second, .val (.long p4), .second, .val (.long p5), .second, .val (.int p6), .val (.int (1 : Int32)), .val (.ref b54), .val (.long (fMix ((fMix p1) ^^^ p2))), .second, .unset, .unset, .unset, .unset, .unset, .unset, .unset, .unset] [(.ref b63), (.long p1)])) _
      refine st68 _ ?_
      show Steps p.tables e below (T68.setTop (mkF m 61 #[.val (.long p1), .second, .val (.long p2), .second, .val (.long p3), .second, .val (.long p4), .second, .val (.long p5), .second, .val (.int p6), .val (.int (1 : Int32)), .val (.ref b54), .val (.long (fMix ((fMix p1) ^^^ p2))), .second, .unset, .unset, .unset, .unset, .unset, .unset, .unset, .unset] [(.long (fMix p1))])) _
      refine sg69 _ ?_
      show Steps p.tables e below (T68.setTop (mkF m 77 #[.val (.long p1), .second, .val (.long p2), .second, .val (.long p3), .second, .val (.long p4), .second, .val (.long p5), .second, .val (.int p6), .val (.int (1 : Int32)), .val (.ref b54), .val (.long (fMix ((fMix p1) ^^^ p2))), .second, .val (.long (fMix p1)), .second, .val (.long (fMix p1)), .second, .unset, .unset, .unset, .unset] [(.int (0 : Int32)), (.long ((fMix p1) ^^^ p2))])) _
      refine st70 _ ?_
      show Steps p.tables e below (T70.setTop (mkF m 79 #[.val (.long p1), .second, .val (.long p2), .second, .val (.long p3), .second, .val (.long p4), .second, .val (.long p5), .second, .val (.int p6), .val (.int (1 : Int32)), .val (.ref b54), .val (.long (fMix ((fMix p1) ^^^ p2))), .second, .val (.long (fMix p1)), .second, .val (.long (fMix p1)), .second, .unset, .unset, .unset, .unset] [(.ref b70), (.long ((fMix p1) ^^^ p2))])) _
      refine st77 _ ?_
      show Steps p.tables e below (T77.setTop (mkF m 82 #[.val (.long p1), .second, .val (.long p2), .second, .val (.long p3), .second, .val (.long p4), .second, .val (.long p5), .second, .val (.int p6), .val (.int (1 : Int32)), .val (.ref b54), .val (.long (fMix ((fMix p1) ^^^ p2))), .second, .val (.long (fMix p1)), .second, .val (.long (fMix p1)), .second, .unset, .unset, .unset, .unset] [(.long (fMix ((fMix p1) ^^^ p2)))])) _
      refine sg78 _ ?_
      show Steps p.tables e below (T77.setTop (mkF m 141 #[.val (.long p1), .second, .val (.long p2), .second, .val (.long p3), .second, .val (.long p4), .second, .val (.long p5), .second, .val (.int p6), .val (.int (1 : Int32)), .val (.ref b54), .val (.long (fMix ((fMix p1) ^^^ p2))), .second, .val (.long (fMix p1)), .second, .val (.long (fMix ((fMix p1) ^^^ p2))), .second, .val (.int (1 : Int32)), .unset, .unset, .unset] [(.int (lcmpW p1 p5))])) _
      refine sg79 _ ?_
      show Steps p.tables e below (T77.setTop (mkF m 149 #[.val (.long p1), .second, .val (.long p2), .second, .val (.long p3), .second, .val (.long p4), .second, .val (.long p5), .second, .val (.int p6), .val (.int (1 : Int32)), .val (.ref b54), .val (.long (fMix ((fMix p1) ^^^ p2))), .second, .val (.long (fMix p1)), .second, .val (.long (fMix ((fMix p1) ^^^ p2))), .second, .val (.int (1 : Int32)), .unset, .unset, .unset] [(.int v1)])) _
      refine sg80 _ ?_
      show Steps p.tables e below (T77.setTop (mkF m 154 #[.val (.long p1), .second, .val (.long p2), .second, .val (.long p3), .second, .val (.long p4), .second, .val (.long p5), .second, .val (.int p6), .val (.int (1 : Int32)), .val (.ref b54), .val (.long (fMix ((fMix p1) ^^^ p2))), .second, .val (.long (fMix p1)), .second, .val (.long (fMix ((fMix p1) ^^^ p2))), .second, .val (.int (1 : Int32)), .unset, .unset, .unset] [(.int (0 : Int32)), (.long p5), (.long (fMix p1)), (.int v1)])) _
      refine st81 _ ?_
      show Steps p.tables e below (T81.setTop (mkF m 156 #[.val (.long p1), .second, .val (.long p2), .second, .val (.long p3), .second, .val (.long p4), .second, .val (.long p5), .second, .val (.int p6), .val (.int (1 : Int32)), .val (.ref b54), .val (.long (fMix ((fMix p1) ^^^ p2))), .second, .val (.long (fMix p1)), .second, .val (.long (fMix ((fMix p1) ^^^ p2))), .second, .val (.int (1 : Int32)), .unset, .unset, .unset] [(.ref b81), (.long p5), (.long (fMix p1)), (.int v1)])) _
      refine st90 _ ?_
      show Steps p.tables e below (T90.setTop (mkF m 159 #[.val (.long p1), .second, .val (.long p2), .second, .val (.long p3), .second, .val (.long p4), .second, .val (.long p5), .second, .val (.int p6), .val (.int (1 : Int32)), .val (.ref b54), .val (.long (fMix ((fMix p1) ^^^ p2))), .second, .val (.long (fMix p1)), .second, .val (.long (fMix ((fMix p1) ^^^ p2))), .second, .val (.int (1 : Int32)), .unset, .unset, .unset] [(.long (fMix p5)), (.long (fMix p1)), (.int v1)])) _
      refine sg91 _ ?_
      show Steps p.tables e below (T90.setTop (mkF m 160 #[.val (.long p1), .second, .val (.long p2), .second, .val (.long p3), .second, .val (.long p4), .second, .val (.long p5), .second, .val (.int p6), .val (.int (1 : Int32)), .val (.ref b54), .val (.long (fMix ((fMix p1) ^^^ p2))), .second, .val (.long (fMix p1)), .second, .val (.long (fMix ((fMix p1) ^^^ p2))), .second, .val (.int (1 : Int32)), .unset, .unset, .unset] [(.int (lcmpW (fMix p1) (fMix p5))), (.int v1)])) _
      refine sg92 _ ?_
      show Steps p.tables e below (T90.setTop (mkF m 168 #[.val (.long p1), .second, .val (.long p2), .second, .val (.long p3), .second, .val (.long p4), .second, .val (.long p5), .second, .val (.int p6), .val (.int (1 : Int32)), .val (.ref b54), .val (.long (fMix ((fMix p1) ^^^ p2))), .second, .val (.long (fMix p1)), .second, .val (.long (fMix ((fMix p1) ^^^ p2))), .second, .val (.int (1 : Int32)), .unset, .unset, .unset] [(.int v2), (.int v1)])) _
      refine sg93 _ ?_
      show Steps p.tables e below (T90.setTop (mkF m 182 #[.val (.long p1), .second, .val (.long p2), .second, .val (.long p3), .second, .val (.long p4), .second, .val (.long p5), .second, .val (.int p6), .val (.int (1 : Int32)), .val (.ref b54), .val (.long (fMix ((fMix p1) ^^^ p2))), .second, .val (.long (fMix p1)), .second, .val (.long (fMix ((fMix p1) ^^^ p2))), .second, .val (.int (1 : Int32)), .val (.int (1 : Int32)), .unset, .unset] [(.int (0 : Int32)), (.long (-7046029254386353131 : Int64))])) _
      refine st94 _ ?_
      show Steps p.tables e below (T94.setTop (mkF m 184 #[.val (.long p1), .second, .val (.long p2), .second, .val (.long p3), .second, .val (.long p4), .second, .val (.long p5), .second, .val (.int p6), .val (.int (1 : Int32)), .val (.ref b54), .val (.long (fMix ((fMix p1) ^^^ p2))), .second, .val (.long (fMix p1)), .second, .val (.long (fMix ((fMix p1) ^^^ p2))), .second, .val (.int (1 : Int32)), .val (.int (1 : Int32)), .unset, .unset] [(.ref b94), (.long (-7046029254386353131 : Int64))])) _
      refine st105 _ ?_
      show Steps p.tables e below (T105.setTop (mkF m 187 #[.val (.long p1), .second, .val (.long p2), .second, .val (.long p3), .second, .val (.long p4), .second, .val (.long p5), .second, .val (.int p6), .val (.int (1 : Int32)), .val (.ref b54), .val (.long (fMix ((fMix p1) ^^^ p2))), .second, .val (.long (fMix p1)), .second, .val (.long (fMix ((fMix p1) ^^^ p2))), .second, .val (.int (1 : Int32)), .val (.int (1 : Int32)), .unset, .unset] [(.long (fMix (-7046029254386353131 : Int64)))])) _
      refine sg106 _ ?_
      show Steps p.tables e below (T105.setTop (mkF m 203 #[.val (.long p1), .second, .val (.long p2), .second, .val (.long p3), .second, .val (.long p4), .second, .val (.long p5), .second, .val (.int p6), .val (.int (1 : Int32)), .val (.ref b54), .val (.long (fMix ((fMix p1) ^^^ p2))), .second, .val (.long (fMix p1)), .second, .val (.long (fMix ((fMix p1) ^^^ p2))), .second, .val (.int (1 : Int32)), .val (.int (1 : Int32)), .val (.int (1 : Int32)), .unset] [(.int (0 : Int32)), (.long (0 : Int64))])) _
      refine st107 _ ?_
      show Steps p.tables e below (T107.setTop (mkF m 205 #[.val (.long p1), .second, .val (.long p2), .second, .val (.long p3), .second, .val (.long p4), .second, .val (.long p5), .second, .val (.int p6), .val (.int (1 : Int32)), .val (.ref b54), .val (.long (fMix ((fMix p1) ^^^ p2))), .second, .val (.long (fMix p1)), .second, .val (.long (fMix ((fMix p1) ^^^ p2))), .second, .val (.int (1 : Int32)), .val (.int (1 : Int32)), .val (.int (1 : Int32)), .unset] [(.ref b107), (.long (0 : Int64))])) _
      refine st120 _ ?_
      show Steps p.tables e below (T120.setTop (mkF m 208 #[.val (.long p1), .second, .val (.long p2), .second, .val (.long p3), .second, .val (.long p4), .second, .val (.long p5), .second, .val (.int p6), .val (.int (1 : Int32)), .val (.ref b54), .val (.long (fMix ((fMix p1) ^^^ p2))), .second, .val (.long (fMix p1)), .second, .val (.long (fMix ((fMix p1) ^^^ p2))), .second, .val (.int (1 : Int32)), .val (.int (1 : Int32)), .val (.int (1 : Int32)), .unset] [(.long (fMix (0 : Int64)))])) _
      refine sg121 _ ?_
      show Steps p.tables e below (T120.setTop (mkF m 245 #[.val (.long p1), .second, .val (.long p2), .second, .val (.long p3), .second, .val (.long p4), .second, .val (.long p5), .second, .val (.int p6), .val (.int (1 : Int32)), .val (.ref b54), .val (.long (fMix ((fMix p1) ^^^ p2))), .second, .val (.long (fMix p1)), .second, .val (.long (fMix ((fMix p1) ^^^ p2))), .second, .val (.int (1 : Int32)), .val (.int (1 : Int32)), .val (.int (1 : Int32)), .val (.int (1 : Int32))] [(.int (1 : Int32))])) _
      exact retN X120 hx (t := .boolean) Bd.returns (by simp) (hb hby at_245) hr
    · show Q0 Z p1 p2 p3 p4 p5 p6 h0 n0 _ T120.heap _
      rw [e120]
      exact ⟨rfl, N120⟩
  · rw [hn] at sg1
    have sg122 : ∀ t, Steps p.tables e below (s₁.setTop (mkF m 8 #[.val (.long p1), .second, .val (.long p2), .second, .val (.long p3), .second, .val (.long p4), .second, .val (.long p5), .second, .val (.int p6), .val (.int (2 : Int32)), .unset, .unset, .unset, .unset, .unset, .unset, .unset, .unset, .unset, .unset, .unset] [(.int (2 : Int32))])) t → Steps p.tables e below (s₁.setTop (mkF m 6 #[.val (.long p1), .second, .val (.long p2), .second, .val (.long p3), .second, .val (.long p4), .second, .val (.long p5), .second, .val (.int p6), .val (.int (2 : Int32)), .unset, .unset, .unset, .unset, .unset, .unset, .unset, .unset, .unset, .unset, .unset] [])) t := by
      intro t k
      show Steps p.tables e below (s₁.setTop (mkF m 6 #[.val (.long p1), .second, .val (.long p2), .second, .val (.long p3), .second, .val (.long p4), .second, .val (.long p5), .second, .val (.int p6), .val (.int (2 : Int32)), .unset, .unset, .unset, .unset, .unset, .unset, .unset, .unset, .unset, .unset, .unset] [])) _
      refine XS.iload X0.here hx rfl (hb hby at_6) rfl ?_
      exact k
    obtain ⟨T123, h123, k123, X123, e123, E123, A123, st123⟩ := newP X0 hx hZ (hw _ (List.mem_of_getElem? (i := 0) rfl)) e0 (g := (mkF m 8 #[.val (.long p1), .second, .val (.long p2), .second, .val (.long p3), .second, .val (.long p4), .second, .val (.long p5), .second, .val (.int p6), .val (.int (2 : Int32)), .unset, .unset, .unset, .unset, .unset, .unset, .unset, .unset, .unset, .unset, .unset] [(.int (2 : Int32))])) rfl (hb hby at_8) rfl (by decide) (cap := 2) (by decide) (by decide) (by decide) (by decide)
    obtain ⟨b123, g123⟩ : ∃ z, z = h0.size := ⟨_, rfl⟩
    rw [← g123] at A123 st123
    have gn_b123 : n0 ≤ b123 := Nat.le_trans Z0 (Nat.le_of_eq g123.symm)
    have z124 : n0 ≤ h123.size := Nat.le_trans Z0 E123.1
    have f125 : Arv Z h123 b123 k123 .long (2 : Int32) [(.long (0 : Int64)), (.long (0 : Int64))] (.long (0 : Int64)) := (Arv.new A123 (by decide)).pad (pad_rep [] (.long (0 : Int64)) 2)
    have sg126 : ∀ t, Steps p.tables e below (T123.setTop (mkF m 21 #[.val (.long p1), .second, .val (.long p2), .second, .val (.long p3), .second, .val (.long p4), .second, .val (.long p5), .second, .val (.int p6), .val (.int (2 : Int32)), .val (.ref b123), .unset, .unset, .unset, .unset, .unset, .unset, .unset, .unset, .unset, .unset] [(.long p2), (.int (0 : Int32)), (.ref b123)])) t → Steps p.tables e below (T123.setTop (mkF m 10 #[.val (.long p1), .second, .val (.long p2), .second, .val (.long p3), .second, .val (.long p4), .second, .val (.long p5), .second, .val (.int p6), .val (.int (2 : Int32)), .unset, .unset, .unset, .unset, .unset, .unset, .unset, .unset, .unset, .unset, .unset] [(.ref b123)])) t := by
      intro t k
      show Steps p.tables e below (T123.setTop (mkF m 10 #[.val (.long p1), .second, .val (.long p2), .second, .val (.long p3), .second, .val (.long p4), .second, .val (.long p5), .second, .val (.int p6), .val (.int (2 : Int32)), .unset, .unset, .unset, .unset, .unset, .unset, .unset, .unset, .unset, .unset, .unset] [(.ref b123)])) _
      refine XS.astore X123.here hx rfl (hb hby at_10) rfl rfl (l' := #[.val (.long p1), .second, .val (.long p2), .second, .val (.long p3), .second, .val (.long p4), .second, .val (.long p5), .second, .val (.int p6), .val (.int (2 : Int32)), .val (.ref b123), .unset, .unset, .unset, .unset, .unset, .unset, .unset, .unset, .unset, .unset]) rfl ?_
      show Steps p.tables e below (T123.setTop (mkF m 12 #[.val (.long p1), .second, .val (.long p2), .second, .val (.long p3), .second, .val (.long p4), .second, .val (.long p5), .second, .val (.int p6), .val (.int (2 : Int32)), .val (.ref b123), .unset, .unset, .unset, .unset, .unset, .unset, .unset, .unset, .unset, .unset] [])) _
      refine XS.iload X123.here hx rfl (hb hby at_12) rfl ?_
      show Steps p.tables e below (T123.setTop (mkF m 14 #[.val (.long p1), .second, .val (.long p2), .second, .val (.long p3), .second, .val (.long p4), .second, .val (.long p5), .second, .val (.int p6), .val (.int (2 : Int32)), .val (.ref b123), .unset, .unset, .unset, .unset, .unset, .unset, .unset, .unset, .unset, .unset] [(.int (2 : Int32))])) _
      refine XS.ifNo X123.here hx rfl (hb hby at_14) rfl ((if0 _ _).trans (tlt (by decide : (0 : Int32) < (2 : Int32))).2.2.2) ?_
      show Steps p.tables e below (T123.setTop (mkF m 17 #[.val (.long p1), .second, .val (.long p2), .second, .val (.long p3), .second, .val (.long p4), .second, .val (.long p5), .second, .val (.int p6), .val (.int (2 : Int32)), .val (.ref b123), .unset, .unset, .unset, .unset, .unset, .unset, .unset, .unset, .unset, .unset] [])) _
      refine XS.aload X123.here hx rfl (hb hby at_17) rfl rfl ?_
      show Steps p.tables e below (T123.setTop (mkF m 19 #[.val (.long p1), .second, .val (.long p2), .second, .val (.long p3), .second, .val (.long p4), .second, .val (.long p5), .second, .val (.int p6), .val (.int (2 : Int32)), .val (.ref b123), .unset, .unset, .unset, .unset, .unset, .unset, .unset, .unset, .unset, .unset] [(.ref b123)])) _
      refine XS.iconst X123.here hx rfl (hb hby at_19) ?_
      show Steps p.tables e below (T123.setTop (mkF m 20 #[.val (.long p1), .second, .val (.long p2), .second, .val (.long p3), .second, .val (.long p4), .second, .val (.long p5), .second, .val (.int p6), .val (.int (2 : Int32)), .val (.ref b123), .unset, .unset, .unset, .unset, .unset, .unset, .unset, .unset, .unset, .unset] [(.int (0 : Int32)), (.ref b123)])) _
      refine XS.lloadN X123.here hx rfl (hb hby at_20) rfl ?_
      exact k
    obtain ⟨cl127, Ar127, q127, Sz127, Nn127, Hs127, G127⟩ := id f125
    have hin127 : ¬ ((0 : Int32) < 0 ∨ cl127.slots.size ≤ ((0 : Int32)).toNatClampNeg) := inb_of Sz127 ⟨by decide, by decide⟩
    obtain ⟨T127, h127, X127, e127, W127, st127⟩ := stJ X123 hx hZ e123 Ar127 (j := (0 : Int32)) hin127 (g := (mkF m 21 #[.val (.long p1), .second, .val (.long p2), .second, .val (.long p3), .second, .val (.long p4), .second, .val (.long p5), .second, .val (.int p6), .val (.int (2 : Int32)), .val (.ref b123), .unset, .unset, .unset, .unset, .unset, .unset, .unset, .unset, .unset, .unset] [(.long p2), (.int (0 : Int32)), (.ref b123)])) rfl rfl (hb hby at_21)
    have V127 : Arv Z h127 b123 k123 .long (2 : Int32) [(.long p2), (.long (0 : Int64))] (.long (0 : Int64)) := Arv.set Ar127 q127 Sz127 Nn127 Hs127 G127 rfl W127 0 rfl (Nat.le_of_ble_eq_true rfl)
    have N127 := Fr.snoc X127 N0 gn_b123
    have z128 : n0 ≤ h127.size := Nat.le_trans z124 (Keep.of_wr W127).1
    have sg129 : ∀ t, Steps p.tables e below (T127.setTop (mkF m 33 #[.val (.long p1), .second, .val (.long p2), .second, .val (.long p3), .second, .val (.long p4), .second, .val (.long p5), .second, .val (.int p6), .val (.int (2 : Int32)), .val (.ref b123), .unset, .unset, .unset, .unset, .unset, .unset, .unset, .unset, .unset, .unset] [(.long p3), (.int (1 : Int32)), (.ref b123)])) t → Steps p.tables e below (T127.setTop (mkF m 22 #[.val (.long p1), .second, .val (.long p2), .second, .val (.long p3), .second, .val (.long p4), .second, .val (.long p5), .second, .val (.int p6), .val (.int (2 : Int32)), .val (.ref b123), .unset, .unset, .unset, .unset, .unset, .unset, .unset, .unset, .unset, .unset] [])) t := by
      intro t k
      show Steps p.tables e below (T127.setTop (mkF m 22 #[.val (.long p1), .second, .val (.long p2), .second, .val (.long p3), .second, .val (.long p4), .second, .val (.long p5), .second, .val (.int p6), .val (.int (2 : Int32)), .val (.ref b123), .unset, .unset, .unset, .unset, .unset, .unset, .unset, .unset, .unset, .unset] [])) _
      refine XS.iload X127.here hx rfl (hb hby at_22) rfl ?_
      show Steps p.tables e below (T127.setTop (mkF m 24 #[.val (.long p1), .second, .val (.long p2), .second, .val (.long p3), .second, .val (.long p4), .second, .val (.long p5), .second, .val (.int p6), .val (.int (2 : Int32)), .val (.ref b123), .unset, .unset, .unset, .unset, .unset, .unset, .unset, .unset, .unset, .unset] [(.int (2 : Int32))])) _
      refine XS.iconst X127.here hx rfl (hb hby at_24) ?_
      show Steps p.tables e below (T127.setTop (mkF m 25 #[.val (.long p1), .second, .val (.long p2), .second, .val (.long p3), .second, .val (.long p4), .second, .val (.long p5), .second, .val (.int p6), .val (.int (2 : Int32)), .val (.ref b123), .unset, .unset, .unset, .unset, .unset, .unset, .unset, .unset, .unset, .unset] [(.int (1 : Int32)), (.int (2 : Int32))])) _
      refine XS.icmpNo X127.here hx rfl (hb hby at_25) rfl (tlt (by decide : (1 : Int32) < (2 : Int32))).2.2.2 ?_
      show Steps p.tables e below (T127.setTop (mkF m 28 #[.val (.long p1), .second, .val (.long p2), .second, .val (.long p3), .second, .val (.long p4), .second, .val (.long p5), .second, .val (.int p6), .val (.int (2 : Int32)), .val (.ref b123), .unset, .unset, .unset, .unset, .unset, .unset, .unset, .unset, .unset, .unset] [])) _
      refine XS.aload X127.here hx rfl (hb hby at_28) rfl rfl ?_
      show Steps p.tables e below (T127.setTop (mkF m 30 #[.val (.long p1), .second, .val (.long p2), .second, .val (.long p3), .second, .val (.long p4), .second, .val (.long p5), .second, .val (.int p6), .val (.int (2 : Int32)), .val (.ref b123), .unset, .unset, .unset, .unset, .unset, .unset, .unset, .unset, .unset, .unset] [(.ref b123)])) _
      refine XS.iconst X127.here hx rfl (hb hby at_30) ?_
      show Steps p.tables e below (T127.setTop (mkF m 31 #[.val (.long p1), .second, .val (.long p2), .second, .val (.long p3), .second, .val (.long p4), .second, .val (.long p5), .second, .val (.int p6), .val (.int (2 : Int32)), .val (.ref b123), .unset, .unset, .unset, .unset, .unset, .unset, .unset, .unset, .unset, .unset] [(.int (1 : Int32)), (.ref b123)])) _
      refine XS.lload X127.here hx rfl (hb hby at_31) rfl ?_
      exact k
    obtain ⟨cl130, Ar130, q130, Sz130, Nn130, Hs130, G130⟩ := id V127
    have hin130 : ¬ ((1 : Int32) < 0 ∨ cl130.slots.size ≤ ((1 : Int32)).toNatClampNeg) := inb_of Sz130 ⟨by decide, by decide⟩
    obtain ⟨T130, h130, X130, e130, W130, st130⟩ := stJ X127 hx hZ e127 Ar130 (j := (1 : Int32)) hin130 (g := (mkF m 33 #[.val (.long p1), .second, .val (.long p2), .second, .val (.long p3), .second, .val (.long p4), .second, .val (.long p5), .second, .val (.int p6), .val (.int (2 : Int32)), .val (.ref b123), .unset, .unset, .unset, .unset, .unset, .unset, .unset, .unset, .unset, .unset] [(.long p3), (.int (1 : Int32)), (.ref b123)])) rfl rfl (hb hby at_33)
    have V130 : Arv Z h130 b123 k123 .long (2 : Int32) [(.long p2), (.long p3)] (.long (0 : Int64)) := Arv.set Ar130 q130 Sz130 Nn130 Hs130 G130 rfl W130 1 rfl (Nat.le_of_ble_eq_true rfl)
    have N130 := Fr.snoc X130 N127 gn_b123
    have z131 : n0 ≤ h130.size := Nat.le_trans z128 (Keep.of_wr W130).1
    have sg132 : ∀ t, Steps p.tables e below (T130.setTop (mkF m 49 #[.val (.long p1), .second, .val (.long p2), .second, .val (.long p3), .second, .val (.long p4), .second, .val (.long p5), .second, .val (.int p6), .val (.int (2 : Int32)), .val (.ref b123), .unset, .unset, .unset, .unset, .unset, .unset, .unset, .unset, .unset, .unset] [(.ref b123), (.long p1)])) t → Steps p.tables e below (T130.setTop (mkF m 34 #[.val (.long p1), .second, .val (.long p2), .second, .val (.long p3), .second, .val (.long p4), .second, .val (.long p5), .second, .val (.int p6), .val (.int (2 : Int32)), .val (.ref b123), .unset, .unset, .unset, .unset, .unset, .unset, .unset, .unset, .unset, .unset] [])) t := by
      intro t k
      show Steps p.tables e below (T130.setTop (mkF m 34 #[.val (.long p1), .second, .val (.long p2), .second, .val (.long p3), .second, .val (.long p4), .second, .val (.long p5), .second, .val (.int p6), .val (.int (2 : Int32)), .val (.ref b123), .unset, .unset, .unset, .unset, .unset, .unset, .unset, .unset, .unset, .unset] [])) _
      refine XS.iload X130.here hx rfl (hb hby at_34) rfl ?_
      show Steps p.tables e below (T130.setTop (mkF m 36 #[.val (.long p1), .second, .val (.long p2), .second, .val (.long p3), .second, .val (.long p4), .second, .val (.long p5), .second, .val (.int p6), .val (.int (2 : Int32)), .val (.ref b123), .unset, .unset, .unset, .unset, .unset, .unset, .unset, .unset, .unset, .unset] [(.int (2 : Int32))])) _
      refine XS.iconst X130.here hx rfl (hb hby at_36) ?_
      show Steps p.tables e below (T130.setTop (mkF m 37 #[.val (.long p1), .second, .val (.long p2), .second, .val (.long p3), .second, .val (.long p4), .second, .val (.long p5), .second, .val (.int p6), .val (.int (2 : Int32)), .val (.ref b123), .unset, .unset, .unset, .unset, .unset, .unset, .unset, .unset, .unset, .unset] [(.int (2 : Int32)), (.int (2 : Int32))])) _
      refine XS.icmpYes X130.here hx rfl (pc0 := 37) (pc' := 46) rfl (hb hby at_37) rfl (flt (by decide : ¬ ((2 : Int32) < (2 : Int32)))).2.2.2 (by decide) (by decide) ?_
      show Steps p.tables e below (T130.setTop (mkF m 46 #[.val (.long p1), .second, .val (.long p2), .second, .val (.long p3), .second, .val (.long p4), .second, .val (.long p5), .second, .val (.int p6), .val (.int (2 : Int32)), .val (.ref b123), .unset, .unset, .unset, .unset, .unset, .unset, .unset, .unset, .unset, .unset] [])) _
      refine XS.lloadN X130.here hx rfl (hb hby at_46) rfl ?_
      show Steps p.tables e below (T130.setTop (mkF m 47 #[.val (.long p1), .second, .val (.long p2), .second, .val (.long p3), .second, .val (.long p4), .second, .val (.long p5), .second, .val (.int p6), .val (.int (2 : Int32)), .val (.ref b123), .unset, .unset, .unset, .unset, .unset, .unset, .unset, .unset, .unset, .unset] [(.long p1)])) _
      refine XS.aload X130.here hx rfl (hb hby at_47) rfl rfl ?_
      exact k
    obtain ⟨_, _, ⟨T133, L133, k133, n133⟩, -, X133, ⟨Lc133, hQ133, l133, y133, z133⟩, st133⟩ := Jvm.LawKit.callS X130 hx (y := (⟨"com/example/haversack/haversack/evaluation/Seeds", "derived", "(J[J)J"⟩ : MethodName)) hown (mvT hZ (hw _ (List.mem_of_getElem? (i := 1) rfl))) (mvT hZ (hw _ (List.mem_of_getElem? (i := 2) rfl))) (mvT hZ (hw _ (List.mem_of_getElem? (i := 3) rfl))) (mvT hZ (hw _ (List.mem_of_getElem? (i := 4) rfl))) (by decide) (backOf (W := 0) (rmD2 l Z a0 hw [] p1 b123 k123 p2 p3 h130 n0 z131 V130) hZ (hw _ (List.mem_of_getElem? (i := 4) rfl)) (hw _ (List.mem_of_getElem? (i := 3) rfl)) (by decide) (by decide)) (g := (mkF m 49 #[.val (.long p1), .second, .val (.long p2), .second, .val (.long p3), .second, .val (.long p4), .second, .val (.long p5), .second, .val (.int p6), .val (.int (2 : Int32)), .val (.ref b123), .unset, .unset, .unset, .unset, .unset, .unset, .unset, .unset, .unset, .unset] [(.ref b123), (.long p1)])) rfl (by rw [hml]; rfl) (argsL := [(.long p1), (.ref b123)]) (rest := []) (lenOf pd_1 rfl) rfl (by show 2 * 0 + _ ≤ _; exact Nat.le_of_eq rfl) (hb hby at_49) (fun _ _ => ⟨rfl, e130, (by decide : 1 + 0 ≤ _), (by decide : 2 + 0 ≤ _)⟩)
    dsimp only [Pt.U, Pt.locs, Pt.cells, Pt.slots] at X133 l133 y133 z133 st133 hQ133
    subst l133 y133 z133
    obtain ⟨rfl, N133q, e133⟩ := hQ133
    have N133 := Fr.app N130 N133q
    have sg134 : ∀ t, Steps p.tables e below (T133.setTop (mkF m 56 #[.val (.long p1), .second, .val (.long p2), .second, .val (.long p3), .second, .val (.long p4), .second, .val (.long p5), .second, .val (.int p6), .val (.int (2 : Int32)), .val (.ref b123), .val (.long (fMix ((fMix ((fMix p1) ^^^ p2)) ^^^ p3))), .second, .unset, .unset, .unset, .unset, .unset, .unset, .unset, .unset] [(.int (0 : Int32)), (.long p1)])) t → Steps p.tables e below (T133.setTop (mkF m 52 #[.val (.long p1), .second, .val (.long p2), .second, .val (.long p3), .second, .val (.long p4), .second, .val (.long p5), .second, .val (.int p6), .val (.int (2 : Int32)), .val (.ref b123), .unset, .unset, .unset, .unset, .unset, .unset, .unset, .unset, .unset, .unset] [(.long (fMix ((fMix ((fMix p1) ^^^ p2)) ^^^ p3)))])) t := by
      intro t k
      show Steps p.tables e below (T133.setTop (mkF m 52 #[.val (.long p1), .second, .val (.long p2), .second, .val (.long p3), .second, .val (.long p4), .second, .val (.long p5), .second, .val (.int p6), .val (.int (2 : Int32)), .val (.ref b123), .unset, .unset, .unset, .unset, .unset, .unset, .unset, .unset, .unset, .unset] [(.long (fMix ((fMix ((fMix p1) ^^^ p2)) ^^^ p3)))])) _
      refine XS.lstore X133.here hx rfl (hb hby at_52) rfl (l' := #[.val (.long p1), .second, .val (.long p2), .second, .val (.long p3), .second, .val (.long p4), .second, .val (.long p5), .second, .val (.int p6), .val (.int (2 : Int32)), .val (.ref b123), .val (.long (fMix ((fMix ((fMix p1) ^^^ p2)) ^^^ p3))), .second, .unset, .unset, .unset, .unset, .unset, .unset, .unset, .unset]) rfl ?_
      show Steps p.tables e below (T133.setTop (mkF m 54 #[.val (.long p1), .second, .val (.long p2), .second, .val (.long p3), .second, .val (.long p4), .second, .val (.long p5), .second, .val (.int p6), .val (.int (2 : Int32)), .val (.ref b123), .val (.long (fMix ((fMix ((fMix p1) ^^^ p2)) ^^^ p3))), .second, .unset, .unset, .unset, .unset, .unset, .unset, .unset, .unset] [])) _
      refine XS.lloadN X133.here hx rfl (hb hby at_54) rfl ?_
      show Steps p.tables e below (T133.setTop (mkF m 55 #[.val (.long p1), .second, .val (.long p2), .second, .val (.long p3), .second, .val (.long p4), .second, .val (.long p5), .second, .val (.int p6), .val (.int (2 : Int32)), .val (.ref b123), .val (.long (fMix ((fMix ((fMix p1) ^^^ p2)) ^^^ p3))), .second, .unset, .unset, .unset, .unset, .unset, .unset, .unset, .unset] [(.long p1)])) _
      refine XS.iconst X133.here hx rfl (hb hby at_55) ?_
      exact k
    obtain ⟨T135, h135, k135, X135, e135, E135, A135, st135⟩ := newP X133 hx hZ (hw _ (List.mem_of_getElem? (i := 0) rfl)) e133 (g := (mkF m 56 #[.val (.long p1), .second, .val (.long p2), .second, .val (.long p3), .second, .val (.long p4), .second, .val (.long p5), .second, .val (.int p6), .val (.int (2 : Int32)), .val (.ref b123), .val (.long (fMix ((fMix ((fMix p1) ^^^ p2)) ^^^ p3))), .second, .unset, .unset, .unset, .unset, .unset, .unset, .unset, .unset] [(.int (0 : Int32)), (.long p1)])) rfl (hb hby at_56) rfl (by decide) (cap := 0) (by decide) (by decide) (by decide) (by decide)
    obtain ⟨b135, g135⟩ : ∃ z, z = h130.size := ⟨_, rfl⟩
    rw [← g135] at A135 st135
    have ne136 : b123 ≠ b135 := Nat.ne_of_lt (Nat.lt_of_lt_of_le V130.lt (Nat.le_of_eq g135.symm))
    have gn_b135 : n0 ≤ b135 := Nat.le_trans z131 (Nat.le_of_eq g135.symm)
    have f137 : Arv Z h135 b123 k123 .long (2 : Int32) [(.long p2), (.long p3)] (.long (0 : Int64)) := V130.ext E135
    have z138 : n0 ≤ h135.size := Nat.le_trans z131 E135.1
    have f139 : Arv Z h135 b135 k135 .long (0 : Int32) [] (.long (0 : Int64)) := (Arv.new A135 (by decide))
    obtain ⟨_, _, ⟨T140, L140, k140, n140⟩, -, X140, ⟨Lc140, hQ140, l140, y140, z140⟩, st140⟩ := Jvm.LawKit.callS X135 hx (y := (⟨"com/example/haversack/haversack/evaluation/Seeds", "derived", "(J[J)J"⟩ : MethodName)) hown (mvT hZ (hw _ (List.mem_of_getElem? (i := 1) rfl))) (mvT hZ (hw _ (List.mem_of_getElem? (i := 2) rfl))) (mvT hZ (hw _ (List.mem_of_getElem? (i := 3) rfl))) (mvT hZ (hw _ (List.mem_of_getElem? (i := 4) rfl))) (by decide) (backOf (W := 0) (rmD0 l Z a0 hw [] p1 b135 k135 h135 n0 z138 f139) hZ (hw _ (List.mem_of_getElem? (i := 4) rfl)) (hw _ (List.mem_of_getElem? (i := 3) rfl)) (by decide) (by decide)) (g := (mkF m 58 #[.val (.long p1), .second, .val (.long p2), .second, .val (.long p3), .second, .val (.long p4), .second, .val (.long p5), .second, .val (.int p6), .val (.int (2 : Int32)), .val (.ref b123), .val (.long (fMix ((fMix ((fMix p1) ^^^ p2)) ^^^ p3))), .second, .unset, .unset, .unset, .unset, .unset, .unset, .unset, .unset] [(.ref b135), (.long p1)])) rfl (by rw [hml]; rfl) (argsL := [(.long p1), (.ref b135)]) (rest := []) (lenOf pd_1 rfl) rfl (by show 2 * 0 + _ ≤ _; exact Nat.le_of_eq rfl) (hb hby at_58) (fun _ _ => ⟨rfl, e135, (by decide : 2 + 0 ≤ _), (by decide : 2 + 0 ≤ _)⟩)
    dsimp only [Pt.U, Pt.locs, Pt.cells, Pt.slots] at X140 l140 y140 z140 st140 hQ140
    subst l140 y140 z140
    obtain ⟨rfl, N140q, e140⟩ := hQ140
    have N140 := Fr.app N133 N140q
    have sg141 : ∀ t, Steps p.tables e below (T140.setTop (mkF m 77 #[.val (.long p1), .second, .val (.long p2), .second, .val (.long p3), .second, .val (.long p4), .second, .val (.long p5), .second, .val (.int p6), .val (.int (2 : Int32)), .val (.ref b123), .val (.long (fMix ((fMix ((fMix p1) ^^^ p2)) ^^^ p3))), .second, .val (.long (fMix p1)), .second, .val (.long (fMix p1)), .second, .unset, .unset, .unset, .unset] [(.int (0 : Int32)), (.long ((fMix p1) ^^^ p2))])) t → Steps p.tables e below (T140.setTop (mkF m 61 #[.val (.long p1), .second, .val (.long p2), .second, .val (.long p3), .second, .val (.long p4), .second, .val (.long p5), .second, .val (.int p6), .val (.int (2 : Int32)), .val (.ref b123), .val (.long (fMix ((fMix ((fMix p1) ^^^ p2)) ^^^ p3))), .second, .unset, .unset, .unset, .unset, .unset, .unset, .unset, .unset] [(.long (fMix p1))])) t := by
      intro t k
      show Steps p.tables e below (T140.setTop (mkF m 61 #[.val (.long p1), .second, .val (.long p2), .second, .val (.long p3), .second, .val (.long p4), .second, .val (.long p5), .second, .val (.int p6), .val (.int (2 : Int32)), .val (.ref b123), .val (.long (fMix ((fMix ((fMix p1) ^^^ p2)) ^^^ p3))), .second, .unset, .unset, .unset, .unset, .unset, .unset, .unset, .unset] [(.long (fMix p1))])) _
      refine XS.lstore X140.here hx rfl (hb hby at_61) rfl (l' := #[.val (.long p1), .second, .val (.long p2), .second, .val (.long p3), .second, .val (.long p4), .second, .val (.long p5), .second, .val (.int p6), .val (.int (2 : Int32)), .val (.ref b123), .val (.long (fMix ((fMix ((fMix p1) ^^^ p2)) ^^^ p3))), .second, .val (.long (fMix p1)), .second, .unset, .unset, .unset, .unset, .unset, .unset]) rfl ?_
      show Steps p.tables e below (T140.setTop (mkF m 63 #[.val (.long p1), .second, .val (.long p2), .second, .val (.long p3), .second, .val (.long p4), .second, .val (.long p5), .second, .val (.int p6), .val (.int (2 : Int32)), .val (.ref b123), .val (.long (fMix ((fMix ((fMix p1) ^^^ p2)) ^^^ p3))), .second, .val (.long (fMix p1)), .second, .unset, .unset, .unset, .unset, .unset, .unset] [])) _
      refine XS.lload X140.here hx rfl (hb hby at_63) rfl ?_
      show Steps p.tables e below (T140.setTop (mkF m 65 #[.val (.long p1), .second, .val (.long p2), .second, .val (.long p3), .second, .val (.long p4), .second, .val (.long p5), .second, .val (.int p6), .val (.int (2 : Int32)), .val (.ref b123), .val (.long (fMix ((fMix ((fMix p1) ^^^ p2)) ^^^ p3))), .second, .val (.long (fMix p1)), .second, .unset, .unset, .unset, .unset, .unset, .unset] [(.long (fMix p1))])) _
      refine XS.lstore X140.here hx rfl (hb hby at_65) rfl (l' := #[.val (.long p1), .second, .val (.long p2), .second, .val (.long p3), .second, .val (.long p4), .second, .val (.long p5), .second, .val (.int p6), .val (.int (2 : Int32)), .val (.ref b123), .val (.long (fMix ((fMix ((fMix p1) ^^^ p2)) ^^^ p3))), .second, .val (.long (fMix p1)), .second, .val (.long (fMix p1)), .second, .unset, .unset, .unset, .unset]) rfl ?_
      show Steps p.tables e below (T140.setTop (mkF m 67 #[.val (.long p1), .second, .val (.long p2), .second, .val (.long p3), .second, .val (.long p4), .second, .val (.long p5), .second, .val (.int p6), .val (.int (2 : Int32)), .val (.ref b123), .val (.long (fMix ((fMix ((fMix p1) ^^^ p2)) ^^^ p3))), .second, .val (.long (fMix p1)), .second, .val (.long (fMix p1)), .second, .unset, .unset, .unset, .unset] [])) _
      refine XS.iload X140.here hx rfl (hb hby at_67) rfl ?_
      show Steps p.tables e below (T140.setTop (mkF m 69 #[.val (.long p1), .second, .val (.long p2), .second, .val (.long p3), .second, .val (.long p4), .second, .val (.long p5), .second, .val (.int p6), .val (.int (2 : Int32)), .val (.ref b123), .val (.long (fMix ((fMix ((fMix p1) ^^^ p2)) ^^^ p3))), .second, .val (.long (fMix p1)), .second, .val (.long (fMix p1)), .second, .unset, .unset, .unset, .unset] [(.int (2 : Int32))])) _
      refine XS.ifNo X140.here hx rfl (hb hby at_69) rfl ((if0 _ _).trans (tlt (by decide : (0 : Int32) < (2 : Int32))).2.2.2) ?_
      show Steps p.tables e below (T140.setTop (mkF m 72 #[.val (.long p1), .second, .val (.long p2), .second, .val (.long p3), .second, .val (.long p4), .second, .val (.long p5), .second, .val (.int p6), .val (.int (2 : Int32)), .val (.ref b123), .val (.long (fMix ((fMix ((fMix p1) ^^^ p2)) ^^^ p3))), .second, .val (.long (fMix p1)), .second, .val (.long (fMix p1)), .second, .unset, .unset, .unset, .unset] [])) _
      refine XS.lload X140.here hx rfl (hb hby at_72) rfl ?_
      show Steps p.tables e below (T140.setTop (mkF m 74 #[.val (.long p1), .second, .val (.long p2), .second, .val (.long p3), .second, .val (.long p4), .second, .val (.long p5), .second, .val (.int p6), .val (.int (2 : Int32)), .val (.ref b123), .val (.long (fMix ((fMix ((fMix p1) ^^^ p2)) ^^^ p3))), .second, .val (.long (fMix p1)), .second, .val (.long (fMix p1)), .second, .unset, .unset, .unset, .unset] [(.long (fMix p1))])) _
      refine XS.lloadN X140.here hx rfl (hb hby at_74) rfl ?_
      show Steps p.tables e below (T140.setTop (mkF m 75 #[.val (.long p1), .second, .val (.long p2), .second, .val (.long p3), .second, .val (.long p4), .second, .val (.long p5), .second, .val (.int p6), .val (.int (2 : Int32)), .val (.ref b123), .val (.long (fMix ((fMix ((fMix p1) ^^^ p2)) ^^^ p3))), .second, .val (.long (fMix p1)), .second, .val (.long (fMix p1)), .second, .unset, .unset, .unset, .unset] [(.long p2), (.long (fMix p1))])) _
      refine XS.lxor X140.here hx rfl (hb hby at_75) rfl ?_
      show Steps p.tables e below (T140.setTop (mkF m 76 #[.val (.long p1), .second, .val (.long p2), .second, .val (.long p3), .second, .val (.long p4), .second, .val (.long p5), .second, .val (.int p6), .val (.int (2 : Int32)), .val (.ref b123), .val (.long (fMix ((fMix ((fMix p1) ^^^ p2)) ^^^ p3))), .second, .val (.long (fMix p1)), .second, .val (.long (fMix p1)), .second, .unset, .unset, .unset, .unset] [(.long ((fMix p1) ^^^ p2))])) _
      refine XS.iconst X140.here hx rfl (hb hby at_76) ?_
      exact k
    obtain ⟨T142, h142, k142, X142, e142, E142, A142, st142⟩ := newP X140 hx hZ (hw _ (List.mem_of_getElem? (i := 0) rfl)) e140 (g := (mkF m 77 #[.val (.long p1), .second, .val (.long p2), .second, .val (.long p3), .second, .val (.long p4), .second, .val (.long p5), .second, .val (.int p6), .val (.int (2 : Int32)), .val (.ref b123), .val (.long (fMix ((fMix ((fMix p1) ^^^ p2)) ^^^ p3))), .second, .val (.long (fMix p1)), .second, .val (.long (fMix p1)), .second, .unset, .unset, .unset, .unset] [(.int (0 : Int32)), (.long ((fMix p1) ^^^ p2))])) rfl (hb hby at_77) rfl (by decide) (cap := 0) (by decide) (by decide) (by decide) (by decide)
    obtain ⟨b142, g142⟩ : ∃ z, z = h135.size := ⟨_, rfl⟩
    rw [← g142] at A142 st142
    have ne143 : b123 ≠ b142 := Nat.ne_of_lt (Nat.lt_of_lt_of_le f137.lt (Nat.le_of_eq g142.symm))
    have ne144 : b135 ≠ b142 := Nat.ne_of_lt (Nat.lt_of_lt_of_le f139.lt (Nat.le_of_eq g142.symm))
    have gn_b142 : n0 ≤ b142 := Nat.le_trans z138 (Nat.le_of_eq g142.symm)
    have f145 : Arv Z h142 b123 k123 .long (2 : Int32) [(.long p2), (.long p3)] (.long (0 : Int64)) := f137.ext E142
    have f146 : Arv Z h142 b135 k135 .long (0 : Int32) [] (.long (0 : Int64)) := f139.ext E142
    have z147 : n0 ≤ h142.size := Nat.le_trans z138 E142.1
    have f148 : Arv Z h142 b142 k142 .long (0 : Int32) [] (.long (0 : Int64)) := (Arv.new A142 (by decide))
    obtain ⟨_, _, ⟨T149, L149, k149, n149⟩, -, X149, ⟨Lc149, hQ149, l149, y149, z149⟩, st149⟩ := Jvm.LawKit.callS X142 hx (y := (⟨"com/example/haversack/haversack/evaluation/Seeds", "derived", "(J[J)J"⟩ : MethodName)) hown (mvT hZ (hw _ (List.mem_of_getElem? (i := 1) rfl))) (mvT hZ (hw _ (List.mem_of_getElem? (i := 2) rfl))) (mvT hZ (hw _ (List.mem_of_getElem? (i := 3) rfl))) (mvT hZ (hw _ (List.mem_of_getElem? (i := 4) rfl))) (by decide) (backOf (W := 0) (rmD0 l Z a0 hw [] ((fMix p1) ^^^ p2) b142 k142 h142 n0 z147 f148) hZ (hw _ (List.mem_of_getElem? (i := 4) rfl)) (hw _ (List.mem_of_getElem? (i := 3) rfl)) (by decide) (by decide)) (g := (mkF m 79 #[.val (.long p1), .second, .val (.long p2), .second, .val (.long p3), .second, .val (.long p4), .second, .val (.long p5), .second, .val (.int p6), .val (.int (2 : Int32)), .val (.ref b123), .val (.long (fMix ((fMix ((fMix p1) ^^^ p2)) ^^^ p3))), .second, .val (.long (fMix p1)), .second, .val (.long (fMix p1)), .second, .unset, .unset, .unset, .unset] [(.ref b142), (.long ((fMix p1) ^^^ p2))])) rfl (by rw [hml]; rfl) (argsL := [(.long ((fMix p1) ^^^ p2)), (.ref b142)]) (rest := []) (lenOf pd_1 rfl) rfl (by show 2 * 0 + _ ≤ _; exact Nat.le_of_eq rfl) (hb hby at_79) (fun _ _ => ⟨rfl, e142, (by decide : 3 + 0 ≤ _), (by decide : 2 + 0 ≤ _)⟩)
    dsimp only [Pt.U, Pt.locs, Pt.cells, Pt.slots] at X149 l149 y149 z149 st149 hQ149
    subst l149 y149 z149
    obtain ⟨rfl, N149q, e149⟩ := hQ149
    have N149 := Fr.app N140 N149q
    have sg150 : ∀ t, Steps p.tables e below (T149.setTop (mkF m 96 #[.val (.long p1), .second, .val (.long p2), .second, .val (.long p3), .second, .val (.long p4), .second, .val (.long p5), .second, .val (.int p6), .val (.int (2 : Int32)), .val (.ref b123), .val (.long (fMix ((fMix ((fMix p1) ^^^ p2)) ^^^ p3))), .second, .val (.long (fMix p1)), .second, .val (.long (fMix ((fMix p1) ^^^ p2))), .second, .unset, .unset, .unset, .unset] [(.int (0 : Int32)), (.long ((fMix ((fMix p1) ^^^ p2)) ^^^ p3))])) t → Steps p.tables e below (T149.setTop (mkF m 82 #[.val (.long p1), .second, .val (.long p2), .second, .val (.long p3), .second, .val (.long p4), .second, .val (.long p5), .second, .val (.int p6), .val (.int (2 : Int32)), .val (.ref b123), .val (.long (fMix ((fMix ((fMix p1) ^^^ p2)) ^^^ p3))), .second, .val (.long (fMix p1)), .second, .val (.long (fMix p1)), .second, .unset, .unset, .unset, .unset] [(.long (fMix ((fMix p1) ^^^ p2)))])) t := by
      intro t k
      show Steps p.tables e below (T149.setTop (mkF m 82 #[.val (.long p1), .second, .val (.long p2), .second, .val (.long p3), .second, .val (.long p4), .second, .val (.long p5), .second, .val (.int p6), .val (.int (2 : Int32)), .val (.ref b123), .val (.long (fMix ((fMix ((fMix p1) ^^^ p2)) ^^^ p3))), .second, .val (.long (fMix p1)), .second, .val (.long (fMix p1)), .second, .unset, .unset, .unset, .unset] [(.long (fMix ((fMix p1) ^^^ p2)))])) _
      refine XS.lstore X149.here hx rfl (hb hby at_82) rfl (l' := #[.val (.long p1), .second, .val (.long p2), .second, .val (.long p3), .second, .val (.long p4), .second, .val (.long p5), .second, .val (.int p6), .val (.int (2 : Int32)), .val (.ref b123), .val (.long (fMix ((fMix ((fMix p1) ^^^ p2)) ^^^ p3))), .second, .val (.long (fMix p1)), .second, .val (.long (fMix ((fMix p1) ^^^ p2))), .second, .unset, .unset, .unset, .unset]) rfl ?_
      show Steps p.tables e below (T149.setTop (mkF m 84 #[.val (.long p1), .second, .val (.long p2), .second, .val (.long p3), .second, .val (.long p4), .second, .val (.long p5), .second, .val (.int p6), .val (.int (2 : Int32)), .val (.ref b123), .val (.long (fMix ((fMix ((fMix p1) ^^^ p2)) ^^^ p3))), .second, .val (.long (fMix p1)), .second, .val (.long (fMix ((fMix p1) ^^^ p2))), .second, .unset, .unset, .unset, .unset] [])) _
      refine XS.iload X149.here hx rfl (hb hby at_84) rfl ?_
      show Steps p.tables e below (T149.setTop (mkF m 86 #[.val (.long p1), .second, .val (.long p2), .second, .val (.long p3), .second, .val (.long p4), .second, .val (.long p5), .second, .val (.int p6), .val (.int (2 : Int32)), .val (.ref b123), .val (.long (fMix ((fMix ((fMix p1) ^^^ p2)) ^^^ p3))), .second, .val (.long (fMix p1)), .second, .val (.long (fMix ((fMix p1) ^^^ p2))), .second, .unset, .unset, .unset, .unset] [(.int (2 : Int32))])) _
      refine XS.iconst X149.here hx rfl (hb hby at_86) ?_
      show Steps p.tables e below (T149.setTop (mkF m 87 #[.val (.long p1), .second, .val (.long p2), .second, .val (.long p3), .second, .val (.long p4), .second, .val (.long p5), .second, .val (.int p6), .val (.int (2 : Int32)), .val (.ref b123), .val (.long (fMix ((fMix ((fMix p1) ^^^ p2)) ^^^ p3))), .second, .val (.long (fMix p1)), .second, .val (.long (fMix ((fMix p1) ^^^ p2))), .second, .unset, .unset, .unset, .unset] [(.int (1 : Int32)), (.int (2 : Int32))])) _
      refine XS.icmpNo X149.here hx rfl (hb hby at_87) rfl (tlt (by decide : (1 : Int32) < (2 : Int32))).2.2.2 ?_
      show Steps p.tables e below (T149.setTop (mkF m 90 #[.val (.long p1), .second, .val (.long p2), .second, .val (.long p3), .second, .val (.long p4), .second, .val (.long p5), .second, .val (.int p6), .val (.int (2 : Int32)), .val (.ref b123), .val (.long (fMix ((fMix ((fMix p1) ^^^ p2)) ^^^ p3))), .second, .val (.long (fMix p1)), .second, .val (.long (fMix ((fMix p1) ^^^ p2))), .second, .unset, .unset, .unset, .unset] [])) _
      refine XS.lload X149.here hx rfl (hb hby at_90) rfl ?_
      show Steps p.tables e below (T149.setTop (mkF m 92 #[.val (.long p1), .second, .val (.long p2), .second, .val (.long p3), .second, .val (.long p4), .second, .val (.long p5), .second, .val (.int p6), .val (.int (2 : Int32)), .val (.ref b123), .val (.long (fMix ((fMix ((fMix p1) ^^^ p2)) ^^^ p3))), .second, .val (.long (fMix p1)), .second, .val (.long (fMix ((fMix p1) ^^^ p2))), .second, .unset, .unset, .unset, .unset] [(.long (fMix ((fMix p1) ^^^ p2)))])) _
      refine XS.lload X149.here hx rfl (hb hby at_92) rfl ?_
      show Steps p.tables e below (T149.setTop (mkF m 94 #[.val (.long p1), .second, .val (.long p2), .second, .val (.long p3), .second, .val (.long p4), .second, .val (.long p5), .second, .val (.int p6), .val (.int (2 : Int32)), .val (.ref b123), .val (.long (fMix ((fMix ((fMix p1) ^^^ p2)) ^^^ p3))), .second, .val (.long (fMix p1)), .second, .val (.long (fMix ((fMix p1) ^^^ p2))), .second, .unset, .unset, .unset, .unset] [(.long p3), (.long (fMix ((fMix p1) ^^^ p2)))])) _
      refine XS.lxor X149.here hx rfl (hb hby at_94) rfl ?_
      show Steps p.tables e below (T149.setTop (mkF m 95 #[.val (.long p1), .second, .val (.long p2), .second, .val (.long p3), .second, .val (.long p4), .second, .val (.long p5), .second, .val (.int p6), .val (.int (2 : Int32)), .val (.ref b123), .val (.long (fMix ((fMix ((fMix p1) ^^^ p2)) ^^^ p3))), .second, .val (.long (fMix p1)), .second, .val (.long (fMix ((fMix p1) ^^^ p2))), .second, .unset, .unset, .unset, .unset] [(.long ((fMix ((fMix p1) ^^^ p2)) ^^^ p3))])) _
      refine XS.iconst X149.here hx rfl (hb hby at_95) ?_
      exact k
    obtain ⟨T151, h151, k151, X151, e151, E151, A151, st151⟩ := newP X149 hx hZ (hw _ (List.mem_of_getElem? (i := 0) rfl)) e149 (g := (mkF m 96 #[.val (.long p1), .second, .val (.long p2), .second, .val (.long p3), .second, .val (.long p4), .second, .val (.long p5), .second, .val (.int p6), .val (.int (2 : Int32)), .val (.ref b123), .val (.long (fMix ((fMix ((fMix p1) ^^^ p2)) ^^^ p3))), .second, .val (.long (fMix p1)), .second, .val (.long (fMix ((fMix p1) ^^^ p2))), .second, .unset, .unset, .unset, .unset] [(.int (0 : Int32)), (.long ((fMix ((fMix p1) ^^^ p2)) ^^^ p3))])) rfl (hb hby at_96) rfl (by decide) (cap := 0) (by decide) (by decide) (by decide) (by decide)
    obtain ⟨b151, g151⟩ : ∃ z, z = h142.size := ⟨_, rfl⟩
    rw [← g151] at A151 st151
    have ne152 : b123 ≠ b151 := Nat.ne_of_lt (Nat.lt_of_lt_of_le f145.lt (Nat.le_of_eq g151.symm))
    have ne153 : b135 ≠ b151 := Nat.ne_of_lt (Nat.lt_of_lt_of_le f146.lt (Nat.le_of_eq g151.symm))
    have ne154 : b142 ≠ b151 := Nat.ne_of_lt (Nat.lt_of_lt_of_le f148.lt (Nat.le_of_eq g151.symm))
    have gn_b151 : n0 ≤ b151 := Nat.le_trans z147 (Nat.le_of_eq g151.symm)
    have f155 : Arv Z h151 b123 k123 .long (2 : Int32) [(.long p2), (.long p3)] (.long (0 : Int64)) := f145.ext E151
    have f156 : Arv Z h151 b135 k135 .long (0 : Int32) [] (.long (0 : Int64)) := f146.ext E151
    have f157 : Arv Z h151 b142 k142 .long (0 : Int32) [] (.long (0 : Int64)) := f148.ext E151
    have z158 : n0 ≤ h151.size := Nat.le_trans z147 E151.1
    have f159 : Arv Z h151 b151 k151 .long (0 : Int32) [] (.long (0 : Int64)) := (Arv.new A151 (by decide))
    obtain ⟨_, _, ⟨T160, L160, k160, n160⟩, -, X160, ⟨Lc160, hQ160, l160, y160, z160⟩, st160⟩ := Jvm.LawKit.callS X151 hx (y := (⟨"com/example/haversack/haversack/evaluation/Seeds", "derived", "(J[J)J"⟩ : MethodName)) hown (mvT hZ (hw _ (List.mem_of_getElem? (i := 1) rfl))) (mvT hZ (hw _ (List.mem_of_getElem? (i := 2) rfl))) (mvT hZ (hw _ (List.mem_of_getElem? (i := 3) rfl))) (mvT hZ (hw _ (List.mem_of_getElem? (i := 4) rfl))) (by decide) (backOf (W := 0) (rmD0 l Z a0 hw [] ((fMix ((fMix p1) ^^^ p2)) ^^^ p3) b151 k151 h151 n0 z158 f159) hZ (hw _ (List.mem_of_getElem? (i := 4) rfl)) (hw _ (List.mem_of_getElem? (i := 3) rfl)) (by decide) (by decide)) (g := (mkF m 98 #[.val (.long p1), .second, .val (.long p2), .second, .val (.long p3), .second, .val (.long p4), .second, .val (.long p5), .second, .val (.int p6), .val (.int (2 : Int32)), .val (.ref b123), .val (.long (fMix ((fMix ((fMix p1) ^^^ p2)) ^^^ p3))), .second, .val (.long (fMix p1)), .second, .val (.long (fMix ((fMix p1) ^^^ p2))), .second, .unset, .unset, .unset, .unset] [(.ref b151), (.long ((fMix ((fMix p1) ^^^ p2)) ^^^ p3))])) rfl (by rw [hml]; rfl) (argsL := [(.long ((fMix ((fMix p1) ^^^ p2)) ^^^ p3)), (.ref b151)]) (rest := []) (lenOf pd_1 rfl) rfl (by show 2 * 0 + _ ≤ _; exact Nat.le_of_eq rfl) (hb hby at_98) (fun _ _ => ⟨rfl, e151, (by decide : 4 + 0 ≤ _), (by decide : 2 + 0 ≤ _)⟩)
    dsimp only [Pt.U, Pt.locs, Pt.cells, Pt.slots] at X160 l160 y160 z160 st160 hQ160
    subst l160 y160 z160
    obtain ⟨rfl, N160q, e160⟩ := hQ160
    have N160 := Fr.app N149 N160q
    have sg161 : ∀ t, Steps p.tables e below (T160.setTop (mkF m 141 #[.val (.long p1), .second, .val (.long p2), .second, .val (.long p3), .second, .val (.long p4), .second, .val (.long p5), .second, .val (.int p6), .val (.int (2 : Int32)), .val (.ref b123), .val (.long (fMix ((fMix ((fMix p1) ^^^ p2)) ^^^ p3))), .second, .val (.long (fMix p1)), .second, .val (.long (fMix ((fMix ((fMix p1) ^^^ p2)) ^^^ p3))), .second, .val (.int (1 : Int32)), .unset, .unset, .unset] [(.int (lcmpW p1 p5))])) t → Steps p.tables e below (T160.setTop (mkF m 101 #[.val (.long p1), .second, .val (.long p2), .second, .val (.long p3), .second, .val (.long p4), .second, .val (.long p5), .second, .val (.int p6), .val (.int (2 : Int32)), .val (.ref b123), .val (.long (fMix ((fMix ((fMix p1) ^^^ p2)) ^^^ p3))), .second, .val (.long (fMix p1)), .second, .val (.long (fMix ((fMix p1) ^^^ p2))), .second, .unset, .unset, .unset, .unset] [(.long (fMix ((fMix ((fMix p1) ^^^ p2)) ^^^ p3)))])) t := by
      intro t k
      show Steps p.tables e below (T160.setTop (mkF m 101 #[.val (.long p1), .second, .val (.long p2), .second, .val (.long p3), .second, .val (.long p4), .second, .val (.long p5), .second, .val (.int p6), .val (.int (2 : Int32)), .val (.ref b123), .val (.long (fMix ((fMix ((fMix p1) ^^^ p2)) ^^^ p3))), .second, .val (.long (fMix p1)), .second, .val (.long (fMix ((fMix p1) ^^^ p2))), .second, .unset, .unset, .unset, .unset] [(.long (fMix ((fMix ((fMix p1) ^^^ p2)) ^^^ p3)))])) _
      refine XS.lstore X160.here hx rfl (hb hby at_101) rfl (l' := #[.val (.long p1), .second, .val (.long p2), .second, .val (.long p3), .second, .val (.long p4), .second, .val (.long p5), .second, .val (.int p6), .val (.int (2 : Int32)), .val (.ref b123), .val (.long (fMix ((fMix ((fMix p1) ^^^ p2)) ^^^ p3))), .second, .val (.long (fMix p1)), .second, .val (.long (fMix ((fMix ((fMix p1) ^^^ p2)) ^^^ p3))), .second, .unset, .unset, .unset, .unset]) rfl ?_
      show Steps p.tables e below (T160.setTop (mkF m 103 #[.val (.long p1), .second, .val (.long p2), .second, .val (.long p3), .second, .val (.long p4), .second, .val (.long p5), .second, .val (.int p6), .val (.int (2 : Int32)), .val (.ref b123), .val (.long (fMix ((fMix ((fMix p1) ^^^ p2)) ^^^ p3))), .second, .val (.long (fMix p1)), .second, .val (.long (fMix ((fMix ((fMix p1) ^^^ p2)) ^^^ p3))), .second, .unset, .unset, .unset, .unset] [])) _
      refine XS.iload X160.here hx rfl (hb hby at_103) rfl ?_
      show Steps p.tables e below (T160.setTop (mkF m 105 #[.val (.long p1), .second, .val (.long p2), .second, .val (.long p3), .second, .val (.long p4), .second, .val (.long p5), .second, .val (.int p6), .val (.int (2 : Int32)), .val (.ref b123), .val (.long (fMix ((fMix ((fMix p1) ^^^ p2)) ^^^ p3))), .second, .val (.long (fMix p1)), .second, .val (.long (fMix ((fMix ((fMix p1) ^^^ p2)) ^^^ p3))), .second, .unset, .unset, .unset, .unset] [(.int (2 : Int32))])) _
      refine XS.iconst X160.here hx rfl (hb hby at_105) ?_
      show Steps p.tables e below (T160.setTop (mkF m 106 #[.val (.long p1), .second, .val (.long p2), .second, .val (.long p3), .second, .val (.long p4), .second, .val (.long p5), .second, .val (.int p6), .val (.int (2 : Int32)), .val (.ref b123), .val (.long (fMix ((fMix ((fMix p1) ^^^ p2)) ^^^ p3))), .second, .val (.long (fMix p1)), .second, .val (.long (fMix ((fMix ((fMix p1) ^^^ p2)) ^^^ p3))), .second, .unset, .unset, .unset, .unset] [(.int (2 : Int32)), (.int (2 : Int32))])) _
      refine XS.icmpYes X160.here hx rfl (pc0 := 106) (pc' := 122) rfl (hb hby at_106) rfl (flt (by decide : ¬ ((2 : Int32) < (2 : Int32)))).2.2.2 (by decide) (by decide) ?_
      show Steps p.tables e below (T160.setTop (mkF m 122 #[.val (.long p1), .second, .val (.long p2), .second, .val (.long p3), .second, .val (.long p4), .second, .val (.long p5), .second, .val (.int p6), .val (.int (2 : Int32)), .val (.ref b123), .val (.long (fMix ((fMix ((fMix p1) ^^^ p2)) ^^^ p3))), .second, .val (.long (fMix p1)), .second, .val (.long (fMix ((fMix ((fMix p1) ^^^ p2)) ^^^ p3))), .second, .unset, .unset, .unset, .unset] [])) _
      refine XS.lload X160.here hx rfl (hb hby at_122) rfl ?_
      show Steps p.tables e below (T160.setTop (mkF m 124 #[.val (.long p1), .second, .val (.long p2), .second, .val (.long p3), .second, .val (.long p4), .second, .val (.long p5), .second, .val (.int p6), .val (.int (2 : Int32)), .val (.ref b123), .val (.long (fMix ((fMix ((fMix p1) ^^^ p2)) ^^^ p3))), .second, .val (.long (fMix p1)), .second, .val (.long (fMix ((fMix ((fMix p1) ^^^ p2)) ^^^ p3))), .second, .unset, .unset, .unset, .unset] [(.long (fMix ((fMix ((fMix p1) ^^^ p2)) ^^^ p3)))])) _
      refine XS.lload X160.here hx rfl (hb hby at_124) rfl ?_
      show Steps p.tables e below (T160.setTop (mkF m 126 #[.val (.long p1), .second, .val (.long p2), .second, .val (.long p3), .second, .val (.long p4), .second, .val (.long p5), .second, .val (.int p6), .val (.int (2 : Int32)), .val (.ref b123), .val (.long (fMix ((fMix ((fMix p1) ^^^ p2)) ^^^ p3))), .second, .val (.long (fMix p1)), .second, .val (.long (fMix ((fMix ((fMix p1) ^^^ p2)) ^^^ p3))), .second, .unset, .unset, .unset, .unset] [(.long (fMix ((fMix ((fMix p1) ^^^ p2)) ^^^ p3))), (.long (fMix ((fMix ((fMix p1) ^^^ p2)) ^^^ p3)))])) _
      refine XS.lcmp X160.here hx rfl (hb hby at_126) rfl ?_
      show Steps p.tables e below (T160.setTop (mkF m 127 #[.val (.long p1), .second, .val (.long p2), .second, .val (.long p3), .second, .val (.long p4), .second, .val (.long p5), .second, .val (.int p6), .val (.int (2 : Int32)), .val (.ref b123), .val (.long (fMix ((fMix ((fMix p1) ^^^ p2)) ^^^ p3))), .second, .val (.long (fMix p1)), .second, .val (.long (fMix ((fMix ((fMix p1) ^^^ p2)) ^^^ p3))), .second, .unset, .unset, .unset, .unset] [(.int (lcmpW (fMix ((fMix ((fMix p1) ^^^ p2)) ^^^ p3)) (fMix ((fMix ((fMix p1) ^^^ p2)) ^^^ p3))))])) _
      refine XS.ifNo X160.here hx rfl (hb hby at_127) rfl ((if0 _ _).trans (teq ((lw_eq _ _).mpr (rfl : (fMix ((fMix ((fMix p1) ^^^ p2)) ^^^ p3)) = (fMix ((fMix ((fMix p1) ^^^ p2)) ^^^ p3))))).2) ?_
      show Steps p.tables e below (T160.setTop (mkF m 130 #[.val (.long p1), .second, .val (.long p2), .second, .val (.long p3), .second, .val (.long p4), .second, .val (.long p5), .second, .val (.int p6), .val (.int (2 : Int32)), .val (.ref b123), .val (.long (fMix ((fMix ((fMix p1) ^^^ p2)) ^^^ p3))), .second, .val (.long (fMix p1)), .second, .val (.long (fMix ((fMix ((fMix p1) ^^^ p2)) ^^^ p3))), .second, .unset, .unset, .unset, .unset] [])) _
      refine XS.iconst X160.here hx rfl (hb hby at_130) ?_
      show Steps p.tables e below (T160.setTop (mkF m 131 #[.val (.long p1), .second, .val (.long p2), .second, .val (.long p3), .second, .val (.long p4), .second, .val (.long p5), .second, .val (.int p6), .val (.int (2 : Int32)), .val (.ref b123), .val (.long (fMix ((fMix ((fMix p1) ^^^ p2)) ^^^ p3))), .second, .val (.long (fMix p1)), .second, .val (.long (fMix ((fMix ((fMix p1) ^^^ p2)) ^^^ p3))), .second, .unset, .unset, .unset, .unset] [(.int (1 : Int32))])) _
      refine XS.goto X160.here hx rfl (pc0 := 131) (pc' := 135) rfl (hb hby at_131) (by decide) (by decide) ?_
      show Steps p.tables e below (T160.setTop (mkF m 135 #[.val (.long p1), .second, .val (.long p2), .second, .val (.long p3), .second, .val (.long p4), .second, .val (.long p5), .second, .val (.int p6), .val (.int (2 : Int32)), .val (.ref b123), .val (.long (fMix ((fMix ((fMix p1) ^^^ p2)) ^^^ p3))), .second, .val (.long (fMix p1)), .second, .val (.long (fMix ((fMix ((fMix p1) ^^^ p2)) ^^^ p3))), .second, .unset, .unset, .unset, .unset] [(.int (1 : Int32))])) _
      refine XS.istore X160.here hx rfl (hb hby at_135) rfl (l' := #[.val (.long p1), .second, .val (.long p2), .second, .val (.long p3), .second, .val (.long p4), .second, .val (.long p5), .second, .val (.int p6), .val (.int (2 : Int32)), .val (.ref b123), .val (.long (fMix ((fMix ((fMix p1) ^^^ p2)) ^^^ p3))), .second, .val (.long (fMix p1)), .second, .val (.long (fMix ((fMix ((fMix p1) ^^^ p2)) ^^^ p3))), .second, .val (.int (1 : Int32)), .unset, .unset, .unset]) rfl ?_
      show Steps p.tables e below (T160.setTop (mkF m 137 #[.val (.long p1), .second, .val (.long p2), .second, .val (.long p3), .second, .val (.long p4), .second, .val (.long p5), .second, .val (.int p6), .val (.int (2 : Int32)), .val (.ref b123), .val (.long (fMix ((fMix ((fMix p1) ^^^ p2)) ^^^ p3))), .second, .val (.long (fMix p1)), .second, .val (.long (fMix ((fMix ((fMix p1) ^^^ p2)) ^^^ p3))), .second, .val (.int (1 : Int32)), .unset, .unset, .unset] [])) _
      refine XS.lloadN X160.here hx rfl (hb hby at_137) rfl ?_
      show Steps p.tables e below (T160.setTop (mkF m 138 #[.val (.long p1), .second, .val (.long p2), .second, .val (.long p3), .second, .val (.long p4), .second, .val (.long p5), .second, .val (.int p6), .val (.int (2 : Int32)), .val (.ref b123), .val (.long (fMix ((fMix ((fMix p1) ^^^ p2)) ^^^ p3))), .second, .val (.long (fMix p1)), .second, .val (.long (fMix ((fMix ((fMix p1) ^^^ p2)) ^^^ p3))), .second, .val (.int (1 : Int32)), .unset, .unset, .unset] [(.long p1)])) _
      refine XS.lload X160.here hx rfl (hb hby at_138) rfl ?_
      show Steps p.tables e below (T160.setTop (mkF m 140 #[.val (.long p1), .second, .val (.long p2), .second, .val (.long p3), .second, .val (.long p4), .second, .val (.long p5), .second, .val (.int p6), .val (.int (2 : Int32)), .val (.ref b123), .val (.long (fMix ((fMix ((fMix p1) ^^^ p2)) ^^^ p3))), .second, .val (.long (fMix p1)), .second, .val (.long (fMix ((fMix ((fMix p1) ^^^ p2)) ^^^ p3))), .second, .val (.int (1 : Int32)), .unset, .unset, .unset] [(.long p5), (.long p1)])) _
      refine XS.lcmp X160.here hx rfl (hb hby at_140) rfl ?_
      exact k
    obtain ⟨v1, hv1⟩ : ∃ v : Int32, v = (if p1 = p5 then (1 : Int32) else (0 : Int32)) := ⟨_, rfl⟩
    have sg162 : ∀ t, Steps p.tables e below (T160.setTop (mkF m 149 #[.val (.long p1), .second, .val (.long p2), .second, .val (.long p3), .second, .val (.long p4), .second, .val (.long p5), .second, .val (.int p6), .val (.int (2 : Int32)), .val (.ref b123), .val (.long (fMix ((fMix ((fMix p1) ^^^ p2)) ^^^ p3))), .second, .val (.long (fMix p1)), .second, .val (.long (fMix ((fMix ((fMix p1) ^^^ p2)) ^^^ p3))), .second, .val (.int (1 : Int32)), .unset, .unset, .unset] [(.int v1)])) t → Steps p.tables e below (T160.setTop (mkF m 141 #[.val (.long p1), .second, .val (.long p2), .second, .val (.long p3), .second, .val (.long p4), .second, .val (.long p5), .second, .val (.int p6), .val (.int (2 : Int32)), .val (.ref b123), .val (.long (fMix ((fMix ((fMix p1) ^^^ p2)) ^^^ p3))), .second, .val (.long (fMix p1)), .second, .val (.long (fMix ((fMix ((fMix p1) ^^^ p2)) ^^^ p3))), .second, .val (.int (1 : Int32)), .unset, .unset, .unset] [(.int (lcmpW p1 p5))])) t := by
      intro t k
      show Steps p.tables e below (T160.setTop (mkF m 141 #[.val (.long p1), .second, .val (.long p2), .second, .val (.long p3), .second, .val (.long p4), .second, .val (.long p5), .second, .val (.int p6), .val (.int (2 : Int32)), .val (.ref b123), .val (.long (fMix ((fMix ((fMix p1) ^^^ p2)) ^^^ p3))), .second, .val (.long (fMix p1)), .second, .val (.long (fMix ((fMix ((fMix p1) ^^^ p2)) ^^^ p3))), .second, .val (.int (1 : Int32)), .unset, .unset, .unset] [(.int (lcmpW p1 p5))])) _
      by_cases hc141 : p1 = p5
      · refine XS.ifNo X160.here hx rfl (hb hby at_141) rfl ((if0 _ _).trans (teq ((lw_eq _ _).mpr hc141)).2) ?_
        show Steps p.tables e below (T160.setTop (mkF m 144 #[.val (.long p1), .second, .val (.long p2), .second, .val (.long p3), .second, .val (.long p4), .second, .val (.long p5), .second, .val (.int p6), .val (.int (2 : Int32)), .val (.ref b123), .val (.long (fMix ((fMix ((fMix p1) ^^^ p2)) ^^^ p3))), .second, .val (.long (fMix p1)), .second, .val (.long (fMix ((fMix ((fMix p1) ^^^ p2)) ^^^ p3))), .second, .val (.int (1 : Int32)), .unset, .unset, .unset] [])) _
        refine XS.iconst X160.here hx rfl (hb hby at_144) ?_
        show Steps p.tables e below (T160.setTop (mkF m 145 #[.val (.long p1), .second, .val (.long p2), .second, .val (.long p3), .second, .val (.long p4), .second, .val (.long p5), .second, .val (.int p6), .val (.int (2 : Int32)), .val (.ref b123), .val (.long (fMix ((fMix ((fMix p1) ^^^ p2)) ^^^ p3))), .second, .val (.long (fMix p1)), .second, .val (.long (fMix ((fMix ((fMix p1) ^^^ p2)) ^^^ p3))), .second, .val (.int (1 : Int32)), .unset, .unset, .unset] [(.int (1 : Int32))])) _
        refine XS.goto X160.here hx rfl (pc0 := 145) (pc' := 149) rfl (hb hby at_145) (by decide) (by decide) ?_
        rw [show v1 = (1 : Int32) from by rw [hv1, if_pos hc141]] at k
        exact k
      · refine XS.ifYes X160.here hx rfl (pc0 := 141) (pc' := 148) rfl (hb hby at_141) rfl ((if0 _ _).trans (feq (mt (lw_eq _ _).mp hc141)).2) (by decide) (by decide) ?_
        show Steps p.tables e below (T160.setTop (mkF m 148 #[.val (.long p1), .second, .val (.long p2), .second, .val (.long p3), .second, .val (.long p4), .second, .val (.long p5), .second, .val (.int p6), .val (.int (2 : Int32)), .val (.ref b123), .val (.long (fMix ((fMix ((fMix p1) ^^^ p2)) ^^^ p3))), .second, .val (.long (fMix p1)), .second, .val (.long (fMix ((fMix ((fMix p1) ^^^ p2)) ^^^ p3))), .second, .val (.int (1 : Int32)), .unset, .unset, .unset] [])) _
        refine XS.iconst X160.here hx rfl (hb hby at_148) ?_
        rw [show v1 = (0 : Int32) from by rw [hv1, if_neg hc141]] at k
        exact k
    have sg163 : ∀ t, Steps p.tables e below (T160.setTop (mkF m 154 #[.val (.long p1), .second, .val (.long p2), .second, .val (.long p3), .second, .val (.long p4), .second, .val (.long p5), .second, .val (.int p6), .val (.int (2 : Int32)), .val (.ref b123), .val (.long (fMix ((fMix ((fMix p1) ^^^ p2)) ^^^ p3))), .second, .val (.long (fMix p1)), .second, .val (.long (fMix ((fMix ((fMix p1) ^^^ p2)) ^^^ p3))), .second, .val (.int (1 : Int32)), .unset, .unset, .unset] [(.int (0 : Int32)), (.long p5), (.long (fMix p1)), (.int v1)])) t → Steps p.tables e below (T160.setTop (mkF m 149 #[.val (.long p1), .second, .val (.long p2), .second, .val (.long p3), .second, .val (.long p4), .second, .val (.long p5), .second, .val (.int p6), .val (.int (2 : Int32)), .val (.ref b123), .val (.long (fMix ((fMix ((fMix p1) ^^^ p2)) ^^^ p3))), .second, .val (.long (fMix p1)), .second, .val (.long (fMix ((fMix ((fMix p1) ^^^ p2)) ^^^ p3))), .second, .val (.int (1 : Int32)), .unset, .unset, .unset] [(.int v1)])) t := by
      intro t k
      show Steps p.tables e below (T160.setTop (mkF m 149 #[.val (.long p1), .second, .val (.long p2), .second, .val (.long p3), .second, .val (.long p4), .second, .val (.long p5), .second, .val (.int p6), .val (.int (2 : Int32)), .val (.ref b123), .val (.long (fMix ((fMix ((fMix p1) ^^^ p2)) ^^^ p3))), .second, .val (.long (fMix p1)), .second, .val (.long (fMix ((fMix ((fMix p1) ^^^ p2)) ^^^ p3))), .second, .val (.int (1 : Int32)), .unset, .unset, .unset] [(.int v1)])) _
      refine XS.lload X160.here hx rfl (hb hby at_149) rfl ?_
      show Steps p.tables e below (T160.setTop (mkF m 151 #[.val (.long p1), .second, .val (.long p2), .second, .val (.long p3), .second, .val (.long p4), .second, .val (.long p5), .second, .val (.int p6), .val (.int (2 : Int32)), .val (.ref b123), .val (.long (fMix ((fMix ((fMix p1) ^^^ p2)) ^^^ p3))), .second, .val (.long (fMix p1)), .second, .val (.long (fMix ((fMix ((fMix p1) ^^^ p2)) ^^^ p3))), .second, .val (.int (1 : Int32)), .unset, .unset, .unset] [(.long (fMix p1)), (.int v1)])) _
      refine XS.lload X160.here hx rfl (hb hby at_151) rfl ?_
      show Steps p.tables e below (T160.setTop (mkF m 153 #[.val (.long p1), .second, .val (.long p2), .second, .val (.long p3), .second, .val (.long p4), .second, .val (.long p5), .second, .val (.int p6), .val (.int (2 : Int32)), .val (.ref b123), .val (.long (fMix ((fMix ((fMix p1) ^^^ p2)) ^^^ p3))), .second, .val (.long (fMix p1)), .second, .val (.long (fMix ((fMix ((fMix p1) ^^^ p2)) ^^^ p3))), .second, .val (.int (1 : Int32)), .unset, .unset, .unset] [(.long p5), (.long (fMix p1)), (.int v1)])) _
      refine XS.iconst X160.here hx rfl (hb hby at_153) ?_
      exact k
    obtain ⟨T164, h164, k164, X164, e164, E164, A164, st164⟩ := newP X160 hx hZ (hw _ (List.mem_of_getElem? (i := 0) rfl)) e160 (g := (mkF m 154 #[.val (.long p1), .second, .val (.long p2), .second, .val (.long p3), .second, .val (.long p4), .second, .val (.long p5), .second, .val (.int p6), .val (.int (2 : Int32)), .val (.ref b123), .val (.long (fMix ((fMix ((fMix p1) ^^^ p2)) ^^^ p3))), .second, .val (.long (fMix p1)), .second, .val (.long (fMix ((fMix ((fMix p1) ^^^ p2)) ^^^ p3))), .second, .val (.int (1 : Int32)), .unset, .unset, .unset] [(.int (0 : Int32)), (.long p5), (.long (fMix p1)), (.int v1)])) rfl (hb hby at_154) rfl (by decide) (cap := 0) (by decide) (by decide) (by decide) (by decide)
    obtain ⟨b164, g164⟩ : ∃ z, z = h151.size := ⟨_, rfl⟩
    rw [← g164] at A164 st164
    have ne165 : b123 ≠ b164 := Nat.ne_of_lt (Nat.lt_of_lt_of_le f155.lt (Nat.le_of_eq g164.symm))
    have ne166 : b135 ≠ b164 := Nat.ne_of_lt (Nat.lt_of_lt_of_le f156.lt (Nat.le_of_eq g164.symm))
    have ne167 : b142 ≠ b164 := Nat.ne_of_lt (Nat.lt_of_lt_of_le f157.lt (Nat.le_of_eq g164.symm))
    have ne168 : b151 ≠ b164 := Nat.ne_of_lt (Nat.lt_of_lt_of_le f159.lt (Nat.le_of_eq g164.symm))
    have gn_b164 : n0 ≤ b164 := Nat.le_trans z158 (Nat.le_of_eq g164.symm)
    have f169 : Arv Z h164 b123 k123 .long (2 : Int32) [(.long p2), (.long p3)] (.long (0 : Int64)) := f155.ext E164
    have f170 : Arv Z h164 b135 k135 .long (0 : Int32) [] (.long (0 : Int64)) := f156.ext E164
    have f171 : Arv Z h164 b142 k142 .long (0 : Int32) [] (.long (0 : Int64)) := f157.ext E164
    have f172 : Arv Z h164 b151 k151 .long (0 : Int32) [] (.long (0 : Int64)) := f159.ext E164
    have z173 : n0 ≤ h164.size := Nat.le_trans z158 E164.1
    have f174 : Arv Z h164 b164 k164 .long (0 : Int32) [] (.long (0 : Int64)) := (Arv.new A164 (by decide))
    obtain ⟨_, _, ⟨T175, L175, k175, n175⟩, -, X175, ⟨Lc175, hQ175, l175, y175, z175⟩, st175⟩ := Jvm.LawKit.callS X164 hx (y := (⟨"com/example/haversack/haversack/evaluation/Seeds", "derived", "(J[J)J"⟩ : MethodName)) hown (mvT hZ (hw _ (List.mem_of_getElem? (i := 1) rfl))) (mvT hZ (hw _ (List.mem_of_getElem? (i := 2) rfl))) (mvT hZ (hw _ (List.mem_of_getElem? (i := 3) rfl))) (mvT hZ (hw _ (List.mem_of_getElem? (i := 4) rfl))) (by decide) (backOf (W := 3) (rmD0 l Z a0 hw [] p5 b164 k164 h164 n0 z173 f174) hZ (hw _ (List.mem_of_getElem? (i := 4) rfl)) (hw _ (List.mem_of_getElem? (i := 3) rfl)) (by decide) (by decide)) (g := (mkF m 156 #[.val (.long p1), .second, .val (.long p2), .second, .val (.long p3), .second, .val (.long p4), .second, .val (.long p5), .second, .val (.int p6), .val (.int (2 : Int32)), .val (.ref b123), .val (.long (fMix ((fMix ((fMix p1) ^^^ p2)) ^^^ p3))), .second, .val (.long (fMix p1)), .second, .val (.long (fMix ((fMix ((fMix p1) ^^^ p2)) ^^^ p3))), .second, .val (.int (1 : Int32)), .unset, .unset, .unset] [(.ref b164), (.long p5), (.long (fMix p1)), (.int v1)])) rfl (by rw [hml]; rfl) (argsL := [(.long p5), (.ref b164)]) (rest := [(.long (fMix p1)), (.int v1)]) (lenOf pd_1 rfl) rfl (by show 2 * 0 + _ ≤ _; exact Nat.le_of_eq rfl) (hb hby at_156) (fun _ _ => ⟨rfl, e164, (by decide : 5 + 0 ≤ _), (by decide : 2 + 0 ≤ _)⟩)
    dsimp only [Pt.U, Pt.locs, Pt.cells, Pt.slots] at X175 l175 y175 z175 st175 hQ175
    subst l175 y175 z175
    obtain ⟨rfl, N175q, e175⟩ := hQ175
    have N175 := Fr.app N160 N175q
    have sg176 : ∀ t, Steps p.tables e below (T175.setTop (mkF m 160 #[.val (.long p1), .second, .val (.long p2), .second, .val (.long p3), .second, .val (.long p4), .second, .val (.long p5), .second, .val (.int p6), .val (.int (2 : Int32)), .val (.ref b123), .val (.long (fMix ((fMix ((fMix p1) ^^^ p2)) ^^^ p3))), .second, .val (.long (fMix p1)), .second, .val (.long (fMix ((fMix ((fMix p1) ^^^ p2)) ^^^ p3))), .second, .val (.int (1 : Int32)), .unset, .unset, .unset] [(.int (lcmpW (fMix p1) (fMix p5))), (.int v1)])) t → Steps p.tables e below (T175.setTop (mkF m 159 #[.val (.long p1), .second, .val (.long p2), .second, .val (.long p3), .second, .val (.long p4), .second, .val (.long p5), .second, .val (.int p6), .val (.int (2 : Int32)), .val (.ref b123), .val (.long (fMix ((fMix ((fMix p1) ^^^ p2)) ^^^ p3))), .second, .val (.long (fMix p1)), .second, .val (.long (fMix ((fMix ((fMix p1) ^^^ p2)) ^^^ p3))), .second, .val (.int (1 : Int32)), .unset, .unset, .unset] [(.long (fMix p5)), (.long (fMix p1)), (.int v1)])) t := by
      intro t k
      show Steps p.tables e below (T175.setTop (mkF m 159 #[.val (.long p1), .second, .val (.long p2), .second, .val (.long p3), .second, .val (.long p4), .second, .val (.long p5), .second, .val (.int p6), .val (.int (2 : Int32)), .val (.ref b123), .val (.long (fMix ((fMix ((fMix p1) ^^^ p2)) ^^^ p3))), .second, .val (.long (fMix p1)), .second, .val (.long (fMix ((fMix ((fMix p1) ^^^ p2)) ^^^ p3))), .second, .val (.int (1 : Int32)), .unset, .unset, .unset] [(.long (fMix p5)), (.long (fMix p1)), (.int v1)])) _
      refine XS.lcmp X175.here hx rfl (hb hby at_159) rfl ?_
      exact k
    obtain ⟨v2, hv2⟩ : ∃ v : Int32, v = (if (fMix p1) = (fMix p5) then (1 : Int32) else (0 : Int32)) := ⟨_, rfl⟩
    have sg177 : ∀ t, Steps p.tables e below (T175.setTop (mkF m 168 #[.val (.long p1), .second, .val (.long p2), .second, .val (.long p3), .second, .val (.long p4), .second, .val (.long p5), .second, .val (.int p6), .val (.int (2 : Int32)), .val (.ref b123), .val (.long (fMix ((fMix ((fMix p1) ^^^ p2)) ^^^ p3))), .second, .val (.long (fMix p1)), .second, .val (.long (fMix ((fMix ((fMix p1) ^^^ p2)) ^^^ p3))), .second, .val (.int (1 : Int32)), .unset, .unset, .unset] [(.int v2), (.int v1)])) t → Steps p.tables e below (T175.setTop (mkF m 160 #[.val (.long p1), .second, .val (.long p2), .second, .val (.long p3), .second, .val (.long p4), .second, .val (.long p5), .second, .val (.int p6), .val (.int (2 : Int32)), .val (.ref b123), .val (.long (fMix ((fMix ((fMix p1) ^^^ p2)) ^^^ p3))), .second, .val (.long (fMix p1)), .second, .val (.long (fMix ((fMix ((fMix p1) ^^^ p2)) ^^^ p3))), .second, .val (.int (1 : Int32)), .unset, .unset, .unset] [(.int (lcmpW (fMix p1) (fMix p5))), (.int v1)])) t := by
      intro t k
      show Steps p.tables e below (T175.setTop (mkF m 160 #[.val (.long p1), .second, .val (.long p2), .second, .val (.long p3), .second, .val (.long p4), .second, .val (.long p5), .second, .val (.int p6), .val (.int (2 : Int32)), .val (.ref b123), .val (.long (fMix ((fMix ((fMix p1) ^^^ p2)) ^^^ p3))), .second, .val (.long (fMix p1)), .second, .val (.long (fMix ((fMix ((fMix p1) ^^^ p2)) ^^^ p3))), .second, .val (.int (1 : Int32)), .unset, .unset, .unset] [(.int (lcmpW (fMix p1) (fMix p5))), (.int v1)])) _
      by_cases hc160 : (fMix p1) = (fMix p5)
      · refine XS.ifNo X175.here hx rfl (hb hby at_160) rfl ((if0 _ _).trans (teq ((lw_eq _ _).mpr hc160)).2) ?_
        show Steps p.tables e below (T175.setTop (mkF m 163 #[.val (.long p1), .second, .val (.long p2), .second, .val (.long p3), .second, .val (.long p4), .second, .val (.long p5), .second, .val (.int p6), .val (.int (2 : Int32)), .val (.ref b123), .val (.long (fMix ((fMix ((fMix p1) ^^^ p2)) ^^^ p3))), .second, .val (.long (fMix p1)), .second, .val (.long (fMix ((fMix ((fMix p1) ^^^ p2)) ^^^ p3))), .second, .val (.int (1 : Int32)), .unset, .unset, .unset] [(.int v1)])) _
        refine XS.iconst X175.here hx rfl (hb hby at_163) ?_
        show Steps p.tables e below (T175.setTop (mkF m 164 #[.val (.long p1), .second, .val (.long p2), .second, .val (.long p3), .second, .val (.long p4), .second, .val (.long p5), .second, .val (.int p6), .val (.int (2 : Int32)), .val (.ref b123), .val (.long (fMix ((fMix ((fMix p1) ^^^ p2)) ^^^ p3))), .second, .val (.long (fMix p1)), .second, .val (.long (fMix ((fMix ((fMix p1) ^^^ p2)) ^^^ p3))), .second, .val (.int (1 : Int32)), .unset, .unset, .unset] [(.int (1 : Int32)), (.int v1)])) _
        refine XS.goto X175.here hx rfl (pc0 := 164) (pc' := 168) rfl (hb hby at_164) (by decide) (by decide) ?_
        rw [show v2 = (1 : Int32) from by rw [hv2, if_pos hc160]] at k
        exact k
      · refine XS.ifYes X175.here hx rfl (pc0 := 160) (pc' := 167) rfl (hb hby at_160) rfl ((if0 _ _).trans (feq (mt (lw_eq _ _).mp hc160)).2) (by decide) (by decide) ?_
        show Steps p.tables e below (T175.setTop (mkF m 167 #[.val (.long p1), .second, .val (.long p2), .second, .val (.long p3), .second, .val (.long p4), .second, .val (.long p5), .second, .val (.int p6), .val (.int (2 : Int32)), .val (.ref b123), .val (.long (fMix ((fMix ((fMix p1) ^^^ p2)) ^^^ p3))), .second, .val (.long (fMix p1)), .second, .val (.long (fMix ((fMix ((fMix p1) ^^^ p2)) ^^^ p3))), .second, .val (.int (1 : Int32)), .unset, .unset, .unset] [(.int v1)])) _
        refine XS.iconst X175.here hx rfl (hb hby at_167) ?_
        rw [show v2 = (0 : Int32) from by rw [hv2, if_neg hc160]] at k
        exact k
    have sg178 : ∀ t, Steps p.tables e below (T175.setTop (mkF m 182 #[.val (.long p1), .second, .val (.long p2), .second, .val (.long p3), .second, .val (.long p4), .second, .val (.long p5), .second, .val (.int p6), .val (.int (2 : Int32)), .val (.ref b123), .val (.long (fMix ((fMix ((fMix p1) ^^^ p2)) ^^^ p3))), .second, .val (.long (fMix p1)), .second, .val (.long (fMix ((fMix ((fMix p1) ^^^ p2)) ^^^ p3))), .second, .val (.int (1 : Int32)), .val (.int (1 : Int32)), .unset, .unset] [(.int (0 : Int32)), (.long (-7046029254386353131 : Int64))])) t → Steps p.tables e below (T175.setTop (mkF m 168 #[.val (.long p1), .second, .val (.long p2), .second, .val (.long p3), .second, .val (.long p4), .second, .val (.long p5), .second, .val (.int p6), .val (.int (2 : Int32)), .val (.ref b123), .val (.long (fMix ((fMix ((fMix p1) ^^^ p2)) ^^^ p3))), .second, .val (.long (fMix p1)), .second, .val (.long (fMix ((fMix ((fMix p1) ^^^ p2)) ^^^ p3))), .second, .val (.int (1 : Int32)), .unset, .unset, .unset] [(.int v2), (.int v1)])) t := by
      intro t k
      show Steps p.tables e below (T175.setTop (mkF m 168 #[.val (.long p1), .second, .val (.long p2), .second, .val (.long p3), .second, .val (.long p4), .second, .val (.long p5), .second, .val (.int p6), .val (.int (2 : Int32)), .val (.ref b123), .val (.long (fMix ((fMix ((fMix p1) ^^^ p2)) ^^^ p3))), .second, .val (.long (fMix p1)), .second, .val (.long (fMix ((fMix ((fMix p1) ^^^ p2)) ^^^ p3))), .second, .val (.int (1 : Int32)), .unset, .unset, .unset] [(.int v2), (.int v1)])) _
      refine XS.icmpNo X175.here hx rfl (hb hby at_168) rfl (teq ((by rw [hv1, hv2]; exact own_injIf _ _) : v1 = v2)).2 ?_
      show Steps p.tables e below (T175.setTop (mkF m 171 #[.val (.long p1), .second, .val (.long p2), .second, .val (.long p3), .second, .val (.long p4), .second, .val (.long p5), .second, .val (.int p6), .val (.int (2 : Int32)), .val (.ref b123), .val (.long (fMix ((fMix ((fMix p1) ^^^ p2)) ^^^ p3))), .second, .val (.long (fMix p1)), .second, .val (.long (fMix ((fMix ((fMix p1) ^^^ p2)) ^^^ p3))), .second, .val (.int (1 : Int32)), .unset, .unset, .unset] [])) _
      refine XS.iconst X175.here hx rfl (hb hby at_171) ?_
      show Steps p.tables e below (T175.setTop (mkF m 172 #[.val (.long p1), .second, .val (.long p2), .second, .val (.long p3), .second, .val (.long p4), .second, .val (.long p5), .second, .val (.int p6), .val (.int (2 : Int32)), .val (.ref b123), .val (.long (fMix ((fMix ((fMix p1) ^^^ p2)) ^^^ p3))), .second, .val (.long (fMix p1)), .second, .val (.long (fMix ((fMix ((fMix p1) ^^^ p2)) ^^^ p3))), .second, .val (.int (1 : Int32)), .unset, .unset, .unset] [(.int (1 : Int32))])) _
      refine XS.goto X175.here hx rfl (pc0 := 172) (pc' := 176) rfl (hb hby at_172) (by decide) (by decide) ?_
      show Steps p.tables e below (T175.setTop (mkF m 176 #[.val (.long p1), .second, .val (.long p2), .second, .val (.long p3), .second, .val (.long p4), .second, .val (.long p5), .second, .val (.int p6), .val (.int (2 : Int32)), .val (.ref b123), .val (.long (fMix ((fMix ((fMix p1) ^^^ p2)) ^^^ p3))), .second, .val (.long (fMix p1)), .second, .val (.long (fMix ((fMix ((fMix p1) ^^^ p2)) ^^^ p3))), .second, .val (.int (1 : Int32)), .unset, .unset, .unset] [(.int (1 : Int32))])) _
      refine XS.istore X175.here hx rfl (hb hby at_176) rfl (l' := #[.val (.long p1), .second, .val (.long p2), .second, .val (.long p3), .second, .val (.long p4), .second, .val (.long p5), .second, .val (.int p6), .val (.int (2 : Int32)), .val (.ref b123), .val (.long (fMix ((fMix ((fMix p1) ^^^ p2)) ^^^ p3))), .second, .val (.long (fMix p1)), .second, .val (.long (fMix ((fMix ((fMix p1) ^^^ p2)) ^^^ p3))), .second, .val (.int (1 : Int32)), .val (.int (1 : Int32)), .unset, .unset]) rfl ?_
      show Steps p.tables e below (T175.setTop (mkF m 178 #[.val (.long p1), .second, .val (.long p2), .second, .val (.long p3), .second, .val (.long p4), .second, .val (.long p5), .second, .val (.int p6), .val (.int (2 : Int32)), .val (.ref b123), .val (.long (fMix ((fMix ((fMix p1) ^^^ p2)) ^^^ p3))), .second, .val (.long (fMix p1)), .second, .val (.long (fMix ((fMix ((fMix p1) ^^^ p2)) ^^^ p3))), .second, .val (.int (1 : Int32)), .val (.int (1 : Int32)), .unset, .unset] [])) _
      refine X175.ldc2Long hx hown (mvT hZ (hw _ (List.mem_of_getElem? (i := 10) rfl))) (g := (mkF m 178 #[.val (.long p1), .second, .val (.long p2), .second, .val (.long p3), .second, .val (.long p4), .second, .val (.long p5), .second, .val (.int p6), .val (.int (2 : Int32)), .val (.ref b123), .val (.long (fMix ((fMix ((fMix p1) ^^^ p2)) ^^^ p3))), .second, .val (.long (fMix p1)), .second, .val (.long (fMix ((fMix ((fMix p1) ^^^ p2)) ^^^ p3))), .second, .val (.int (1 : Int32)), .val (.int (1 : Int32)), .unset, .unset] [])) rfl (hb hby at_178) _ ?_
      show Steps p.tables e below (T175.setTop (mkF m 181 #[.val (.long p1), .second, .val (.long p2), .second, .val (.long p3), .second, .val (.long p4), .second, .val (.long p5), .second, .val (.int p6), .val (.int (2 : Int32)), .val (.ref b123), .val (.long (fMix ((fMix ((fMix p1) ^^^ p2)) ^^^ p3))), .second, .val (.long (fMix p1)), .second, .val (.long (fMix ((fMix ((fMix p1) ^^^ p2)) ^^^ p3))), .second, .val (.int (1 : Int32)), .val (.int (1 : Int32)), .unset, .unset] [(.long (-7046029254386353131 : Int64))])) _
      refine XS.iconst X175.here hx rfl (hb hby at_181) ?_
      exact k
    obtain ⟨T179, h179, k179, X179, e179, E179, A179, st179⟩ := newP X175 hx hZ (hw _ (List.mem_of_getElem? (i := 0) rfl)) e175 (g := (mkF m 182 #[.val (.long p1), .second, .val (.long p2), .second, .val (.long p3), .second, .val (.long p4), .second, .val (.long p5), .second, .val (.int p6), .val (.int (2 : Int32)), .val (.ref b123), .val (.long (fMix ((fMix ((fMix p1) ^^^ p2)) ^^^ p3))), .second, .val (.long (fMix p1)), .second, .val (.long (fMix ((fMix ((fMix p1) ^^^ p2)) ^^^ p3))), .second, .val (.int (1 : Int32)), .val (.int (1 : Int32)), .unset, .unset] [(.int (0 : Int32)), (.long (-7046029254386353131 : Int64))])) rfl (hb hby at_182) rfl (by decide) (cap := 0) (by decide) (by decide) (by decide) (by decide)
    obtain ⟨b179, g179⟩ : ∃ z, z = h164.size := ⟨_, rfl⟩
    rw [← g179] at A179 st179
    have ne180 : b123 ≠ b179 := Nat.ne_of_lt (Nat.lt_of_lt_of_le f169.lt (Nat.le_of_eq g179.symm))
    have ne181 : b135 ≠ b179 := Nat.ne_of_lt (Nat.lt_of_lt_of_le f170.lt (Nat.le_of_eq g179.symm))
    have ne182 : b142 ≠ b179 := Nat.ne_of_lt (Nat.lt_of_lt_of_le f171.lt (Nat.le_of_eq g179.symm))
    have ne183 : b151 ≠ b179 := Nat.ne_of_lt (Nat.lt_of_lt_of_le f172.lt (Nat.le_of_eq g179.symm))
    have ne184 : b164 ≠ b179 := Nat.ne_of_lt (Nat.lt_of_lt_of_le f174.lt (Nat.le_of_eq g179.symm))
    have gn_b179 : n0 ≤ b179 := Nat.le_trans z173 (Nat.le_of_eq g179.symm)
    have f185 : Arv Z h179 b123 k123 .long (2 : Int32) [(.long p2), (.long p3)] (.long (0 : Int64)) := f169.ext E179
    have f186 : Arv Z h179 b135 k135 .long (0 : Int32) [] (.long (0 : Int64)) := f170.ext E179
    have f187 : Arv Z h179 b142 k142 .long (0 : Int32) [] (.long (0 : Int64)) := f171.ext E179
    have f188 : Arv Z h179 b151 k151 .long (0 : Int32) [] (.long (0 : Int64)) := f172.ext E179
    have f189 : Arv Z h179 b164 k164 .long (0 : Int32) [] (.long (0 : Int64)) := f174.ext E179
    have z190 : n0 ≤ h179.size := Nat.le_trans z173 E179.1
    have f191 : Arv Z h179 b179 k179 .long (0 : Int32) [] (.long (0 : Int64)) := (Arv.new A179 (by decide))
    obtain ⟨_, _, ⟨T192, L192, k192, n192⟩, -, X192, ⟨Lc192, hQ192, l192, y192, z192⟩, st192⟩ := Jvm.LawKit.callS X179 hx (y := (⟨"com/example/haversack/haversack/evaluation/Seeds", "derived", "(J[J)J"⟩ : MethodName)) hown (mvT hZ (hw _ (List.mem_of_getElem? (i := 1) rfl))) (mvT hZ (hw _ (List.mem_of_getElem? (i := 2) rfl))) (mvT hZ (hw _ (List.mem_of_getElem? (i := 3) rfl))) (mvT hZ (hw _ (List.mem_of_getElem? (i := 4) rfl))) (by decide) (backOf (W := 0) (rmD0 l Z a0 hw [] (-7046029254386353131 : Int64) b179 k179 h179 n0 z190 f191) hZ (hw _ (List.mem_of_getElem? (i := 4) rfl)) (hw _ (List.mem_of_getElem? (i := 3) rfl)) (by decide) (by decide)) (g := (mkF m 184 #[.val (.long p1), .second, .val (.long p2), .second, .val (.long p3), .second, .val (.long p4), .second, .val (.long p5), .second, .val (.int p6), .val (.int (2 : Int32)), .val (.ref b123), .val (.long (fMix ((fMix ((fMix p1) ^^^ p2)) ^^^ p3))), .second, .val (.long (fMix p1)), .second, .val (.long (fMix ((fMix ((fMix p1) ^^^ p2)) ^^^ p3))), .second, .val (.int (1 : Int32)), .val (.int (1 : Int32)), .unset, .unset] [(.ref b179), (.long (-7046029254386353131 : Int64))])) rfl (by rw [hml]; rfl) (argsL := [(.long (-7046029254386353131 : Int64)), (.ref b179)]) (rest := []) (lenOf pd_1 rfl) rfl (by show 2 * 0 + _ ≤ _; exact Nat.le_of_eq rfl) (hb hby at_184) (fun _ _ => ⟨rfl, e179, (by decide : 6 + 0 ≤ _), (by decide : 2 + 0 ≤ _)⟩)
    dsimp only [Pt.U, Pt.locs, Pt.cells, Pt.slots] at X192 l192 y192 z192 st192 hQ192
    subst l192 y192 z192
    obtain ⟨rfl, N192q, e192⟩ := hQ192
    have N192 := Fr.app N175 N192q
    have sg193 : ∀ t, Steps p.tables e below (T192.setTop (mkF m 203 #[.val (.long p1), .second, .val (.long p2), .second, .val (.long p3), .second, .val (.long p4), .second, .val (.long p5), .second, .val (.int p6), .val (.int (2 : Int32)), .val (.ref b123), .val (.long (fMix ((fMix ((fMix p1) ^^^ p2)) ^^^ p3))), .second, .val (.long (fMix p1)), .second, .val (.long (fMix ((fMix ((fMix p1) ^^^ p2)) ^^^ p3))), .second, .val (.int (1 : Int32)), .val (.int (1 : Int32)), .val (.int (1 : Int32)), .unset] [(.int (0 : Int32)), (.long (0 : Int64))])) t → Steps p.tables e below (T192.setTop (mkF m 187 #[.val (.long p1), .second, .val (.long p2), .second, .val (.long p3), .second, .val (.long p4), .second, .val (.long p5), .second, .val (.int p6), .val (.int (2 : Int32)), .val (.ref b123), .val (.long (fMix ((fMix ((fMix p1) ^^^ p2)) ^^^ p3))), .second, .val (.long (fMix p1)), .second, .val (.long (fMix ((fMix ((fMix p1) ^^^ p2)) ^^^ p3))), .second, .val (.int (1 : Int32)), .val (.int (1 : Int32)), .unset, .unset] [(.long (fMix (-7046029254386353131 : Int64)))])) t := by
      intro t k
      show Steps p.tables e below (T192.setTop (mkF m 187 #[.val (.long p1), .second, .val (.long p2), .second, .val (.long p3), .second, .val (.long p4), .second, .val (.long p5), .second, .val (.int p6), .val (.int (2 : Int32)), .val (.ref b123), .val (.long (fMix ((fMix ((fMix p1) ^^^ p2)) ^^^ p3))), .second, .val (.long (fMix p1)), .second, .val (.long (fMix ((fMix ((fMix p1) ^^^ p2)) ^^^ p3))), .second, .val (.int (1 : Int32)), .val (.int (1 : Int32)), .unset, .unset] [(.long (fMix (-7046029254386353131 : Int64)))])) _
      refine X192.ldc2Long hx hown (mvT hZ (hw _ (List.mem_of_getElem? (i := 11) rfl))) (g := (mkF m 187 #[.val (.long p1), .second, .val (.long p2), .second, .val (.long p3), .second, .val (.long p4), .second, .val (.long p5), .second, .val (.int p6), .val (.int (2 : Int32)), .val (.ref b123), .val (.long (fMix ((fMix ((fMix p1) ^^^ p2)) ^^^ p3))), .second, .val (.long (fMix p1)), .second, .val (.long (fMix ((fMix ((fMix p1) ^^^ p2)) ^^^ p3))), .second, .val (.int (1 : Int32)), .val (.int (1 : Int32)), .unset, .unset] [(.long (fMix (-7046029254386353131 : Int64)))])) rfl (hb hby at_187) _ ?_
      show Steps p.tables e below (T192.setTop (mkF m 190 #[.val (.long p1), .second, .val (.long p2), .second, .val (.long p3), .second, .val (.long p4), .second, .val (.long p5), .second, .val (.int p6), .val (.int (2 : Int32)), .val (.ref b123), .val (.long (fMix ((fMix ((fMix p1) ^^^ p2)) ^^^ p3))), .second, .val (.long (fMix p1)), .second, .val (.long (fMix ((fMix ((fMix p1) ^^^ p2)) ^^^ p3))), .second, .val (.int (1 : Int32)), .val (.int (1 : Int32)), .unset, .unset] [(.long (-2152535657050944081 : Int64)), (.long (fMix (-7046029254386353131 : Int64)))])) _
      refine XS.lcmp X192.here hx rfl (hb hby at_190) rfl ?_
      show Steps p.tables e below (T192.setTop (mkF m 191 #[.val (.long p1), .second, .val (.long p2), .second, .val (.long p3), .second, .val (.long p4), .second, .val (.long p5), .second, .val (.int p6), .val (.int (2 : Int32)), .val (.ref b123), .val (.long (fMix ((fMix ((fMix p1) ^^^ p2)) ^^^ p3))), .second, .val (.long (fMix p1)), .second, .val (.long (fMix ((fMix ((fMix p1) ^^^ p2)) ^^^ p3))), .second, .val (.int (1 : Int32)), .val (.int (1 : Int32)), .unset, .unset] [(.int (lcmpW (fMix (-7046029254386353131 : Int64)) (-2152535657050944081 : Int64)))])) _
      refine XS.ifNo X192.here hx rfl (hb hby at_191) rfl ((if0 _ _).trans (teq ((lw_eq _ _).mpr ((by decide +kernel) : (fMix (-7046029254386353131 : Int64)) = (-2152535657050944081 : Int64)))).2) ?_
      show Steps p.tables e below (T192.setTop (mkF m 194 #[.val (.long p1), .second, .val (.long p2), .second, .val (.long p3), .second, .val (.long p4), .second, .val (.long p5), .second, .val (.int p6), .val (.int (2 : Int32)), .val (.ref b123), .val (.long (fMix ((fMix ((fMix p1) ^^^ p2)) ^^^ p3))), .second, .val (.long (fMix p1)), .second, .val (.long (fMix ((fMix ((fMix p1) ^^^ p2)) ^^^ p3))), .second, .val (.int (1 : Int32)), .val (.int (1 : Int32)), .unset, .unset] [])) _
      refine XS.iconst X192.here hx rfl (hb hby at_194) ?_
      show Steps p.tables e below (T192.setTop (mkF m 195 #[.val (.long p1), .second, .val (.long p2), .second, .val (.long p3), .second, .val (.long p4), .second, .val (.long p5), .second, .val (.int p6), .val (.int (2 : Int32)), .val (.ref b123), .val (.long (fMix ((fMix ((fMix p1) ^^^ p2)) ^^^ p3))), .second, .val (.long (fMix p1)), .second, .val (.long (fMix ((fMix ((fMix p1) ^^^ p2)) ^^^ p3))), .second, .val (.int (1 : Int32)), .val (.int (1 : Int32)), .unset, .unset] [(.int (1 : Int32))])) _
      refine XS.goto X192.here hx rfl (pc0 := 195) (pc' := 199) rfl (hb hby at_195) (by decide) (by decide) ?_
      show Steps p.tables e below (T192.setTop (mkF m 199 #[.val (.long p1), .second, .val (.long p2), .second, .val (.long p3), .second, .val (.long p4), .second, .val (.long p5), .second, .val (.int p6), .val (.int (2 : Int32)), .val (.ref b123), .val (.long (fMix ((fMix ((fMix p1) ^^^ p2)) ^^^ p3))), .second, .val (.long (fMix p1)), .second, .val (.long (fMix ((fMix ((fMix p1) ^^^ p2)) ^^^ p3))), .second, .val (.int (1 : Int32)), .val (.int (1 : Int32)), .unset, .unset] [(.int (1 : Int32))])) _
      refine XS.istore X192.here hx rfl (hb hby at_199) rfl (l' := #[.val (.long p1), .second, .val (.long p2), .second, .val (.long p3), .second, .val (.long p4), .second, .val (.long p5), .second, .val (.int p6), .val (.int (2 : Int32)), .val (.ref b123), .val (.long (fMix ((fMix ((fMix p1) ^^^ p2)) ^^^ p3))), .second, .val (.long (fMix p1)), .second, .val (.long (fMix ((fMix ((fMix p1) ^^^ p2)) ^^^ p3))), .second, .val (.int (1 : Int32)), .val (.int (1 : Int32)), .val (.int (1 : Int32)), .unset]) rfl ?_
      show Steps p.tables e below (T192.setTop (mkF m 201 #[.val (.long p1), .second, .val (.long p2), .second, .val (.long p3), .second, .val (.long p4), .second, .val (.long p5), .second, .val (.int p6), .val (.int (2 : Int32)), .val (.ref b123), .val (.long (fMix ((fMix ((fMix p1) ^^^ p2)) ^^^ p3))), .second, .val (.long (fMix p1)), .second, .val (.long (fMix ((fMix ((fMix p1) ^^^ p2)) ^^^ p3))), .second, .val (.int (1 : Int32)), .val (.int (1 : Int32)), .val (.int (1 : Int32)), .unset] [])) _
      refine XS.lconst X192.here hx rfl (hb hby at_201) ?_
      show Steps p.tables e below (T192.setTop (mkF m 202 #[.val (.long p1), .second, .val (.long p2), .second, .val (.long p3), .second, .val (.long p4), .second, .val (.long p5), .second, .val (.int p6), .val (.int (2 : Int32)), .val (.ref b123), .val (.long (fMix ((fMix ((fMix p1) ^^^ p2)) ^^^ p3))), .second, .val (.long (fMix p1)), .second, .val (.long (fMix ((fMix ((fMix p1) ^^^ p2)) ^^^ p3))), .second, .val (.int (1 : Int32)), .val (.int (1 : Int32)), .val (.int (1 : Int32)), .unset] [(.long (0 : Int64))])) _
      refine XS.iconst X192.here hx rfl (hb hby at_202) ?_
      exact k
    obtain ⟨T194, h194, k194, X194, e194, E194, A194, st194⟩ := newP X192 hx hZ (hw _ (List.mem_of_getElem? (i := 0) rfl)) e192 (g := (mkF m 203 #[.val (.long p1), .second, .val (.long p2), .second, .val (.long p3), .second, .val (.long p4), .second, .val (.long p5), .second, .val (.int p6), .val (.int (2 : Int32)), .val (.ref b123), .val (.long (fMix ((fMix ((fMix p1) ^^^ p2)) ^^^ p3))), .second, .val (.long (fMix p1)), .second, .val (.long (fMix ((fMix ((fMix p1) ^^^ p2)) ^^^ p3))), .second, .val (.int (1 : Int32)), .val (.int (1 : Int32)), .val (.int (1 : Int32)), .unset] [(.int (0 : Int32)), (.long (0 : Int64))])) rfl (hb hby at_203) rfl (by decide) (cap := 0) (by decide) (by decide) (by decide) (by decide)
    obtain ⟨b194, g194⟩ : ∃ z, z = h179.size := ⟨_, rfl⟩
    rw [← g194] at A194 st194
    have ne195 : b123 ≠ b194 := Nat.ne_of_lt (Nat.lt_of_lt_of_le f185.lt (Nat.le_of_eq g194.symm))
    have ne196 : b135 ≠ b194 := Nat.ne_of_lt (Nat.lt_of_lt_of_le f186.lt (Nat.le_of_eq g194.symm))
    have ne197 : b142 ≠ b194 := Nat.ne_of_lt (Nat.lt_of_lt_of_le f187.lt (Nat.le_of_eq g194.symm))
    have ne198 : b151 ≠ b194 := Nat.ne_of_lt (Nat.lt_of_lt_of_le f188.lt (Nat.le_of_eq g194.symm))
    have ne199 : b164 ≠ b194 := Nat.ne_of_lt (Nat.lt_of_lt_of_le f189.lt (Nat.le_of_eq g194.symm))
    have ne200 : b179 ≠ b194 := Nat.ne_of_lt (Nat.lt_of_lt_of_le f191.lt (Nat.le_of_eq g194.symm))
    have gn_b194 : n0 ≤ b194 := Nat.le_trans z190 (Nat.le_of_eq g194.symm)
    have f201 : Arv Z h194 b123 k123 .long (2 : Int32) [(.long p2), (.long p3)] (.long (0 : Int64)) := f185.ext E194
    have f202 : Arv Z h194 b135 k135 .long (0 : Int32) [] (.long (0 : Int64)) := f186.ext E194
    have f203 : Arv Z h194 b142 k142 .long (0 : Int32) [] (.long (0 : Int64)) := f187.ext E194
    have f204 : Arv Z h194 b151 k151 .long (0 : Int32) [] (.long (0 : Int64)) := f188.ext E194
    have f205 : Arv Z h194 b164 k164 .long (0 : Int32) [] (.long (0 : Int64)) := f189.ext E194
    have f206 : Arv Z h194 b179 k179 .long (0 : Int32) [] (.long (0 : Int64)) := f191.ext E194
    have z207 : n0 ≤ h194.size := Nat.le_trans z190 E194.1
    have f208 : Arv Z h194 b194 k194 .long (0 : Int32) [] (.long (0 : Int64)) := (Arv.new A194 (by decide))
    obtain ⟨_, _, ⟨T209, L209, k209, n209⟩, -, X209, ⟨Lc209, hQ209, l209, y209, z209⟩, st209⟩ := Jvm.LawKit.callS X194 hx (y := (⟨"com/example/haversack/haversack/evaluation/Seeds", "derived", "(J[J)J"⟩ : MethodName)) hown (mvT hZ (hw _ (List.mem_of_getElem? (i := 1) rfl))) (mvT hZ (hw _ (List.mem_of_getElem? (i := 2) rfl))) (mvT hZ (hw _ (List.mem_of_getElem? (i := 3) rfl))) (mvT hZ (hw _ (List.mem_of_getElem? (i := 4) rfl))) (by decide) (backOf (W := 0) (rmD0 l Z a0 hw [] (0 : Int64) b194 k194 h194 n0 z207 f208) hZ (hw _ (List.mem_of_getElem? (i := 4) rfl)) (hw _ (List.mem_of_getElem? (i := 3) rfl)) (by decide) (by decide)) (g := (mkF m 205 #[.val (.long p1), .second, .val (.long p2), .second, .val (.long p3), .second, .val (.long p4), .second, .val (.long p5), .second, .val (.int p6), .val (.int (2 : Int32)), .val (.ref b123), .val (.long (fMix ((fMix ((fMix p1) ^^^ p2)) ^^^ p3))), .second, .val (.long (fMix p1)), .second, .val (.long (fMix ((fMix ((fMix p1) ^^^ p2)) ^^^ p3))), .second, .val (.int (1 : Int32)), .val (.int (1 : Int32)), .val (.int (1 : Int32)), .unset] [(.ref b194), (.long (0 : Int64))])) rfl (by rw [hml]; rfl) (argsL := [(.long (0 : Int64)), (.ref b194)]) (rest := []) (lenOf pd_1 rfl) rfl (by show 2 * 0 + _ ≤ _; exact Nat.le_of_eq rfl) (hb hby at_205) (fun _ _ => ⟨rfl, e194, (by decide : 7 + 0 ≤ _), (by decide : 2 + 0 ≤ _)⟩)
    dsimp only [Pt.U, Pt.locs, Pt.cells, Pt.slots] at X209 l209 y209 z209 st209 hQ209
    subst l209 y209 z209
    obtain ⟨rfl, N209q, e209⟩ := hQ209
    have N209 := Fr.app N192 N209q
    have sg210 : ∀ t, Steps p.tables e below (T209.setTop (mkF m 245 #[.val (.long p1), .second, .val (.long p2), .second, .val (.long p3), .second, .val (.long p4), .second, .val (.long p5), .second, .val (.int p6), .val (.int (2 : Int32)), .val (.ref b123), .val (.long (fMix ((fMix ((fMix p1) ^^^ p2)) ^^^ p3))), .second, .val (.long (fMix p1)), .second, .val (.long (fMix ((fMix ((fMix p1) ^^^ p2)) ^^^ p3))), .second, .val (.int (1 : Int32)), .val (.int (1 : Int32)), .val (.int (1 : Int32)), .val (.int (1 : Int32))] [(.int (1 : Int32))])) t → Steps p.tables e below (T209.setTop (mkF m 208 #[.val (.long p1), .second, .val (.long p2), .second, .val (.long p3), .second, .val (.long p4), .second, .val (.long p5), .second, .val (.int p6), .val (.int (2 : Int32)), .val (.ref b123), .val (.long (fMix ((fMix ((fMix p1) ^^^ p2)) ^^^ p3))), .second, .val (.long (fMix p1)), .second, .val (.long (fMix ((fMix ((fMix p1) ^^^ p2)) ^^^ p3))), .second, .val (.int (1 : Int32)), .val (.int (1 : Int32)), .val (.int (1 : Int32)), .unset] [(.long (fMix (0 : Int64)))])) t := by
      intro t k
      show Steps p.tables e below (T209.setTop (mkF m 208 #[.val (.long p1), .second, .val (.long p2), .second, .val (.long p3), .second, .val (.long p4), .second, .val (.long p5), .second, .val (.int p6), .val (.int (2 : Int32)), .val (.ref b123), .val (.long (fMix ((fMix ((fMix p1) ^^^ p2)) ^^^ p3))), .second, .val (.long (fMix p1)), .second, .val (.long (fMix ((fMix ((fMix p1) ^^^ p2)) ^^^ p3))), .second, .val (.int (1 : Int32)), .val (.int (1 : Int32)), .val (.int (1 : Int32)), .unset] [(.long (fMix (0 : Int64)))])) _
      refine XS.lconst X209.here hx rfl (hb hby at_208) ?_
      show Steps p.tables e below (T209.setTop (mkF m 209 #[.val (.long p1), .second, .val (.long p2), .second, .val (.long p3), .second, .val (.long p4), .second, .val (.long p5), .second, .val (.int p6), .val (.int (2 : Int32)), .val (.ref b123), .val (.long (fMix ((fMix ((fMix p1) ^^^ p2)) ^^^ p3))), .second, .val (.long (fMix p1)), .second, .val (.long (fMix ((fMix ((fMix p1) ^^^ p2)) ^^^ p3))), .second, .val (.int (1 : Int32)), .val (.int (1 : Int32)), .val (.int (1 : Int32)), .unset] [(.long (0 : Int64)), (.long (fMix (0 : Int64)))])) _
      refine XS.lcmp X209.here hx rfl (hb hby at_209) rfl ?_
      show Steps p.tables e below (T209.setTop (mkF m 210 #[.val (.long p1), .second, .val (.long p2), .second, .val (.long p3), .second, .val (.long p4), .second, .val (.long p5), .second, .val (.int p6), .val (.int (2 : Int32)), .val (.ref b123), .val (.long (fMix ((fMix ((fMix p1) ^^^ p2)) ^^^ p3))), .second, .val (.long (fMix p1)), .second, .val (.long (fMix ((fMix ((fMix p1) ^^^ p2)) ^^^ p3))), .second, .val (.int (1 : Int32)), .val (.int (1 : Int32)), .val (.int (1 : Int32)), .unset] [(.int (lcmpW (fMix (0 : Int64)) (0 : Int64)))])) _
      refine XS.ifNo X209.here hx rfl (hb hby at_210) rfl ((if0 _ _).trans (teq ((lw_eq _ _).mpr ((by decide +kernel) : (fMix (0 : Int64)) = (0 : Int64)))).2) ?_
      show Steps p.tables e below (T209.setTop (mkF m 213 #[.val (.long p1), .second, .val (.long p2), .second, .val (.long p3), .second, .val (.long p4), .second, .val (.long p5), .second, .val (.int p6), .val (.int (2 : Int32)), .val (.ref b123), .val (.long (fMix ((fMix ((fMix p1) ^^^ p2)) ^^^ p3))), .second, .val (.long (fMix p1)), .second, .val (.long (fMix ((fMix ((fMix p1) ^^^ p2)) ^^^ p3))), .second, .val (.int (1 : Int32)), .val (.int (1 : Int32)), .val (.int (1 : Int32)), .unset] [])) _
      refine XS.iconst X209.here hx rfl (hb hby at_213) ?_
      show Steps p.tables e below (T209.setTop (mkF m 214 #[.val (.long p1), .second, .val (.long p2), .second, .val (.long p3), .second, .val (.long p4), .second, .val (.long p5), .second, .val (.int p6), .val (.int (2 : Int32)), .val (.ref b123), .val (.long (fMix ((fMix ((fMix p1) ^^^ p2)) ^^^ p3))), .second, .val (.long (fMix p1)), .second, .val (.long (fMix ((fMix ((fMix p1) ^^^ p2)) ^^^ p3))), .second, .val (.int (1 : Int32)), .val (.int (1 : Int32)), .val (.int (1 : Int32)), .unset] [(.int (1 : Int32))])) _
      refine XS.goto X209.here hx rfl (pc0 := 214) (pc' := 218) rfl (hb hby at_214) (by decide) (by decide) ?_
      show Steps p.tables e below (T209.setTop (mkF m 218 #[.val (.long p1), .second, .val (.long p2), .second, .val (.long p3), .second, .val (.long p4), .second, .val (.long p5), .second, .val (.int p6), .val (.int (2 : Int32)), .val (.ref b123), .val (.long (fMix ((fMix ((fMix p1) ^^^ p2)) ^^^ p3))), .second, .val (.long (fMix p1)), .second, .val (.long (fMix ((fMix ((fMix p1) ^^^ p2)) ^^^ p3))), .second, .val (.int (1 : Int32)), .val (.int (1 : Int32)), .val (.int (1 : Int32)), .unset] [(.int (1 : Int32))])) _
      refine XS.istore X209.here hx rfl (hb hby at_218) rfl (l' := #[.val (.long p1), .second, .val (.long p2), .second, .val (.long p3), .second, .val (.long p4), .second, .val (.long p5), .second, .val (.int p6), .val (.int (2 : Int32)), .val (.ref b123), .val (.long (fMix ((fMix ((fMix p1) ^^^ p2)) ^^^ p3))), .second, .val (.long (fMix p1)), .second, .val (.long (fMix ((fMix ((fMix p1) ^^^ p2)) ^^^ p3))), .second, .val (.int (1 : Int32)), .val (.int (1 : Int32)), .val (.int (1 : Int32)), .val (.int (1 : Int32))]) rfl ?_
      show Steps p.tables e below (T209.setTop (mkF m 220 #[.val (.long p1), .second, .val (.long p2), .second, .val (.long p3), .second, .val (.long p4), .second, .val (.long p5), .second, .val (.int p6), .val (.int (2 : Int32)), .val (.ref b123), .val (.long (fMix ((fMix ((fMix p1) ^^^ p2)) ^^^ p3))), .second, .val (.long (fMix p1)), .second, .val (.long (fMix ((fMix ((fMix p1) ^^^ p2)) ^^^ p3))), .second, .val (.int (1 : Int32)), .val (.int (1 : Int32)), .val (.int (1 : Int32)), .val (.int (1 : Int32))] [])) _
      refine XS.iload X209.here hx rfl (hb hby at_220) rfl ?_
      show Steps p.tables e below (T209.setTop (mkF m 222 #[.val (.long p1), .second, .val (.long p2), .second, .val (.long p3), .second, .val (.long p4), .second, .val (.long p5), .second, .val (.int p6), .val (.int (2 : Int32)), .val (.ref b123), .val (.long (fMix ((fMix ((fMix p1) ^^^ p2)) ^^^ p3))), .second, .val (.long (fMix p1)), .second, .val (.long (fMix ((fMix ((fMix p1) ^^^ p2)) ^^^ p3))), .second, .val (.int (1 : Int32)), .val (.int (1 : Int32)), .val (.int (1 : Int32)), .val (.int (1 : Int32))] [(.int (1 : Int32))])) _
      refine XS.ifNo X209.here hx rfl (hb hby at_222) rfl ((if0 _ _).trans (feq (by decide : ¬ ((1 : Int32) = (0 : Int32)))).1) ?_
      show Steps p.tables e below (T209.setTop (mkF m 225 #[.val (.long p1), .second, .val (.long p2), .second, .val (.long p3), .second, .val (.long p4), .second, .val (.long p5), .second, .val (.int p6), .val (.int (2 : Int32)), .val (.ref b123), .val (.long (fMix ((fMix ((fMix p1) ^^^ p2)) ^^^ p3))), .second, .val (.long (fMix p1)), .second, .val (.long (fMix ((fMix ((fMix p1) ^^^ p2)) ^^^ p3))), .second, .val (.int (1 : Int32)), .val (.int (1 : Int32)), .val (.int (1 : Int32)), .val (.int (1 : Int32))] [])) _
      refine XS.iload X209.here hx rfl (hb hby at_225) rfl ?_
      show Steps p.tables e below (T209.setTop (mkF m 227 #[.val (.long p1), .second, .val (.long p2), .second, .val (.long p3), .second, .val (.long p4), .second, .val (.long p5), .second, .val (.int p6), .val (.int (2 : Int32)), .val (.ref b123), .val (.long (fMix ((fMix ((fMix p1) ^^^ p2)) ^^^ p3))), .second, .val (.long (fMix p1)), .second, .val (.long (fMix ((fMix ((fMix p1) ^^^ p2)) ^^^ p3))), .second, .val (.int (1 : Int32)), .val (.int (1 : Int32)), .val (.int (1 : Int32)), .val (.int (1 : Int32))] [(.int (1 : Int32))])) _
      refine XS.ifNo X209.here hx rfl (hb hby at_227) rfl ((if0 _ _).trans (feq (by decide : ¬ ((1 : Int32) = (0 : Int32)))).1) ?_
      show Steps p.tables e below (T209.setTop (mkF m 230 #[.val (.long p1), .second, .val (.long p2), .second, .val (.long p3), .second, .val (.long p4), .second, .val (.long p5), .second, .val (.int p6), .val (.int (2 : Int32)), .val (.ref b123), .val (.long (fMix ((fMix ((fMix p1) ^^^ p2)) ^^^ p3))), .second, .val (.long (fMix p1)), .second, .val (.long (fMix ((fMix ((fMix p1) ^^^ p2)) ^^^ p3))), .second, .val (.int (1 : Int32)), .val (.int (1 : Int32)), .val (.int (1 : Int32)), .val (.int (1 : Int32))] [])) _
      refine XS.iload X209.here hx rfl (hb hby at_230) rfl ?_
      show Steps p.tables e below (T209.setTop (mkF m 232 #[.val (.long p1), .second, .val (.long p2), .second, .val (.long p3), .second, .val (.long p4), .second, .val (.long p5), .second, .val (.int p6), .val (.int (2 : Int32)), .val (.ref b123), .val (.long (fMix ((fMix ((fMix p1) ^^^ p2)) ^^^ p3))), .second, .val (.long (fMix p1)), .second, .val (.long (fMix ((fMix ((fMix p1) ^^^ p2)) ^^^ p3))), .second, .val (.int (1 : Int32)), .val (.int (1 : Int32)), .val (.int (1 : Int32)), .val (.int (1 : Int32))] [(.int (1 : Int32))])) _
      refine XS.ifNo X209.here hx rfl (hb hby at_232) rfl ((if0 _ _).trans (feq (by decide : ¬ ((1 : Int32) = (0 : Int32)))).1) ?_
      show Steps p.tables e below (T209.setTop (mkF m 235 #[.val (.long p1), .second, .val (.long p2), .second, .val (.long p3), .second, .val (.long p4), .second, .val (.long p5), .second, .val (.int p6), .val (.int (2 : Int32)), .val (.ref b123), .val (.long (fMix ((fMix ((fMix p1) ^^^ p2)) ^^^ p3))), .second, .val (.long (fMix p1)), .second, .val (.long (fMix ((fMix ((fMix p1) ^^^ p2)) ^^^ p3))), .second, .val (.int (1 : Int32)), .val (.int (1 : Int32)), .val (.int (1 : Int32)), .val (.int (1 : Int32))] [])) _
      refine XS.iload X209.here hx rfl (hb hby at_235) rfl ?_
      show Steps p.tables e below (T209.setTop (mkF m 237 #[.val (.long p1), .second, .val (.long p2), .second, .val (.long p3), .second, .val (.long p4), .second, .val (.long p5), .second, .val (.int p6), .val (.int (2 : Int32)), .val (.ref b123), .val (.long (fMix ((fMix ((fMix p1) ^^^ p2)) ^^^ p3))), .second, .val (.long (fMix p1)), .second, .val (.long (fMix ((fMix ((fMix p1) ^^^ p2)) ^^^ p3))), .second, .val (.int (1 : Int32)), .val (.int (1 : Int32)), .val (.int (1 : Int32)), .val (.int (1 : Int32))] [(.int (1 : Int32))])) _
      refine XS.ifNo X209.here hx rfl (hb hby at_237) rfl ((if0 _ _).trans (feq (by decide : ¬ ((1 : Int32) = (0 : Int32)))).1) ?_
      show Steps p.tables e below (T209.setTop (mkF m 240 #[.val (.long p1), .second, .val (.long p2), .second, .val (.long p3), .second, .val (.long p4), .second, .val (.long p5), .second, .val (.int p6), .val (.int (2 : Int32)), .val (.ref b123), .val (.long (fMix ((fMix ((fMix p1) ^^^ p2)) ^^^ p3))), .second, .val (.long (fMix p1)), .second, .val (.long (fMix ((fMix ((fMix p1) ^^^ p2)) ^^^ p3))), .second, .val (.int (1 : Int32)), .val (.int (1 : Int32)), .val (.int (1 : Int32)), .val (.int (1 : Int32))] [])) _
      refine XS.iconst X209.here hx rfl (hb hby at_240) ?_
      show Steps p.tables e below (T209.setTop (mkF m 241 #[.val (.long p1), .second, .val (.long p2), .second, .val (.long p3), .second, .val (.long p4), .second, .val (.long p5), .second, .val (.int p6), .val (.int (2 : Int32)), .val (.ref b123), .val (.long (fMix ((fMix ((fMix p1) ^^^ p2)) ^^^ p3))), .second, .val (.long (fMix p1)), .second, .val (.long (fMix ((fMix ((fMix p1) ^^^ p2)) ^^^ p3))), .second, .val (.int (1 : Int32)), .val (.int (1 : Int32)), .val (.int (1 : Int32)), .val (.int (1 : Int32))] [(.int (1 : Int32))])) _
      refine XS.goto X209.here hx rfl (pc0 := 241) (pc' := 245) rfl (hb hby at_241) (by decide) (by decide) ?_
      exact k
    obtain ⟨fs, hr, hrun, hended, hW, hsame⟩ := X209.leave (v := some (.int (1 : Int32))) (fun h => by rw [Bd.returns] at h; cases h)
    refine ⟨_, _, pre0 _ ?_, hrun, hended, _, _, rfl, ?_, ⟨_, rfl⟩, hW, hsame.mono (by decide) (by decide)⟩
    · show Steps p.tables e below (s₁.setTop (mkF m 0 #[.val (.long p1), .second, .val (.long p2), .second, .val (.long p3), .second, .val (.long p4), .second, .val (.long p5), .second, .val (.int p6), .unset, .unset, .unset, .unset, .unset, .unset, .unset, .unset, .unset, .unset, .unset, .unset] [])) _
      refine sg1 _ ?_
      show Steps p.tables e below (s₁.setTop (mkF m 6 #[.val (.long p1), .second, .val (.long p2), .second, .val (.long p3), .second, .val (.long p4), .second, .val (.long p5), .second, .val (.int p6), .val (.int (2 : Int32)), .unset, .unset, .unset, .unset, .unset, .unset, .unset, .unset, .unset, .unset, .unset] [])) _
      refine sg122 _ ?_
      show Steps p.tables e below (s₁.setTop (mkF m 8 #[.val (.long p1), .second, .val (.long p2), .second, .val (.long p3), .second, .val (.long p4), .second, .val (.long p5), .second, .val (.int p6), .val (.int (2 : Int32)), .unset, .unset, .unset, .unset, .unset, .unset, .unset, .unset, .unset, .unset, .unset] [(.int (2 : Int32))])) _
      refine st123 _ ?_
      show Steps p.tables e below (T123.setTop (mkF m 10 #[.val (.long p1), .second, .val (.long p2), .second, .val (.long p3), .second, .val (.long p4), .second, .val (.long p5), .second, .val (.int p6), .val (.int (2 : Int32)), .unset, .unset, .unset, .unset, .unset, .unset, .unset, .unset, .unset, .unset, .unset] [(.ref b123)])) _
      refine sg126 _ ?_
      show Steps p.tables e below (T123.setTop (mkF m 21 #[.val (.long p1), .second, .val (.long p2), .second, .val (.long p3), .second, .val (.long p4), .second, .val (.long p5), .second, .val (.int p6), .val (.int (2 : Int32)), .val (.ref b123), .unset, .unset, .unset, .unset, .unset, .unset, .unset, .unset, .unset, .unset] [(.long p2), (.int (0 : Int32)), (.ref b123)])) _
      refine st127 _ ?_
      show Steps p.tables e below (T127.setTop (mkF m 22 #[.val (.long p1), .second, .val (.long p2), .second, .val (.long p3), .second, .val (.long p4), .second, .val (.long p5), .second, .val (.int p6), .val (.int (2 : Int32)), .val (.ref b123), .unset, .unset, .unset, .unset, .unset, .unset, .unset, .unset, .unset, .unset] [])) _
      refine sg129 _ ?_
      show Steps p.tables e below (T127.setTop (mkF m 33 #[.val (.long p1), .second, .val (.long p2), .second, .val (.long p3), .second, .val (.long p4), .second, .val (.long p5), .second, .val (.int p6), .val (.int (2 : Int32)), .val (.ref b123), .unset, .unset, .unset, .unset, .unset, .unset, .unset, .unset, .unset, .unset] [(.long p3), (.int (1 : Int32)), (.ref b123)])) _
      refine st130 _ ?_
      show Steps p.tables e below (T130.setTop (mkF m 34 #[.val (.long p1), .second, .val (.long p2), .second, .val (.long p3), .second, .val (.long p4), .second, .val (.long p5), .second, .val (.int p6), .val (.int (2 : Int32)), .val (.ref b123), .unset, .unset, .unset, .unset, .unset, .unset, .unset, .unset, .unset, .unset] [])) _
      refine sg132 _ ?_
      show Steps p.tables e below (T130.setTop (mkF m 49 #[.val (.long p1), .second, .val (.long p2), .second, .val (.long p3), .second, .val (.long p4), .second, .val (.long p5), .second, .val (.int p6), .val (.int (2 : Int32)), .val (.ref b123), .unset, .unset, .unset, .unset, .unset, .unset, .unset, .unset, .unset, .unset] [(.ref b123), (.long p1)])) _
      refine st133 _ ?_
      show Steps p.tables e below (T133.setTop (mkF m 52 #[.val (.long p1), .second, .val (.long p2), .second, .val (.long p3), .second, .val (.long p4), .second, .val (.long p5), .second, .val (.int p6), .val (.int (2 : Int32)), .val (.ref b123), .unset, .unset, .unset, .unset, .unset, .unset, .unset, .unset, .unset, .unset] [(.long (fMix ((fMix ((fMix p1) ^^^ p2)) ^^^ p3)))])) _
      refine sg134 _ ?_
      show Steps p.tables e below (T133.setTop (mkF m 56 #[.val (.long p1), .second, .val (.long p2), .second, .val (.long p3), .second, .val (.long p4), .second, .val (.long p5), .second, .val (.int p6), .val (.int (2 : Int32)), .val (.ref b123), .val (.long (fMix ((fMix ((fMix p1) ^^^ p2)) ^^^ p3))), .second, .unset, .unset, .unset, .unset, .unset, .unset, .unset, .unset] [(.int (0 : Int32)), (.long p1)])) _
      refine st135 _ ?_
      show Steps p.tables e below (T135.setTop (mkF m 58 #[.val (.long p1), .second, .val (.long p2), .second, .val (.long p3), .second, .val (.long p4), .second, .val (.long p5), .second, .val (.int p6), .val (.int (2 : Int32)), .val (.ref b123), .val (.long (fMix ((fMix ((fMix p1) ^^^ p2)) ^^^ p3))), .second, .unset, .unset, .unset, .unset, .unset, .unset, .unset, .unset] [(.ref b135), (.long p1)])) _
      refine st140 _ ?_
      show Steps p.tables e below (T140.setTop (mkF m 61 #[.val (.long p1), .second, .val (.long p2), .second, .val (.long p3), .second, .val (.long p4), .second, .val (.long p5), .second, .val (.int p6), .val (.int (2 : Int32)), .val (.ref b123), .val (.long (fMix ((fMix ((fMix p1) ^^^ p2)) ^^^ p3))), .second, .unset, .unset, .unset, .unset, .unset, .unset, .unset, .unset] [(.long (fMix p1))])) _
      refine sg141 _ ?_
      show Steps p.tables e below (T140.setTop (mkF m 77 #[.val (.long p1), .second, .val (.long p2), .second, .val (.long p3), .second, .val (.long p4), .second, .val (.long p5), .second, .val (.int p6), .val (.int (2 : Int32)), .val (.ref b123), .val (.long (fMix ((fMix ((fMix p1) ^^^ p2)) ^^^ p3))), .second, .val (.long (fMix p1)), .second, .val (.long (fMix p1)), .second, .unset, .unset, .unset, .unset] [(.int (0 : Int32)), (.long ((fMix p1) ^^^ p2))])) _
      refine st142 _ ?_
      show Steps p.tables e below (T142.setTop (mkF m 79 #[.val (.long p1), .second, .val (.long p2), .second, .val (.long p3), .second, .val (.long p4), .second, .val (.long p5), .second, .val (.int p6), .val (.int (2 : Int32)), .val (.ref b123), .val (.long (fMix ((fMix ((fMix p1) ^^^ p2)) ^^^ p3))), .second, .val (.long (fMix p1)), .second, .val (.long (fMix p1)), .second, .unset, .unset, .unset, .unset] [(.ref b142), (.long ((fMix p1) ^^^ p2))])) _
      refine st149 _ ?_
      show Steps p.tables e below (T149.setTop (mkF m 82 #[.val (.long p1), .second, .val (.long p2), .second, .val (.long p3), .second, .val (.long p4), .second, .val (.long p5), .second, .val (.int p6), .val (.int (2 : Int32)), .val (.ref b123), .val (.long (fMix ((fMix ((fMix p1) ^^^ p2)) ^^^ p3))), .second, .val (.long (fMix p1)), .second, .val (.long (fMix p1)), .second, .unset, .unset, .unset, .unset] [(.long (fMix ((fMix p1) ^^^ p2)))])) _
      refine sg150 _ ?_
      show Steps p.tables e below (T149.setTop (mkF m 96 #[.val (.long p1), .second, .val (.long p2), .second, .val (.long p3), .second, .val (.long p4), .second, .val (.long p5), .second, .val (.int p6), .val (.int (2 : Int32)), .val (.ref b123), .val (.long (fMix ((fMix ((fMix p1) ^^^ p2)) ^^^ p3))), .second, .val (.long (fMix p1)), .second, .val (.long (fMix ((fMix p1) ^^^ p2))), .second, .unset, .unset, .unset, .unset] [(.int (0 : Int32)), (.long ((fMix ((fMix p1) ^^^ p2)) ^^^ p3))])) _
      refine st151 _ ?_
      show Steps p.tables e below (T151.setTop (mkF m 98 #[.val (.long p1), .second, .val (.long p2), .second, .val (.long p3), .second, .val (.long p4), .second, .val (.long p5), .second, .val (.int p6), .val (.int (2 : Int32)), .val (.ref b123), .val (.long (fMix ((fMix ((fMix p1) ^^^ p2)) ^^^ p3))), .second, .val (.long (fMix p1)), .second, .val (.long (fMix ((fMix p1) ^^^ p2))), .second, .unset, .unset, .unset, .unset] [(.ref b151), (.long ((fMix ((fMix p1) ^^^ p2)) ^^^ p3))])) _
      refine st160 _ ?_
      show Steps p.tables e below (T160.setTop (mkF m 101 #[.val (.long p1), .second, .val (.long p2), .second, .val (.long p3), .second, .val (.long p4), .second, .val (.long p5), .second, .val (.int p6), .val (.int (2 : Int32)), .val (.ref b123), .val (.long (fMix ((fMix ((fMix p1) ^^^ p2)) ^^^ p3))), .second, .val (.long (fMix p1)), .second, .val (.long (fMix ((fMix p1) ^^^ p2))), .second, .unset, .unset, .unset, .unset] [(.long (fMix ((fMix ((fMix p1) ^^^ p2)) ^^^ p3)))])) _
      refine sg161 _ ?_
      show Steps p.tables e below (T160.setTop (mkF m 141 #[.val (.long p1), .second, .val (.long p2), .second, .val (.long p3), .second, .val (.long p4), .second, .val (.long p5), .second, .val (.int p6), .val (.int (2 : Int32)), .val (.ref b123), .val (.long (fMix ((fMix ((fMix p1) ^^^ p2)) ^^^ p3))), .second, .val (.long (fMix p1)), .second, .val (.long (fMix ((fMix ((fMix p1) ^^^ p2)) ^^^ p3))), .second, .val (.int (1 : Int32)), .unset, .unset, .unset] [(.int (lcmpW p1 p5))])) _
      refine sg162 _ ?_
      show Steps p.tables e below (T160.setTop (mkF m 149 #[.val (.long p1), .second, .val (.long p2), .second, .val (.long p3), .second, .val (.long p4), .second, .val (.long p5), .second, .val (.int p6), .val (.int (2 : Int32)), .val (.ref b123), .val (.long (fMix ((fMix ((fMix p1) ^^^ p2)) ^^^ p3))), .second, .val (.long (fMix p1)), .second, .val (.long (fMix ((fMix ((fMix p1) ^^^ p2)) ^^^ p3))), .second, .val (.int (1 : Int32)), .unset, .unset, .unset] [(.int v1)])) _
      refine sg163 _ ?_
      show Steps p.tables e below (T160.setTop (mkF m 154 #[.val (.long p1), .second, .val (.long p2), .second, .val (.long p3), .second, .val (.long p4), .second, .val (.long p5), .second, .val (.int p6), .val (.int (2 : Int32)), .val (.ref b123), .val (.long (fMix ((fMix ((fMix p1) ^^^ p2)) ^^^ p3))), .second, .val (.long (fMix p1)), .second, .val (.long (fMix ((fMix ((fMix p1) ^^^ p2)) ^^^ p3))), .second, .val (.int (1 : Int32)), .unset, .unset, .unset] [(.int (0 : Int32)), (.long p5), (.long (fMix p1)), (.int v1)])) _
      refine st164 _ ?_
      show Steps p.tables e below (T164.setTop (mkF m 156 #[.val (.long p1), .second, .val (.long p2), .second, .val (.long p3), .second, .val (.long p4), .second, .val (.long p5), .second, .val (.int p6), .val (.int (2 : Int32)), .val (.ref b123), .val (.long (fMix ((fMix ((fMix p1) ^^^ p2)) ^^^ p3))), .second, .val (.long (fMix p1)), .second, .val (.long (fMix ((fMix ((fMix p1) ^^^ p2)) ^^^ p3))), .second, .val (.int (1 : Int32)), .unset, .unset, .unset] [(.ref b164), (.long p5), (.long (fMix p1)), (.int v1)])) _
      refine st175 _ ?_
      show Steps p.tables e below (T175.setTop (mkF m 159 #[.val (.long p1), .second, .val (.long p2), .second, .val (.long p3), .second, .val (.long p4), .second, .val (.long p5), .second, .val (.int p6), .val (.int (2 : Int32)), .val (.ref b123), .val (.long (fMix ((fMix ((fMix p1) ^^^ p2)) ^^^ p3))), .second, .val (.long (fMix p1)), .second, .val (.long (fMix ((fMix ((fMix p1) ^^^ p2)) ^^^ p3))), .second, .val (.int (1 : Int32)), .unset, .unset, .unset] [(.long (fMix p5)), (.long (fMix p1)), (.int v1)])) _
      refine sg176 _ ?_
      show Steps p.tables e below (T175.setTop (mkF m 160 #[.val (.long p1), .second, .val (.long p2), .second, .val (.long p3), .second, .val (.long p4), .second, .val (.long p5), .second, .val (.int p6), .val (.int (2 : Int32)), .val (.ref b123), .val (.long (fMix ((fMix ((fMix p1) ^^^ p2)) ^^^ p3))), .second, .val (.long (fMix p1)), .second, .val (.long (fMix ((fMix ((fMix p1) ^^^ p2)) ^^^ p3))), .second, .val (.int (1 : Int32)), .unset, .unset, .unset] [(.int (lcmpW (fMix p1) (fMix p5))), (.int v1)])) _
      refine sg177 _ ?_
      show Steps p.tables e below (T175.setTop (mkF m 168 #[.val (.long p1), .second, .val (.long p2), .second, .val (.long p3), .second, .val (.long p4), .second, .val (.long p5), .second, .val (.int p6), .val (.int (2 : Int32)), .val (.ref b123), .val (.long (fMix ((fMix ((fMix p1) ^^^ p2)) ^^^ p3))), .second, .val (.long (fMix p1)), .second, .val (.long (fMix ((fMix ((fMix p1) ^^^ p2)) ^^^ p3))), .second, .val (.int (1 : Int32)), .unset, .unset, .unset] [(.int v2), (.int v1)])) _
      refine sg178 _ ?_
      show Steps p.tables e below (T175.setTop (mkF m 182 #[.val (.long p1), .second, .val (.long p2), .second, .val (.long p3), .second, .val (.long p4), .second, .val (.long p5), .second, .val (.int p6), .val (.int (2 : Int32)), .val (.ref b123), .val (.long (fMix ((fMix ((fMix p1) ^^^ p2)) ^^^ p3))), .second, .val (.long (fMix p1)), .second, .val (.long (fMix ((fMix ((fMix p1) ^^^ p2)) ^^^ p3))), .second, .val (.int (1 : Int32)), .val (.int (1 : Int32)), .unset, .unset] [(.int (0 : Int32)), (.long (-7046029254386353131 : Int64))])) _
      refine st179 _ ?_
      show Steps p.tables e below (T179.setTop (mkF m 184 #[.val (.long p1), .second, .val (.long p2), .second, .val (.long p3), .second, .val (.long p4), .second, .val (.long p5), .second, .val (.int p6), .val (.int (2 : Int32)), .val (.ref b123), .val (.long (fMix ((fMix ((fMix p1) ^^^ p2)) ^^^ p3))), .second, .val (.long (fMix p1)), .second, .val (.long (fMix ((fMix ((fMix p1) ^^^ p2)) ^^^ p3))), .second, .val (.int (1 : Int32)), .val (.int (1 : Int32)), .unset, .unset] [(.ref b179), (.long (-7046029254386353131 : Int64))])) _
      refine st192 _ ?_
      show Steps p.tables e below (T192.setTop (mkF m 187 #[.val (.long p1), .second, .val (.long p2), .second, .val (.long p3), .second, .val (.long p4), .second, .val (.long p5), .second, .val (.int p6), .val (.int (2 : Int32)), .val (.ref b123), .val (.long (fMix ((fMix ((fMix p1) ^^^ p2)) ^^^ p3))), .second, .val (.long (fMix p1)), .second, .val (.long (fMix ((fMix ((fMix p1) ^^^ p2)) ^^^ p3))), .second, .val (.int (1 : Int32)), .val (.int (1 : Int32)), .unset, .unset] [(.long (fMix (-7046029254386353131 : Int64)))])) _
      refine sg193 _ ?_
      show Steps p.tables e below (T192.setTop (mkF m 203 #[.val (.long p1), .second, .val (.long p2), .second, .val (.long p3), .second, .val (.long p4), .second, .val (.long p5), .second, .val (.int p6), .val (.int (2 : Int32)), .val (.ref b123), .val (.long (fMix ((fMix ((fMix p1) ^^^ p2)) ^^^ p3))), .second, .val (.long (fMix p1)), .second, .val (.long (fMix ((fMix ((fMix p1) ^^^ p2)) ^^^ p3))), .second, .val (.int (1 : Int32)), .val (.int (1 : Int32)), .val (.int (1 : Int32)), .unset] [(.int (0 : Int32)), (.long (0 : Int64))])) _
      refine st194 _ ?_
      show Steps p.tables e below (T194.setTop (mkF m 205 #[.val (.long p1), .second, .val (.long p2), .second, .val (.long p3), .second, .val (.long p4), .second, .val (.long p5), .second, .val (.int p6), .val (.int (2 : Int32)), .val (.ref b123), .val (.long (fMix ((fMix ((fMix p1) ^^^ p2)) ^^^ p3))), .second, .val (.long (fMix p1)), .second, .val (.long (fMix ((fMix ((fMix p1) ^^^ p2)) ^^^ p3))), .second, .val (.int (1 : Int32)), .val (.int (1 : Int32)), .val (.int (1 : Int32)), .unset] [(.ref b194), (.long (0 : Int64))])) _
      refine st209 _ ?_
      show Steps p.tables e below (T209.setTop (mkF m 208 #[.val (.long p1), .second, .val (.long p2), .second, .val (.long p3), .second, .val (.long p4), .second, .val (.long p5), .second, .val (.int p6), .val (.int (2 : Int32)), .val (.ref b123), .val (.long (fMix ((fMix ((fMix p1) ^^^ p2)) ^^^ p3))), .second, .val (.long (fMix p1)), .second, .val (.long (fMix ((fMix ((fMix p1) ^^^ p2)) ^^^ p3))), .second, .val (.int (1 : Int32)), .val (.int (1 : Int32)), .val (.int (1 : Int32)), .unset] [(.long (fMix (0 : Int64)))])) _
      refine sg210 _ ?_
      show Steps p.tables e below (T209.setTop (mkF m 245 #[.val (.long p1), .second, .val (.long p2), .second, .val (.long p3), .second, .val (.long p4), .second, .val (.long p5), .second, .val (.int p6), .val (.int (2 : Int32)), .val (.ref b123), .val (.long (fMix ((fMix ((fMix p1) ^^^ p2)) ^^^ p3))), .second, .val (.long (fMix p1)), .second, .val (.long (fMix ((fMix ((fMix p1) ^^^ p2)) ^^^ p3))), .second, .val (.int (1 : Int32)), .val (.int (1 : Int32)), .val (.int (1 : Int32)), .val (.int (1 : Int32))] [(.int (1 : Int32))])) _
      exact retN X209 hx (t := .boolean) Bd.returns (by simp) (hb hby at_245) hr
    · show Q0 Z p1 p2 p3 p4 p5 p6 h0 n0 _ T209.heap _
      rw [e209]
      exact ⟨rfl, N209⟩
  · rw [hn] at sg1
    have sg211 : ∀ t, Steps p.tables e below (s₁.setTop (mkF m 8 #[.val (.long p1), .second, .val (.long p2), .second, .val (.long p3), .second, .val (.long p4), .second, .val (.long p5), .second, .val (.int p6), .val (.int (3 : Int32)), .unset, .unset, .unset, .unset, .unset, .unset, .unset, .unset, .unset, .unset, .unset] [(.int (3 : Int32))])) t → Steps p.tables e below (s₁.setTop (mkF m 6 #[.val (.long p1), .second, .val (.long p2), .second, .val (.long p3), .second, .val (.long p4), .second, .val (.long p5), .second, .val (.int p6), .val (.int (3 : Int32)), .unset, .unset, .unset, .unset, .unset, .unset, .unset, .unset, .unset, .unset, .unset] [])) t := by
      intro t k
      show Steps p.tables e below (s₁.setTop (mkF m 6 #[.val (.long p1), .second, .val (.long p2), .second, .val (.long p3), .second, .val (.long p4), .second, .val (.long p5), .second, .val (.int p6), .val (.int (3 : Int32)), .unset, .unset, .unset, .unset, .unset, .unset, .unset, .unset, .unset, .unset, .unset] [])) _
      refine XS.iload X0.here hx rfl (hb hby at_6) rfl ?_
      exact k
    obtain ⟨T212, h212, k212, X212, e212, E212, A212, st212⟩ := newP X0 hx hZ (hw _ (List.mem_of_getElem? (i := 0) rfl)) e0 (g := (mkF m 8 #[.val (.long p1), .second, .val (.long p2), .second, .val (.long p3), .second, .val (.long p4), .second, .val (.long p5), .second, .val (.int p6), .val (.int (3 : Int32)), .unset, .unset, .unset, .unset, .unset, .unset, .unset, .unset, .unset, .unset, .unset] [(.int (3 : Int32))])) rfl (hb hby at_8) rfl (by decide) (cap := 3) (by decide) (by decide) (by decide) (by decide)
    obtain ⟨b212, g212⟩ : ∃ z, z = h0.size := ⟨_, rfl⟩
    rw [← g212] at A212 st212
    have gn_b212 : n0 ≤ b212 := Nat.le_trans Z0 (Nat.le_of_eq g212.symm)
    have z213 : n0 ≤ h212.size := Nat.le_trans Z0 E212.1
    have f214 : Arv Z h212 b212 k212 .long (3 : Int32) [(.long (0 : Int64)), (.long (0 : Int64)), (.long (0 : Int64))] (.long (0 : Int64)) := (Arv.new A212 (by decide)).pad (pad_rep [] (.long (0 : Int64)) 3)
    have sg215 : ∀ t, Steps p.tables e below (T212.setTop (mkF m 21 #[.val (.long p1), .second, .val (.long p2), .second, .val (.long p3), .second, .val (.long p4), .second, .val (.long p5), .second, .val (.int p6), .val (.int (3 : Int32)), .val (.ref b212), .unset, .unset, .unset, .unset, .unset, .unset, .unset, .unset, .unset, .unset] [(.long p2), (.int (0 : Int32)), (.ref b212)])) t → Steps p.tables e below (T212.setTop (mkF m 10 #[.val (.long p1), .second, .val (.long p2), .second, .val (.long p3), .second, .val (.long p4), .second, .val (.long p5), .second, .val (.int p6), .val (.int (3 : Int32)), .unset, .unset, .unset, .unset, .unset, .unset, .unset, .unset, .unset, .unset, .unset] [(.ref b212)])) t := by
      intro t k
      show Steps p.tables e below (T212.setTop (mkF m 10 #[.val (.long p1), .second, .val (.long p2), .second, .val (.long p3), .second, .val (.long p4), .second, .val (.long p5), .second, .val (.int p6), .val (.int (3 : Int32)), .unset, .unset, .unset, .unset, .unset, .unset, .unset, .unset, .unset, .unset, .unset] [(.ref b212)])) _
      refine XS.astore X212.here hx rfl (hb hby at_10) rfl rfl (l' := #[.val (.long p1), .second, .val (.long p2), .second, .val (.long p3), .second, .val (.long p4), .second, .val (.long p5), .second, .val (.int p6), .val (.int (3 : Int32)), .val (.ref b212), .unset, .unset, .unset, .unset, .unset, .unset, .unset, .unset, .unset, .unset]) rfl ?_
      show Steps p.tables e below (T212.setTop (mkF m 12 #[.val (.long p1), .second, .val (.long p2), .second, .val (.long p3), .second, .val (.long p4), .second, .val (.long p5), .second, .val (.int p6), .val (.int (3 : Int32)), .val (.ref b212), .unset, .unset, .unset, .unset, .unset, .unset, .unset, .unset, .unset, .unset] [])) _
      refine XS.iload X212.here hx rfl (hb hby at_12) rfl ?_
      show Steps p.tables e below (T212.setTop (mkF m 14 #[.val (.long p1), .second, .val (.long p2), .second, .val (.long p3), .second, .val (.long p4), .second, .val (.long p5), .second, .val (.int p6), .val (.int (3 : Int32)), .val (.ref b212), .unset, .unset, .unset, .unset, .unset, .unset, .unset, .unset, .unset, .unset] [(.int (3 : Int32))])) _
      refine XS.ifNo X212.here hx rfl (hb hby at_14) rfl ((if0 _ _).trans (tlt (by decide : (0 : Int32) < (3 : Int32))).2.2.2) ?_
      show Steps p.tables e below (T212.setTop (mkF m 17 #[.val (.long p1), .second, .val (.long p2), .second, .val (.long p3), .second, .val (.long p4), .second, .val (.long p5), .second, .val (.int p6), .val (.int (3 : Int32)), .val (.ref b212), .unset, .unset, .unset, .unset, .unset, .unset, .unset, .unset, .unset, .unset] [])) _
      refine XS.aload X212.here hx rfl (hb hby at_17) rfl rfl ?_
      show Steps p.tables e below (T212.setTop (mkF m 19 #[.val (.long p1), .second, .val (.long p2), .second, .val (.long p3), .second, .val (.long p4), .second, .val (.long p5), .second, .val (.int p6), .val (.int (3 : Int32)), .val (.ref b212), .unset, .unset, .unset, .unset, .unset, .unset, .unset, .unset, .unset, .unset] [(.ref b212)])) _
      refine XS.iconst X212.here hx rfl (hb hby at_19) ?_
      show Steps p.tables e below (T212.setTop (mkF m 20 #[.val (.long p1), .second, .val (.long p2), .second, .val (.long p3), .second, .val (.long p4), .second, .val (.long p5), .second, .val (.int p6), .val (.int (3 : Int32)), .val (.ref b212), .unset, .unset, .unset, .unset, .unset, .unset, .unset, .unset, .unset, .unset] [(.int (0 : Int32)), (.ref b212)])) _
      refine XS.lloadN X212.here hx rfl (hb hby at_20) rfl ?_
      exact k
    obtain ⟨cl216, Ar216, q216, Sz216, Nn216, Hs216, G216⟩ := id f214
    have hin216 : ¬ ((0 : Int32) < 0 ∨ cl216.slots.size ≤ ((0 : Int32)).toNatClampNeg) := inb_of Sz216 ⟨by decide, by decide⟩
    obtain ⟨T216, h216, X216, e216, W216, st216⟩ := stJ X212 hx hZ e212 Ar216 (j := (0 : Int32)) hin216 (g := (mkF m 21 #[.val (.long p1), .second, .val (.long p2), .second, .val (.long p3), .second, .val (.long p4), .second, .val (.long p5), .second, .val (.int p6), .val (.int (3 : Int32)), .val (.ref b212), .unset, .unset, .unset, .unset, .unset, .unset, .unset, .unset, .unset, .unset] [(.long p2), (.int (0 : Int32)), (.ref b212)])) rfl rfl (hb hby at_21)
    have V216 : Arv Z h216 b212 k212 .long (3 : Int32) [(.long p2), (.long (0 : Int64)), (.long (0 : Int64))] (.long (0 : Int64)) := Arv.set Ar216 q216 Sz216 Nn216 Hs216 G216 rfl W216 0 rfl (Nat.le_of_ble_eq_true rfl)
    have N216 := Fr.snoc X216 N0 gn_b212
    have z217 : n0 ≤ h216.size := Nat.le_trans z213 (Keep.of_wr W216).1
    have sg218 : ∀ t, Steps p.tables e below (T216.setTop (mkF m 33 #[.val (.long p1), .second, .val (.long p2), .second, .val (.long p3), .second, .val (.long p4), .second, .val (.long p5), .second, .val (.int p6), .val (.int (3 : Int32)), .val (.ref b212), .unset, .unset, .unset, .unset, .unset, .unset, .unset, .unset, .unset, .unset] [(.long p3), (.int (1 : Int32)), (.ref b212)])) t → Steps p.tables e below (T216.setTop (mkF m 22 #[.val (.long p1), .second, .val (.long p2), .second, .val (.long p3), .second, .val (.long p4), .second, .val (.long p5), .second, .val (.int p6), .val (.int (3 : Int32)), .val (.ref b212), .unset, .unset, .unset, .unset, .unset, .unset, .unset, .unset, .unset, .unset] [])) t := by
      intro t k
      show Steps p.tables e below (T216.setTop (mkF m 22 #[.val (.long p1), .second, .val (.long p2), .second, .val (.long p3), .second, .val (.long p4), .second, .val (.long p5), .second, .val (.int p6), .val (.int (3 : Int32)), .val (.ref b212), .unset, .unset, .unset, .unset, .unset, .unset, .unset, .unset, .unset, .unset] [])) _
      refine XS.iload X216.here hx rfl (hb hby at_22) rfl ?_
      show Steps p.tables e below (T216.setTop (mkF m 24 #[.val (.long p1), .second, .val (.long p2), .second, .val (.long p3), .second, .val (.long p4), .second, .val (.long p5), .second, .val (.int p6), .val (.int (3 : Int32)), .val (.ref b212), .unset, .unset, .unset, .unset, .unset, .unset, .unset, .unset, .unset, .unset] [(.int (3 : Int32))])) _
      refine XS.iconst X216.here hx rfl (hb hby at_24) ?_
      show Steps p.tables e below (T216.setTop (mkF m 25 #[.val (.long p1), .second, .val (.long p2), .second, .val (.long p3), .second, .val (.long p4), .second, .val (.long p5), .second, .val (.int p6), .val (.int (3 : Int32)), .val (.ref b212), .unset, .unset, .unset, .unset, .unset, .unset, .unset, .unset, .unset, .unset] [(.int (1 : Int32)), (.int (3 : Int32))])) _
      refine XS.icmpNo X216.here hx rfl (hb hby at_25) rfl (tlt (by decide : (1 : Int32) < (3 : Int32))).2.2.2 ?_
      show Steps p.tables e below (T216.setTop (mkF m 28 #[.val (.long p1), .second, .val (.long p2), .second, .val (.long p3), .second, .val (.long p4), .second, .val (.long p5), .second, .val (.int p6), .val (.int (3 : Int32)), .val (.ref b212), .unset, .unset, .unset, .unset, .unset, .unset, .unset, .unset, .unset, .unset] [])) _
      refine XS.aload X216.here hx rfl (hb hby at_28) rfl rfl ?_
      show Steps p.tables e below (T216.setTop (mkF m 30 #[.val (.long p1), .second, .val (.long p2), .second, .val (.long p3), .second, .val (.long p4), .second, .val (.long p5), .second, .val (.int p6), .val (.int (3 : Int32)), .val (.ref b212), .unset, .unset, .unset, .unset, .unset, .unset, .unset, .unset, .unset, .unset] [(.ref b212)])) _
      refine XS.iconst X216.here hx rfl (hb hby at_30) ?_
      show Steps p.tables e below (T216.setTop (mkF m 31 #[.val (.long p1), .second, .val (.long p2), .second, .val (.long p3), .second, .val (.long p4), .second, .val (.long p5), .second, .val (.int p6), .val (.int (3 : Int32)), .val (.ref b212), .unset, .unset, .unset, .unset, .unset, .unset, .unset, .unset, .unset, .unset] [(.int (1 : Int32)), (.ref b212)])) _
      refine XS.lload X216.here hx rfl (hb hby at_31) rfl ?_
      exact k
    obtain ⟨cl219, Ar219, q219, Sz219, Nn219, Hs219, G219⟩ := id V216
    have hin219 : ¬ ((1 : Int32) < 0 ∨ cl219.slots.size ≤ ((1 : Int32)).toNatClampNeg) := inb_of Sz219 ⟨by decide, by decide⟩
    obtain ⟨T219, h219, X219, e219, W219, st219⟩ := stJ X216 hx hZ e216 Ar219 (j := (1 : Int32)) hin219 (g := (mkF m 33 #[.val (.long p1), .second, .val (.long p2), .second, .val (.long p3), .second, .val (.long p4), .second, .val (.long p5), .second, .val (.int p6), .val (.int (3 : Int32)), .val (.ref b212), .unset, .unset, .unset, .unset, .unset, .unset, .unset, .unset, .unset, .unset] [(.long p3), (.int (1 : Int32)), (.ref b212)])) rfl rfl (hb hby at_33)
    have V219 : Arv Z h219 b212 k212 .long (3 : Int32) [(.long p2), (.long p3), (.long (0 : Int64))] (.long (0 : Int64)) := Arv.set Ar219 q219 Sz219 Nn219 Hs219 G219 rfl W219 1 rfl (Nat.le_of_ble_eq_true rfl)
    have N219 := Fr.snoc X219 N216 gn_b212
    have z220 : n0 ≤ h219.size := Nat.le_trans z217 (Keep.of_wr W219).1
    have sg221 : ∀ t, Steps p.tables e below (T219.setTop (mkF m 45 #[.val (.long p1), .second, .val (.long p2), .second, .val (.long p3), .second, .val (.long p4), .second, .val (.long p5), .second, .val (.int p6), .val (.int (3 : Int32)), .val (.ref b212), .unset, .unset, .unset, .unset, .unset, .unset, .unset, .unset, .unset, .unset] [(.long p4), (.int (2 : Int32)), (.ref b212)])) t → Steps p.tables e below (T219.setTop (mkF m 34 #[.val (.long p1), .second, .val (.long p2), .second, .val (.long p3), .second, .val (.long p4), .second, .val (.long p5), .second, .val (.int p6), .val (.int (3 : Int32)), .val (.ref b212), .unset, .unset, .unset, .unset, .unset, .unset, .unset, .unset, .unset, .unset] [])) t := by
      intro t k
      show Steps p.tables e below (T219.setTop (mkF m 34 #[.val (.long p1), .second, .val (.long p2), .second, .val (.long p3), .second, .val (.long p4), .second, .val (.long p5), .second, .val (.int p6), .val (.int (3 : Int32)), .val (.ref b212), .unset, .unset, .unset, .unset, .unset, .unset, .unset, .unset, .unset, .unset] [])) _
      refine XS.iload X219.here hx rfl (hb hby at_34) rfl ?_
      show Steps p.tables e below (T219.setTop (mkF m 36 #[.val (.long p1), .second, .val (.long p2), .second, .val (.long p3), .second, .val (.long p4), .second, .val (.long p5), .second, .val (.int p6), .val (.int (3 : Int32)), .val (.ref b212), .unset, .unset, .unset, .unset, .unset, .unset, .unset, .unset, .unset, .unset] [(.int (3 : Int32))])) _
      refine XS.iconst X219.here hx rfl (hb hby at_36) ?_
      show Steps p.tables e below (T219.setTop (mkF m 37 #[.val (.long p1), .second, .val (.long p2), .second, .val (.long p3), .second, .val (.long p4), .second, .val (.long p5), .second, .val (.int p6), .val (.int (3 : Int32)), .val (.ref b212), .unset, .unset, .unset, .unset, .unset, .unset, .unset, .unset, .unset, .unset] [(.int (2 : Int32)), (.int (3 : Int32))])) _
      refine XS.icmpNo X219.here hx rfl (hb hby at_37) rfl (tlt (by decide : (2 : Int32) < (3 : Int32))).2.2.2 ?_
      show Steps p.tables e below (T219.setTop (mkF m 40 #[.val (.long p1), .second, .val (.long p2), .second, .val (.long p3), .second, .val (.long p4), .second, .val (.long p5), .second, .val (.int p6), .val (.int (3 : Int32)), .val (.ref b212), .unset, .unset, .unset, .unset, .unset, .unset, .unset, .unset, .unset, .unset] [])) _
      refine XS.aload X219.here hx rfl (hb hby at_40) rfl rfl ?_
      show Steps p.tables e below (T219.setTop (mkF m 42 #[.val (.long p1), .second, .val (.long p2), .second, .val (.long p3), .second, .val (.long p4), .second, .val (.long p5), .second, .val (.int p6), .val (.int (3 : Int32)), .val (.ref b212), .unset, .unset, .unset, .unset, .unset, .unset, .unset, .unset, .unset, .unset] [(.ref b212)])) _
      refine XS.iconst X219.here hx rfl (hb hby at_42) ?_
      show Steps p.tables e below (T219.setTop (mkF m 43 #[.val (.long p1), .second, .val (.long p2), .second, .val (.long p3), .second, .val (.long p4), .second, .val (.long p5), .second, .val (.int p6), .val (.int (3 : Int32)), .val (.ref b212), .unset, .unset, .unset, .unset, .unset, .unset, .unset, .unset, .unset, .unset] [(.int (2 : Int32)), (.ref b212)])) _
      refine XS.lload X219.here hx rfl (hb hby at_43) rfl ?_
      exact k
    obtain ⟨cl222, Ar222, q222, Sz222, Nn222, Hs222, G222⟩ := id V219
    have hin222 : ¬ ((2 : Int32) < 0 ∨ cl222.slots.size ≤ ((2 : Int32)).toNatClampNeg) := inb_of Sz222 ⟨by decide, by decide⟩
    obtain ⟨T222, h222, X222, e222, W222, st222⟩ := stJ X219 hx hZ e219 Ar222 (j := (2 : Int32)) hin222 (g := (mkF m 45 #[.val (.long p1), .second, .val (.long p2), .second, .val (.long p3), .second, .val (.long p4), .second, .val (.long p5), .second, .val (.int p6), .val (.int (3 : Int32)), .val (.ref b212), .unset, .unset, .unset, .unset, .unset, .unset, .unset, .unset, .unset, .unset] [(.long p4), (.int (2 : Int32)), (.ref b212)])) rfl rfl (hb hby at_45)
    have V222 : Arv Z h222 b212 k212 .long (3 : Int32) [(.long p2), (.long p3), (.long p4)] (.long (0 : Int64)) := Arv.set Ar222 q222 Sz222 Nn222 Hs222 G222 rfl W222 2 rfl (Nat.le_of_ble_eq_true rfl)
    have N222 := Fr.snoc X222 N219 gn_b212
    have z223 : n0 ≤ h222.size := Nat.le_trans z220 (Keep.of_wr W222).1
    have sg224 : ∀ t, Steps p.tables e below (T222.setTop (mkF m 49 #[.val (.long p1), .second, .val (.long p2), .second, .val (.long p3), .second, .val (.long p4), .second, .val (.long p5), .second, .val (.int p6), .val (.int (3 : Int32)), .val (.ref b212), .unset, .unset, .unset, .unset, .unset, .unset, .unset, .unset, .unset, .unset] [(.ref b212), (.long p1)])) t → Steps p.tables e below (T222.setTop (mkF m 46 #[.val (.long p1), .second, .val (.long p2), .second, .val (.long p3), .second, .val (.long p4), .second, .val (.long p5), .second, .val (.int p6), .val (.int (3 : Int32)), .val (.ref b212), .unset, .unset, .unset, .unset, .unset, .unset, .unset, .unset, .unset, .unset] [])) t := by
      intro t k
      show Steps p.tables e below (T222.setTop (mkF m 46 #[.val (.long p1), .second, .val (.long p2), .second, .val (.long p3), .second, .val (.long p4), .second, .val (.long p5), .second, .val (.int p6), .val (.int (3 : Int32)), .val (.ref b212), .unset, .unset, .unset, .unset, .unset, .unset, .unset, .unset, .unset, .unset] [])) _
      refine XS.lloadN X222.here hx rfl (hb hby at_46) rfl ?_
      show Steps p.tables e below (T222.setTop (mkF m 47 #[.val (.long p1), .second, .val (.long p2), .second, .val (.long p3), .second, .val (.long p4), .second, .val (.long p5), .second, .val (.int p6), .val (.int (3 : Int32)), .val (.ref b212), .unset, .unset, .unset, .unset, .unset, .unset, .unset, .unset, .unset, .unset] [(.long p1)])) _
      refine XS.aload X222.here hx rfl (hb hby at_47) rfl rfl ?_
      exact k
    obtain ⟨_, _, ⟨T225, L225, k225, n225⟩, -, X225, ⟨Lc225, hQ225, l225, y225, z225⟩, st225⟩ := Jvm.LawKit.callS X222 hx (y := (⟨"com/example/haversack/haversack/evaluation/Seeds", "derived", "(J[J)J"⟩ : MethodName)) hown (mvT hZ (hw _ (List.mem_of_getElem? (i := 1) rfl))) (mvT hZ (hw _ (List.mem_of_getElem? (i := 2) rfl))) (mvT hZ (hw _ (List.mem_of_getElem? (i := 3) rfl))) (mvT hZ (hw _ (List.mem_of_getElem? (i := 4) rfl))) (by decide) (backOf (W := 0) (rmD3 l Z a0 hw [] p1 b212 k212 p2 p3 p4 h222 n0 z223 V222) hZ (hw _ (List.mem_of_getElem? (i := 4) rfl)) (hw _ (List.mem_of_getElem? (i := 3) rfl)) (by decide) (by decide)) (g := (mkF m 49 #[.val (.long p1), .second, .val (.long p2), .second, .val (.long p3), .second, .val (.long p4), .second, .val (.long p5), .second, .val (.int p6), .val (.int (3 : Int32)), .val (.ref b212), .unset, .unset, .unset, .unset, .unset, .unset, .unset, .unset, .unset, .unset] [(.ref b212), (.long p1)])) rfl (by rw [hml]; rfl) (argsL := [(.long p1), (.ref b212)]) (rest := []) (lenOf pd_1 rfl) rfl (by show 2 * 0 + _ ≤ _; exact Nat.le_of_eq rfl) (hb hby at_49) (fun _ _ => ⟨rfl, e222, (by decide : 1 + 0 ≤ _), (by decide : 3 + 0 ≤ _)⟩)
    dsimp only [Pt.U, Pt.locs, Pt.cells, Pt.slots] at X225 l225 y225 z225 st225 hQ225
    subst l225 y225 z225
    obtain ⟨rfl, N225q, e225⟩ := hQ225
    have N225 := Fr.app N222 N225q
    have sg226 : ∀ t, Steps p.tables e below (T225.setTop (mkF m 56 #[.val (.long p1), .second, .val (.long p2), .second, .val (.long p3), .second, .val (.long p4), .second, .val (.long p5), .second, .val (.int p6), .val (.int (3 : Int32)), .val (.ref b212), .val (.long (fMix ((fMix ((fMix ((fMix p1) ^^^ p2)) ^^^ p3)) ^^^ p4))), .second, .unset, .unset, .unset, .unset, .unset, .unset, .unset, .unset] [(.int (0 : Int32)), (.long p1)])) t → Steps p.tables e below (T225.setTop (mkF m 52 #[.val (.long p1), .second, .val (.long p2), .second, .val (.long p3), .second, .val (.long p4), .second, .val (.long p5), .second, .val (.int p6), .val (.int (3 : Int32)), .val (.ref b212), .unset, .unset, .unset, .unset, .unset, .unset, .unset, .unset, .unset, .unset] [(.long (fMix ((fMix ((fMix ((fMix p1) ^^^ p2)) ^^^ p3)) ^^^ p4)))])) t := by
      intro t k
      show Steps p.tables e below (T225.setTop (mkF m 52 #[.val (.long p1), .second, .val (.long p2), .second, .val (.long p3), .second, .val (.long p4), .second, .val (.long p5), .second, .val (.int p6), .val (.int (3 : Int32)), .val (.ref b212), .unset, .unset, .unset, .unset, .unset, .unset, .unset, .unset, .unset, .unset] [(.long (fMix ((fMix ((fMix ((fMix p1) ^^^ p2)) ^^^ p3)) ^^^ p4)))])) _
      refine XS.lstore X225.here hx rfl (hb hby at_52) rfl (l' := #[.val (.long p1), .second, .val (.long p2), .second, .val (.long p3), .second, .val (.long p4), .second, .val (.long p5), .second, .val (.int p6), .val (.int (3 : Int32)), .val (.ref b212), .val (.long (fMix ((fMix ((fMix ((fMix p1) ^^^ p2)) ^^^ p3)) ^^^ p4))), .second, .unset, .unset, .unset, .unset, .unset, .unset, .unset, .unset]) rfl ?_
      show Steps p.tables e below (T225.setTop (mkF m 54 #[.val (.long p1), .second, .val (.long p2), .second, .val (.long p3), .second, .val (.long p4), .second, .val (.long p5), .second, .val (.int p6), .val (.int (3 : Int32)), .val (.ref b212), .val (.long (fMix ((fMix ((fMix ((fMix p1) ^^^ p2)) ^^^ p3)) ^^^ p4))), .second, .unset, .unset, .unset, .unset, .unset, .unset, .unset, .unset] [])) _
      refine XS.lloadN X225.here hx rfl (hb hby at_54) rfl ?_
      show Steps p.tables e below (T225.setTop (mkF m 55 #[.val (.long p1), .second, .val (.long p2), .second, .val (.long p3), .second, .val (.long p4), .second, .val (.long p5), .second, .val (.int p6), .val (.int (3 : Int32)), .val (.ref b212), .val (.long (fMix ((fMix ((fMix ((fMix p1) ^^^ p2)) ^^^ p3)) ^^^ p4))), .second, .unset, .unset, .unset, .unset, .unset, .unset, .unset, .unset] [(.long p1)])) _
      refine XS.iconst X225.here hx rfl (hb hby at_55) ?_
      exact k
    obtain ⟨T227, h227, k227, X227, e227, E227, A227, st227⟩ := newP X225 hx hZ (hw _ (List.mem_of_getElem? (i := 0) rfl)) e225 (g := (mkF m 56 #[.val (.long p1), .second, .val (.long p2), .second, .val (.long p3), .second, .val (.long p4), .second, .val (.long p5), .second, .val (.int p6), .val (.int (3 : Int32)), .val (.ref b212), .val (.long (fMix ((fMix ((fMix ((fMix p1) ^^^ p2)) ^^^ p3)) ^^^ p4))), .second, .unset, .unset, .unset, .unset, .unset, .unset, .unset, .unset] [(.int (0 : Int32)), (.long p1)])) rfl (hb hby at_56) rfl (by decide) (cap := 0) (by decide) (by decide) (by decide) (by decide)
    obtain ⟨b227, g227⟩ : ∃ z, z = h222.size := ⟨_, rfl⟩
    rw [← g227] at A227 st227
    have ne228 : b212 ≠ b227 := Nat.ne_of_lt (Nat.lt_of_lt_of_le V222.lt (Nat.le_of_eq g227.symm))
    have gn_b227 : n0 ≤ b227 := Nat.le_trans z223 (Nat.le_of_eq g227.symm)
    have f229 : Arv Z h227 b212 k212 .long (3 : Int32) [(.long p2), (.long p3), (.long p4)] (.long (0 : Int64)) := V222.ext E227
    have z230 : n0 ≤ h227.size := Nat.le_trans z223 E227.1
    have f231 : Arv Z h227 b227 k227 .long (0 : Int32) [] (.long (0 : Int64)) := (Arv.new A227 (by decide))
    obtain ⟨_, _, ⟨T232, L232, k232, n232⟩, -, X232, ⟨Lc232, hQ232, l232, y232, z232⟩, st232⟩ := Jvm.LawKit.callS X227 hx (y := (⟨"com/example/haversack/haversack/evaluation/Seeds", "derived", "(J[J)J"⟩ : MethodName)) hown (mvT hZ (hw _ (List.mem_of_getElem? (i := 1) rfl))) (mvT hZ (hw _ (List.mem_of_getElem? (i := 2) rfl))) (mvT hZ (hw _ (List.mem_of_getElem? (i := 3) rfl))) (mvT hZ (hw _ (List.mem_of_getElem? (i := 4) rfl))) (by decide) (backOf (W := 0) (rmD0 l Z a0 hw [] p1 b227 k227 h227 n0 z230 f231) hZ (hw _ (List.mem_of_getElem? (i := 4) rfl)) (hw _ (List.mem_of_getElem? (i := 3) rfl)) (by decide) (by decide)) (g := (mkF m 58 #[.val (.long p1), .second, .val (.long p2), .second, .val (.long p3), .second, .val (.long p4), .second, .val (.long p5), .second, .val (.int p6), .val (.int (3 : Int32)), .val (.ref b212), .val (.long (fMix ((fMix ((fMix ((fMix p1) ^^^ p2)) ^^^ p3)) ^^^ p4))), .second, .unset, .unset, .unset, .unset, .unset, .unset, .unset, .unset] [(.ref b227), (.long p1)])) rfl (by rw [hml]; rfl) (argsL := [(.long p1), (.ref b227)]) (rest := []) (lenOf pd_1 rfl) rfl (by show 2 * 0 + _ ≤ _; exact Nat.le_of_eq rfl) (hb hby at_58) (fun _ _ => ⟨rfl, e227, (by decide : 2 + 0 ≤ _), (by decide : 3 + 0 ≤ _)⟩)
    dsimp only [Pt.U, Pt.locs, Pt.cells, Pt.slots] at X232 l232 y232 z232 st232 hQ232
    subst l232 y232 z232
    obtain ⟨rfl, N232q, e232⟩ := hQ232
    have N232 := Fr.app N225 N232q
    have sg233 : ∀ t, Steps p.tables e below (T232.setTop (mkF m 77 #[.val (.long p1), .second, .val (.long p2), .second, .val (.long p3), .second, .val (.long p4), .second, .val (.long p5), .second, .val (.int p6), .val (.int (3 : Int32)), .val (.ref b212), .val (.long (fMix ((fMix ((fMix ((fMix p1) ^^^ p2)) ^^^ p3)) ^^^ p4))), .second, .val (.long (fMix p1)), .second, .val (.long (fMix p1)), .second, .unset, .unset, .unset, .unset] [(.int (0 : Int32)), (.long ((fMix p1) ^^^ p2))])) t → Steps p.tables e below (T232.setTop (mkF m 61 #[.val (.long p1), .second, .val (.long p2), .second, .val (.long p3), .second, .val (.long p4), .second, .val (.long p5), .second, .val (.int p6), .val (.int (3 : Int32)), .val (.ref b212), .val (.long (fMix ((fMix ((fMix ((fMix p1) ^^^ p2)) ^^^ p3)) ^^^ p4))), .second, .unset, .unset, .unset, .unset, .unset, .unset, .unset, .unset] [(.long (fMix p1))])) t := by
      intro t k
      show Steps p.tables e below (T232.setTop (mkF m 61 #[.val (.long p1), .second, .val (.long p2), .second, .val (.long p3), .second, .val (.long p4), .second, .val (.long p5), .second, .val (.int p6), .val (.int (3 : Int32)), .val (.ref b212), .val (.long (fMix ((fMix ((fMix ((fMix p1) ^^^ p2)) ^^^ p3)) ^^^ p4))), .second, .unset, .unset, .unset, .unset, .unset, .unset, .unset, .unset] [(.long (fMix p1))])) _
      refine XS.lstore X232.here hx rfl (hb hby at_61) rfl (l' := #[.val (.long p1), .second, .val (.long p2), .second, .val (.long p3), .second, .val (.long p4), .second, .val (.long p5), .second, .val (.int p6), .val (.int (3 : Int32)), .val (.ref b212), .val (.long (fMix ((fMix ((fMix ((fMix p1) ^^^ p2)) ^^^ p3)) ^^^ p4))), .second, .val (.long (fMix p1)), .second, .unset, .unset, .unset, .unset, .unset, .unset]) rfl ?_
      show Steps p.tables e below (T232.setTop (mkF m 63 #[.val (.long p1), .second, .val (.long p2), .second, .val (.long p3), .second, .val (.long p4), .second, .val (.long p5), .second, .val (.int p6), .val (.int (3 : Int32)), .val (.ref b212), .val (.long (fMix ((fMix ((fMix ((fMix p1) ^^^ p2)) ^^^ p3)) ^^^ p4))), .second, .val (.long (fMix p1)), .second, .unset, .unset, .unset, .unset, .unset, .unset] [])) _
      refine XS.lload X232.here hx rfl (hb hby at_63) rfl ?_
      show Steps p.tables e below (T232.setTop (mkF m 65 #[.val (.long p1), .second, .val (.long p2), .second, .val (.long p3), .second, .val (.long p4), .second, .val (.long p5), .second, .val (.int p6), .val (.int (3 : Int32)), .val (.ref b212), .val (.long (fMix ((fMix ((fMix ((fMix p1) ^^^ p2)) ^^^ p3)) ^^^ p4))), .second, .val (.long (fMix p1)), .second, .unset, .unset, .unset, .unset, .unset, .unset] [(.long (fMix p1))])) _
      refine XS.lstore X232.here hx rfl (hb hby at_65) rfl (l' := #[.val (.long p1), .second, .val (.long p2), .second, .val (.long p3), .second, .val (.long p4), .second, .val (.long p5), .second, .val (.int p6), .val (.int (3 : Int32)), .val (.ref b212), .val (.long (fMix ((fMix ((fMix ((fMix p1) ^^^ p2)) ^^^ p3)) ^^^ p4))), .second, .val (.long (fMix p1)), .second, .val (.long (fMix p1)), .second, .unset, .unset, .unset, .unset]) rfl ?_
      show Steps p.tables e below (T232.setTop (mkF m 67 #[.val (.long p1), .second, .val (.long p2), .second, .val (.long p3), .second, .val (.long p4), .second, .val (.long p5), .second, .val (.int p6), .val (.int (3 : Int32)), .val (.ref b212), .val (.long (fMix ((fMix ((fMix ((fMix p1) ^^^ p2)) ^^^ p3)) ^^^ p4))), .second, .val (.long (fMix p1)), .second, .val (.long (fMix p1)), .second, .unset, .unset, .unset, .unset] [])) _
      refine XS.iload X232.here hx rfl (hb hby at_67) rfl ?_
      show Steps p.tables e below (T232.setTop (mkF m 69 #[.val (.long p1), .second, .val (.long p2), .second, .val (.long p3), .second, .val (.long p4), .second, .val (.long p5), .second, .val (.int p6), .val (.int (3 : Int32)), .val (.ref b212), .val (.long (fMix ((fMix ((fMix ((fMix p1) ^^^ p2)) ^^^ p3)) ^^^ p4))), .second, .val (.long (fMix p1)), .second, .val (.long (fMix p1)), .second, .unset, .unset, .unset, .unset] [(.int (3 : Int32))])) _
      refine XS.ifNo X232.here hx rfl (hb hby at_69) rfl ((if0 _ _).trans (tlt (by decide : (0 : Int32) < (3 : Int32))).2.2.2) ?_
      show Steps p.tables e below (T232.setTop (mkF m 72 #[.val (.long p1), .second, .val (.long p2), .second, .val (.long p3), .second, .val (.long p4), .second, .val (.long p5), .second, .val (.int p6), .val (.int (3 : Int32)), .val (.ref b212), .val (.long (fMix ((fMix ((fMix ((fMix p1) ^^^ p2)) ^^^ p3)) ^^^ p4))), .second, .val (.long (fMix p1)), .second, .val (.long (fMix p1)), .second, .unset, .unset, .unset, .unset] [])) _
      refine XS.lload X232.here hx rfl (hb hby at_72) rfl ?_
      show Steps p.tables e below (T232.setTop (mkF m 74 #[.val (.long p1), .second, .val (.long p2), .second, .val (.long p3), .second, .val (.long p4), .second, .val (.long p5), .second, .val (.int p6), .val (.int (3 : Int32)), .val (.ref b212), .val (.long (fMix ((fMix ((fMix ((fMix p1) ^^^ p2)) ^^^ p3)) ^^^ p4))), .second, .val (.long (fMix p1)), .second, .val (.long (fMix p1)), .second, .unset, .unset, .unset, .unset] [(.long (fMix p1))])) _
      refine XS.lloadN X232.here hx rfl (hb hby at_74) rfl ?_
      show Steps p.tables e below (T232.setTop (mkF m 75 #[.val (.long p1), .second, .val (.long p2), .second, .val (.long p3), .second, .val (.long p4), .second, .val (.long p5), .second, .val (.int p6), .val (.int (3 : Int32)), .val (.ref b212), .val (.long (fMix ((fMix ((fMix ((fMix p1) ^^^ p2)) ^^^ p3)) ^^^ p4))), .second, .val (.long (fMix p1)), .second, .val (.long (fMix p1)), .second, .unset, .unset, .unset, .unset] [(.long p2), (.long (fMix p1))])) _
      refine XS.lxor X232.here hx rfl (hb hby at_75) rfl ?_
      show Steps p.tables e below (T232.setTop (mkF m 76 #[.val (.long p1), .second, .val (.long p2), .second, .val (.long p3), .second, .val (.long p4), .second, .val (.long p5), .second, .val (.int p6), .val (.int (3 : Int32)), .val (.ref b212), .val (.long (fMix ((fMix ((fMix ((fMix p1) ^^^ p2)) ^^^ p3)) ^^^ p4))), .second, .val (.long (fMix p1)), .second, .val (.long (fMix p1)), .second, .unset, .unset, .unset, .unset] [(.long ((fMix p1) ^^^ p2))])) _
      refine XS.iconst X232.here hx rfl (hb hby at_76) ?_
      exact k
    obtain ⟨T234, h234, k234, X234, e234, E234, A234, st234⟩ := newP X232 hx hZ (hw _ (List.mem_of_getElem? (i := 0) rfl)) e232 (g := (mkF m 77 #[.val (.long p1), .second, .val (.long p2), .second, .val (.long p3), .second, .val (.long p4), .second, .val (.long p5), .second, .val (.int p6), .val (.int (3 : Int32)), .val (.ref b212), .val (.long (fMix ((fMix ((fMix ((fMix p1) ^^^ p2)) ^^^ p3)) ^^^ p4))), .second, .val (.long (fMix p1)), .second, .val (.long (fMix p1)), .second, .unset, .unset, .unset, .unset] [(.int (0 : Int32)), (.long ((fMix p1) ^^^ p2))])) rfl (hb hby at_77) rfl (by decide) (cap := 0) (by decide) (by decide) (by decide) (by decide)
    obtain ⟨b234, g234⟩ : ∃ z, z = h227.size := ⟨_, rfl⟩
    rw [← g234] at A234 st234
    have ne235 : b212 ≠ b234 := Nat.ne_of_lt (Nat.lt_of_lt_of_le f229.lt (Nat.le_of_eq g234.symm))
    have ne236 : b227 ≠ b234 := Nat.ne_of_lt (Nat.lt_of_lt_of_le f231.lt (Nat.le_of_eq g234.symm))
    have gn_b234 : n0 ≤ b234 := Nat.le_trans z230 (Nat.le_of_eq g234.symm)
    have f237 : Arv Z h234 b212 k212 .long (3 : Int32) [(.long p2), (.long p3), (.long p4)] (.long (0 : Int64)) := f229.ext E234
    have f238 : Arv Z h234 b227 k227 .long (0 : Int32) [] (.long (0 : Int64)) := f231.ext E234
    have z239 : n0 ≤ h234.size := Nat.le_trans z230 E234.1
    have f240 : Arv Z h234 b234 k234 .long (0 : Int32) [] (.long (0 : Int64)) := (Arv.new A234 (by decide))
    obtain ⟨_, _, ⟨T241, L241, k241, n241⟩, -, X241, ⟨Lc241, hQ241, l241, y241, z241⟩, st241⟩ := Jvm.LawKit.callS X234 hx (y := (⟨"com/example/haversack/haversack/evaluation/Seeds", "derived", "(J[J)J"⟩ : MethodName)) hown (mvT hZ (hw _ (List.mem_of_getElem? (i := 1) rfl))) (mvT hZ (hw _ (List.mem_of_getElem? (i := 2) rfl))) (mvT hZ (hw _ (List.mem_of_getElem? (i := 3) rfl))) (mvT hZ (hw _ (List.mem_of_getElem? (i := 4) rfl))) (by decide) (backOf (W := 0) (rmD0 l Z a0 hw [] ((fMix p1) ^^^ p2) b234 k234 h234 n0 z239 f240) hZ (hw _ (List.mem_of_getElem? (i := 4) rfl)) (hw _ (List.mem_of_getElem? (i := 3) rfl)) (by decide) (by decide)) (g := (mkF m 79 #[.val (.long p1), .second, .val (.long p2), .second, .val (.long p3), .second, .val (.long p4), .second, .val (.long p5), .second, .val (.int p6), .val (.int (3 : Int32)), .val (.ref b212), .val (.long (fMix ((fMix ((fMix ((fMix p1) ^^^ p2)) ^^^ p3)) ^^^ p4))), .second, .val (.long (fMix p1)), .second, .val (.long (fMix p1)), .second, .unset, .unset, .unset, .unset] [(.ref b234), (.long ((fMix p1) ^^^ p2))])) rfl (by rw [hml]; rfl) (argsL := [(.long ((fMix p1) ^^^ p2)), (.ref b234)]) (rest := []) (lenOf pd_1 rfl) rfl (by show 2 * 0 + _ ≤ _; exact Nat.le_of_eq rfl) (hb hby at_79) (fun _ _ => ⟨rfl, e234, (by decide : 3 + 0 ≤ _), (by decide : 3 + 0 ≤ _)⟩)
    dsimp only [Pt.U, Pt.locs, Pt.cells, Pt.slots] at X241 l241 y241 z241 st241 hQ241
    subst l241 y241 z241
    obtain ⟨rfl, N241q, e241⟩ := hQ241
    have N241 := Fr.app N232 N241q
    have sg242 : ∀ t, Steps p.tables e below (T241.setTop (mkF m 96 #[.val (.long p1), .second, .val (.long p2), .second, .val (.long p3), .second, .val (.long p4), .second, .val (.long p5), .second, .val (.int p6), .val (.int (3 : Int32)), .val (.ref b212), .val (.long (fMix ((fMix ((fMix ((fMix p1) ^^^ p2)) ^^^ p3)) ^^^ p4))), .second, .val (.long (fMix p1)), .second, .val (.long (fMix ((fMix p1) ^^^ p2))), .second, .unset, .unset, .unset, .unset] [(.int (0 : Int32)), (.long ((fMix ((fMix p1) ^^^ p2)) ^^^ p3))])) t → Steps p.tables e below (T241.setTop (mkF m 82 #[.val (.long p1), .second, .val (.long p2), .second, .val (.long p3), .second, .val (.long p4), .second, .val (.long p5), .second, .val (.int p6), .val (.int (3 : Int32)), .val (.ref b212), .val (.long (fMix ((fMix ((fMix ((fMix p1) ^^^ p2)) ^^^ p3)) ^^^ p4))), .second, .val (.long (fMix p1)), .second, .val (.long (fMix p1)), .second, .unset, .unset, .unset, .unset] [(.long (fMix ((fMix p1) ^^^ p2)))])) t := by
      intro t k
      show Steps p.tables e below (T241.setTop (mkF m 82 #[.val (.long p1), .second, .val (.long p2), .second, .val (.long p3), .second, .val (.long p4), .second, .val (.long p5), .second, .val (.int p6), .val (.int (3 : Int32)), .val (.ref b212), .val (.long (fMix ((fMix ((fMix ((fMix p1) ^^^ p2)) ^^^ p3)) ^^^ p4))), .second, .val (.long (fMix p1)), .second, .val (.long (fMix p1)), .second, .unset, .unset, .unset, .unset] [(.long (fMix ((fMix p1) ^^^ p2)))])) _
      refine XS.lstore X241.here hx rfl (hb hby at_82) rfl (l' := #[.val (.long p1), .second, .val (.long p2), .second, .val (.long p3), .second, .val (.long p4), .second, .val (.long p5), .second, .val (.int p6), .val (.int (3 : Int32)), .val (.ref b212), .val (.long (fMix ((fMix ((fMix ((fMix p1) ^^^ p2)) ^^^ p3)) ^^^ p4))), .second, .val (.long (fMix p1)), .second, .val (.long (fMix ((fMix p1) ^^^ p2))), .second, .unset, .unset, .unset, .unset]) rfl ?_
      show Steps p.tables e below (T241.setTop (mkF m 84 #[.val (.long p1), .second, .val (.long p2), .second, .val (.long p3), .second, .val (.long p4), .second, .val (.long p5), .second, .val (.int p6), .val (.int (3 : Int32)), .val (.ref b212), .val (.long (fMix ((fMix ((fMix ((fMix p1) ^^^ p2)) ^^^ p3)) ^^^ p4))), .second, .val (.long (fMix p1)), .second, .val (.long (fMix ((fMix p1) ^^^ p2))), .second, .unset, .unset, .unset, .unset] [])) _
      refine XS.iload X241.here hx rfl (hb hby at_84) rfl ?_
      show Steps p.tables e below (T241.setTop (mkF m 86 #[.val (.long p1), .second, .val (.long p2), .second, .val (.long p3), .second, .val (.long p4), .second, .val (.long p5), .second, .val (.int p6), .val (.int (3 : Int32)), .val (.ref b212), .val (.long (fMix ((fMix ((fMix ((fMix p1) ^^^ p2)) ^^^ p3)) ^^^ p4))), .second, .val (.long (fMix p1)), .second, .val (.long (fMix ((fMix p1) ^^^ p2))), .second, .unset, .unset, .unset, .unset] [(.int (3 : Int32))])) _
      refine XS.iconst X241.here hx rfl (hb hby at_86) ?_
      show Steps p.tables e below (T241.setTop (mkF m 87 #[.val (.long p1), .second, .val (.long p2), .second, .val (.long p3), .second, .val (.long p4), .second, .val (.long p5), .second, .val (.int p6), .val (.int (3 : Int32)), .val (.ref b212), .val (.long (fMix ((fMix ((fMix ((fMix p1) ^^^ p2)) ^^^ p3)) ^^^ p4))), .second, .val (.long (fMix p1)), .second, .val (.long (fMix ((fMix p1) ^^^ p2))), .second, .unset, .unset, .unset, .unset] [(.int (1 : Int32)), (.int (3 : Int32))])) _
      refine XS.icmpNo X241.here hx rfl (hb hby at_87) rfl (tlt (by decide : (1 : Int32) < (3 : Int32))).2.2.2 ?_
      show Steps p.tables e below (T241.setTop (mkF m 90 #[.val (.long p1), .second, .val (.long p2), .second, .val (.long p3), .second, .val (.long p4), .second, .val (.long p5), .second, .val (.int p6), .val (.int (3 : Int32)), .val (.ref b212), .val (.long (fMix ((fMix ((fMix ((fMix p1) ^^^ p2)) ^^^ p3)) ^^^ p4))), .second, .val (.long (fMix p1)), .second, .val (.long (fMix ((fMix p1) ^^^ p2))), .second, .unset, .unset, .unset, .unset] [])) _
      refine XS.lload X241.here hx rfl (hb hby at_90) rfl ?_
      show Steps p.tables e below (T241.setTop (mkF m 92 #[.val (.long p1), .second, .val (.long p2), .second, .val (.long p3), .second, .val (.long p4), .second, .val (.long p5), .second, .val (.int p6), .val (.int (3 : Int32)), .val (.ref b212), .val (.long (fMix ((fMix ((fMix ((fMix p1) ^^^ p2)) ^^^ p3)) ^^^ p4))), .second, .val (.long (fMix p1)), .second, .val (.long (fMix ((fMix p1) ^^^ p2))), .second, .unset, .unset, .unset, .unset] [(.long (fMix ((fMix p1) ^^^ p2)))])) _
      refine XS.lload X241.here hx rfl (hb hby at_92) rfl ?_
      show Steps p.tables e below (T241.setTop (mkF m 94 #[.val (.long p1), .second, .val (.long p2), .second, .val (.long p3), .second, .val (.long p4), .second, .val (.long p5), .second, .val (.int p6), .val (.int (3 : Int32)), .val (.ref b212), .val (.long (fMix ((fMix ((fMix ((fMix p1) ^^^ p2)) ^^^ p3)) ^^^ p4))), .second, .val (.long (fMix p1)), .second, .val (.long (fMix ((fMix p1) ^^^ p2))), .second, .unset, .unset, .unset, .unset] [(.long p3), (.long (fMix ((fMix p1) ^^^ p2)))])) _
      refine XS.lxor X241.here hx rfl (hb hby at_94) rfl ?_
      show Steps p.tables e below (T241.setTop (mkF m 95 #[.val (.long p1), .second, .val (.long p2), .second, .val (.long p3), .second, .val (.long p4), .second, .val (.long p5), .second, .val (.int p6), .val (.int (3 : Int32)), .val (.ref b212), .val (.long (fMix ((fMix ((fMix ((fMix p1) ^^^ p2)) ^^^ p3)) ^^^ p4))), .second, .val (.long (fMix p1)), .second, .val (.long (fMix ((fMix p1) ^^^ p2))), .second, .unset, .unset, .unset, .unset] [(.long ((fMix ((fMix p1) ^^^ p2)) ^^^ p3))])) _
      refine XS.iconst X241.here hx rfl (hb hby at_95) ?_
      exact k
    obtain ⟨T243, h243, k243, X243, e243, E243, A243, st243⟩ := newP X241 hx hZ (hw _ (List.mem_of_getElem? (i := 0) rfl)) e241 (g := (mkF m 96 #[.val (.long p1), .second, .val (.long p2), .second, .val (.long p3), .second, .val (.long p4), .second, .val (.long p5), .second, .val (.int p6), .val (.int (3 : Int32)), .val (.ref b212), .val (.long (fMix ((fMix ((fMix ((fMix p1) ^^^ p2)) ^^^ p3)) ^^^ p4))), .second, .val (.long (fMix p1)), .second, .val (.long (fMix ((fMix p1) ^^^ p2))), .second, .unset, .unset, .unset, .unset] [(.int (0 : Int32)), (.long ((fMix ((fMix p1) ^^^ p2)) ^^^ p3))])) rfl (hb hby at_96) rfl (by decide) (cap := 0) (by decide) (by decide) (by decide) (by decide)
    obtain ⟨b243, g243⟩ : ∃ z, z = h234.size := ⟨_, rfl⟩
    rw [← g243] at A243 st243
    have ne244 : b212 ≠ b243 := Nat.ne_of_lt (Nat.lt_of_lt_of_le f237.lt (Nat.le_of_eq g243.symm))
    have ne245 : b227 ≠ b243 := Nat.ne_of_lt (Nat.lt_of_lt_of_le f238.lt (Nat.le_of_eq g243.symm))
    have ne246 : b234 ≠ b243 := Nat.ne_of_lt (Nat.lt_of_lt_of_le f240.lt (Nat.le_of_eq g243.symm))
    have gn_b243 : n0 ≤ b243 := Nat.le_trans z239 (Nat.le_of_eq g243.symm)
    have f247 : Arv Z h243 b212 k212 .long (3 : Int32) [(.long p2), (.long p3), (.long p4)] (.long (0 : Int64)) := f237.ext E243
    have f248 : Arv Z h243 b227 k227 .long (0 : Int32) [] (.long (0 : Int64)) := f238.ext E243
    have f249 : Arv Z h243 b234 k234 .long (0 : Int32) [] (.long (0 : Int64)) := f240.ext E243
    have z250 : n0 ≤ h243.size := Nat.le_trans z239 E243.1
    have f251 : Arv Z h243 b243 k243 .long (0 : Int32) [] (.long (0 : Int64)) := (Arv.new A243 (by decide))
    obtain ⟨_, _, ⟨T252, L252, k252, n252⟩, -, X252, ⟨Lc252, hQ252, l252, y252, z252⟩, st252⟩ := Jvm.LawKit.callS X243 hx (y := (⟨"com/example/haversack/haversack/evaluation/Seeds", "derived", "(J[J)J"⟩ : MethodName)) hown (mvT hZ (hw _ (List.mem_of_getElem? (i := 1) rfl))) (mvT hZ (hw _ (List.mem_of_getElem? (i := 2) rfl))) (mvT hZ (hw _ (List.mem_of_getElem? (i := 3) rfl))) (mvT hZ (hw _ (List.mem_of_getElem? (i := 4) rfl))) (by decide) (backOf (W := 0) (rmD0 l Z a0 hw [] ((fMix ((fMix p1) ^^^ p2)) ^^^ p3) b243 k243 h243 n0 z250 f251) hZ (hw _ (List.mem_of_getElem? (i := 4) rfl)) (hw _ (List.mem_of_getElem? (i := 3) rfl)) (by decide) (by decide)) (g := (mkF m 98 #[.val (.long p1), .second, .val (.long p2), .second, .val (.long p3), .second, .val (.long p4), .second, .val (.long p5), .second, .val (.int p6), .val (.int (3 : Int32)), .val (.ref b212), .val (.long (fMix ((fMix ((fMix ((fMix p1) ^^^ p2)) ^^^ p3)) ^^^ p4))), .second, .val (.long (fMix p1)), .second, .val (.long (fMix ((fMix p1) ^^^ p2))), .second, .unset, .unset, .unset, .unset] [(.ref b243), (.long ((fMix ((fMix p1) ^^^ p2)) ^^^ p3))])) rfl (by rw [hml]; rfl) (argsL := [(.long ((fMix ((fMix p1) ^^^ p2)) ^^^ p3)), (.ref b243)]) (rest := []) (lenOf pd_1 rfl) rfl (by show 2 * 0 + _ ≤ _; exact Nat.le_of_eq rfl) (hb hby at_98) (fun _ _ => ⟨rfl, e243, (by decide : 4 + 0 ≤ _), (by decide : 3 + 0 ≤ _)⟩)
    dsimp only [Pt.U, Pt.locs, Pt.cells, Pt.slots] at X252 l252 y252 z252 st252 hQ252
    subst l252 y252 z252
    obtain ⟨rfl, N252q, e252⟩ := hQ252
    have N252 := Fr.app N241 N252q
    have sg253 : ∀ t, Steps p.tables e below (T252.setTop (mkF m 115 #[.val (.long p1), .second, .val (.long p2), .second, .val (.long p3), .second, .val (.long p4), .second, .val (.long p5), .second, .val (.int p6), .val (.int (3 : Int32)), .val (.ref b212), .val (.long (fMix ((fMix ((fMix ((fMix p1) ^^^ p2)) ^^^ p3)) ^^^ p4))), .second, .val (.long (fMix p1)), .second, .val (.long (fMix ((fMix ((fMix p1) ^^^ p2)) ^^^ p3))), .second, .unset, .unset, .unset, .unset] [(.int (0 : Int32)), (.long ((fMix ((fMix ((fMix p1) ^^^ p2)) ^^^ p3)) ^^^ p4))])) t → Steps p.tables e below (T252.setTop (mkF m 101 #[.val (.long p1), .second, .val (.long p2), .second, .val (.long p3), .second, .val (.long p4), .second, .val (.long p5), .second, .val (.int p6), .val (.int (3 : Int32)), .val (.ref b212), .val (.long (fMix ((fMix ((fMix ((fMix p1) ^^^ p2)) ^^^ p3)) ^^^ p4))), .second, .val (.long (fMix p1)), .second, .val (.long (fMix ((fMix p1) ^^^ p2))), .second, .unset, .unset, .unset, .unset] [(.long (fMix ((fMix ((fMix p1) ^^^ p2)) ^^^ p3)))])) t := by
      intro t k
      show Steps p.tables e below (T252.setTop (mkF m 101 #[.val (.long p1), .second, .val (.long p2), .second, .val (.long p3), .second, .val (.long p4), .second, .val (.long p5), .second, .val (.int p6), .val (.int (3 : Int32)), .val (.ref b212), .val (.long (fMix ((fMix ((fMix ((fMix p1) ^^^ p2)) ^^^ p3)) ^^^ p4))), .second, .val (.long (fMix p1)), .second, .val (.long (fMix ((fMix p1) ^^^ p2))), .second, .unset, .unset, .unset, .unset] [(.long (fMix ((fMix ((fMix p1) ^^^ p2)) ^^^ p3)))])) _
      refine XS.lstore X252.here hx rfl (hb hby at_101) rfl (l' := #[.val (.long p1), .second, .val (.long p2), .second, .val (.long p3), .second, .val (.long p4), .second, .val (.long p5), .second, .val (.int p6), .val (.int (3 : Int32)), .val (.ref b212), .val (.long (fMix ((fMix ((fMix ((fMix p1) ^^^ p2)) ^^^ p3)) ^^^ p4))), .second, .val (.long (fMix p1)), .second, .val (.long (fMix ((fMix ((fMix p1) ^^^ p2)) ^^^ p3))), .second, .unset, .unset, .unset, .unset]) rfl ?_
      show Steps p.tables e below (T252.setTop (mkF m 103 #[.val (.long p1), .second, .val (.long p2), .second, .val (.long p3), .second, .val (.long p4), .second, .val (.long p5), .second, .val (.int p6), .val (.int (3 : Int32)), .val (.ref b212), .val (.long (fMix ((fMix ((fMix ((fMix p1) ^^^ p2)) ^^^ p3)) ^^^ p4))), .second, .val (.long (fMix p1)), .second, .val (.long (fMix ((fMix ((fMix p1) ^^^ p2)) ^^^ p3))), .second, .unset, .unset, .unset, .unset] [])) _
      refine XS.iload X252.here hx rfl (hb hby at_103) rfl ?_
      show Steps p.tables e below (T252.setTop (mkF m 105 #[.val (.long p1), .second, .val (.long p2), .second, .val (.long p3), .second, .val (.long p4), .second, .val (.long p5), .second, .val (.int p6), .val (.int (3 : Int32)), .val (.ref b212), .val (.long (fMix ((fMix ((fMix ((fMix p1) ^^^ p2)) ^^^ p3)) ^^^ p4))), .second, .val (.long (fMix p1)), .second, .val (.long (fMix ((fMix ((fMix p1) ^^^ p2)) ^^^ p3))), .second, .unset, .unset, .unset, .unset] [(.int (3 : Int32))])) _
      refine XS.iconst X252.here hx rfl (hb hby at_105) ?_
      show Steps p.tables e below (T252.setTop (mkF m 106 #[.val (.long p1), .second, .val (.long p2), .second, .val (.long p3), .second, .val (.long p4), .second, .val (.long p5), .second, .val (.int p6), .val (.int (3 : Int32)), .val (.ref b212), .val (.long (fMix ((fMix ((fMix ((fMix p1) ^^^ p2)) ^^^ p3)) ^^^ p4))), .second, .val (.long (fMix p1)), .second, .val (.long (fMix ((fMix ((fMix p1) ^^^ p2)) ^^^ p3))), .second, .unset, .unset, .unset, .unset] [(.int (2 : Int32)), (.int (3 : Int32))])) _
      refine XS.icmpNo X252.here hx rfl (hb hby at_106) rfl (tlt (by decide : (2 : Int32) < (3 : Int32))).2.2.2 ?_
      show Steps p.tables e below (T252.setTop (mkF m 109 #[.val (.long p1), .second, .val (.long p2), .second, .val (.long p3), .second, .val (.long p4), .second, .val (.long p5), .second, .val (.int p6), .val (.int (3 : Int32)), .val (.ref b212), .val (.long (fMix ((fMix ((fMix ((fMix p1) ^^^ p2)) ^^^ p3)) ^^^ p4))), .second, .val (.long (fMix p1)), .second, .val (.long (fMix ((fMix ((fMix p1) ^^^ p2)) ^^^ p3))), .second, .unset, .unset, .unset, .unset] [])) _
      refine XS.lload X252.here hx rfl (hb hby at_109) rfl ?_
      show Steps p.tables e below (T252.setTop (mkF m 111 #[.val (.long p1), .second, .val (.long p2), .second, .val (.long p3), .second, .val (.long p4), .second, .val (.long p5), .second, .val (.int p6), .val (.int (3 : Int32)), .val (.ref b212), .val (.long (fMix ((fMix ((fMix ((fMix p1) ^^^ p2)) ^^^ p3)) ^^^ p4))), .second, .val (.long (fMix p1)), .second, .val (.long (fMix ((fMix ((fMix p1) ^^^ p2)) ^^^ p3))), .second, .unset, .unset, .unset, .unset] [(.long (fMix ((fMix ((fMix p1) ^^^ p2)) ^^^ p3)))])) _
      refine XS.lload X252.here hx rfl (hb hby at_111) rfl ?_
      show Steps p.tables e below (T252.setTop (mkF m 113 #[.val (.long p1), .second, .val (.long p2), .second, .val (.long p3), .second, .val (.long p4), .second, .val (.long p5), .second, .val (.int p6), .val (.int (3 : Int32)), .val (.ref b212), .val (.long (fMix ((fMix ((fMix ((fMix p1) ^^^ p2)) ^^^ p3)) ^^^ p4))), .second, .val (.long (fMix p1)), .second, .val (.long (fMix ((fMix ((fMix p1) ^^^ p2)) ^^^ p3))), .second, .unset, .unset, .unset, .unset] [(.long p4), (.long (fMix ((fMix ((fMix p1) ^^^ p2)) ^^^ p3)))])) _
      refine XS.lxor X252.here hx rfl (hb hby at_113) rfl ?_
      show Steps p.tables e below (T252.setTop (mkF m 114 #[.val (.long p1), .second, .val (.long p2), .second, .val (.long p3), .second, .val (.long p4), .second, .val (.long p5), .second, .val (.int p6), .val (.int (3 : Int32)), .val (.ref b212), .val (.long (fMix ((fMix ((fMix ((fMix p1) ^^^ p2)) ^^^ p3)) ^^^ p4))), .second, .val (.long (fMix p1)), .second, .val (.long (fMix ((fMix ((fMix p1) ^^^ p2)) ^^^ p3))), .second, .unset, .unset, .unset, .unset] [(.long ((fMix ((fMix ((fMix p1) ^^^ p2)) ^^^ p3)) ^^^ p4))])) _
      refine XS.iconst X252.here hx rfl (hb hby at_114) ?_
      exact k
    obtain ⟨T254, h254, k254, X254, e254, E254, A254, st254⟩ := newP X252 hx hZ (hw _ (List.mem_of_getElem? (i := 0) rfl)) e252 (g := (mkF m 115 #[.val (.long p1), .second, .val (.long p2), .second, .val (.long p3), .second, .val (.long p4), .second, .val (.long p5), .second, .val (.int p6), .val (.int (3 : Int32)), .val (.ref b212), .val (.long (fMix ((fMix ((fMix ((fMix p1) ^^^ p2)) ^^^ p3)) ^^^ p4))), .second, .val (.long (fMix p1)), .second, .val (.long (fMix ((fMix ((fMix p1) ^^^ p2)) ^^^ p3))), .second, .unset, .unset, .unset, .unset] [(.int (0 : Int32)), (.long ((fMix ((fMix ((fMix p1) ^^^ p2)) ^^^ p3)) ^^^ p4))])) rfl (hb hby at_115) rfl (by decide) (cap := 0) (by decide) (by decide) (by decide) (by decide)
    obtain ⟨b254, g254⟩ : ∃ z, z = h243.size := ⟨_, rfl⟩
    rw [← g254] at A254 st254
    have ne255 : b212 ≠ b254 := Nat.ne_of_lt (Nat.lt_of_lt_of_le f247.lt (Nat.le_of_eq g254.symm))
    have ne256 : b227 ≠ b254 := Nat.ne_of_lt (Nat.lt_of_lt_of_le f248.lt (Nat.le_of_eq g254.symm))
    have ne257 : b234 ≠ b254 := Nat.ne_of_lt (Nat.lt_of_lt_of_le f249.lt (Nat.le_of_eq g254.symm))
    have ne258 : b243 ≠ b254 := Nat.ne_of_lt (Nat.lt_of_lt_of_le f251.lt (Nat.le_of_eq g254.symm))
    have gn_b254 : n0 ≤ b254 := Nat.le_trans z250 (Nat.le_of_eq g254.symm)
    have f259 : Arv Z h254 b212 k212 .long (3 : Int32) [(.long p2), (.long p3), (.long p4)] (.long (0 : Int64)) := f247.ext E254
    have f260 : Arv Z h254 b227 k227 .long (0 : Int32) [] (.long (0 : Int64)) := f248.ext E254
    have f261 : Arv Z h254 b234 k234 .long (0 : Int32) [] (.long (0 : Int64)) := f249.ext E254
    have f262 : Arv Z h254 b243 k243 .long (0 : Int32) [] (.long (0 : Int64)) := f251.ext E254
    have z263 : n0 ≤ h254.size := Nat.le_trans z250 E254.1
    have f264 : Arv Z h254 b254 k254 .long (0 : Int32) [] (.long (0 : Int64)) := (Arv.new A254 (by decide))
    obtain ⟨_, _, ⟨T265, L265, k265, n265⟩, -, X265, ⟨Lc265, hQ265, l265, y265, z265⟩, st265⟩ := Jvm.LawKit.callS X254 hx (y := (⟨"com/example/haversack/haversack/evaluation/Seeds", "derived", "(J[J)J"⟩ : MethodName)) hown (mvT hZ (hw _ (List.mem_of_getElem? (i := 1) rfl))) (mvT hZ (hw _ (List.mem_of_getElem? (i := 2) rfl))) (mvT hZ (hw _ (List.mem_of_getElem? (i := 3) rfl))) (mvT hZ (hw _ (List.mem_of_getElem? (i := 4) rfl))) (by decide) (backOf (W := 0) (rmD0 l Z a0 hw [] ((fMix ((fMix ((fMix p1) ^^^ p2)) ^^^ p3)) ^^^ p4) b254 k254 h254 n0 z263 f264) hZ (hw _ (List.mem_of_getElem? (i := 4) rfl)) (hw _ (List.mem_of_getElem? (i := 3) rfl)) (by decide) (by decide)) (g := (mkF m 117 #[.val (.long p1), .second, .val (.long p2), .second, .val (.long p3), .second, .val (.long p4), .second, .val (.long p5), .second, .val (.int p6), .val (.int (3 : Int32)), .val (.ref b212), .val (.long (fMix ((fMix ((fMix ((fMix p1) ^^^ p2)) ^^^ p3)) ^^^ p4))), .second, .val (.long (fMix p1)), .second, .val (.long (fMix ((fMix ((fMix p1) ^^^ p2)) ^^^ p3))), .second, .unset, .unset, .unset, .unset] [(.ref b254), (.long ((fMix ((fMix ((fMix p1) ^^^ p2)) ^^^ p3)) ^^^ p4))])) rfl (by rw [hml]; rfl) (argsL := [(.long ((fMix ((fMix ((fMix p1) ^^^ p2)) ^^^ p3)) ^^^ p4)), (.ref b254)]) (rest := []) (lenOf pd_1 rfl) rfl (by show 2 * 0 + _ ≤ _; exact Nat.le_of_eq rfl) (hb hby at_117) (fun _ _ => ⟨rfl, e254, (by decide : 5 + 0 ≤ _), (by decide : 3 + 0 ≤ _)⟩)
    dsimp only [Pt.U, Pt.locs, Pt.cells, Pt.slots] at X265 l265 y265 z265 st265 hQ265
    subst l265 y265 z265
    obtain ⟨rfl, N265q, e265⟩ := hQ265
    have N265 := Fr.app N252 N265q
    have sg266 : ∀ t, Steps p.tables e below (T265.setTop (mkF m 141 #[.val (.long p1), .second, .val (.long p2), .second, .val (.long p3), .second, .val (.long p4), .second, .val (.long p5), .second, .val (.int p6), .val (.int (3 : Int32)), .val (.ref b212), .val (.long (fMix ((fMix ((fMix ((fMix p1) ^^^ p2)) ^^^ p3)) ^^^ p4))), .second, .val (.long (fMix p1)), .second, .val (.long (fMix ((fMix ((fMix ((fMix p1) ^^^ p2)) ^^^ p3)) ^^^ p4))), .second, .val (.int (1 : Int32)), .unset, .unset, .unset] [(.int (lcmpW p1 p5))])) t → Steps p.tables e below (T265.setTop (mkF m 120 #[.val (.long p1), .second, .val (.long p2), .second, .val (.long p3), .second, .val (.long p4), .second, .val (.long p5), .second, .val (.int p6), .val (.int (3 : Int32)), .val (.ref b212), .val (.long (fMix ((fMix ((fMix ((fMix p1) ^^^ p2)) ^^^ p3)) ^^^ p4))), .second, .val (.long (fMix p1)), .second, .val (.long (fMix ((fMix ((fMix p1) ^^^ p2)) ^^^ p3))), .second, .unset, .unset, .unset, .unset] [(.long (fMix ((fMix ((fMix ((fMix p1) ^^^ p2)) ^^^ p3)) ^^^ p4)))])) t := by
      intro t k
      show Steps p.tables e below (T265.setTop (mkF m 120 #[.val (.long p1), .second, .val (.long p2), .second, .val (.long p3), .second, .val (.long p4), .second, .val (.long p5), .second, .val (.int p6), .val (.int (3 : Int32)), .val (.ref b212), .val (.long (fMix ((fMix ((fMix ((fMix p1) ^^^ p2)) ^^^ p3)) ^^^ p4))), .second, .val (.long (fMix p1)), .second, .val (.long (fMix ((fMix ((fMix p1) ^^^ p2)) ^^^ p3))), .second, .unset, .unset, .unset, .unset] [(.long (fMix ((fMix ((fMix ((fMix p1) ^^^ p2)) ^^^ p3)) ^^^ p4)))])) _
      refine XS.lstore X265.here hx rfl (hb hby at_120) rfl (l' := #[.val (.long p1), .second, .val (.long p2), .second, .val (.long p3), .second, .val (.long p4), .second, .val (.long p5), .second, .val (.int p6), .val (.int (3 : Int32)), .val (.ref b212), .val (.long (fMix ((fMix ((fMix ((fMix p1) ^^^ p2)) ^^^ p3)) ^^^ p4))), .second, .val (.long (fMix p1)), .second, .val (.long (fMix ((fMix ((fMix ((fMix p1) ^^^ p2)) ^^^ p3)) ^^^ p4))), .second, .unset, .unset, .unset, .unset]) rfl ?_
      show Steps p.tables e below (T265.setTop (mkF m 122 #[.val (.long p1), .second, .val (.long p2), .second, .val (.long p3), .second, .val (.long p4), .second, .val (.long p5), .second, .val (.int p6), .val (.int (3 : Int32)), .val (.ref b212), .val (.long (fMix ((fMix ((fMix ((fMix p1) ^^^ p2)) ^^^ p3)) ^^^ p4))), .second, .val (.long (fMix p1)), .second, .val (.long (fMix ((fMix ((fMix ((fMix p1) ^^^ p2)) ^^^ p3)) ^^^ p4))), .second, .unset, .unset, .unset, .unset] [])) _
      refine XS.lload X265.here hx rfl (hb hby at_122) rfl ?_
      show Steps p.tables e below (T265.setTop (mkF m 124 #[.val (.long p1), .second, .val (.long p2), .second, .val (.long p3), .second, .val (.long p4), .second, .val (.long p5), .second, .val (.int p6), .val (.int (3 : Int32)), .val (.ref b212), .val (.long (fMix ((fMix ((fMix ((fMix p1) ^^^ p2)) ^^^ p3)) ^^^ p4))), .second, .val (.long (fMix p1)), .second, .val (.long (fMix ((fMix ((fMix ((fMix p1) ^^^ p2)) ^^^ p3)) ^^^ p4))), .second, .unset, .unset, .unset, .unset] [(.long (fMix ((fMix ((fMix ((fMix p1) ^^^ p2)) ^^^ p3)) ^^^ p4)))])) _
      refine XS.lload X265.here hx rfl (hb hby at_124) rfl ?_
      show Steps p.tables e below (T265.setTop (mkF m 126 #[.val (.long p1), .second, .val (.long p2), .second, .val (.long p3), .second, .val (.long p4), .second, .val (.long p5), .second, .val (.int p6), .val (.int (3 : Int32)), .val (.ref b212), .val (.long (fMix ((fMix ((fMix ((fMix p1) ^^^ p2)) ^^^ p3)) ^^^ p4))), .second, .val (.long (fMix p1)), .second, .val (.long (fMix ((fMix ((fMix ((fMix p1) ^^^ p2)) ^^^ p3)) ^^^ p4))), .second, .unset, .unset, .unset, .unset] [(.long (fMix ((fMix ((fMix ((fMix p1) ^^^ p2)) ^^^ p3)) ^^^ p4))), (.long (fMix ((fMix ((fMix ((fMix p1) ^^^ p2)) ^^^ p3)) ^^^ p4)))])) _
      refine XS.lcmp X265.here hx rfl (hb hby at_126) rfl ?_
      show Steps p.tables e below (T265.setTop (mkF m 127 #[.val (.long p1), .second, .val (.long p2), .second, .val (.long p3), .second, .val (.long p4), .second, .val (.long p5), .second, .val (.int p6), .val (.int (3 : Int32)), .val (.ref b212), .val (.long (fMix ((fMix ((fMix ((fMix p1) ^^^ p2)) ^^^ p3)) ^^^ p4))), .second, .val (.long (fMix p1)), .second, .val (.long (fMix ((fMix ((fMix ((fMix p1) ^^^ p2)) ^^^ p3)) ^^^ p4))), .second, .unset, .unset, .unset, .unset] [(.int (lcmpW (fMix ((fMix ((fMix ((fMix p1) ^^^ p2)) ^^^ p3)) ^^^ p4)) (fMix ((fMix ((fMix ((fMix p1) ^^^ p2)) ^^^ p3)) ^^^ p4))))])) _
      refine XS.ifNo X265.here hx rfl (hb hby at_127) rfl ((if0 _ _).trans (teq ((lw_eq _ _).mpr (rfl : (fMix ((fMix ((fMix ((fMix p1) ^^^ p2)) ^^^ p3)) ^^^ p4)) = (fMix ((fMix ((fMix ((fMix p1) ^^^ p2)) ^^^ p3)) ^^^ p4))))).2) ?_
      show Steps p.tables e below (T265.setTop (mkF m 130 #[.val (.long p1), .second, .val (.long p2), .second, .val (.long p3), .second, .val (.long p4), .second, .val (.long p5), .second, .val (.int p6), .val (.int (3 : Int32)), .val (.ref b212), .val (.long (fMix ((fMix ((fMix ((fMix p1) ^^^ p2)) ^^^ p3)) ^^^ p4))), .second, .val (.long (fMix p1)), .second, .val (.long (fMix ((fMix ((fMix ((fMix p1) ^^^ p2)) ^^^ p3)) ^^^ p4))), .second, .unset, .unset, .unset, .unset] [])) _
      refine XS.iconst X265.here hx rfl (hb hby at_130) ?_
      show Steps p.tables e below (T265.setTop (mkF m 131 #[.val (.long p1), .second, .val (.long p2), .second, .val (.long p3), .second, .val (.long p4), .second, .val (.long p5), .second, .val (.int p6), .val (.int (3 : Int32)), .val (.ref b212), .val (.long (fMix ((fMix ((fMix ((fMix p1) ^^^ p2)) ^^^ p3)) ^^^ p4))), .second, .val (.long (fMix p1)), .second, .val (.long (fMix ((fMix ((fMix ((fMix p1) ^^^ p2)) ^^^ p3)) ^^^ p4))), .second, .unset, .unset, .unset, .unset] [(.int (1 : Int32))])) _
      refine XS.goto X265.here hx rfl (pc0 := 131) (pc' := 135) rfl (hb hby at_131) (by decide) (by decide) ?_
      show Steps p.tables e below (T265.setTop (mkF m 135 #[.val (.long p1), .second, .val (.long p2), .second, .val (.long p3), .second, .val (.long p4), .second, .val (.long p5), .second, .val (.int p6), .val (.int (3 : Int32)), .val (.ref b212), .val (.long (fMix ((fMix ((fMix ((fMix p1) ^^^ p2)) ^^^ p3)) ^^^ p4))), .second, .val (.long (fMix p1)), .second, .val (.long (fMix ((fMix ((fMix ((fMix p1) ^^^ p2)) ^^^ p3)) ^^^ p4))), .second, .unset, .unset, .unset, .unset] [(.int (1 : Int32))])) _
      refine XS.istore X265.here hx rfl (hb hby at_135) rfl (l' := #[.val (.long p1), .second, .val (.long p2), .second, .val (.long p3), .second, .val (.long p4), .second, .val (.long p5), .second, .val (.int p6), .val (.int (3 : Int32)), .val (.ref b212), .val (.long (fMix ((fMix ((fMix ((fMix p1) ^^^ p2)) ^^^ p3)) ^^^ p4))), .second, .val (.long (fMix p1)), .second, .val (.long (fMix ((fMix ((fMix ((fMix p1) ^^^ p2)) ^^^ p3)) ^^^ p4))), .second, .val (.int (1 : Int32)), .unset, .unset, .unset]) rfl ?_
      show Steps p.tables e below (T265.setTop (mkF m 137 #[.val (.long p1), .second, .val (.long p2), .second, .val (.long p3), .second, .val (.long p4), .second, .val (.long p5), .second, .val (.int p6), .val (.int (3 : Int32)), .val (.ref b212), .val (.long (fMix ((fMix ((fMix ((fMix p1) ^^^ p2)) ^^^ p3)) ^^^ p4))), .second, .val (.long (fMix p1)), .second, .val (.long (fMix ((fMix ((fMix ((fMix p1) ^^^ p2)) ^^^ p3)) ^^^ p4))), .second, .val (.int (1 : Int32)), .unset, .unset, .unset] [])) _
      refine XS.lloadN X265.here hx rfl (hb hby at_137) rfl ?_
      show Steps p.tables e below (T265.setTop (mkF m 138 #[.val (.long p1), .second, .val (.long p2), .second, .val (.long p3), .second, .val (.long p4), .second, .val (.long p5), .second, .val (.int p6), .val (.int (3 : Int32)), .val (.ref b212), .val (.long (fMix ((fMix ((fMix ((fMix p1) ^^^ p2)) ^^^ p3)) ^^^ p4))), .second, .val (.long (fMix p1)), .second, .val (.long (fMix ((fMix ((fMix ((fMix p1) ^^^ p2)) ^^^ p3)) ^^^ p4))), .second, .val (.int (1 : Int32)), .unset, .unset, .unset] [(.long p1)])) _
      refine XS.lload X265.here hx rfl (hb hby at_138) rfl ?_
      show Steps p.tables e below (T265.setTop (mkF m 140 #[.val (.long p1), .second, .val (.long p2), .second, .val (.long p3), .second, .val (.long p4), .second, .val (.long p5), .second, .val (.int p6), .val (.int (3 : Int32)), .val (.ref b212), .val (.long (fMix ((fMix ((fMix ((fMix p1) ^^^ p2)) ^^^ p3)) ^^^ p4))), .second, .val (.long (fMix p1)), .second, .val (.long (fMix ((fMix ((fMix ((fMix p1) ^^^ p2)) ^^^ p3)) ^^^ p4))), .second, .val (.int (1 : Int32)), .unset, .unset, .unset] [(.long p5), (.long p1)])) _
      refine XS.lcmp X265.here hx rfl (hb hby at_140) rfl ?_
      exact k
    obtain ⟨v1, hv1⟩ : ∃ v : Int32, v = (if p1 = p5 then (1 : Int32) else (0 : Int32)) := ⟨_, rfl⟩
    have sg267 : ∀ t, Steps p.tables e below (T265.setTop (mkF m 149 #[.val (.long p1), .second, .val (.long p2), .second, .val (.long p3), .second, .val (.long p4), .second, .val (.long p5), .second, .val (.int p6), .val (.int (3 : Int32)), .val (.ref b212), .val (.long (fMix ((fMix ((fMix ((fMix p1) ^^^ p2)) ^^^ p3)) ^^^ p4))), .second, .val (.long (fMix p1)), .second, .val (.long (fMix ((fMix ((fMix ((fMix p1) ^^^ p2)) ^^^ p3)) ^^^ p4))), .second, .val (.int (1 : Int32)), .unset, .unset, .unset] [(.int v1)])) t → Steps p.tables e below (T265.setTop (mkF m 141 #[.val (.long p1), .second, .val (.long p2), .second, .val (.long p3), .second, .val (.long p4), .second, .val (.long p5), .second, .val (.int p6), .val (.int (3 : Int32)), .val (.ref b212), .val (.long (fMix ((fMix ((fMix ((fMix p1) ^^^ p2)) ^^^ p3)) ^^^ p4))), .second, .val (.long (fMix p1)), .second, .val (.long (fMix ((fMix ((fMix ((fMix p1) ^^^ p2)) ^^^ p3)) ^^^ p4))), .second, .val (.int (1 : Int32)), .unset, .unset, .unset] [(.int (lcmpW p1 p5))])) t := by
      intro t k
      show Steps p.tables e below (T265.setTop (mkF m 141 #[.val (.long p1), .second, .val (.long p2), .second, .val (.long p3), .second, .val (.long p4), .second, .val (.long p5), .second, .val (.int p6), .val (.int (3 : Int32)), .val (.ref b212), .val (.long (fMix ((fMix ((fMix ((fMix p1) ^^^ p2)) ^^^ p3)) ^^^ p4))), .second, .val (.long (fMix p1)), .second, .val (.long (fMix ((fMix ((fMix ((fMix p1) ^^^ p2)) ^^^ p3)) ^^^ p4))), .second, .val (.int (1 : Int32)), .unset, .unset, .unset] [(.int (lcmpW p1 p5))])) _
      by_cases hc141 : p1 = p5
      · refine XS.ifNo X265.here hx rfl (hb hby at_141) rfl ((if0 _ _).trans (teq ((lw_eq _ _).mpr hc141)).2) ?_
        show Steps p.tables e below (T265.setTop (mkF m 144 #[.val (.long p1), .second, .val (.long p2), .second, .val (.long p3), .second, .val (.long p4), .second, .val (.long p5), .second, .val (.int p6), .val (.int (3 : Int32)), .val (.ref b212), .val (.long (fMix ((fMix ((fMix ((fMix p1) ^^^ p2)) ^^^ p3)) ^^^ p4))), .second, .val (.long (fMix p1)), .second, .val (.long (fMix ((fMix ((fMix ((fMix p1) ^^^ p2)) ^^^ p3)) ^^^ p4))), .second, .val (.int (1 : Int32)), .unset, .unset, .unset] [])) _
        refine XS.iconst X265.here hx rfl (hb hby at_144) ?_
        show Steps p.tables e below (T265.setTop (mkF m 145 #[.val (.long p1), .second, .val (.long p2), .second, .val (.long p3), .second, .val (.long p4), .second, .val (.long p5), .second, .val (.int p6), .val (.int (3 : Int32)), .val (.ref b212), .val (.long (fMix ((fMix ((fMix ((fMix p1) ^^^ p2)) ^^^ p3)) ^^^ p4))), .second, .val (.long (fMix p1)), .second, .val (.long (fMix ((fMix ((fMix ((fMix p1) ^^^ p2)) ^^^ p3)) ^^^ p4))), .second, .val (.int (1 : Int32)), .unset, .unset, .unset] [(.int (1 : Int32))])) _
        refine XS.goto X265.here hx rfl (pc0 := 145) (pc' := 149) rfl (hb hby at_145) (by decide) (by decide) ?_
        rw [show v1 = (1 : Int32) from by rw [hv1, if_pos hc141]] at k
        exact k
      · refine XS.ifYes X265.here hx rfl (pc0 := 141) (pc' := 148) rfl (hb hby at_141) rfl ((if0 _ _).trans (feq (mt (lw_eq _ _).mp hc141)).2) (by decide) (by decide) ?_
        show Steps p.tables e below (T265.setTop (mkF m 148 #[.val (.long p1), .second, .val (.long p2), .second, .val (.long p3), .second, .val (.long p4), .second, .val (.long p5), .second, .val (.int p6), .val (.int (3 : Int32)), .val (.ref b212), .val (.long (fMix ((fMix ((fMix ((fMix p1) ^^^ p2)) ^^^ p3)) ^^^ p4))), .second, .val (.long (fMix p1)), .second, .val (.long (fMix ((fMix ((fMix ((fMix p1) ^^^ p2)) ^^^ p3)) ^^^ p4))), .second, .val (.int (1 : Int32)), .unset, .unset, .unset] [])) _
        refine XS.iconst X265.here hx rfl (hb hby at_148) ?_
        rw [show v1 = (0 : Int32) from by rw [hv1, if_neg hc141]] at k
        exact k
    have sg268 : ∀ t, Steps p.tables e below (T265.setTop (mkF m 154 #[.val (.long p1), .second, .val (.long p2), .second, .val (.long p3), .second, .val (.long p4), .second, .val (.long p5), .second, .val (.int p6), .val (.int (3 : Int32)), .val (.ref b212), .val (.long (fMix ((fMix ((fMix ((fMix p1) ^^^ p2)) ^^^ p3)) ^^^ p4))), .second, .val (.long (fMix p1)), .second, .val (.long (fMix ((fMix ((fMix ((fMix p1) ^^^ p2)) ^^^ p3)) ^^^ p4))), .second, .val (.int (1 : Int32)), .unset, .unset, .unset] [(.int (0 : Int32)), (.long p5), (.long (fMix p1)), (.int v1)])) t → Steps p.tables e below (T265.setTop (mkF m 149 #[.val (.long p1), .second, .val (.long p2), .second, .val (.long p3), .second, .val (.long p4), .second, .val (.long p5), .second, .val (.int p6), .val (.int (3 : Int32)), .val (.ref b212), .val (.long (fMix ((fMix ((fMix ((fMix p1) ^^^ p2)) ^^^ p3)) ^^^ p4))), .second, .val (.long (fMix p1)), .second, .val (.long (fMix ((fMix ((fMix ((fMix p1) ^^^ p2)) ^^^ p3)) ^^^ p4))), .second, .val (.int (1 : Int32)), .unset, .unset, .unset] [(.int v1)])) t := by
      intro t k
      show Steps p.tables e below (T265.setTop (mkF m 149 #[.val (.long p1), .second, .val (.long p2), .second, .val (.long p3), .second, .val (.long p4), .second, .val (.long p5), .second, .val (.int p6), .val (.int (3 : Int32)), .val (.ref b212), .val (.long (fMix ((fMix ((fMix ((fMix p1) ^^^ p2)) ^^^ p3)) ^^^ p4))), .second, .val (.long (fMix p1)), .second, .val (.long (fMix ((fMix ((fMix ((fMix p1) ^^^ p2)) ^^^ p3)) ^^^ p4))), .second, .val (.int (1 : Int32)), .unset, .unset, .unset] [(.int v1)])) _
      refine XS.lload X265.here hx rfl (hb hby at_149) rfl ?_
      show Steps p.tables e below (T265.setTop (mkF m 151 #[.val (.long p1), .second, .val (.long p2), .second, .val (.long p3), .second, .val (.long p4), .second, .val (.long p5), .second, .val (.int p6), .val (.int (3 : Int32)), .val (.ref b212), .val (.long (fMix ((fMix ((fMix ((fMix p1) ^^^ p2)) ^^^ p3)) ^^^ p4))), .second, .val (.long (fMix p1)), .second, .val (.long (fMix ((fMix ((fMix ((fMix p1) ^^^ p2)) ^^^ p3)) ^^^ p4))), .second, .val (.int (1 : Int32)), .unset, .unset, .unset] [(.long (fMix p1)), (.int v1)])) _
      refine XS.lload X265.here hx rfl (hb hby at_151) rfl ?_
      show Steps p.tables e below (T265.setTop (mkF m 153 #[.val (.long p1), .second, .val (.long p2), .second, .val (.long p3), .second, .val (.long p4), .second, .val (.long p5), .second, .val (.int p6), .val (.int (3 : Int32)), .val (.ref b212), .val (.long (fMix ((fMix ((fMix ((fMix p1) ^^^ p2)) ^^^ p3)) ^^^ p4))), .second, .val (.long (fMix p1)), .second, .val (.long (fMix ((fMix ((fMix ((fMix p1) ^^^ p2)) ^^^ p3)) ^^^ p4))), .second, .val (.int (1 : Int32)), .unset, .unset, .unset] [(.long p5), (.long (fMix p1)), (.int v1)])) _
      refine XS.iconst X265.here hx rfl (hb hby at_153) ?_
      exact k
    obtain ⟨T269, h269, k269, X269, e269, E269, A269, st269⟩ := newP X265 hx hZ (hw _ (List.mem_of_getElem? (i := 0) rfl)) e265 (g := (mkF m 154 #[.val (.long p1), .second, .val (.long p2), .second, .val (.long p3), .second, .val (.long p4), .second, .val (.long p5), .second, .val (.int p6), .val (.int (3 : Int32)), .val (.ref b212), .val (.long (fMix ((fMix ((fMix ((fMix p1) ^^^ p2)) ^^^ p3)) ^^^ p4))), .second, .val (.long (fMix p1)), .second, .val (.long (fMix ((fMix ((fMix ((fMix p1) ^^^ p2)) ^^^ p3)) ^^^ p4))), .second, .val (.int (1 : Int32)), .unset, .unset, .unset] [(.int (0 : Int32)), (.long p5), (.long (fMix p1)), (.int v1)])) rfl (hb hby at_154) rfl (by decide) (cap := 0) (by decide) (by decide) (by decide) (by decide)
    obtain ⟨b269, g269⟩ : ∃ z, z = h254.size := ⟨_, rfl⟩
    rw [← g269] at A269 st269
    have ne270 : b212 ≠ b269 := Nat.ne_of_lt (Nat.lt_of_lt_of_le f259.lt (Nat.le_of_eq g269.symm))
    have ne271 : b227 ≠ b269 := Nat.ne_of_lt (Nat.lt_of_lt_of_le f260.lt (Nat.le_of_eq g269.symm))
    have ne272 : b234 ≠ b269 := Nat.ne_of_lt (Nat.lt_of_lt_of_le f261.lt (Nat.le_of_eq g269.symm))
    have ne273 : b243 ≠ b269 := Nat.ne_of_lt (Nat.lt_of_lt_of_le f262.lt (Nat.le_of_eq g269.symm))
    have ne274 : b254 ≠ b269 := Nat.ne_of_lt (Nat.lt_of_lt_of_le f264.lt (Nat.le_of_eq g269.symm))
    have gn_b269 : n0 ≤ b269 := Nat.le_trans z263 (Nat.le_of_eq g269.symm)
    have f275 : Arv Z h269 b212 k212 .long (3 : Int32) [(.long p2), (.long p3), (.long p4)] (.long (0 : Int64)) := f259.ext E269
    have f276 : Arv Z h269 b227 k227 .long (0 : Int32) [] (.long (0 : Int64)) := f260.ext E269
    have f277 : Arv Z h269 b234 k234 .long (0 : Int32) [] (.long (0 : Int64)) := f261.ext E269
    have f278 : Arv Z h269 b243 k243 .long (0 : Int32) [] (.long (0 : Int64)) := f262.ext E269
    have f279 : Arv Z h269 b254 k254 .long (0 : Int32) [] (.long (0 : Int64)) := f264.ext E269
    have z280 : n0 ≤ h269.size := Nat.le_trans z263 E269.1
    have f281 : Arv Z h269 b269 k269 .long (0 : Int32) [] (.long (0 : Int64)) := (Arv.new A269 (by decide))
    obtain ⟨_, _, ⟨T282, L282, k282, n282⟩, -, X282, ⟨Lc282, hQ282, l282, y282, z282⟩, st282⟩ := Jvm.LawKit.callS X269 hx (y := (⟨"com/example/haversack/haversack/evaluation/Seeds", "derived", "(J[J)J"⟩ : MethodName)) hown (mvT hZ (hw _ (List.mem_of_getElem? (i := 1) rfl))) (mvT hZ (hw _ (List.mem_of_getElem? (i := 2) rfl))) (mvT hZ (hw _ (List.mem_of_getElem? (i := 3) rfl))) (mvT hZ (hw _ (List.mem_of_getElem? (i := 4) rfl))) (by decide) (backOf (W := 3) (rmD0 l Z a0 hw [] p5 b269 k269 h269 n0 z280 f281) hZ (hw _ (List.mem_of_getElem? (i := 4) rfl)) (hw _ (List.mem_of_getElem? (i := 3) rfl)) (by decide) (by decide)) (g := (mkF m 156 #[.val (.long p1), .second, .val (.long p2), .second, .val (.long p3), .second, .val (.long p4), .second, .val (.long p5), .second, .val (.int p6), .val (.int (3 : Int32)), .val (.ref b212), .val (.long (fMix ((fMix ((fMix ((fMix p1) ^^^ p2)) ^^^ p3)) ^^^ p4))), .second, .val (.long (fMix p1)), .second, .val (.long (fMix ((fMix ((fMix ((fMix p1) ^^^ p2)) ^^^ p3)) ^^^ p4))), .second, .val (.int (1 : Int32)), .unset, .unset, .unset] [(.ref b269), (.long p5), (.long (fMix p1)), (.int v1)])) rfl (by rw [hml]; rfl) (argsL := [(.long p5), (.ref b269)]) (rest := [(.long (fMix p1)), (.int v1)]) (lenOf pd_1 rfl) rfl (by show 2 * 0 + _ ≤ _; exact Nat.le_of_eq rfl) (hb hby at_156) (fun _ _ => ⟨rfl, e269, (by decide : 6 + 0 ≤ _), (by decide : 3 + 0 ≤ _)⟩)
    dsimp only [Pt.U, Pt.locs, Pt.cells, Pt.slots] at X282 l282 y282 z282 st282 hQ282
    subst l282 y282 z282
    obtain ⟨rfl, N282q, e282⟩ := hQ282
    have N282 := Fr.app N265 N282q
    have sg283 : ∀ t, Steps p.tables e below (T282.setTop (mkF m 160 #[.val (.long p1), .second, .val (.long p2), .second, .val (.long p3), .second, .val (.long p4), .second, .val (.long p5), .second, .val (.int p6), .val (.int (3 : Int32)), .val (.ref b212), .val (.long (fMix ((fMix ((fMix ((fMix p1) ^^^ p2)) ^^^ p3)) ^^^ p4))), .second, .val (.long (fMix p1)), .second, .val (.long (fMix ((fMix ((fMix ((fMix p1) ^^^ p2)) ^^^ p3)) ^^^ p4))), .second, .val (.int (1 : Int32)), .unset, .unset, .unset] [(.int (lcmpW (fMix p1) (fMix p5))), (.int v1)])) t → Steps p.tables e below (T282.setTop (mkF m 159 #[.val (.long p1), .second, .val (.long p2), .second, .val (.long p3), .second, .val (.long p4), .second, .val (.long p5), .second, .val (.int p6), .val (.int (3 : Int32)), .val (.ref b212), .val (.long (fMix ((fMix ((fMix ((fMix p1) ^^^ p2)) ^^^ p3)) ^^^ p4))), .second, .val (.long (fMix p1)), .second, .val (.long (fMix ((fMix ((fMix ((fMix p1) ^^^ p2)) ^^^ p3)) ^^^ p4))), .second, .val (.int (1 : Int32)), .unset, .unset, .unset] [(.long (fMix p5)), (.long (fMix p1)), (.int v1)])) t := by
      intro t k
      show Steps p.tables e below (T282.setTop (mkF m 159 #[.val (.long p1), .second, .val (.long p2), .second, .val (.long p3), .second, .val (.long p4), .second, .val (.long p5), .second, .val (.int p6), .val (.int (3 : Int32)), .val (.ref b212), .val (.long (fMix ((fMix ((fMix ((fMix p1) ^^^ p2)) ^^^ p3)) ^^^ p4))), .second, .val (.long (fMix p1)), .second, .val (.long (fMix ((fMix ((fMix ((fMix p1) ^^^ p2)) ^^^ p3)) ^^^ p4))), .second, .val (.int (1 : Int32)), .unset, .unset, .unset] [(.long (fMix p5)), (.long (fMix p1)), (.int v1)])) _
      refine XS.lcmp X282.here hx rfl (hb hby at_159) rfl ?_
      exact k
    obtain ⟨v2, hv2⟩ : ∃ v : Int32, v = (if (fMix p1) = (fMix p5) then (1 : Int32) else (0 : Int32)) := ⟨_, rfl⟩
    have sg284 : ∀ t, Steps p.tables e below (T282.setTop (mkF m 168 #[.val (.long p1), .second, .val (.long p2), .second, .val (.long p3), .second, .val (.long p4), .second, .val (.long p5), .second, .val (.int p6), .val (.int (3 : Int32)), .val (.ref b212), .val (.long (fMix ((fMix ((fMix ((fMix p1) ^^^ p2)) ^^^ p3)) ^^^ p4))), .second, .val (.long (fMix p1)), .second, .val (.long (fMix ((fMix ((fMix ((fMix p1) ^^^ p2)) ^^^ p3)) ^^^ p4))), .second, .val (.int (1 : Int32)), .unset, .unset, .unset] [(.int v2), (.int v1)])) t → Steps p.tables e below (T282.setTop (mkF m 160 #[.val (.long p1), .second, .val (.long p2), .second, .val (.long p3), .second, .val (.long p4), .second, .val (.long p5), .second, .val (.int p6), .val (.int (3 : Int32)), .val (.ref b212), .val (.long (fMix ((fMix ((fMix ((fMix p1) ^^^ p2)) ^^^ p3)) ^^^ p4))), .second, .val (.long (fMix p1)), .second, .val (.long (fMix ((fMix ((fMix ((fMix p1) ^^^ p2)) ^^^ p3)) ^^^ p4))), .second, .val (.int (1 : Int32)), .unset, .unset, .unset] [(.int (lcmpW (fMix p1) (fMix p5))), (.int v1)])) t := by
      intro t k
      show Steps p.tables e below (T282.setTop (mkF m 160 #[.val (.long p1), .second, .val (.long p2), .second, .val (.long p3), .second, .val (.long p4), .second, .val (.long p5), .second, .val (.int p6), .val (.int (3 : Int32)), .val (.ref b212), .val (.long (fMix ((fMix ((fMix ((fMix p1) ^^^ p2)) ^^^ p3)) ^^^ p4))), .second, .val (.long (fMix p1)), .second, .val (.long (fMix ((fMix ((fMix ((fMix p1) ^^^ p2)) ^^^ p3)) ^^^ p4))), .second, .val (.int (1 : Int32)), .unset, .unset, .unset] [(.int (lcmpW (fMix p1) (fMix p5))), (.int v1)])) _
      by_cases hc160 : (fMix p1) = (fMix p5)
      · refine XS.ifNo X282.here hx rfl (hb hby at_160) rfl ((if0 _ _).trans (teq ((lw_eq _ _).mpr hc160)).2) ?_
        show Steps p.tables e below (T282.setTop (mkF m 163 #[.val (.long p1), .second, .val (.long p2), .second, .val (.long p3), .second, .val (.long p4), .second, .val (.long p5), .second, .val (.int p6), .val (.int (3 : Int32)), .val (.ref b212), .val (.long (fMix ((fMix ((fMix ((fMix p1) ^^^ p2)) ^^^ p3)) ^^^ p4))), .second, .val (.long (fMix p1)), .second, .val (.long (fMix ((fMix ((fMix ((fMix p1) ^^^ p2)) ^^^ p3)) ^^^ p4))), .second, .val (.int (1 : Int32)), .unset, .unset, .unset] [(.int v1)])) _
        refine XS.iconst X282.here hx rfl (hb hby at_163) ?_
        show Steps p.tables e below (T282.setTop (mkF m 164 #[.val (.long p1), .second, .val (.long p2), .second, .val (.long p3), .second, .val (.long p4), .second, .val (.long p5), .second, .val (.int p6), .val (.int (3 : Int32)), .val (.ref b212), .val (.long (fMix ((fMix ((fMix ((fMix p1) ^^^ p2)) ^^^ p3)) ^^^ p4))), .second, .val (.long (fMix p1)), .second, .val (.long (fMix ((fMix ((fMix ((fMix p1) ^^^ p2)) ^^^ p3)) ^^^ p4))), .second, .val (.int (1 : Int32)), .unset, .unset, .unset] [(.int (1 : Int32)), (.int v1)])) _
        refine XS.goto X282.here hx rfl (pc0 := 164) (pc' := 168) rfl (hb hby at_164) (by decide) (by decide) ?_
        rw [show v2 = (1 : Int32) from by rw [hv2, if_pos hc160]] at k
        exact k
      · refine XS.ifYes X282.here hx rfl (pc0 := 160) (pc' := 167) rfl (hb hby at_160) rfl ((if0 _ _).trans (feq (mt (lw_eq _ _).mp hc160)).2) (by decide) (by decide) ?_
        show Steps p.tables e below (T282.setTop (mkF m 167 #[.val (.long p1), .second, .val (.long p2), .second, .val (.long p3), .second, .val (.long p4), .second, .val (.long p5), .second, .val (.int p6), .val (.int (3 : Int32)), .val (.ref b212), .val (.long (fMix ((fMix ((fMix ((fMix p1) ^^^ p2)) ^^^ p3)) ^^^ p4))), .second, .val (.long (fMix p1)), .second, .val (.long (fMix ((fMix ((fMix ((fMix p1) ^^^ p2)) ^^^ p3)) ^^^ p4))), .second, .val (.int (1 : Int32)), .unset, .unset, .unset] [(.int v1)])) _
        refine XS.iconst X282.here hx rfl (hb hby at_167) ?_
        rw [show v2 = (0 : Int32) from by rw [hv2, if_neg hc160]] at k
        exact k
    have sg285 : ∀ t, Steps p.tables e below (T282.setTop (mkF m 182 #[.val (.long p1), .second, .val (.long p2), .second, .val (.long p3), .second, .val (.long p4), .second, .val (.long p5), .second, .val (.int p6), .val (.int (3 : Int32)), .val (.ref b212), .val (.long (fMix ((fMix ((fMix ((fMix p1) ^^^ p2)) ^^^ p3)) ^^^ p4))), .second, .val (.long (fMix p1)), .second, .val (.long (fMix ((fMix ((fMix ((fMix p1) ^^^ p2)) ^^^ p3)) ^^^ p4))), .second, .val (.int (1 : Int32)), .val (.int (1 : Int32)), .unset, .unset] [(.int (0 : Int32)), (.long (-7046029254386353131 : Int64))])) t → Steps p.tables e below (T282.setTop (mkF m 168 #[.val (.long p1), .second, .val (.long p2), .second, .val (.long p3), .second, .val (.long p4), .second, .val (.long p5), .second, .val (.int p6), .val (.int (3 : Int32)), .val (.ref b212), .val (.long (fMix ((fMix ((fMix ((fMix p1) ^^^ p2)) ^^^ p3)) ^^^ p4))), .second, .val (.long (fMix p1)), .second, .val (.long (fMix ((fMix ((fMix ((fMix p1) ^^^ p2)) ^^^ p3)) ^^^ p4))), .second, .val (.int (1 : Int32)), .unset, .unset, .unset] [(.int v2), (.int v1)])) t := by
      intro t k
      show Steps p.tables e below (T282.setTop (mkF m 168 #[.val (.long p1), .second, .val (.long p2), .second, .val (.long p3), .second, .val (.long p4), .second, .val (.long p5), .second, .val (.int p6), .val (.int (3 : Int32)), .val (.ref b212), .val (.long (fMix ((fMix ((fMix ((fMix p1) ^^^ p2)) ^^^ p3)) ^^^ p4))), .second, .val (.long (fMix p1)), .second, .val (.long (fMix ((fMix ((fMix ((fMix p1) ^^^ p2)) ^^^ p3)) ^^^ p4))), .second, .val (.int (1 : Int32)), .unset, .unset, .unset] [(.int v2), (.int v1)])) _
      refine XS.icmpNo X282.here hx rfl (hb hby at_168) rfl (teq ((by rw [hv1, hv2]; exact own_injIf _ _) : v1 = v2)).2 ?_
      show Steps p.tables e below (T282.setTop (mkF m 171 #[.val (.long p1), .second, .val (.long p2), .second, .val (.long p3), .second, .val (.long p4), .second, .val (.long p5), .second, .val (.int p6), .val (.int (3 : Int32)), .val (.ref b212), .val (.long (fMix ((fMix ((fMix ((fMix p1) ^^^ p2)) ^^^ p3)) ^^^ p4))), .second, .val (.long (fMix p1)), .second, .val (.long (fMix ((fMix ((fMix ((fMix p1) ^^^ p2)) ^^^ p3)) ^^^ p4))), .second, .val (.int (1 : Int32)), .unset, .unset, .unset] [])) _
      refine XS.iconst X282.here hx rfl (hb hby at_171) ?_
      show Steps p.tables e below (T282.setTop (mkF m 172 #[.val (.long p1), .second, .val (.long p2), .second, .val (.long p3), .second, .val (.long p4), .second, .val (.long p5), .second, .val (.int p6), .val (.int (3 : Int32)), .val (.ref b212), .val (.long (fMix ((fMix ((fMix ((fMix p1) ^^^ p2)) ^^^ p3)) ^^^ p4))), .second, .val (.long (fMix p1)), .second, .val (.long (fMix ((fMix ((fMix ((fMix p1) ^^^ p2)) ^^^ p3)) ^^^ p4))), .second, .val (.int (1 : Int32)), .unset, .unset, .unset] [(.int (1 : Int32))])) _
      refine XS.goto X282.here hx rfl (pc0 := 172) (pc' := 176) rfl (hb hby at_172) (by decide) (by decide) ?_
      show Steps p.tables e below (T282.setTop (mkF m 176 #[.val (.long p1), .second, .val (.long p2), .second, .val (.long p3), .second, .val (.long p4), .second, .val (.long p5), .second, .val (.int p6), .val (.int (3 : Int32)), .val (.ref b212), .val (.long (fMix ((fMix ((fMix ((fMix p1) ^^^ p2)) ^^^ p3)) ^^^ p4))), .second, .val (.long (fMix p1)), .second, .val (.long (fMix ((fMix ((fMix ((fMix p1) ^^^ p2)) ^^^ p3)) ^^^ p4))), .second, .val (.int (1 : Int32)), .unset, .unset, .unset] [(.int (1 : Int32))])) _
      refine XS.istore X282.here hx rfl (hb hby at_176) rfl (l' := #[.val (.long p1), .second, .val (.long p2), .second, .val (.long p3), .second, .val (.long p4), .second, .val (.long p5), .second, .val (.int p6), .val (.int (3 : Int32)), .val (.ref b212), .val (.long (fMix ((fMix ((fMix ((fMix p1) ^^^ p2)) ^^^ p3)) ^^^ p4))), .second, .val (.long (fMix p1)), .second, .val (.long (fMix ((fMix ((fMix ((fMix p1) ^^^ p2)) ^^^ p3)) ^^^ p4))), .second, .val (.int (1 : Int32)), .val (.int (1 : Int32)), .unset, .unset]) rfl ?_
      show Steps p.tables e below (T282.setTop (mkF m 178 #[.val (.long p1), .second, .val (.long p2), .second, .val (.long p3), .second, .val (.long p4), .second, .val (.long p5), .second, .val (.int p6), .val (.int (3 : Int32)), .val (.ref b212), .val (.long (fMix ((fMix ((fMix ((fMix p1) ^^^ p2)) ^^^ p3)) ^^^ p4))), .second, .val (.long (fMix p1)), .second, .val (.long (fMix ((fMix ((fMix ((fMix p1) ^^^ p2)) ^^^ p3)) ^^^ p4))), .second, .val (.int (1 : Int32)), .val (.int (1 : Int32)), .unset, .unset] [])) _
      refine X282.ldc2Long hx hown (mvT hZ (hw _ (List.mem_of_getElem? (i := 10) rfl))) (g := (mkF m 178 #[.val (.long p1), .second, .val (.long p2), .second, .val (.long p3), .second, .val (.long p4), .second, .val (.long p5), .second, .val (.int p6), .val (.int (3 : Int32)), .val (.ref b212), .val (.long (fMix ((fMix ((fMix ((fMix p1) ^^^ p2)) ^^^ p3)) ^^^ p4))), .second, .val (.long (fMix p1)), .second, .val (.long (fMix ((fMix ((fMix ((fMix p1) ^^^ p2)) ^^^ p3)) ^^^ p4))), .second, .val (.int (1 : Int32)), .val (.int (1 : Int32)), .unset, .unset] [])) rfl (hb hby at_178) _ ?_
      show Steps p.tables e below (T282.setTop (mkF m 181 #[.val (.long p1), .second, .val (.long p2), .second, .val (.long p3), .second, .val (.long p4), .second, .val (.long p5), .second, .val (.int p6), .val (.int (3 : Int32)), .val (.ref b212), .val (.long (fMix ((fMix ((fMix ((fMix p1) ^^^ p2)) ^^^ p3)) ^^^ p4))), .second, .val (.long (fMix p1)), .second, .val (.long (fMix ((fMix ((fMix ((fMix p1) ^^^ p2)) ^^^ p3)) ^^^ p4))), .second, .val (.int (1 : Int32)), .val (.int (1 : Int32)), .unset, .unset] [(.long (-7046029254386353131 : Int64))])) _
      refine XS.iconst X282.here hx rfl (hb hby at_181) ?_
      exact k
    obtain ⟨T286, h286, k286, X286, e286, E286, A286, st286⟩ := newP X282 hx hZ (hw _ (List.mem_of_getElem? (i := 0) rfl)) e282 (g := (mkF m 182 #[.val (.long p1), .second, .val (.long p2), .second, .val (.long p3), .second, .val (.long p4), .second, .val (.long p5), .second, .val (.int p6), .val (.int (3 : Int32)), .val (.ref b212), .val (.long (fMix ((fMix ((fMix ((fMix p1) ^^^ p2)) ^^^ p3)) ^^^ p4))), .second, .val (.long (fMix p1)), .second, .val (.long (fMix ((fMix ((fMix ((fMix p1) ^^^ p2)) ^^^ p3)) ^^^ p4))), .second, .val (.int (1 : Int32)), .val (.int (1 : Int32)), .unset, .unset] [(.int (0 : Int32)), (.long (-7046029254386353131 : Int64))])) rfl (hb hby at_182) rfl (by decide) (cap := 0) (by decide) (by decide) (by decide) (by decide)
    obtain ⟨b286, g286⟩ : ∃ z, z = h269.size := ⟨_, rfl⟩
    rw [← g286] at A286 st286
    have ne287 : b212 ≠ b286 := Nat.ne_of_lt (Nat.lt_of_lt_of_le f275.lt (Nat.le_of_eq g286.symm))
    have ne288 : b227 ≠ b286 := Nat.ne_of_lt (Nat.lt_of_lt_of_le f276.lt (Nat.le_of_eq g286.symm))
    have ne289 : b234 ≠ b286 := Nat.ne_of_lt (Nat.lt_of_lt_of_le f277.lt (Nat.le_of_eq g286.symm))
    have ne290 : b243 ≠ b286 := Nat.ne_of_lt (Nat.lt_of_lt_of_le f278.lt (Nat.le_of_eq g286.symm))
    have ne291 : b254 ≠ b286 := Nat.ne_of_lt (Nat.lt_of_lt_of_le f279.lt (Nat.le_of_eq g286.symm))
    have ne292 : b269 ≠ b286 := Nat.ne_of_lt (Nat.lt_of_lt_of_le f281.lt (Nat.le_of_eq g286.symm))
    have gn_b286 : n0 ≤ b286 := Nat.le_trans z280 (Nat.le_of_eq g286.symm)
    have f293 : Arv Z h286 b212 k212 .long (3 : Int32) [(.long p2), (.long p3), (.long p4)] (.long (0 : Int64)) := f275.ext E286
    have f294 : Arv Z h286 b227 k227 .long (0 : Int32) [] (.long (0 : Int64)) := f276.ext E286
    have f295 : Arv Z h286 b234 k234 .long (0 : Int32) [] (.long (0 : Int64)) := f277.ext E286
    have f296 : Arv Z h286 b243 k243 .long (0 : Int32) [] (.long (0 : Int64)) := f278.ext E286
    have f297 : Arv Z h286 b254 k254 .long (0 : Int32) [] (.long (0 : Int64)) := f279.ext E286
    have f298 : Arv Z h286 b269 k269 .long (0 : Int32) [] (.long (0 : Int64)) := f281.ext E286
    have z299 : n0 ≤ h286.size := Nat.le_trans z280 E286.1
    have f300 : Arv Z h286 b286 k286 .long (0 : Int32) [] (.long (0 : Int64)) := (Arv.new A286 (by decide))
    obtain ⟨_, _, ⟨T301, L301, k301, n301⟩, -, X301, ⟨Lc301, hQ301, l301, y301, z301⟩, st301⟩ := Jvm.LawKit.callS X286 hx (y := (⟨"com/example/haversack/haversack/evaluation/Seeds", "derived", "(J[J)J"⟩ : MethodName)) hown (mvT hZ (hw _ (List.mem_of_getElem? (i := 1) rfl))) (mvT hZ (hw _ (List.mem_of_getElem? (i := 2) rfl))) (mvT hZ (hw _ (List.mem_of_getElem? (i := 3) rfl))) (mvT hZ (hw _ (List.mem_of_getElem? (i := 4) rfl))) (by decide) (backOf (W := 0) (rmD0 l Z a0 hw [] (-7046029254386353131 : Int64) b286 k286 h286 n0 z299 f300) hZ (hw _ (List.mem_of_getElem? (i := 4) rfl)) (hw _ (List.mem_of_getElem? (i := 3) rfl)) (by decide) (by decide)) (g := (mkF m 184 #[.val (.long p1), .second, .val (.long p2), .second, .val (.long p3), .second, .val (.long p4), .second, .val (.long p5), .second, .val (.int p6), .val (.int (3 : Int32)), .val (.ref b212), .val (.long (fMix ((fMix ((fMix ((fMix p1) ^^^ p2)) ^^^ p3)) ^^^ p4))), .second, .val (.long (fMix p1)), .second, .val (.long (fMix ((fMix ((fMix ((fMix p1) ^^^ p2)) ^^^ p3)) ^^^ p4))), .second, .val (.int (1 : Int32)), .val (.int (1 : Int32)), .unset, .unset] [(.ref b286), (.long (-7046029254386353131 : Int64))])) rfl (by rw [hml]; rfl) (argsL := [(.long (-7046029254386353131 : Int64)), (.ref b286)]) (rest := []) (lenOf pd_1 rfl) rfl (by show 2 * 0 + _ ≤ _; exact Nat.le_of_eq rfl) (hb hby at_184) (fun _ _ => ⟨rfl, e286, (by decide : 7 + 0 ≤ _), (by decide : 3 + 0 ≤ _)⟩)
    dsimp only [Pt.U, Pt.locs, Pt.cells, Pt.slots] at X301 l301 y301 z301 st301 hQ301
    subst l301 y301 z301
    obtain ⟨rfl, N301q, e301⟩ := hQ301
    have N301 := Fr.app N282 N301q
    have sg302 : ∀ t, Steps p.tables e below (T301.setTop (mkF m 203 #[.val (.long p1), .second, .val (.long p2), .second, .val (.long p3), .second, .val (.long p4), .second, .val (.long p5), .second, .val (.int p6), .val (.int (3 : Int32)), .val (.ref b212), .val (.long (fMix ((fMix ((fMix ((fMix p1) ^^^ p2)) ^^^ p3)) ^^^ p4))), .second, .val (.long (fMix p1)), .second, .val (.long (fMix ((fMix ((fMix ((fMix p1) ^^^ p2)) ^^^ p3)) ^^^ p4))), .second, .val (.int (1 : Int32)), .val (.int (1 : Int32)), .val (.int (1 : Int32)), .unset] [(.int (0 : Int32)), (.long (0 : Int64))])) t → Steps p.tables e below (T301.setTop (mkF m 187 #[.val (.long p1), .second, .val (.long p2), .second, .val (.long p3), .second, .val (.long p4), .second, .val (.long p5), .second, .val (.int p6), .val (.int (3 : Int32)), .val (.ref b212), .val (.long (fMix ((fMix ((fMix ((fMix p1) ^^^ p2)) ^^^ p3)) ^^^ p4))), .second, .val (.long (fMix p1)), .second, .val (.long (fMix ((fMix ((fMix ((fMix p1) ^^^ p2)) ^^^ p3)) ^^^ p4))), .second, .val (.int (1 : Int32)), .val (.int (1 : Int32)), .unset, .unset] [(.long (fMix (-7046029254386353131 : Int64)))])) t := by
      intro t k
      show Steps p.tables e below (T301.setTop (mkF m 187 #[.val (.long p1), .second, .val (.long p2), .second, .val (.long p3), .second, .val (.long p4), .second, .val (.long p5), .second, .val (.int p6), .val (.int (3 : Int32)), .val (.ref b212), .val (.long (fMix ((fMix ((fMix ((fMix p1) ^^^ p2)) ^^^ p3)) ^^^ p4))), .second, .val (.long (fMix p1)), .second, .val (.long (fMix ((fMix ((fMix ((fMix p1) ^^^ p2)) ^^^ p3)) ^^^ p4))), .second, .val (.int (1 : Int32)), .val (.int (1 : Int32)), .unset, .unset] [(.long (fMix (-7046029254386353131 : Int64)))])) _
      refine X301.ldc2Long hx hown (mvT hZ (hw _ (List.mem_of_getElem? (i := 11) rfl))) (g := (mkF m 187 #[.val (.long p1), .second, .val (.long p2), .second, .val (.long p3), .second, .val (.long p4), .second, .val (.long p5), .second, .val (.int p6), .val (.int (3 : Int32)), .val (.ref b212), .val (.long (fMix ((fMix ((fMix ((fMix p1) ^^^ p2)) ^^^ p3)) ^^^ p4))), .second, .val (.long (fMix p1)), .second, .val (.long (fMix ((fMix ((fMix ((fMix p1) ^^^ p2)) ^^^ p3)) ^^^ p4))), .second, .val (.int (1 : Int32)), .val (.int (1 : Int32)), .unset, .unset] [(.long (fMix (-7046029254386353131 : Int64)))])) rfl (hb hby at_187) _ ?_
      show Steps p.tables e below (T301.setTop (mkF m 190 #[.val (.long p1), .second, .val (.long p2), .second, .val (.long p3), .second, .val (.long p4), .second, .val (.long p5), .second, .val (.int p6), .val (.int (3 : Int32)), .val (.ref b212), .val (.long (fMix ((fMix ((fMix ((fMix p1) ^^^ p2)) ^^^ p3)) ^^^ p4))), .second, .val (.long (fMix p1)), .second, .val (.long (fMix ((fMix ((fMix ((fMix p1) ^^^ p2)) ^^^ p3)) ^^^ p4))), .second, .val (.int (1 : Int32)), .val (.int (1 : Int32)), .unset, .unset] [(.long (-2152535657050944081 : Int64)), (.long (fMix (-7046029254386353131 : Int64)))])) _
      refine XS.lcmp X301.here hx rfl (hb hby at_190) rfl ?_
      show Steps p.tables e below (T301.setTop (mkF m 191 #[.val (.long p1), .second, .val (.long p2), .second, .val (.long p3), .second, .val (.long p4), .second, .val (.long p5), .second, .val (.int p6), .val (.int (3 : Int32)), .val (.ref b212), .val (.long (fMix ((fMix ((fMix ((fMix p1) ^^^ p2)) ^^^ p3)) ^^^ p4))), .second, .val (.long (fMix p1)), .second, .val (.long (fMix ((fMix ((fMix ((fMix p1) ^^^ p2)) ^^^ p3)) ^^^ p4))), .second, .val (.int (1 : Int32)), .val (.int (1 : Int32)), .unset, .unset] [(.int (lcmpW (fMix (-7046029254386353131 : Int64)) (-2152535657050944081 : Int64)))])) _
      refine XS.ifNo X301.here hx rfl (hb hby at_191) rfl ((if0 _ _).trans (teq ((lw_eq _ _).mpr ((by decide +kernel) : (fMix (-7046029254386353131 : Int64)) = (-2152535657050944081 : Int64)))).2) ?_
      show Steps p.tables e below (T301.setTop (mkF m 194 #[.val (.long p1), .second, .val (.long p2), .second, .val (.long p3), .second, .val (.long p4), .second, .val (.long p5), .second, .val (.int p6), .val (.int (3 : Int32)), .val (.ref b212), .val (.long (fMix ((fMix ((fMix ((fMix p1) ^^^ p2)) ^^^ p3)) ^^^ p4))), .second, .val (.long (fMix p1)), .second, .val (.long (fMix ((fMix ((fMix ((fMix p1) ^^^ p2)) ^^^ p3)) ^^^ p4))), .second, .val (.int (1 : Int32)), .val (.int (1 : Int32)), .unset, .unset] [])) _
      refine XS.iconst X301.here hx rfl (hb hby at_194) ?_
      show Steps p.tables e below (T301.setTop (mkF m 195 #[.val (.long p1), .second, .val (.long p2), .second, .val (.long p3), .second, .val (.long p4), .second, .val (.long p5), .second, .val (.int p6), .val (.int (3 : Int32)), .val (.ref b212), .val (.long (fMix ((fMix ((fMix ((fMix p1) ^^^ p2)) ^^^ p3)) ^^^ p4))), .second, .val (.long (fMix p1)), .second, .val (.long (fMix ((fMix ((fMix ((fMix p1) ^^^ p2)) ^^^ p3)) ^^^ p4))), .second, .val (.int (1 : Int32)), .val (.int (1 : Int32)), .unset, .unset] [(.int (1 : Int32))])) _
      refine XS.goto X301.here hx rfl (pc0 := 195) (pc' := 199) rfl (hb hby at_195) (by decide) (by decide) ?_
      show Steps p.tables e below (T301.setTop (mkF m 199 #[.val (.long p1), .second, .val (.long p2), .second, .val (.long p3), .second, .val (.long p4), .second, .val (.long p5), .second, .val (.int p6), .val (.int (3 : Int32)), .val (.ref b212), .val (.long (fMix ((fMix ((fMix ((fMix p1) ^^^ p2)) ^^^ p3)) ^^^ p4))), .second, .val (.long (fMix p1)), .second, .val (.long (fMix ((fMix ((fMix ((fMix p1) ^^^ p2)) ^^^ p3)) ^^^ p4))), .second, .val (.int (1 : Int32)), .val (.int (1 : Int32)), .unset, .unset] [(.int (1 : Int32))])) _
      refine XS.istore X301.here hx rfl (hb hby at_199) rfl (l' := #[.val (.long p1), .second, .val (.long p2), .second, .val (.long p3), .second, .val (.long p4), .second, .val (.long p5), .second, .val (.int p6), .val (.int (3 : Int32)), .val (.ref b212), .val (.long (fMix ((fMix ((fMix ((fMix p1) ^^^ p2)) ^^^ p3)) ^^^ p4))), .second, .val (.long (fMix p1)), .second, .val (.long (fMix ((fMix ((fMix ((fMix p1) ^^^ p2)) ^^^ p3)) ^^^ p4))), .second, .val (.int (1 : Int32)), .val (.int (1 : Int32)), .val (.int (1 : Int32)), .unset]) rfl ?_
      show Steps p.tables e below (T301.setTop (mkF m 201 #[.val (.long p1), .second, .val (.long p2), .second, .val (.long p3), .second, .val (.long p4), .second, .val (.long p5), .second, .val (.int p6), .val (.int (3 : Int32)), .val (.ref b212), .val (.long (fMix ((fMix ((fMix ((fMix p1) ^^^ p2)) ^^^ p3)) ^^^ p4))), .second, .val (.long (fMix p1)), .second, .val (.long (fMix ((fMix ((fMix ((fMix p1) ^^^ p2)) ^^^ p3)) ^^^ p4))), .second, .val (.int (1 : Int32)), .val (.int (1 : Int32)), .val (.int (1 : Int32)), .unset] [])) _
      refine XS.lconst X301.here hx rfl (hb hby at_201) ?_
      show Steps p.tables e below (T301.setTop (mkF m 202 #[.val (.long p1), .second, .val (.long p2), .second, .val (.long p3), .second, .val (.long p4), .second, .val (.long p5), .second, .val (.int p6), .val (.int (3 : Int32)), .val (.ref b212), .val (.long (fMix ((fMix ((fMix ((fMix p1) ^^^ p2)) ^^^ p3)) ^^^ p4))), .second, .val (.long (fMix p1)), .second, .val (.long (fMix ((fMix ((fMix ((fMix p1) ^^^ p2)) ^^^ p3)) ^^^ p4))), .second, .val (.int (1 : Int32)), .val (.int (1 : Int32)), .val (.int (1 : Int32)), .unset] [(.long (0 : Int64))])) _
      refine XS.iconst X301.here hx rfl (hb hby at_202) ?_
      exact k
    obtain ⟨T303, h303, k303, X303, e303, E303, A303, st303⟩ := newP X301 hx hZ (hw _ (List.mem_of_getElem? (i := 0) rfl)) e301 (g := (mkF m 203 #[.val (.long p1), .second, .val (.long p2), .second, .val (.long p3), .second, .val (.long p4), .second, .val (.long p5), .second, .val (.int p6), .val (.int (3 : Int32)), .val (.ref b212), .val (.long (fMix ((fMix ((fMix ((fMix p1) ^^^ p2)) ^^^ p3)) ^^^ p4))), .second, .val (.long (fMix p1)), .second, .val (.long (fMix ((fMix ((fMix ((fMix p1) ^^^ p2)) ^^^ p3)) ^^^ p4))), .second, .val (.int (1 : Int32)), .val (.int (1 : Int32)), .val (.int (1 : Int32)), .unset] [(.int (0 : Int32)), (.long (0 : Int64))])) rfl (hb hby at_203) rfl (by decide) (cap := 0) (by decide) (by decide) (by decide) (by decide)
    obtain ⟨b303, g303⟩ : ∃ z, z = h286.size := ⟨_, rfl⟩
    rw [← g303] at A303 st303
    have ne304 : b212 ≠ b303 := Nat.ne_of_lt (Nat.lt_of_lt_of_le f293.lt (Nat.le_of_eq g303.symm))
    have ne305 : b227 ≠ b303 := Nat.ne_of_lt (Nat.lt_of_lt_of_le f294.lt (Nat.le_of_eq g303.symm))
    have ne306 : b234 ≠ b303 := Nat.ne_of_lt (Nat.lt_of_lt_of_le f295.lt (Nat.le_of_eq g303.symm))
    have ne307 : b243 ≠ b303 := Nat.ne_of_lt (Nat.lt_of_lt_of_le f296.lt (Nat.le_of_eq g303.symm))
    have ne308 : b254 ≠ b303 := Nat.ne_of_lt (Nat.lt_of_lt_of_le f297.lt (Nat.le_of_eq g303.symm))
    have ne309 : b269 ≠ b303 := Nat.ne_of_lt (Nat.lt_of_lt_of_le f298.lt (Nat.le_of_eq g303.symm))
    have ne310 : b286 ≠ b303 := Nat.ne_of_lt (Nat.lt_of_lt_of_le f300.lt (Nat.le_of_eq g303.symm))
    have gn_b303 : n0 ≤ b303 := Nat.le_trans z299 (Nat.le_of_eq g303.symm)
    have f311 : Arv Z h303 b212 k212 .long (3 : Int32) [(.long p2), (.long p3), (.long p4)] (.long (0 : Int64)) := f293.ext E303
    have f312 : Arv Z h303 b227 k227 .long (0 : Int32) [] (.long (0 : Int64)) := f294.ext E303
    have f313 : Arv Z h303 b234 k234 .long (0 : Int32) [] (.long (0 : Int64)) := f295.ext E303
    have f314 : Arv Z h303 b243 k243 .long (0 : Int32) [] (.long (0 : Int64)) := f296.ext E303
    have f315 : Arv Z h303 b254 k254 .long (0 : Int32) [] (.long (0 : Int64)) := f297.ext E303
    have f316 : Arv Z h303 b269 k269 .long (0 : Int32) [] (.long (0 : Int64)) := f298.ext E303
    have f317 : Arv Z h303 b286 k286 .long (0 : Int32) [] (.long (0 : Int64)) := f300.ext E303
    have z318 : n0 ≤ h303.size := Nat.le_trans z299 E303.1
    have f319 : Arv Z h303 b303 k303 .long (0 : Int32) [] (.long (0 : Int64)) := (Arv.new A303 (by decide))
    obtain ⟨_, _, ⟨T320, L320, k320, n320⟩, -, X320, ⟨Lc320, hQ320, l320, y320, z320⟩, st320⟩ := Jvm.LawKit.callS X303 hx (y := (⟨"com/example/haversack/haversack/evaluation/Seeds", "derived", "(J[J)J"⟩ : MethodName)) hown (mvT hZ (hw _ (List.mem_of_getElem? (i := 1) rfl))) (mvT hZ (hw _ (List.mem_of_getElem? (i := 2) rfl))) (mvT hZ (hw _ (List.mem_of_getElem? (i := 3) rfl))) (mvT hZ (hw _ (List.mem_of_getElem? (i := 4) rfl))) (by decide) (backOf (W := 0) (rmD0 l Z a0 hw [] (0 : Int64) b303 k303 h303 n0 z318 f319) hZ (hw _ (List.mem_of_getElem? (i := 4) rfl)) (hw _ (List.mem_of_getElem? (i := 3) rfl)) (by decide) (by decide)) (g := (mkF m 205 #[.val (.long p1), .second, .val (.long p2), .second, .val (.long p3), .second, .val (.long p4), .second, .val (.long p5), .second, .val (.int p6), .val (.int (3 : Int32)), .val (.ref b212), .val (.long (fMix ((fMix ((fMix ((fMix p1) ^^^ p2)) ^^^ p3)) ^^^ p4))), .second, .val (.long (fMix p1)), .second, .val (.long (fMix ((fMix ((fMix ((fMix p1) ^^^ p2)) ^^^ p3)) ^^^ p4))), .second, .val (.int (1 : Int32)), .val (.int (1 : Int32)), .val (.int (1 : Int32)), .unset] [(.ref b303), (.long (0 : Int64))])) rfl (by rw [hml]; rfl) (argsL := [(.long (0 : Int64)), (.ref b303)]) (rest := []) (lenOf pd_1 rfl) rfl (by show 2 * 0 + _ ≤ _; exact Nat.le_of_eq rfl) (hb hby at_205) (fun _ _ => ⟨rfl, e303, (by decide : 8 + 0 ≤ _), (by decide : 3 + 0 ≤ _)⟩)
    dsimp only [Pt.U, Pt.locs, Pt.cells, Pt.slots] at X320 l320 y320 z320 st320 hQ320
    subst l320 y320 z320
    obtain ⟨rfl, N320q, e320⟩ := hQ320
    have N320 := Fr.app N301 N320q
    have sg321 : ∀ t, Steps p.tables e below (T320.setTop (mkF m 245 #[.val (.long p1), .second, .val (.long p2), .second, .val (.long p3), .second, .val (.long p4), .second, .val (.long p5), .second, .val (.int p6), .val (.int (3 : Int32)), .val (.ref b212), .val (.long (fMix ((fMix ((fMix ((fMix p1) ^^^ p2)) ^^^ p3)) ^^^ p4))), .second, .val (.long (fMix p1)), .second, .val (.long (fMix ((fMix ((fMix ((fMix p1) ^^^ p2)) ^^^ p3)) ^^^ p4))), .second, .val (.int (1 : Int32)), .val (.int (1 : Int32)), .val (.int (1 : Int32)), .val (.int (1 : Int32))] [(.int (1 : Int32))])) t → Steps p.tables e below (T320.setTop (mkF m 208 #[.val (.long p1), .second, .val (.long p2), .second, .val (.long p3), .second, .val (.long p4), .second, .val (.long p5), .second, .val (.int p6), .val (.int (3 : Int32)), .val (.ref b212), .val (.long (fMix ((fMix ((fMix ((fMix p1) ^^^ p2)) ^^^ p3)) ^^^ p4))), .second, .val (.long (fMix p1)), .second, .val (.long (fMix ((fMix ((fMix ((fMix p1) ^^^ p2)) ^^^ p3)) ^^^ p4))), .second, .val (.int (1 : Int32)), .val (.int (1 : Int32)), .val (.int (1 : Int32)), .unset] [(.long (fMix (0 : Int64)))])) t := by
      intro t k
      show Steps p.tables e below (T320.setTop (mkF m 208 #[.val (.long p1), .second, .val (.long p2), .second, .val (.long p3), .second, .val (.long p4), .second, .val (.long p5), .second, .val (.int p6), .val (.int (3 : Int32)), .val (.ref b212), .val (.long (fMix ((fMix ((fMix ((fMix p1) ^^^ p2)) ^^^ p3)) ^^^ p4))), .second, .val (.long (fMix p1)), .second, .val (.long (fMix ((fMix ((fMix ((fMix p1) ^^^ p2)) ^^^ p3)) ^^^ p4))), .second, .val (.int (1 : Int32)), .val (.int (1 : Int32)), .val (.int (1 : Int32)), .unset] [(.long (fMix (0 : Int64)))])) _
      refine XS.lconst X320.here hx rfl (hb hby at_208) ?_
      show Steps p.tables e below (T320.setTop (mkF m 209 #[.val (.long p1), .second, .val (.long p2), .second, .val (.long p3), .second, .val (.long p4), .second, .val (.long p5), .second, .val (.int p6), .val (.int (3 : Int32)), .val (.ref b212), .val (.long (fMix ((fMix ((fMix ((fMix p1) ^^^ p2)) ^^^ p3)) ^^^ p4))), .second, .val (.long (fMix p1)), .second, .val (.long (fMix ((fMix ((fMix ((fMix p1) ^^^ p2)) ^^^ p3)) ^^^ p4))), .second, .val (.int (1 : Int32)), .val (.int (1 : Int32)), .val (.int (1 : Int32)), .unset] [(.long (0 : Int64)), (.long (fMix (0 : Int64)))])) _
      refine XS.lcmp X320.here hx rfl (hb hby at_209) rfl ?_
      show Steps p.tables e below (T320.setTop (mkF m 210 #[.val (.long p1), .second, .val (.long p2), .second, .val (.long p3), .second, .val (.long p4), .second, .val (.long p5), .second, .val (.int p6), .val (.int (3 : Int32)), .val (.ref b212), .val (.long (fMix ((fMix ((fMix ((fMix p1) ^^^ p2)) ^^^ p3)) ^^^ p4))), .second, .val (.long (fMix p1)), .second, .val (.long (fMix ((fMix ((fMix ((fMix p1) ^^^ p2)) ^^^ p3)) ^^^ p4))), .second, .val (.int (1 : Int32)), .val (.int (1 : Int32)), .val (.int (1 : Int32)), .unset] [(.int (lcmpW (fMix (0 : Int64)) (0 : Int64)))])) _
      refine XS.ifNo X320.here hx rfl (hb hby at_210) rfl ((if0 _ _).trans (teq ((lw_eq _ _).mpr ((by decide +kernel) : (fMix (0 : Int64)) = (0 : Int64)))).2) ?_
      show Steps p.tables e below (T320.setTop (mkF m 213 #[.val (.long p1), .second, .val (.long p2), .second, .val (.long p3), .second, .val (.long p4), .second, .val (.long p5), .second, .val (.int p6), .val (.int (3 : Int32)), .val (.ref b212), .val (.long (fMix ((fMix ((fMix ((fMix p1) ^^^ p2)) ^^^ p3)) ^^^ p4))), .second, .val (.long (fMix p1)), .second, .val (.long (fMix ((fMix ((fMix ((fMix p1) ^^^ p2)) ^^^ p3)) ^^^ p4))), .second, .val (.int (1 : Int32)), .val (.int (1 : Int32)), .val (.int (1 : Int32)), .unset] [])) _
      refine XS.iconst X320.here hx rfl (hb hby at_213) ?_
      show Steps p.tables e below (T320.setTop (mkF m 214 #[.val (.long p1), .second, .val (.long p2), .second, .val (.long p3), .second, .val (.long p4), .second, .val (.long p5), .second, .val (.int p6), .val (.int (3 : Int32)), .val (.ref b212), .val (.long (fMix ((fMix ((fMix ((fMix p1) ^^^ p2)) ^^^ p3)) ^^^ p4))), .second, .val (.long (fMix p1)), .second, .val (.long (fMix ((fMix ((fMix ((fMix p1) ^^^ p2)) ^^^ p3)) ^^^ p4))), .second, .val (.int (1 : Int32)), .val (.int (1 : Int32)), .val (.int (1 : Int32)), .unset] [(.int (1 : Int32))])) _
      refine XS.goto X320.here hx rfl (pc0 := 214) (pc' := 218) rfl (hb hby at_214) (by decide) (by decide) ?_
      show Steps p.tables e below (T320.setTop (mkF m 218 #[.val (.long p1), .second, .val (.long p2), .second, .val (.long p3), .second, .val (.long p4), .second, .val (.long p5), .second, .val (.int p6), .val (.int (3 : Int32)), .val (.ref b212), .val (.long (fMix ((fMix ((fMix ((fMix p1) ^^^ p2)) ^^^ p3)) ^^^ p4))), .second, .val (.long (fMix p1)), .second, .val (.long (fMix ((fMix ((fMix ((fMix p1) ^^^ p2)) ^^^ p3)) ^^^ p4))), .second, .val (.int (1 : Int32)), .val (.int (1 : Int32)), .val (.int (1 : Int32)), .unset] [(.int (1 : Int32))])) _
      refine XS.istore X320.here hx rfl (hb hby at_218) rfl (l' := #[.val (.long p1), .second, .val (.long p2), .second, .val (.long p3), .second, .val (.long p4), .second, .val (.long p5), .second, .val (.int p6), .val (.int (3 : Int32)), .val (.ref b212), .val (.long (fMix ((fMix ((fMix ((fMix p1) ^^^ p2)) ^^^ p3)) ^^^ p4))), .second, .val (.long (fMix p1)), .second, .val (.long (fMix ((fMix ((fMix ((fMix p1) ^^^ p2)) ^^^ p3)) ^^^ p4))), .second, .val (.int (1 : Int32)), .val (.int (1 : Int32)), .val (.int (1 : Int32)), .val (.int (1 : Int32))]) rfl ?_
      show Steps p.tables e below (T320.setTop (mkF m 220 #[.val (.long p1), .second, .val (.long p2), .second, .val (.long p3), .second, .val (.long p4), .second, .val (.long p5), .second, .val (.int p6), .val (.int (3 : Int32)), .val (.ref b212), .val (.long (fMix ((fMix ((fMix ((fMix p1) ^^^ p2)) ^^^ p3)) ^^^ p4))), .second, .val (.long (fMix p1)), .second, .val (.long (fMix ((fMix ((fMix ((fMix p1) ^^^ p2)) ^^^ p3)) ^^^ p4))), .second, .val (.int (1 : Int32)), .val (.int (1 : Int32)), .val (.int (1 : Int32)), .val (.int (1 : Int32))] [])) _
      refine XS.iload X320.here hx rfl (hb hby at_220) rfl ?_
      show Steps p.tables e below (T320.setTop (mkF m 222 #[.val (.long p1), .second, .val (.long p2), .second, .val (.long p3), .second, .val (.long p4), .second, .val (.long p5), .second, .val (.int p6), .val (.int (3 : Int32)), .val (.ref b212), .val (.long (fMix ((fMix ((fMix ((fMix p1) ^^^ p2)) ^^^ p3)) ^^^ p4))), .second, .val (.long (fMix p1)), .second, .val (.long (fMix ((fMix ((fMix ((fMix p1) ^^^ p2)) ^^^ p3)) ^^^ p4))), .second, .val (.int (1 : Int32)), .val (.int (1 : Int32)), .val (.int (1 : Int32)), .val (.int (1 : Int32))] [(.int (1 : Int32))])) _
      refine XS.ifNo X320.here hx rfl (hb hby at_222) rfl ((if0 _ _).trans (feq (by decide : ¬ ((1 : Int32) = (0 : Int32)))).1) ?_
      show Steps p.tables e below (T320.setTop (mkF m 225 #[.val (.long p1), .second, .val (.long p2), .second, .val (.long p3), .second, .val (.long p4), .second, .val (.long p5), .second, .val (.int p6), .val (.int (3 : Int32)), .val (.ref b212), .val (.long (fMix ((fMix ((fMix ((fMix p1) ^^^ p2)) ^^^ p3)) ^^^ p4))), .second, .val (.long (fMix p1)), .second, .val (.long (fMix ((fMix ((fMix ((fMix p1) ^^^ p2)) ^^^ p3)) ^^^ p4))), .second, .val (.int (1 : Int32)), .val (.int (1 : Int32)), .val (.int (1 : Int32)), .val (.int (1 : Int32))] [])) _
      refine XS.iload X320.here hx rfl (hb hby at_225) rfl ?_
      show Steps p.tables e below (T320.setTop (mkF m 227 #[.val (.long p1), .second, .val (.long p2), .second, .val (.long p3), .second, .val (.long p4), .second, .val (.long p5), .second, .val (.int p6), .val (.int (3 : Int32)), .val (.ref b212), .val (.long (fMix ((fMix ((fMix ((fMix p1) ^^^ p2)) ^^^ p3)) ^^^ p4))), .second, .val (.long (fMix p1)), .second, .val (.long (fMix ((fMix ((fMix ((fMix p1) ^^^ p2)) ^^^ p3)) ^^^ p4))), .second, .val (.int (1 : Int32)), .val (.int (1 : Int32)), .val (.int (1 : Int32)), .val (.int (1 : Int32))] [(.int (1 : Int32))])) _
      refine XS.ifNo X320.here hx rfl (hb hby at_227) rfl ((if0 _ _).trans (feq (by decide : ¬ ((1 : Int32) = (0 : Int32)))).1) ?_
      show Steps p.tables e below (T320.setTop (mkF m 230 #[.val (.long p1), .second, .val (.long p2), .second, .val (.long p3), .second, .val (.long p4), .second, .val (.long p5), .second, .val (.int p6), .val (.int (3 : Int32)), .val (.ref b212), .val (.long (fMix ((fMix ((fMix ((fMix p1) ^^^ p2)) ^^^ p3)) ^^^ p4))), .second, .val (.long (fMix p1)), .second, .val (.long (fMix ((fMix ((fMix ((fMix p1) ^^^ p2)) ^^^ p3)) ^^^ p4))), .second, .val (.int (1 : Int32)), .val (.int (1 : Int32)), .val (.int (1 : Int32)), .val (.int (1 : Int32))] [])) _
      refine XS.iload X320.here hx rfl (hb hby at_230) rfl ?_
      show Steps p.tables e below (T320.setTop (mkF m 232 #[.val (.long p1), .second, .val (.long p2), .second, .val (.long p3), .second, .val (.long p4), .second, .val (.long p5), .second, .val (.int p6), .val (.int (3 : Int32)), .val (.ref b212), .val (.long (fMix ((fMix ((fMix ((fMix p1) ^^^ p2)) ^^^ p3)) ^^^ p4))), .second, .val (.long (fMix p1)), .second, .val (.long (fMix ((fMix ((fMix ((fMix p1) ^^^ p2)) ^^^ p3)) ^^^ p4))), .second, .val (.int (1 : Int32)), .val (.int (1 : Int32)), .val (.int (1 : Int32)), .val (.int (1 : Int32))] [(.int (1 : Int32))])) _
      refine XS.ifNo X320.here hx rfl (hb hby at_232) rfl ((if0 _ _).trans (feq (by decide : ¬ ((1 : Int32) = (0 : Int32)))).1) ?_
      show Steps p.tables e below (T320.setTop (mkF m 235 #[.val (.long p1), .second, .val (.long p2), .second, .val (.long p3), .second, .val (.long p4), .second, .val (.long p5), .second, .val (.int p6), .val (.int (3 : Int32)), .val (.ref b212), .val (.long (fMix ((fMix ((fMix ((fMix p1) ^^^ p2)) ^^^ p3)) ^^^ p4))), .second, .val (.long (fMix p1)), .second, .val (.long (fMix ((fMix ((fMix ((fMix p1) ^^^ p2)) ^^^ p3)) ^^^ p4))), .second, .val (.int (1 : Int32)), .val (.int (1 : Int32)), .val (.int (1 : Int32)), .val (.int (1 : Int32))] [])) _
      refine XS.iload X320.here hx rfl (hb hby at_235) rfl ?_
      show Steps p.tables e below (T320.setTop (mkF m 237 #[.val (.long p1), .second, .val (.long p2), .second, .val (.long p3), .second, .val (.long p4), .second, .val (.long p5), .second, .val (.int p6), .val (.int (3 : Int32)), .val (.ref b212), .val (.long (fMix ((fMix ((fMix ((fMix p1) ^^^ p2)) ^^^ p3)) ^^^ p4))), .second, .val (.long (fMix p1)), .second, .val (.long (fMix ((fMix ((fMix ((fMix p1) ^^^ p2)) ^^^ p3)) ^^^ p4))), .second, .val (.int (1 : Int32)), .val (.int (1 : Int32)), .val (.int (1 : Int32)), .val (.int (1 : Int32))] [(.int (1 : Int32))])) _
      refine XS.ifNo X320.here hx rfl (hb hby at_237) rfl ((if0 _ _).trans (feq (by decide : ¬ ((1 : Int32) = (0 : Int32)))).1) ?_
      show Steps p.tables e below (T320.setTop (mkF m 240 #[.val (.long p1), .second, .val (.long p2), .second, .val (.long p3), .second, .val (.long p4), .second, .val (.long p5), .second, .val (.int p6), .val (.int (3 : Int32)), .val (.ref b212), .val (.long (fMix ((fMix ((fMix ((fMix p1) ^^^ p2)) ^^^ p3)) ^^^ p4))), .second, .val (.long (fMix p1)), .second, .val (.long (fMix ((fMix ((fMix ((fMix p1) ^^^ p2)) ^^^ p3)) ^^^ p4))), .second, .val (.int (1 : Int32)), .val (.int (1 : Int32)), .val (.int (1 : Int32)), .val (.int (1 : Int32))] [])) _
      refine XS.iconst X320.here hx rfl (hb hby at_240) ?_
      show Steps p.tables e below (T320.setTop (mkF m 241 #[.val (.long p1), .second, .val (.long p2), .second, .val (.long p3), .second, .val (.long p4), .second, .val (.long p5), .second, .val (.int p6), .val (.int (3 : Int32)), .val (.ref b212), .val (.long (fMix ((fMix ((fMix ((fMix p1) ^^^ p2)) ^^^ p3)) ^^^ p4))), .second, .val (.long (fMix p1)), .second, .val (.long (fMix ((fMix ((fMix ((fMix p1) ^^^ p2)) ^^^ p3)) ^^^ p4))), .second, .val (.int (1 : Int32)), .val (.int (1 : Int32)), .val (.int (1 : Int32)), .val (.int (1 : Int32))] [(.int (1 : Int32))])) _
      refine XS.goto X320.here hx rfl (pc0 := 241) (pc' := 245) rfl (hb hby at_241) (by decide) (by decide) ?_
      exact k
    obtain ⟨fs, hr, hrun, hended, hW, hsame⟩ := X320.leave (v := some (.int (1 : Int32))) (fun h => by rw [Bd.returns] at h; cases h)
    refine ⟨_, _, pre0 _ ?_, hrun, hended, _, _, rfl, ?_, ⟨_, rfl⟩, hW, hsame.mono (by decide) (by decide)⟩
    · show Steps p.tables e below (s₁.setTop (mkF m 0 #[.val (.long p1), .second, .val (.long p2), .second, .val (.long p3), .second, .val (.long p4), .second, .val (.long p5), .second, .val (.int p6), .unset, .unset, .unset, .unset, .unset, .unset, .unset, .unset, .unset, .unset, .unset, .unset] [])) _
      refine sg1 _ ?_
      show Steps p.tables e below (s₁.setTop (mkF m 6 #[.val (.long p1), .second, .val (.long p2), .second, .val (.long p3), .second, .val (.long p4), .second, .val (.long p5), .second, .val (.int p6), .val (.int (3 : Int32)), .unset, .unset, .unset, .unset, .unset, .unset, .unset, .unset, .unset, .unset, .unset] [])) _
      refine sg211 _ ?_
      show Steps p.tables e below (s₁.setTop (mkF m 8 #[.val (.long p1), .second, .val (.long p2), .second, .val (.long p3), .second, .val (.long p4), .second, .val (.long p5), .second, .val (.int p6), .val (.int (3 : Int32)), .unset, .unset, .unset, .unset, .unset, .unset, .unset, .unset, .unset, .unset, .unset] [(.int (3 : Int32))])) _
      refine st212 _ ?_
      show Steps p.tables e below (T212.setTop (mkF m 10 #[.val (.long p1), .second, .val (.long p2), .second, .val (.long p3), .second, .val (.long p4), .second, .val (.long p5), .second, .val (.int p6), .val (.int (3 : Int32)), .unset, .unset, .unset, .unset, .unset, .unset, .unset, .unset, .unset, .unset, .unset] [(.ref b212)])) _
      refine sg215 _ ?_
      show Steps p.tables e below (T212.setTop (mkF m 21 #[.val (.long p1), .second, .val (.long p2), .second, .val (.long p3), .second, .val (.long p4), .second, .val (.long p5), .second, .val (.int p6), .val (.int (3 : Int32)), .val (.ref b212), .unset, .unset, .unset, .unset, .unset, .unset, .unset, .unset, .unset, .unset] [(.long p2), (.int (0 : Int32)), (.ref b212)])) _
      refine st216 _ ?_
      show Steps p.tables e below (T216.setTop (mkF m 22 #[.val (.long p1), .second, .val (.long p2), .second, .val (.long p3), .second, .val (.long p4), .second, .val (.long p5), .second, .val (.int p6), .val (.int (3 : Int32)), .val (.ref b212), .unset, .unset, .unset, .unset, .unset, .unset, .unset, .unset, .unset, .unset] [])) _
      refine sg218 _ ?_
      show Steps p.tables e below (T216.setTop (mkF m 33 #[.val (.long p1), .second, .val (.long p2), .second, .val (.long p3), .second, .val (.long p4), .second, .val (.long p5), .second, .val (.int p6), .val (.int (3 : Int32)), .val (.ref b212), .unset, .unset, .unset, .unset, .unset, .unset, .unset, .unset, .unset, .unset] [(.long p3), (.int (1 : Int32)), (.ref b212)])) _
      refine st219 _ ?_
      show Steps p.tables e below (T219.setTop (mkF m 34 #[.val (.long p1), .second, .val (.long p2), .second, .val (.long p3), .second, .val (.long p4), .second, .val (.long p5), .second, .val (.int p6), .val (.int (3 : Int32)), .val (.ref b212), .unset, .unset, .unset, .unset, .unset, .unset, .unset, .unset, .unset, .unset] [])) _
      refine sg221 _ ?_
      show Steps p.tables e below (T219.setTop (mkF m 45 #[.val (.long p1), .second, .val (.long p2), .second, .val (.long p3), .second, .val (.long p4), .second, .val (.long p5), .second, .val (.int p6), .val (.int (3 : Int32)), .val (.ref b212), .unset, .unset, .unset, .unset, .unset, .unset, .unset, .unset, .unset, .unset] [(.long p4), (.int (2 : Int32)), (.ref b212)])) _
      refine st222 _ ?_
      show Steps p.tables e below (T222.setTop (mkF m 46 #[.val (.long p1), .second, .val (.long p2), .second, .val (.long p3), .second, .val (.long p4), .second, .val (.long p5), .second, .val (.int p6), .val (.int (3 : Int32)), .val (.ref b212), .unset, .unset, .unset, .unset, .unset, .unset, .unset, .unset, .unset, .unset] [])) _
      refine sg224 _ ?_
      show Steps p.tables e below (T222.setTop (mkF m 49 #[.val (.long p1), .second, .val (.long p2), .second, .val (.long p3), .second, .val (.long p4), .second, .val (.long p5), .second, .val (.int p6), .val (.int (3 : Int32)), .val (.ref b212), .unset, .unset, .unset, .unset, .unset, .unset, .unset, .unset, .unset, .unset] [(.ref b212), (.long p1)])) _
      refine st225 _ ?_
      show Steps p.tables e below (T225.setTop (mkF m 52 #[.val (.long p1), .second, .val (.long p2), .second, .val (.long p3), .second, .val (.long p4), .second, .val (.long p5), .second, .val (.int p6), .val (.int (3 : Int32)), .val (.ref b212), .unset, .unset, .unset, .unset, .unset, .unset, .unset, .unset, .unset, .unset] [(.long (fMix ((fMix ((fMix ((fMix p1) ^^^ p2)) ^^^ p3)) ^^^ p4)))])) _
      refine sg226 _ ?_
      show Steps p.tables e below (T225.setTop (mkF m 56 #[.val (.long p1), .second, .val (.long p2), .second, .val (.long p3), .second, .val (.long p4), .second, .val (.long p5), .second, .val (.int p6), .val (.int (3 : Int32)), .val (.ref b212), .val (.long (fMix ((fMix ((fMix ((fMix p1) ^^^ p2)) ^^^ p3)) ^^^ p4))), .second, .unset, .unset, .unset, .unset, .unset, .unset, .unset, .unset] [(.int (0 : Int32)), (.long p1)])) _
      refine st227 _ ?_
      show Steps p.tables e below (T227.setTop (mkF m 58 #[.val (.long p1), .second, .val (.long p2), .second, .val (.long p3), .second, .val (.long p4), .second, .val (.long p5), .second, .val (.int p6), .val (.int (3 : Int32)), .val (.ref b212), .val (.long (fMix ((fMix ((fMix ((fMix p1) ^^^ p2)) ^^^ p3)) ^^^ p4))), .second, .unset, .unset, .unset, .unset, .unset, .unset, .unset, .unset] [(.ref b227), (.long p1)])) _
      refine st232 _ ?_
      show Steps p.tables e below (T232.setTop (mkF m 61 #[.val (.long p1), .second, .val (.long p2), .second, .val (.long p3), .second, .val (.long p4), .second, .val (.long p5), .second, .val (.int p6), .val (.int (3 : Int32)), .val (.ref b212), .val (.long (fMix ((fMix ((fMix ((fMix p1) ^^^ p2)) ^^^ p3)) ^^^ p4))), .second, .unset, .unset, .unset, .unset, .unset, .unset, .unset, .unset] [(.long (fMix p1))])) _
      refine sg233 _ ?_
      show Steps p.tables e below (T232.setTop (mkF m 77 #[.val (.long p1), .second, .val (.long p2), .second, .val (.long p3), .second, .val (.long p4), .second, .val (.long p5), .second, .val (.int p6), .val (.int (3 : Int32)), .val (.ref b212), .val (.long (fMix ((fMix ((fMix ((fMix p1) ^^^ p2)) ^^^ p3)) ^^^ p4))), .second, .val (.long (fMix p1)), .second, .val (.long (fMix p1)), .second, .unset, .unset, .unset, .unset] [(.int (0 : Int32)), (.long ((fMix p1) ^^^ p2))])) _
      refine st234 _ ?_
      show Steps p.tables e below (T234.setTop (mkF m 79 #[.val (.long p1), .second, .val (.long p2), .second, .val (.long p3), .second, .val (.long p4), .second, .val (.long p5), .second, .val (.int p6), .val (.int (3 : Int32)), .val (.ref b212), .val (.long (fMix ((fMix ((fMix ((fMix p1) ^^^ p2)) ^^^ p3)) ^^^ p4))), .second, .val (.long (fMix p1)), .second, .val (.long (fMix p1)), .second, .unset, .unset, .unset, .unset] [(.ref b234), (.long ((fMix p1) ^^^ p2))])) _
      refine st241 _ ?_
      show Steps p.tables e below (T241.setTop (mkF m 82 #[.val (.long p1), .second, .val (.long p2), .second, .val (.long p3), .second, .val (.long p4), .second, .val (.long p5), .second, .val (.int p6), .val (.int (3 : Int32)), .val (.ref b212), .val (.long (fMix ((fMix ((fMix ((fMix p1) ^^^ p2)) ^^^ p3)) ^^^ p4))), .second, .val (.long (fMix p1)), .second, .val (.long (fMix p1)), .second, .unset, .unset, .unset, .unset] [(.long (fMix ((fMix p1) ^^^ p2)))])) _
      refine sg242 _ ?_
      show Steps p.tables e below (T241.setTop (mkF m 96 #[.val (.long p1), .second, .val (.long p2), .second, .val (.long p3), .second, .val (.long p4), .second, .val (.long p5), .second, .val (.int p6), .val (.int (3 : Int32)), .val (.ref b212), .val (.long (fMix ((fMix ((fMix ((fMix p1) ^^^ p2)) ^^^ p3)) ^^^ p4))), .second, .val (.long (fMix p1)), .second, .val (.long (fMix ((fMix p1) ^^^ p2))), .second, .unset, .unset, .unset, .unset] [(.int (0 : Int32)), (.long ((fMix ((fMix p1) ^^^ p2)) ^^^ p3))])) _
      refine st243 _ ?_
      show Steps p.tables e below (T243.setTop (mkF m 98 #[.val (.long p1), .second, .val (.long p2), .second, .val (.long p3), .second, .val (.long p4), .second, .val (.long p5), .second, .val (.int p6), .val (.int (3 : Int32)), .val (.ref b212), .val (.long (fMix ((fMix ((fMix ((fMix p1) ^^^ p2)) ^^^ p3)) ^^^ p4))), .second, .val (.long (fMix p1)), .second, .val (.long (fMix ((fMix p1) ^^^ p2))), .second, .unset, .unset, .unset, .unset] [(.ref b243), (.long ((fMix ((fMix p1) ^^^ p2)) ^^^ p3))])) _
      refine st252 _ ?_
      show Steps p.tables e below (T252.setTop (mkF m 101 #[.val (.long p1), .second, .val (.long p2), .second, .val (.long p3), .second, .val (.long p4), .second, .val (.long p5), .second, .val (.int p6), .val (.int (3 : Int32)), .val (.ref b212), .val (.long (fMix ((fMix ((fMix ((fMix p1) ^^^ p2)) ^^^ p3)) ^^^ p4))), .second, .val (.long (fMix p1)), .second, .val (.long (fMix ((fMix p1) ^^^ p2))), .second, .unset, .unset, .unset, .unset] [(.long (fMix ((fMix ((fMix p1) ^^^ p2)) ^^^ p3)))])) _
      refine sg253 _ ?_
      show Steps p.tables e below (T252.setTop (mkF m 115 #[.val (.long p1), .second, .val (.long p2), .second, .val (.long p3), .second, .val (.long p4), .second, .val (.long p5), .second, .val (.int p6), .val (.int (3 : Int32)), .val (.ref b212), .val (.long (fMix ((fMix ((fMix ((fMix p1) ^^^ p2)) ^^^ p3)) ^^^ p4))), .second, .val (.long (fMix p1)), .second, .val (.long (fMix ((fMix ((fMix p1) ^^^ p2)) ^^^ p3))), .second, .unset, .unset, .unset, .unset] [(.int (0 : Int32)), (.long ((fMix ((fMix ((fMix p1) ^^^ p2)) ^^^ p3)) ^^^ p4))])) _
      refine st254 _ ?_
      show Steps p.tables e below (T254.setTop (mkF m 117 #[.val (.long p1), .second, .val (.long p2), .second, .val (.long p3), .second, .val (.long p4), .second, .val (.long p5), .second, .val (.int p6), .val (.int (3 : Int32)), .val (.ref b212), .val (.long (fMix ((fMix ((fMix ((fMix p1) ^^^ p2)) ^^^ p3)) ^^^ p4))), .second, .val (.long (fMix p1)), .second, .val (.long (fMix ((fMix ((fMix p1) ^^^ p2)) ^^^ p3))), .second, .unset, .unset, .unset, .unset] [(.ref b254), (.long ((fMix ((fMix ((fMix p1) ^^^ p2)) ^^^ p3)) ^^^ p4))])) _
      refine st265 _ ?_
      show Steps p.tables e below (T265.setTop (mkF m 120 #[.val (.long p1), .second, .val (.long p2), .second, .val (.long p3), .second, .val (.long p4), .second, .val (.long p5), .second, .val (.int p6), .val (.int (3 : Int32)), .val (.ref b212), .val (.long (fMix ((fMix ((fMix ((fMix p1) ^^^ p2)) ^^^ p3)) ^^^ p4))), .second, .val (.long (fMix p1)), .second, .val (.long (fMix ((fMix ((fMix p1) ^^^ p2)) ^^^ p3))), .second, .unset, .unset, .unset, .unset] [(.long (fMix ((fMix ((fMix ((fMix p1) ^^^ p2)) ^^^ p3)) ^^^ p4)))])) _
      refine sg266 _ ?_
      show Steps p.tables e below (T265.setTop (mkF m 141 #[.val (.long p1), .second, .val (.long p2), .second, .val (.long p3), .second, .val (.long p4), .second, .val (.long p5), .second, .val (.int p6), .val (.int (3 : Int32)), .val (.ref b212), .val (.long (fMix ((fMix ((fMix ((fMix p1) ^^^ p2)) ^^^ p3)) ^^^ p4))), .second, .val (.long (fMix p1)), .second, .val (.long (fMix ((fMix ((fMix ((fMix p1) ^^^ p2)) ^^^ p3)) ^^^ p4))), .second, .val (.int (1 : Int32)), .unset, .unset, .unset] [(.int (lcmpW p1 p5))])) _
      refine sg267 _ ?_
      show Steps p.tables e below (T265.setTop (mkF m 149 #[.val (.long p1), .second, .val (.long p2), .second, .val (.long p3), .second, .val (.long p4), .second, .val (.long p5), .second, .val (.int p6), .val (.int (3 : Int32)), .val (.ref b212), .val (.long (fMix ((fMix ((fMix ((fMix p1) ^^^ p2)) ^^^ p3)) ^^^ p4))), .second, .val (.long (fMix p1)), .second, .val (.long (fMix ((fMix ((fMix ((fMix p1) ^^^ p2)) ^^^ p3)) ^^^ p4))), .second, .val (.int (1 : Int32)), .unset, .unset, .unset] [(.int v1)])) _
      refine sg268 _ ?_
      show Steps p.tables e below (T265.setTop (mkF m 154 #[.val (.long p1), .second, .val (.long p2), .second, .val (.long p3), .second, .val (.long p4), .second, .val (.long p5), .second, .val (.int p6), .val (.int (3 : Int32)), .val (.ref b212), .val (.long (fMix ((fMix ((fMix ((fMix p1) ^^^ p2)) ^^^ p3)) ^^^ p4))), .second, .val (.long (fMix p1)), .second, .val (.long (fMix ((fMix ((fMix ((fMix p1) ^^^ p2)) ^^^ p3)) ^^^ p4))), .second, .val (.int (1 : Int32)), .unset, .unset, .unset] [(.int (0 : Int32)), (.long p5), (.long (fMix p1)), (.int v1)])) _
      refine st269 _ ?_
      show Steps p.tables e below (T269.setTop (mkF m 156 #[.val (.long p1), .second, .val (.long p2), .second, .val (.long p3), .second, .val (.long p4), .second, .val (.long p5), .second, .val (.int p6), .val (.int (3 : Int32)), .val (.ref b212), .val (.long (fMix ((fMix ((fMix ((fMix p1) ^^^ p2)) ^^^ p3)) ^^^ p4))), .second, .val (.long (fMix p1)), .second, .val (.long (fMix ((fMix ((fMix ((fMix p1) ^^^ p2)) ^^^ p3)) ^^^ p4))), .second, .val (.int (1 : Int32)), .unset, .unset, .unset] [(.ref b269), (.long p5), (.long (fMix p1)), (.int v1)])) _
      refine st282 _ ?_
      show Steps p.tables e below (T282.setTop (mkF m 159 #[.val (.long p1), .second, .val (.long p2), .second, .val (.long p3), .second, .val (.long p4), .second, .val (.long p5), .second, .val (.int p6), .val (.int (3 : Int32)), .val (.ref b212), .val (.long (fMix ((fMix ((fMix ((fMix p1) ^^^ p2)) ^^^ p3)) ^^^ p4))), .second, .val (.long (fMix p1)), .second, .val (.long (fMix ((fMix ((fMix ((fMix p1) ^^^ p2)) ^^^ p3)) ^^^ p4))), .second, .val (.int (1 : Int32)), .unset, .unset, .unset] [(.long (fMix p5)), (.long (fMix p1)), (.int v1)])) _
      refine sg283 _ ?_
      show Steps p.tables e below (T282.setTop (mkF m 160 #[.val (.long p1), .second, .val (.long p2), .second, .val (.long p3), .second, .val (.long p4), .second, .val (.long p5), .second, .val (.int p6), .val (.int (3 : Int32)), .val (.ref b212), .val (.long (fMix ((fMix ((fMix ((fMix p1) ^^^ p2)) ^^^ p3)) ^^^ p4))), .second, .val (.long (fMix p1)), .second, .val (.long (fMix ((fMix ((fMix ((fMix p1) ^^^ p2)) ^^^ p3)) ^^^ p4))), .second, .val (.int (1 : Int32)), .unset, .unset, .unset] [(.int (lcmpW (fMix p1) (fMix p5))), (.int v1)])) _
      refine sg284 _ ?_
      show Steps p.tables e below (T282.setTop (mkF m 168 #[.val (.long p1), .second, .val (.long p2), .second, .val (.long p3), .second, .val (.long p4), .second, .val (.long p5), .second, .val (.int p6), .val (.int (3 : Int32)), .val (.ref b212), .val (.long (fMix ((fMix ((fMix ((fMix p1) ^^^ p2)) ^^^ p3)) ^^^ p4))), .second, .val (.long (fMix p1)), .second, .val (.long (fMix ((fMix ((fMix ((fMix p1) ^^^ p2)) ^^^ p3)) ^^^ p4))), .second, .val (.int (1 : Int32)), .unset, .unset, .unset] [(.int v2), (.int v1)])) _
      refine sg285 _ ?_
      show Steps p.tables e below (T282.setTop (mkF m 182 #[.val (.long p1), .second, .val (.long p2), .second, .val (.long p3), .second, .val (.long p4), .second, .val (.long p5), .second, .val (.int p6), .val (.int (3 : Int32)), .val (.ref b212), .val (.long (fMix ((fMix ((fMix ((fMix p1) ^^^ p2)) ^^^ p3)) ^^^ p4))), .second, .val (.long (fMix p1)), .second, .val (.long (fMix ((fMix ((fMix ((fMix p1) ^^^ p2)) ^^^ p3)) ^^^ p4))), .second, .val (.int (1 : Int32)), .val (.int (1 : Int32)), .unset, .unset] [(.int (0 : Int32)), (.long (-7046029254386353131 : Int64))])) _
      refine st286 _ ?_
      show Steps p.tables e below (T286.setTop (mkF m 184 #[.val (.long p1), .second, .val (.long p2), .second, .val (.long p3), .second, .val (.long p4), .second, .val (.long p5), .second, .val (.int p6), .val (.int (3 : Int32)), .val (.ref b212), .val (.long (fMix ((fMix ((fMix ((fMix p1) ^^^ p2)) ^^^ p3)) ^^^ p4))), .second, .val (.long (fMix p1)), .second, .val (.long (fMix ((fMix ((fMix ((fMix p1) ^^^ p2)) ^^^ p3)) ^^^ p4))), .second, .val (.int (1 : Int32)), .val (.int (1 : Int32)), .unset, .unset] [(.ref b286), (.long (-7046029254386353131 : Int64))])) _
      refine st301 _ ?_
      show Steps p.tables e below (T301.setTop (mkF m 187 #[.val (.long p1), .second, .val (.long p2), .second, .val (.long p3), .second, .val (.long p4), .second, .val (.long p5), .second, .val (.int p6), .val (.int (3 : Int32)), .val (.ref b212), .val (.long (fMix ((fMix ((fMix ((fMix p1) ^^^ p2)) ^^^ p3)) ^^^ p4))), .second, .val (.long (fMix p1)), .second, .val (.long (fMix ((fMix ((fMix ((fMix p1) ^^^ p2)) ^^^ p3)) ^^^ p4))), .second, .val (.int (1 : Int32)), .val (.int (1 : Int32)), .unset, .unset] [(.long (fMix (-7046029254386353131 : Int64)))])) _
      refine sg302 _ ?_
      show Steps p.tables e below (T301.setTop (mkF m 203 #[.val (.long p1), .second, .val (.long p2), .second, .val (.long p3), .second, .val (.long p4), .second, .val (.long p5), .second, .val (.int p6), .val (.int (3 : Int32)), .val (.ref b212), .val (.long (fMix ((fMix ((fMix ((fMix p1) ^^^ p2)) ^^^ p3)) ^^^ p4))), .second, .val (.long (fMix p1)), .second, .val (.long (fMix ((fMix ((fMix ((fMix p1) ^^^ p2)) ^^^ p3)) ^^^ p4))), .second, .val (.int (1 : Int32)), .val (.int (1 : Int32)), .val (.int (1 : Int32)), .unset] [(.int (0 : Int32)), (.long (0 : Int64))])) _
      refine st303 _ ?_
      show Steps p.tables e below (T303.setTop (mkF m 205 #[.val (.long p1), .second, .val (.long p2), .second, .val (.long p3), .second, .val (.long p4), .second, .val (.long p5), .second, .val (.int p6), .val (.int (3 : Int32)), .val (.ref b212), .val (.long (fMix ((fMix ((fMix ((fMix p1) ^^^ p2)) ^^^ p3)) ^^^ p4))), .second, .val (.long (fMix p1)), .second, .val (.long (fMix ((fMix ((fMix ((fMix p1) ^^^ p2)) ^^^ p3)) ^^^ p4))), .second, .val (.int (1 : Int32)), .val (.int (1 : Int32)), .val (.int (1 : Int32)), .unset] [(.ref b303), (.long (0 : Int64))])) _
      refine st320 _ ?_
      show Steps p.tables e below (T320.setTop (mkF m 208 #[.val (.long p1), .second, .val (.long p2), .second, .val (.long p3), .second, .val (.long p4), .second, .val (.long p5), .second, .val (.int p6), .val (.int (3 : Int32)), .val (.ref b212), .val (.long (fMix ((fMix ((fMix ((fMix p1) ^^^ p2)) ^^^ p3)) ^^^ p4))), .second, .val (.long (fMix p1)), .second, .val (.long (fMix ((fMix ((fMix ((fMix p1) ^^^ p2)) ^^^ p3)) ^^^ p4))), .second, .val (.int (1 : Int32)), .val (.int (1 : Int32)), .val (.int (1 : Int32)), .unset] [(.long (fMix (0 : Int64)))])) _
      refine sg321 _ ?_
      show Steps p.tables e below (T320.setTop (mkF m 245 #[.val (.long p1), .second, .val (.long p2), .second, .val (.long p3), .second, .val (.long p4), .second, .val (.long p5), .second, .val (.int p6), .val (.int (3 : Int32)), .val (.ref b212), .val (.long (fMix ((fMix ((fMix ((fMix p1) ^^^ p2)) ^^^ p3)) ^^^ p4))), .second, .val (.long (fMix p1)), .second, .val (.long (fMix ((fMix ((fMix ((fMix p1) ^^^ p2)) ^^^ p3)) ^^^ p4))), .second, .val (.int (1 : Int32)), .val (.int (1 : Int32)), .val (.int (1 : Int32)), .val (.int (1 : Int32))] [(.int (1 : Int32))])) _
      exact retN X320 hx (t := .boolean) Bd.returns (by simp) (hb hby at_245) hr
    · show Q0 Z p1 p2 p3 p4 p5 p6 h0 n0 _ T320.heap _
      rw [e320]
      exact ⟨rfl, N320⟩
set_option maxRecDepth 65536 in
set_option maxHeartbeats 40000000 in
theorem comes_1 {Post : Tables → Env → Array Value → State → Outcome → State → Prop} (hpost : ∀ tb e args s v u, (limb_1_1.after args s (.returned v) u = true ∧ limb_1_2.after args s (.returned v) u = true ∧ True) → FrameEnd s (.returned v) u (Jvm.fieldLocs frame_1_writes args s ++ Jvm.arrayLocs frame_1_arrays args s ++ Jvm.staticLocs frame_1_statics s) 24 128 → Post tb e args s (.returned v) u) :
    ArmFor flags0 classFile x code maxLocals ret World_1 tables_1 room_1 Calls_1 rest_1 Pre_1 Post := by
  intro l hfl _ _ p e ha hc hk s m args below hf hA hF happ hP
  obtain ⟨hcalls, hrest, hpre⟩ := hP
  obtain ⟨-, -, -, hnamed, -, -, -, hat⟩ := (Spec.applies_iff hf).mp happ
  obtain ⟨hg, hn⟩ := and_e (Cond.before_iff.mp (show (Jvm.Cond.and given_1 narrow_1).before args s = true from hpre))
  obtain ⟨gc, gr0⟩ := and_e hg
  obtain ⟨ga0, gr1⟩ := and_e gr0
  obtain ⟨ga1, gr2⟩ := and_e gr1
  obtain ⟨ga2, gr3⟩ := and_e gr2
  obtain ⟨ga3, gr4⟩ := and_e gr3
  obtain ⟨ga4, gr5⟩ := and_e gr4
  have ga5 := gr5
  obtain ⟨w0, w1, w2, w3, w4, w5, rfl⟩ : ∃ w0 w1 w2 w3 w4 w5 : Value, args = #[w0, w1, w2, w3, w4, w5] := by
    have hs : args.size = 6 := by simpa [Cond.value, given_1] using gc
    obtain ⟨L⟩ := args
    match L, hs with
    | [w0, w1, w2, w3, w4, w5], _ => exact ⟨w0, w1, w2, w3, w4, w5, rfl⟩
  have hw := fun d (hd : d ∈ tables_1) => atoms_spec (ws := Jvm.Cond.code x code maxLocals ret :: tables_1) hat d (List.mem_cons_of_mem _ hd)
  have hfit : Fit s := fun {y c} hc i hi => by
    obtain ⟨ha, rfl⟩ := Array.getElem?_eq_some_iff.mp hc
    have q := List.all_eq_true.mp ((Array.all_eq_true_iff_forall_mem.mp hF) _ (Array.getElem_mem ha)) i (List.mem_range.mpr hi)
    simpa [Array.getElem?_eq_getElem hi] using q
  obtain ⟨i0, ei0⟩ := isL_v ga0
  obtain rfl : w0 = (.long i0) := Option.some.inj ei0
  obtain ⟨i1, ei1⟩ := isL_v ga1
  obtain rfl : w1 = (.long i1) := Option.some.inj ei1
  obtain ⟨i2, ei2⟩ := isL_v ga2
  obtain rfl : w2 = (.long i2) := Option.some.inj ei2
  obtain ⟨i3, ei3⟩ := isL_v ga3
  obtain rfl : w3 = (.long i3) := Option.some.inj ei3
  obtain ⟨i4, ei4⟩ := isL_v ga4
  obtain rfl : w4 = (.long i4) := Option.some.inj ei4
  obtain ⟨i5, ei5⟩ := is_v ga5
  obtain rfl : w5 = (.int i5) := Option.some.inj ei5
  obtain ⟨n, o, h1, h2, h3, _, L, rfl, ⟨rfl, N⟩, hq⟩ := rm0 l s _ hw tables_1 i0 i1 i2 i3 i4 i5 s.heap s.heap.size (Nat.le_refl _)  p e ha hc hk s m _ below hf ((Spec.applies_iff_loose hf).mp happ).1 ⟨rfl, State.Warmed39.refl s, rfl⟩ trivial
  refine ⟨n, _, h1, h2, h3, hpost _ _ _ _ _ _ ⟨Cond.after_iff.mpr rfl, Cond.after_iff.mpr (eq_i res_at (Term.int_eval (1)) rfl), trivial⟩ ⟨hq.1, hq.2.1, (hq.2.2.sift fun y hy => Or.inr (N y hy)).mono (by decide) (by decide)⟩⟩
theorem main_1_1 : Claimed_1_1 := comes_1 fun _ _ _ _ _ _ h hF => ⟨h.1, hF⟩
theorem main_1_2 : Claimed_1_2 := comes_1 fun _ _ _ _ _ _ h hF => ⟨h.2.1, hF⟩
end Jvm.Pilot.@@N@@
namespace Jvm.Pilot.@@N@@
open Jvm Jvm.ClassFile Sem Op Lib Jvm.Free Jvm.Stand Jvm.Pilot.@@N@@.Jvm.D
/-! MADE BY PROGRAM (witnessworld.py) out of the Statement's table words and the real class files: 11 classes; the members and pool entries that the words name. The judged class is class 1, her method 1. -/
namespace start1
open Jvm.ClassFile
def u (s : String) : CpInfo := .utf8 (stringToUtf16 s)
/-- a pool by its gaps: so many unusable entries, then the entry; so many at the end -/
def gap : Nat → List CpInfo → List CpInfo
  | 0, r => r
  | n + 1, r => .unusable :: gap n r
def poolList (es : List (Nat × CpInfo)) (last : Nat) : List CpInfo := es.foldr (fun e r => gap e.1 (e.2 :: r)) (gap last [])
def pool (es : List (Nat × CpInfo)) (last : Nat) : Array CpInfo := ⟨poolList es last⟩
def fileOf (pool : Array CpInfo) (this : Nat) (attrs : Array Attribute := #[]) (ms : Array MethodInfo := #[]) (fl : Nat := 33) (sup : Nat := 0) (ifs : Array Nat := #[]) (fds : Array FieldInfo := #[]) : ClassFile where
  minorVersion := 0
  majorVersion := 65
  constantPool := pool
  accessFlags := fl
  thisClass := this
  superClass := sup
  interfaces := ifs
  fields := fds
  methods := ms
  attributes := attrs
def plain (name : String) (sup : Option ClassId) : Class where
  name := name
  kind := .ordinary
  loader := none
  accessFlags := 33
  super := sup
  interfaces := #[]
  cf := none
  fields := #[]
  methods := #[]
  instanceTypes := #[]
  staticTypes := #[]
  resolved := #[]
  callSites := []
  init := .initialized
  statics := none
  mirror := none

def pool0 : Array CpInfo := pool [(5, u "<init>"), (0, u "()V"), (1, .class_ 10), (1, u "java/lang/Object")] 113

def k0m0 : Method := { name := "<init>", desc := "()V", sig := { parameters := [], returnType := none }, accessFlags := 1, code := none }
/-- java/lang/Object -/
def k0 : Class := { plain "java/lang/Object" none with
  accessFlags := 33
  interfaces := #[]
  cf := some (fileOf pool0 8 #[] #[{ accessFlags := 1, nameIndex := 5, descriptorIndex := 6, attributes := #[] }] 33 0 #[] #[])
  fields := #[]
  methods := #[k0m0]
  instanceTypes := #[]
  staticTypes := #[]
  resolved := Array.replicate 124 none
  statics := none }

def pool1 : Array CpInfo := pool [(2, .class_ 4), (1, u "java/lang/Object"), (0, u "<init>"), (0, u "()V"), (0, .methodref 8 9), (0, .class_ 10), (0, .nameAndType 11 12), (0, u "com/example/haversack/haversack/evaluation/Seeds"), (0, u "derived"), (0, u "(J[J)J"), (0, .long 11400714819323198485), (1, .long 16294208416658607535), (1, .class_ 18), (0, u "com/example/haversack/haversack/evaluation/SeedsDerivedPinLaw"), (2, u "law"), (0, u "(JJJJJI)Z")] 5

def k1m0 : Method := { name := "<init>", desc := "()V", sig := { parameters := [], returnType := none }, accessFlags := 1, code := none }
def k1c1 : Code := { maxStack := 6, maxLocals := 23, code := code, exceptionTable := #[], attributes := #[] }
def k1m1 : Method := { name := "law", desc := "(JJJJJI)Z", sig := { parameters := [.long, .long, .long, .long, .long, .int], returnType := some .boolean }, accessFlags := 9, code := some k1c1 }
/-- com/example/haversack/haversack/evaluation/SeedsDerivedPinLaw -/
def k1 : Class := { plain "com/example/haversack/haversack/evaluation/SeedsDerivedPinLaw" (some 0) with
  accessFlags := 49
  interfaces := #[]
  cf := some (fileOf pool1 17 #[] #[{ accessFlags := 1, nameIndex := 5, descriptorIndex := 6, attributes := #[] }, { accessFlags := 9, nameIndex := 21, descriptorIndex := 22, attributes := #[] }] 49 2 #[] #[])
  fields := #[]
  methods := #[k1m0, k1m1]
  instanceTypes := #[]
  staticTypes := #[]
  resolved := Array.replicate 28 none
  statics := none }

def pool2 : Array CpInfo := pool [(2, .class_ 4), (1, u "java/lang/Object"), (0, u "<init>"), (0, u "()V"), (0, .methodref 8 9), (0, .class_ 10), (0, .nameAndType 11 12), (0, u "com/example/haversack/haversack/evaluation/Seeds"), (0, u "mix"), (0, u "(J)J"), (0, .long 13787848793156543929), (1, .long 10723151780598845931), (3, u "derived"), (0, u "(J[J)J")] 5

def k2m0 : Method := { name := "<init>", desc := "()V", sig := { parameters := [], returnType := none }, accessFlags := 2, code := none }
def k2c1 : Code := { maxStack := 4, maxLocals := 10, code := prog_82_method_2_code, exceptionTable := #[], attributes := #[] }
def k2m1 : Method := { name := "derived", desc := "(J[J)J", sig := { parameters := [.long, (.array .long)], returnType := some .long }, accessFlags := 136, code := some k2c1 }
def k2c2 : Code := { maxStack := 5, maxLocals := 4, code := prog_82_method_3_code, exceptionTable := #[], attributes := #[] }
def k2m2 : Method := { name := "mix", desc := "(J)J", sig := { parameters := [.long], returnType := some .long }, accessFlags := 10, code := some k2c2 }
/-- com/example/haversack/haversack/evaluation/Seeds -/
def k2 : Class := { plain "com/example/haversack/haversack/evaluation/Seeds" (some 0) with
  accessFlags := 48
  interfaces := #[]
  cf := some (fileOf pool2 8 #[] #[{ accessFlags := 2, nameIndex := 5, descriptorIndex := 6, attributes := #[] }, { accessFlags := 136, nameIndex := 19, descriptorIndex := 20, attributes := #[] }, { accessFlags := 10, nameIndex := 11, descriptorIndex := 12, attributes := #[] }] 48 2 #[] #[])
  fields := #[]
  methods := #[k2m0, k2m1, k2m2]
  instanceTypes := #[]
  staticTypes := #[]
  resolved := Array.replicate 26 none
  statics := none }

def pool3 : Array CpInfo := pool [(1, u "java/lang/Cloneable"), (0, .class_ 1), (0, u "java/lang/Object"), (0, .class_ 3)] 3

/-- java/lang/Cloneable -/
def k3 : Class := { plain "java/lang/Cloneable" (some 0) with
  accessFlags := 1537
  interfaces := #[]
  cf := some (fileOf pool3 2 #[] #[] 1537 4 #[] #[])
  fields := #[]
  methods := #[]
  instanceTypes := #[]
  staticTypes := #[]
  resolved := Array.replicate 8 none
  statics := none }

def pool4 : Array CpInfo := pool [(1, u "java/io/Serializable"), (0, .class_ 1), (0, u "java/lang/Object"), (0, .class_ 3)] 3

/-- java/io/Serializable -/
def k4 : Class := { plain "java/io/Serializable" (some 0) with
  accessFlags := 1537
  interfaces := #[]
  cf := some (fileOf pool4 2 #[] #[] 1537 4 #[] #[])
  fields := #[]
  methods := #[]
  instanceTypes := #[]
  staticTypes := #[]
  resolved := Array.replicate 8 none
  statics := none }

/-- the primitive byte -/
def k5 : Class := { plain "byte" none with kind := .primitive 'B', accessFlags := 0x411 }
/-- [B -/
def k6 : Class := { plain "[B" (some 0) with kind := .array 5 .byte, interfaces := #[3, 4], accessFlags := 1041 }

/-- the primitive int -/
def k7 : Class := { plain "int" none with kind := .primitive 'I', accessFlags := 0x411 }
/-- [I -/
def k8 : Class := { plain "[I" (some 0) with kind := .array 7 .int, interfaces := #[3, 4], accessFlags := 1041 }

/-- the primitive long -/
def k9 : Class := { plain "long" none with kind := .primitive 'J', accessFlags := 0x411 }
/-- [J -/
def k10 : Class := { plain "[J" (some 0) with kind := .array 9 .long, interfaces := #[3, 4], accessFlags := 1041 }

def heap : Heap := #[]
def classes : Array Class := #[k0, k1, k2, k3, k4, k5, k6, k7, k8, k9, k10]
def interned : List (Array UInt16 × Addr) := []
def slotsUsed : Nat := 0
def theMethod : MethodId := ⟨1, 1⟩
def args0 : Array Value := #[.long 5, .long 6, .long 7, .long 8, .long 9, .int 2]
def aboutOver (below : List Frame) : State where
  vm := { classes := classes, interned := interned.toArray }
  heap := heap
  slotsUsed := slotsUsed
  threads := #[{ frames := .invoking theMethod args0 :: below }]
def below0 : List Frame := [.native { method := ⟨0, 0⟩, args := #[] }]
def about1 : State := aboutOver below0
def p0 : Program := .bare "" "" ""
def e0 : Env := launch0.env 0 0 0
theorem w_frames : about1.frames = Frame.invoking theMethod args0 :: below0 := rfl
set_option maxRecDepth 65536 in
theorem w_args : argsFit about1.vm theMethod args0 = true := by decide +kernel
set_option maxRecDepth 65536 in
theorem w_heap : heapFits about1 = true := by decide +kernel
set_option maxRecDepth 65536 in
theorem w_runnable : about1.curStatus? = some .runnable := by decide +kernel
set_option maxRecDepth 65536 in
theorem w_alone : about1.alone = true := by decide +kernel
set_option maxRecDepth 65536 in
theorem w_named : about1.methodNamed? x = some theMethod := by decide +kernel
set_option maxRecDepth 65536 in
theorem w_hears : about1.hears theMethod below0 = true := by decide +kernel
set_option maxRecDepth 65536 in
theorem w_ripe : about1.ripe theMethod args0 below0 = true := by decide +kernel
theorem w_running : about1.status = .running := rfl
set_option maxRecDepth 65536 in
theorem w_room : about1.hasRoom e0.platform room_1 = true :=
  launch0.hasRoom_least _ room_1 (by decide +kernel) (by decide +kernel) (by decide +kernel) (by decide +kernel) (by decide +kernel) (by decide +kernel)
theorem allAtoms_all (ts : List Jvm.Cond) (a : Array Jvm.Value) (st : Jvm.State) : (allAtoms ts).before a st = ts.all (fun c => c.before a st) := by
  induction ts with
  | nil => rfl
  | cons c t ih =>
    show (Jvm.Cond.and c (allAtoms t)).before a st = _
    rw [Jvm.Cond.before_and, ih, List.all_cons]
def words1 : List Jvm.Cond := Jvm.Cond.code x code maxLocals ret :: tables_1
/-- a 'code' word, met by the world's own term for the bytes: nothing is compared byte by byte -/
theorem code_word {y : MethodName} {bytes : ByteArray} {mx : Nat} {rt : Option FieldType} {a : Array Value} {s : State} {m : MethodId} {meth : Method} {c : Code} (h1 : s.methodNamed? y = some m) (h2 : s.vm.method? m = some meth) (h3 : meth.code = some c) (h4 : c.code = bytes)
    (h5 : (c.maxLocals == mx && c.exceptionTable.isEmpty && decide (c.maxStack ≤ mostOperands) && decide (meth.sig.returnType = rt) && !meth.locks && decide (parseMethodDescriptor y.desc = some meth.sig)) = true) : (Jvm.Cond.code y bytes mx rt).before a s = true := by
  simp only [Bool.and_eq_true, beq_iff_eq, Bool.not_eq_true', decide_eq_true_eq] at h5
  obtain ⟨⟨⟨⟨⟨g1, g2⟩, g3⟩, g4⟩, g5⟩, g6⟩ := h5
  simp [Cond.before, Cond.holds, Cond.value, h1, h2, h3, h4, g1, g2, g3, g4, g5, g6]
def isCode : Jvm.Cond → Bool
  | .code _ _ _ _ => true
  | _ => false
theorem all_split {L : List Jvm.Cond} {P : Jvm.Cond → Bool} (h1 : L.all (fun c => isCode c || P c) = true) (h2 : ∀ c ∈ L.filter isCode, P c = true) : L.all P = true := by
  refine List.all_eq_true.mpr fun c hc => ?_
  have h := List.all_eq_true.mp h1 c hc
  rcases Bool.eq_false_or_eq_true (isCode c) with hi | hi
  · exact h2 c (List.mem_filter.mpr ⟨hc, hi⟩)
  · simpa [hi] using h
set_option maxRecDepth 65536 in
theorem w_c0 : (Jvm.Cond.code x code maxLocals ret).before args0 about1 = true := code_word (m := ⟨1, 1⟩) (meth := k1m1) (c := k1c1) (by decide +kernel) rfl rfl rfl (by decide +kernel)
set_option maxRecDepth 65536 in
theorem w_c1 : (Jvm.Cond.code ({ cls := "com/example/haversack/haversack/evaluation/Seeds", name := "derived", desc := "(J[J)J" } : Jvm.MethodName) prog_82_method_2_code (10 : Nat) (Option.some Jvm.ClassFile.FieldType.long)).before args0 about1 = true := code_word (m := ⟨2, 1⟩) (meth := k2m1) (c := k2c1) (by decide +kernel) rfl rfl rfl (by decide +kernel)
set_option maxRecDepth 65536 in
theorem w_c2 : (Jvm.Cond.code ({ cls := "com/example/haversack/haversack/evaluation/Seeds", name := "mix", desc := "(J)J" } : Jvm.MethodName) prog_82_method_3_code (4 : Nat) (Option.some Jvm.ClassFile.FieldType.long)).before args0 about1 = true := code_word (m := ⟨2, 2⟩) (meth := k2m2) (c := k2c2) (by decide +kernel) rfl rfl rfl (by decide +kernel)
def codes1 : List Jvm.Cond := [Jvm.Cond.code x code maxLocals ret, Jvm.Cond.code ({ cls := "com/example/haversack/haversack/evaluation/Seeds", name := "derived", desc := "(J[J)J" } : Jvm.MethodName) prog_82_method_2_code (10 : Nat) (Option.some Jvm.ClassFile.FieldType.long), Jvm.Cond.code ({ cls := "com/example/haversack/haversack/evaluation/Seeds", name := "mix", desc := "(J)J" } : Jvm.MethodName) prog_82_method_3_code (4 : Nat) (Option.some Jvm.ClassFile.FieldType.long)]
set_option maxRecDepth 65536 in
theorem codes_eq : words1.filter isCode = codes1 := rfl
theorem w_codes : ∀ c ∈ words1.filter isCode, c.before args0 about1 = true := by
  rw [codes_eq]
  intro c hc
  simp only [codes1, List.mem_cons, List.not_mem_nil, or_false] at hc
  rcases hc with rfl | rfl | rfl
  · exact w_c0
  · exact w_c1
  · exact w_c2
set_option maxRecDepth 65536 in
theorem w_t1 : words1.all (fun c => isCode c || c.before args0 about1) = true := by decide +kernel
theorem w_tables : (allAtoms (Jvm.Cond.code x code maxLocals ret :: tables_1)).before args0 about1 = true := by
  rw [allAtoms_all]
  show words1.all (fun c => c.before args0 about1) = true
  refine all_split ?_ w_codes
  rw [w_t1]
set_option maxRecDepth 65536 in
theorem w_case : (Jvm.Cond.and given_1 narrow_1).before args0 about1 = true := by decide +kernel
theorem w_applies : (headSpec (Jvm.Cond.code x code maxLocals ret :: tables_1) room_1).applies x e0.platform about1 = true :=
  (Spec.applies_iff w_frames).mpr ⟨w_running, w_runnable, w_alone, w_named, w_hears, w_ripe, w_room, w_tables⟩
theorem atStart : AtStart classFile x code maxLocals ret World_1 tables_1 room_1 Calls_1 rest_1 Pre_1 launch0 p0 e0 about1 theMethod args0 below0 :=
  ⟨lists_1, trivial, launch0.admits_env _ _ _, launch0.least_env, fairChoices_fair.cas, fairChoices_fair.clock, w_frames, w_args, w_heap, w_applies, trivial, trivial, w_case⟩
end start1
theorem witness_1 : WitnessClaimed_1 := ⟨start1.p0, start1.e0, start1.about1, start1.theMethod, start1.args0, start1.below0, start1.atStart⟩
end Jvm.Pilot.@@N@@
