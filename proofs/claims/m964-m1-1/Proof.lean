import JvmDerived
import JvmDerived.Pilot.@@N@@Statement
import JvmDerived.Pilot.@@N@@Code
set_option linter.unusedVariables false
set_option linter.unusedSimpArgs false
@@BLOCK:NumsL.lean.txt@@
namespace Jvm.RoadKit
open Sem ClassFile Op Lib Jvm.Stand Jvm.Free Jvm.LawKit
section New
variable {p : Program} {l : Launch} {e : Env} {R : Room} {s : State} {m : MethodId} {args : Array Value} {below : List Frame} {meth : Method} {c : Code} {T : State} {locs : List Loc} {cells slots : Nat}
theorem retI (X : Stand p l e R s m args below meth c T locs cells slots) (hx : p.tables.exec = Jvm.exec) {pc : Nat} {Ls : Array Slot} {z : Int32} {rest : List Value} (hret : meth.sig.returnType = some .int) (hd : decode c.code pc = .ok (.ireturn, 1)) {fs : List Frame}
    (hl : ∀ (f : JFrame) (acts : List Action), f.method = m → f.locked = none → f.entered = [] → (doReturn e (T.setTop f) acts (some (.int z))).1 = T.setFrames fs) : Steps p.tables e below (T.setTop (mkF m pc Ls (.int z :: rest))) (T.setFrames fs) := by
  have hm' : T.vm.method? m = some meth := X.method'
  have hn : narrow .int (.int z) = .int z := rfl
  show Steps p.tables e below (T.setTop { method := m, pc := pc, locals := Ls, stack := _ :: rest, locked := none }) _
  jvm_step X.here [X.here.top, hx, hd, hm', hret, hn]
  first | (intro acts; rw [hl _ acts rfl rfl rfl]) | rw [hl _ _ rfl rfl rfl]
  exact Steps.refl _
end New
end Jvm.RoadKit
namespace Jvm.Pilot.@@N@@
open Jvm Jvm.ClassFile Sem Op Lib Jvm.Free Jvm.Stand Jvm.LawKit Jvm.RoadKit Bundle Jvm.Pilot.@@N@@.Jvm.D
def fM (x : Int32) (y : Int32) : Int32 := (if x < y then y else x)
def Q_rmM (x : Int32) (y : Int32) (h0 : Heap) (n0 : Nat) (v : Option Value) (h : Heap) (L : List Loc) : Prop := v = some (.int (fM x y)) ∧ Fr n0 L ∧ h = h0
theorem ef_rmM (m : MethodId) (x0 : Int32) (x1 : Int32) : entryFrame m #[(.int x0), (.int x1)] 2 = mkF m 0 #[.val (.int x0), .val (.int x1)] [] := by first | (simp [entryFrame, mkF, argsToLocals, Value.category]; done) | rfl
theorem d1_0 : decode jdk_29_method_65_code 0 = .ok (.iload_n 0, 1) := by decide +kernel
theorem d1_1 : decode jdk_29_method_65_code 1 = .ok (.iload_n 1, 1) := by decide +kernel
theorem d1_2 : decode jdk_29_method_65_code 2 = .ok (.if_icmp .lt 7, 3) := by decide +kernel
theorem d1_5 : decode jdk_29_method_65_code 5 = .ok (.iload_n 0, 1) := by decide +kernel
theorem d1_6 : decode jdk_29_method_65_code 6 = .ok (.goto 4, 3) := by decide +kernel
theorem d1_9 : decode jdk_29_method_65_code 9 = .ok (.iload_n 1, 1) := by decide +kernel
theorem d1_10 : decode jdk_29_method_65_code 10 = .ok (.ireturn, 1) := by decide +kernel
set_option maxRecDepth 65536 in
set_option maxHeartbeats 40000000 in
theorem rmM (l : Launch) (Z : State) (a0 : Array Value) (hw : ∀ d ∈ tables_1, d.before a0 Z = true) (ws : List Jvm.Cond) (x : Int32) (y : Int32)  (h0 : Heap) (n0 : Nat) (Z0 : n0 ≤ h0.size)  :
    MetFree l (⟨"java/lang/Math", "max", "(II)I"⟩ : MethodName) (head1 (Jvm.Cond.code (⟨"java/lang/Math", "max", "(II)I"⟩ : MethodName) jdk_29_method_65_code 2 (some .int) :: ws) ({ frames := 0, cells := 0, slots := 0, locals := 0 } : Room)) (fun a U => a = #[(.int x), (.int y)] ∧ Z.Warmed39 U.vm ∧ U.heap = h0) (fun _ _ _ _ _ => True) (fun _ U o U' => ∃ v L, o = .returned v ∧ Q_rmM x y h0 n0 v U'.heap L ∧ FrameEnd U o U' L ({ frames := 0, cells := 0, slots := 0, locals := 0 } : Room).cells ({ frames := 0, cells := 0, slots := 0, locals := 0 } : Room).slots) := by
  refine MetFree.of_bodySF (Jvm.Free.JP.mathPlain rfl (by decide +kernel)) hisR ?_
  intro p e s m args below meth c s₁ Bd hml0 hP hK
  obtain ⟨rfl, hZ, hh⟩ := hP
  have hx := Bd.exec
  have hby := Bd.bytes
  have hml : c.maxLocals = 2 := hml0
  have hown : s.vm.findClass "java/lang/Math" = some m.cls := findClass_of_methodNamed Bd.named
  have hnm := (name_of_methodNamed Bd.named Bd.method).1
  have X0 : Stand p l e ({ frames := 0, cells := 0, slots := 0, locals := 0 } : Room) s m #[(.int x), (.int y)] below meth c s₁ [] 0 0 := Stand.of_body Bd
  have e0 : s₁.heap = h0 := by rw [← hh, Bd.state]; rfl
  have N0 := Fr.nil n0
  have pre0 : ∀ t, Steps p.tables e below (s₁.setTop (mkF m 0 #[.val (.int x), .val (.int y)] [])) t → Steps p.tables e below (s₁.setTop (entryFrame m #[(.int x), (.int y)] 2)) t := fun t k => castTop (ef_rmM m x y) k
  obtain ⟨fs, hr, hrun, hended, hW, hsame⟩ := X0.leave (v := some (.int (fM x y))) (fun h => by rw [Bd.returns] at h; cases h)
  refine ⟨_, _, pre0 _ ?_, hrun, hended, _, _, rfl, ?_, ⟨_, rfl⟩, hW, hsame.mono (by decide) (by decide)⟩
  · have hq0 : (if x < y then y else x) = fM x y := rfl
    show Steps p.tables e below (s₁.setTop (mkF m 0 #[.val (.int x), .val (.int y)] [])) _
    refine XS.iloadN X0.here hx rfl (hb hby d1_0) rfl ?_
    show Steps p.tables e below (s₁.setTop (mkF m 1 #[.val (.int x), .val (.int y)] [(.int x)])) _
    refine XS.iloadN X0.here hx rfl (hb hby d1_1) rfl ?_
    show Steps p.tables e below (s₁.setTop (mkF m 2 #[.val (.int x), .val (.int y)] [(.int y), (.int x)])) _
    by_cases hc2 : x < y
    · have hqhc20 : y = fM x y := (if_pos hc2).symm.trans hq0
      refine XS.icmpYes X0.here hx rfl (pc0 := 2) (pc' := 9) rfl (hb hby d1_2) rfl (tlt hc2).1 (by decide) (by decide) ?_
      show Steps p.tables e below (s₁.setTop (mkF m 9 #[.val (.int x), .val (.int y)] [])) _
      refine XS.iloadN X0.here hx rfl (hb hby d1_9) rfl ?_
      have hr1 := hr
      rw [← hqhc20] at hr1
      exact retI X0 hx Bd.returns (hb hby d1_10) hr1
    · have hqhc21 : x = fM x y := (if_neg hc2).symm.trans hq0
      refine XS.icmpNo X0.here hx rfl (hb hby d1_2) rfl (flt hc2).1 ?_
      show Steps p.tables e below (s₁.setTop (mkF m 5 #[.val (.int x), .val (.int y)] [])) _
      refine XS.iloadN X0.here hx rfl (hb hby d1_5) rfl ?_
      show Steps p.tables e below (s₁.setTop (mkF m 6 #[.val (.int x), .val (.int y)] [(.int x)])) _
      refine XS.goto X0.here hx rfl (pc0 := 6) (pc' := 10) rfl (hb hby d1_6) (by decide) (by decide) ?_
      have hr1 := hr
      rw [← hqhc21] at hr1
      exact retI X0 hx Bd.returns (hb hby d1_10) hr1
  · show Q_rmM x y h0 n0 _ s₁.heap _
    rw [e0]
    exact ⟨rfl, N0, rfl⟩
theorem own_max (x : Int32) : (fM (1 : Int32) (x &&& (2147483647 : Int32))).toInt ≥ 1 := by
  have e := Jvm.Kit.i32_mask x 2147483647 (k := 31) (by decide) (by decide)
  have l1 : (1 : Int32).toInt = 1 := rfl
  simp only [fM]
  split
  · rename_i h
    rw [Int32.lt_iff_toInt_lt, l1] at h
    omega
  · rw [l1]; omega
theorem own_pos (x : Int32) : ¬ (fM (1 : Int32) (x &&& (2147483647 : Int32)) < (1 : Int32)) := by
  have l1 : (1 : Int32).toInt = 1 := rfl
  have := own_max x
  rw [Int32.lt_iff_toInt_lt, l1]
  omega
def Q_rmR (Z : State) (ra : Addr) (h0 : Heap) (n0 : Nat) (v : Option Value) (h : Heap) (L : List Loc) : Prop := v = none ∧ Fr n0 L ∧ h = h0
theorem pd_0 : parseMethodDescriptor "()V" = some ⟨[], none⟩ := by decide +kernel
theorem pn_0 : plainName "java/lang/Record" = true := by first | (simp [plainName, overriddenIn]; done) | decide +kernel
theorem ef_rmR (m : MethodId) (x0 : Addr) : entryFrame m #[(.ref x0)] 1 = mkF m 0 #[.val (.ref x0)] [] := by first | (simp [entryFrame, mkF, argsToLocals, Value.category]; done) | rfl
theorem d3_0 : decode jdk_30_method_1_code 0 = .ok (.aload_n 0, 1) := by decide +kernel
theorem d3_1 : decode jdk_30_method_1_code 1 = .ok (.invokespecial 1, 3) := by decide +kernel
theorem d3_4 : decode jdk_30_method_1_code 4 = .ok (.return_, 1) := by decide +kernel
set_option maxRecDepth 65536 in
set_option maxHeartbeats 40000000 in
theorem rmR (l : Launch) (Z : State) (a0 : Array Value) (hw : ∀ d ∈ tables_1, d.before a0 Z = true) (ws : List Jvm.Cond) (ra : Addr)  (h0 : Heap) (n0 : Nat) (Z0 : n0 ≤ h0.size)  :
    MetFree l (⟨"java/lang/Record", "<init>", "()V"⟩ : MethodName) (head1 (Jvm.Cond.code (⟨"java/lang/Record", "<init>", "()V"⟩ : MethodName) jdk_30_method_1_code 1 none :: ws) ({ frames := 1, cells := 0, slots := 0, locals := 12 } : Room)) (fun a U => a = #[(.ref ra)] ∧ Z.Warmed39 U.vm ∧ U.heap = h0) (fun _ _ _ _ _ => True) (fun _ U o U' => ∃ v L, o = .returned v ∧ Q_rmR Z ra h0 n0 v U'.heap L ∧ FrameEnd U o U' L ({ frames := 1, cells := 0, slots := 0, locals := 12 } : Room).cells ({ frames := 1, cells := 0, slots := 0, locals := 12 } : Room).slots) := by
  refine MetFree.of_bodySF (plainFor_of_name pn_0) hisR ?_
  intro p e s m args below meth c s₁ Bd hml0 hP hK
  obtain ⟨rfl, hZ, hh⟩ := hP
  have hx := Bd.exec
  have hby := Bd.bytes
  have hml : c.maxLocals = 1 := hml0
  have hown : s.vm.findClass "java/lang/Record" = some m.cls := findClass_of_methodNamed Bd.named
  have hnm := (name_of_methodNamed Bd.named Bd.method).1
  have X0 : Stand p l e ({ frames := 1, cells := 0, slots := 0, locals := 12 } : Room) s m #[(.ref ra)] below meth c s₁ [] 0 0 := Stand.of_body Bd
  have e0 : s₁.heap = h0 := by rw [← hh, Bd.state]; rfl
  have N0 := Fr.nil n0
  have pre0 : ∀ t, Steps p.tables e below (s₁.setTop (mkF m 0 #[.val (.ref ra)] [])) t → Steps p.tables e below (s₁.setTop (entryFrame m #[(.ref ra)] 1)) t := fun t k => castTop (ef_rmR m ra) k
  have sg1 : ∀ t, Steps p.tables e below (s₁.setTop (mkF m 1 #[.val (.ref ra)] [(.ref ra)])) t → Steps p.tables e below (s₁.setTop (mkF m 0 #[.val (.ref ra)] [])) t := by
    intro t k
    show Steps p.tables e below (s₁.setTop (mkF m 0 #[.val (.ref ra)] [])) _
    refine XS.aloadN X0.here hx rfl (hb hby d3_0) rfl rfl ?_
    exact k
  obtain ⟨T2, X2, e2, st2⟩ := initO X0 hx hZ hown (hw _ (List.mem_of_getElem? (i := 19) rfl)) (hw _ (List.mem_of_getElem? (i := 20) rfl)) (hw _ (List.mem_of_getElem? (i := 21) rfl)) e0 (g := (mkF m 1 #[.val (.ref ra)] [(.ref ra)])) rfl (by rw [hml]; rfl) rfl (hb hby d3_1) (by decide) (W := 0) (by show 2 * 0 + _ ≤ _; exact Nat.le_of_eq rfl) (by decide)
  obtain ⟨fs, hr, hrun, hended, hW, hsame⟩ := X2.leave (v := none) (fun _ => rfl)
  refine ⟨_, _, pre0 _ ?_, hrun, hended, _, _, rfl, ?_, ⟨_, rfl⟩, hW, hsame.mono (by decide) (by decide)⟩
  · show Steps p.tables e below (s₁.setTop (mkF m 0 #[.val (.ref ra)] [])) _
    refine sg1 _ ?_
    show Steps p.tables e below (s₁.setTop (mkF m 1 #[.val (.ref ra)] [(.ref ra)])) _
    refine st2 _ ?_
    show Steps p.tables e below (T2.setTop (mkF m 4 #[.val (.ref ra)] [])) _
    exact X2.returnOut hx Bd.returns (hb hby d3_4) hr
  · show Q_rmR Z ra h0 n0 _ T2.heap _
    rw [e2]
    exact ⟨rfl, N0, rfl⟩
def Q_rmI (Z : State) (ra : Addr) (rn : Int32) (h0 : Heap) (n0 : Nat) (v : Option Value) (h : Heap) (L : List Loc) : Prop := v = none ∧ Fr n0 L ∧ Keep h0 h [ra] ∧ Fld Z h ra "com/example/haversack/haversack/core/IncrementalCapacity" "increment" "I" (.int rn)
theorem pn_1 : plainName "com/example/haversack/haversack/core/IncrementalCapacity" = true := by first | (simp [plainName, overriddenIn]; done) | decide +kernel
theorem ef_rmI (m : MethodId) (x0 : Addr) (x1 : Int32) : entryFrame m #[(.ref x0), (.int x1)] 2 = mkF m 0 #[.val (.ref x0), .val (.int x1)] [] := by first | (simp [entryFrame, mkF, argsToLocals, Value.category]; done) | rfl
theorem d2_0 : decode prog_44_method_1_code 0 = .ok (.aload_n 0, 1) := by decide +kernel
theorem d2_1 : decode prog_44_method_1_code 1 = .ok (.invokespecial 1, 3) := by decide +kernel
theorem d2_4 : decode prog_44_method_1_code 4 = .ok (.iload_n 1, 1) := by decide +kernel
theorem d2_5 : decode prog_44_method_1_code 5 = .ok (.iconst 1, 1) := by decide +kernel
theorem d2_6 : decode prog_44_method_1_code 6 = .ok (.if_icmp .ge 17, 3) := by decide +kernel
theorem d2_23 : decode prog_44_method_1_code 23 = .ok (.aload_n 0, 1) := by decide +kernel
theorem d2_24 : decode prog_44_method_1_code 24 = .ok (.iload_n 1, 1) := by decide +kernel
theorem d2_25 : decode prog_44_method_1_code 25 = .ok (.putfield 16, 3) := by decide +kernel
theorem d2_28 : decode prog_44_method_1_code 28 = .ok (.return_, 1) := by decide +kernel
set_option maxRecDepth 65536 in
set_option maxHeartbeats 40000000 in
theorem rmI (l : Launch) (Z : State) (a0 : Array Value) (hw : ∀ d ∈ tables_1, d.before a0 Z = true) (ws : List Jvm.Cond) (ra : Addr) (rn : Int32)  (h0 : Heap) (n0 : Nat) (Z0 : n0 ≤ h0.size) (P0 : Exa Z h0 ra "com/example/haversack/haversack/core/IncrementalCapacity") (P1 : Fld Z h0 ra "com/example/haversack/haversack/core/IncrementalCapacity" "increment" "I" (.int (0 : Int32))) (g_ra : n0 ≤ ra) (hge : ¬ (rn < (1 : Int32))) :
    MetFree l (⟨"com/example/haversack/haversack/core/IncrementalCapacity", "<init>", "(I)V"⟩ : MethodName) (head1 (Jvm.Cond.code (⟨"com/example/haversack/haversack/core/IncrementalCapacity", "<init>", "(I)V"⟩ : MethodName) prog_44_method_1_code 2 none :: ws) ({ frames := 2, cells := 0, slots := 0, locals := 24 } : Room)) (fun a U => a = #[(.ref ra), (.int rn)] ∧ Z.Warmed39 U.vm ∧ U.heap = h0) (fun _ _ _ _ _ => True) (fun _ U o U' => ∃ v L, o = .returned v ∧ Q_rmI Z ra rn h0 n0 v U'.heap L ∧ FrameEnd U o U' L ({ frames := 2, cells := 0, slots := 0, locals := 24 } : Room).cells ({ frames := 2, cells := 0, slots := 0, locals := 24 } : Room).slots) := by
  refine MetFree.of_bodySF (plainFor_of_name pn_1) hisR ?_
  intro p e s m args below meth c s₁ Bd hml0 hP hK
  obtain ⟨rfl, hZ, hh⟩ := hP
  have hx := Bd.exec
  have hby := Bd.bytes
  have hml : c.maxLocals = 2 := hml0
  have hown : s.vm.findClass "com/example/haversack/haversack/core/IncrementalCapacity" = some m.cls := findClass_of_methodNamed Bd.named
  have hnm := (name_of_methodNamed Bd.named Bd.method).1
  have X0 : Stand p l e ({ frames := 2, cells := 0, slots := 0, locals := 24 } : Room) s m #[(.ref ra), (.int rn)] below meth c s₁ [] 0 0 := Stand.of_body Bd
  have e0 : s₁.heap = h0 := by rw [← hh, Bd.state]; rfl
  have N0 := Fr.nil n0
  have pre0 : ∀ t, Steps p.tables e below (s₁.setTop (mkF m 0 #[.val (.ref ra), .val (.int rn)] [])) t → Steps p.tables e below (s₁.setTop (entryFrame m #[(.ref ra), (.int rn)] 2)) t := fun t k => castTop (ef_rmI m ra rn) k
  have K0 : Keep h0 h0 [ra] := Keep.refl h0 [ra]
  have sg1 : ∀ t, Steps p.tables e below (s₁.setTop (mkF m 1 #[.val (.ref ra), .val (.int rn)] [(.ref ra)])) t → Steps p.tables e below (s₁.setTop (mkF m 0 #[.val (.ref ra), .val (.int rn)] [])) t := by
    intro t k
    show Steps p.tables e below (s₁.setTop (mkF m 0 #[.val (.ref ra), .val (.int rn)] [])) _
    refine XS.aloadN X0.here hx rfl (hb hby d2_0) rfl rfl ?_
    exact k
  obtain ⟨_, _, ⟨T2, L2, k2, n2⟩, -, X2, ⟨Lc2, hQ2, l2, y2, z2⟩, st2⟩ := X0.specialBack hx (y := (⟨"java/lang/Record", "<init>", "()V"⟩ : MethodName)) rfl hown (mvT hZ (hw _ (List.mem_of_getElem? (i := 14) rfl))) (mvT hZ (hw _ (List.mem_of_getElem? (i := 15) rfl))) (mvT hZ (hw _ (List.mem_of_getElem? (i := 18) rfl))) (by decide) (backOf (W := 0) (rmR l Z a0 hw [] ra h0 n0 Z0 ) hZ (hw _ (List.mem_of_getElem? (i := 18) rfl)) (hw _ (List.mem_of_getElem? (i := 17) rfl)) (by decide) (by decide)) (g := (mkF m 1 #[.val (.ref ra), .val (.int rn)] [(.ref ra)])) rfl (by rw [hml]; rfl) (Steps.refl _) (a := ra) (argsL := []) (rest := []) (lenOf pd_0 rfl) rfl (by show 2 * 0 + _ ≤ _; exact Nat.le_of_eq rfl) (hb hby d2_1) (fun _ _ => ⟨rfl, e0, (by decide : 0 + 0 ≤ _), (by decide : 0 + 0 ≤ _)⟩)
  dsimp only [Pt.U, Pt.locs, Pt.cells, Pt.slots] at X2 l2 y2 z2 st2 hQ2
  subst l2 y2 z2
  obtain ⟨rfl, N2q, e2⟩ := hQ2
  have N2 := Fr.app N0 N2q
  have sg3 : ∀ t, Steps p.tables e below (T2.setTop (mkF m 25 #[.val (.ref ra), .val (.int rn)] [(.int rn), (.ref ra)])) t → Steps p.tables e below (T2.setTop (mkF m 4 #[.val (.ref ra), .val (.int rn)] [])) t := by
    intro t k
    show Steps p.tables e below (T2.setTop (mkF m 4 #[.val (.ref ra), .val (.int rn)] [])) _
    refine XS.iloadN X2.here hx rfl (hb hby d2_4) rfl ?_
    show Steps p.tables e below (T2.setTop (mkF m 5 #[.val (.ref ra), .val (.int rn)] [(.int rn)])) _
    refine XS.iconst X2.here hx rfl (hb hby d2_5) ?_
    show Steps p.tables e below (T2.setTop (mkF m 6 #[.val (.ref ra), .val (.int rn)] [(.int (1 : Int32)), (.int rn)])) _
    refine XS.icmpYes X2.here hx rfl (pc0 := 6) (pc' := 23) rfl (hb hby d2_6) rfl (flt (hge : ¬ (rn < (1 : Int32)))).2.1 (by decide) (by decide) ?_
    show Steps p.tables e below (T2.setTop (mkF m 23 #[.val (.ref ra), .val (.int rn)] [])) _
    refine XS.aloadN X2.here hx rfl (hb hby d2_23) rfl rfl ?_
    show Steps p.tables e below (T2.setTop (mkF m 24 #[.val (.ref ra), .val (.int rn)] [(.ref ra)])) _
    refine XS.iloadN X2.here hx rfl (hb hby d2_24) rfl ?_
    exact k
  obtain ⟨T4, h4, X4, e4, W4, st4⟩ := putF X2 hx hZ hown (host := "") (Or.inl (hw _ (List.mem_of_getElem? (i := 22) rfl))) Via.refl e2 P1 P0 (Or.inr ⟨(hw _ (List.mem_of_getElem? (i := 23) rfl)), rfl, hnm⟩) (hw _ (List.mem_of_getElem? (i := 9) rfl)) (ty := .int) (by decide) rfl rfl (g := (mkF m 25 #[.val (.ref ra), .val (.int rn)] [(.int rn), (.ref ra)])) rfl rfl (hb hby d2_25)
  have N4 := Fr.snoc X4 N2 g_ra
  have f5 : Exa Z h4 ra "com/example/haversack/haversack/core/IncrementalCapacity" := P0.wr W4
  have z6 : n0 ≤ h4.size := Nat.le_trans Z0 (Keep.of_wr W4).1
  have K7 : Keep h0 h4 [ra] := K0.wr W4 (Or.inl (List.mem_of_getElem? (i := 0) rfl))
  have f8 : Fld Z h4 ra "com/example/haversack/haversack/core/IncrementalCapacity" "increment" "I" (.int rn) := P1.same W4
  obtain ⟨fs, hr, hrun, hended, hW, hsame⟩ := X4.leave (v := none) (fun _ => rfl)
  refine ⟨_, _, pre0 _ ?_, hrun, hended, _, _, rfl, ?_, ⟨_, rfl⟩, hW, hsame.mono (by decide) (by decide)⟩
  · show Steps p.tables e below (s₁.setTop (mkF m 0 #[.val (.ref ra), .val (.int rn)] [])) _
    refine sg1 _ ?_
    show Steps p.tables e below (s₁.setTop (mkF m 1 #[.val (.ref ra), .val (.int rn)] [(.ref ra)])) _
    refine st2.trans ?_
    show Steps p.tables e below (T2.setTop (mkF m 4 #[.val (.ref ra), .val (.int rn)] [])) _
    refine sg3 _ ?_
    show Steps p.tables e below (T2.setTop (mkF m 25 #[.val (.ref ra), .val (.int rn)] [(.int rn), (.ref ra)])) _
    refine st4 _ ?_
    show Steps p.tables e below (T4.setTop (mkF m 28 #[.val (.ref ra), .val (.int rn)] [])) _
    exact X4.returnOut hx Bd.returns (hb hby d2_28) hr
  · show Q_rmI Z ra rn h0 n0 _ T4.heap _
    rw [e4]
    exact ⟨rfl, N4, K7, f8⟩
def Q_rmG (Z : State) (ra : Addr) (ro : Int32) (h0 : Heap) (n0 : Nat) (v : Option Value) (h : Heap) (L : List Loc) : Prop := v = some (.int ro) ∧ Fr n0 L ∧ h = h0
theorem ef_rmG (m : MethodId) (x0 : Addr) : entryFrame m #[(.ref x0)] 1 = mkF m 0 #[.val (.ref x0)] [] := by first | (simp [entryFrame, mkF, argsToLocals, Value.category]; done) | rfl
theorem d6_0 : decode prog_44_method_9_code 0 = .ok (.aload_n 0, 1) := by decide +kernel
theorem d6_1 : decode prog_44_method_9_code 1 = .ok (.getfield 16, 3) := by decide +kernel
theorem d6_4 : decode prog_44_method_9_code 4 = .ok (.ireturn, 1) := by decide +kernel
set_option maxRecDepth 65536 in
set_option maxHeartbeats 40000000 in
theorem rmG (l : Launch) (Z : State) (a0 : Array Value) (hw : ∀ d ∈ tables_1, d.before a0 Z = true) (ws : List Jvm.Cond) (ra : Addr) (ro : Int32) (h0 : Heap) (n0 : Nat) (Z0 : n0 ≤ h0.size) (P0 : Fld Z h0 ra "com/example/haversack/haversack/core/IncrementalCapacity" "increment" "I" (.int ro)) :
    MetFree l (⟨"com/example/haversack/haversack/core/IncrementalCapacity", "increment", "()I"⟩ : MethodName) (head1 (Jvm.Cond.code (⟨"com/example/haversack/haversack/core/IncrementalCapacity", "increment", "()I"⟩ : MethodName) prog_44_method_9_code 1 (some .int) :: ws) ({ frames := 0, cells := 0, slots := 0, locals := 0 } : Room)) (fun a U => a = #[(.ref ra)] ∧ Z.Warmed39 U.vm ∧ U.heap = h0) (fun _ _ _ _ _ => True) (fun _ U o U' => ∃ v L, o = .returned v ∧ Q_rmG Z ra ro h0 n0 v U'.heap L ∧ FrameEnd U o U' L ({ frames := 0, cells := 0, slots := 0, locals := 0 } : Room).cells ({ frames := 0, cells := 0, slots := 0, locals := 0 } : Room).slots) := by
  refine MetFree.of_bodySF (plainFor_of_name pn_1) hisR ?_
  intro p e s m args below meth c s₁ Bd hml0 hP hK
  obtain ⟨rfl, hZ, hh⟩ := hP
  have hx := Bd.exec
  have hby := Bd.bytes
  have hml : c.maxLocals = 1 := hml0
  have hown : s.vm.findClass "com/example/haversack/haversack/core/IncrementalCapacity" = some m.cls := findClass_of_methodNamed Bd.named
  have hnm := (name_of_methodNamed Bd.named Bd.method).1
  have X0 : Stand p l e ({ frames := 0, cells := 0, slots := 0, locals := 0 } : Room) s m #[(.ref ra)] below meth c s₁ [] 0 0 := Stand.of_body Bd
  have e0 : s₁.heap = h0 := by rw [← hh, Bd.state]; rfl
  have N0 := Fr.nil n0
  have pre0 : ∀ t, Steps p.tables e below (s₁.setTop (mkF m 0 #[.val (.ref ra)] [])) t → Steps p.tables e below (s₁.setTop (entryFrame m #[(.ref ra)] 1)) t := fun t k => castTop (ef_rmG m ra) k
  have sg1 : ∀ t, Steps p.tables e below (s₁.setTop (mkF m 1 #[.val (.ref ra)] [(.ref ra)])) t → Steps p.tables e below (s₁.setTop (mkF m 0 #[.val (.ref ra)] [])) t := by
    intro t k
    show Steps p.tables e below (s₁.setTop (mkF m 0 #[.val (.ref ra)] [])) _
    refine XS.aloadN X0.here hx rfl (hb hby d6_0) rfl rfl ?_
    exact k
  obtain ⟨T2, X2, e2, st2⟩ := getF X0 hx hZ hown (host := "") (Or.inl (hw _ (List.mem_of_getElem? (i := 22) rfl))) Via.refl e0 P0 (g := (mkF m 1 #[.val (.ref ra)] [(.ref ra)])) rfl rfl (hb hby d6_1)
  obtain ⟨fs, hr, hrun, hended, hW, hsame⟩ := X2.leave (v := some (.int ro)) (fun h => by rw [Bd.returns] at h; cases h)
  refine ⟨_, _, pre0 _ ?_, hrun, hended, _, _, rfl, ?_, ⟨_, rfl⟩, hW, hsame.mono (by decide) (by decide)⟩
  · show Steps p.tables e below (s₁.setTop (mkF m 0 #[.val (.ref ra)] [])) _
    refine sg1 _ ?_
    show Steps p.tables e below (s₁.setTop (mkF m 1 #[.val (.ref ra)] [(.ref ra)])) _
    refine st2 _ ?_
    show Steps p.tables e below (T2.setTop (mkF m 4 #[.val (.ref ra)] [(.int ro)])) _
    exact retI X2 hx Bd.returns (hb hby d6_4) hr
  · show Q_rmG Z ra ro h0 n0 _ T2.heap _
    rw [e2]
    exact ⟨rfl, N0, rfl⟩
def Q_rmP (Z : State) (rn : Int32) (h0 : Heap) (n0 : Nat) (v : Option Value) (h : Heap) (L : List Loc) : Prop := v = some (.int rn) ∧ Fr n0 L ∧ h = h0
theorem pn_2 : plainName "com/example/haversack/haversack/core/Assumptions" = true := by first | (simp [plainName, overriddenIn]; done) | decide +kernel
theorem ef_rmP (m : MethodId) (x0 : Int32) : entryFrame m #[(.int x0)] 1 = mkF m 0 #[.val (.int x0)] [] := by first | (simp [entryFrame, mkF, argsToLocals, Value.category]; done) | rfl
theorem d7_0 : decode prog_2_method_2_code 0 = .ok (.iload_n 0, 1) := by decide +kernel
theorem d7_1 : decode prog_2_method_2_code 1 = .ok (.iconst 1, 1) := by decide +kernel
theorem d7_2 : decode prog_2_method_2_code 2 = .ok (.if_icmp .ge 17, 3) := by decide +kernel
theorem d7_19 : decode prog_2_method_2_code 19 = .ok (.iload_n 0, 1) := by decide +kernel
theorem d7_20 : decode prog_2_method_2_code 20 = .ok (.ireturn, 1) := by decide +kernel
set_option maxRecDepth 65536 in
set_option maxHeartbeats 40000000 in
theorem rmP (l : Launch) (Z : State) (a0 : Array Value) (hw : ∀ d ∈ tables_1, d.before a0 Z = true) (ws : List Jvm.Cond) (rn : Int32)  (h0 : Heap) (n0 : Nat) (Z0 : n0 ≤ h0.size) (hge : ¬ (rn < (1 : Int32))) :
    MetFree l (⟨"com/example/haversack/haversack/core/Assumptions", "periods", "(I)I"⟩ : MethodName) (head1 (Jvm.Cond.code (⟨"com/example/haversack/haversack/core/Assumptions", "periods", "(I)I"⟩ : MethodName) prog_2_method_2_code 1 (some .int) :: ws) ({ frames := 0, cells := 0, slots := 0, locals := 0 } : Room)) (fun a U => a = #[(.int rn)] ∧ Z.Warmed39 U.vm ∧ U.heap = h0) (fun _ _ _ _ _ => True) (fun _ U o U' => ∃ v L, o = .returned v ∧ Q_rmP Z rn h0 n0 v U'.heap L ∧ FrameEnd U o U' L ({ frames := 0, cells := 0, slots := 0, locals := 0 } : Room).cells ({ frames := 0, cells := 0, slots := 0, locals := 0 } : Room).slots) := by
  refine MetFree.of_bodySF (plainFor_of_name pn_2) hisR ?_
  intro p e s m args below meth c s₁ Bd hml0 hP hK
  obtain ⟨rfl, hZ, hh⟩ := hP
  have hx := Bd.exec
  have hby := Bd.bytes
  have hml : c.maxLocals = 1 := hml0
  have hown : s.vm.findClass "com/example/haversack/haversack/core/Assumptions" = some m.cls := findClass_of_methodNamed Bd.named
  have hnm := (name_of_methodNamed Bd.named Bd.method).1
  have X0 : Stand p l e ({ frames := 0, cells := 0, slots := 0, locals := 0 } : Room) s m #[(.int rn)] below meth c s₁ [] 0 0 := Stand.of_body Bd
  have e0 : s₁.heap = h0 := by rw [← hh, Bd.state]; rfl
  have N0 := Fr.nil n0
  have pre0 : ∀ t, Steps p.tables e below (s₁.setTop (mkF m 0 #[.val (.int rn)] [])) t → Steps p.tables e below (s₁.setTop (entryFrame m #[(.int rn)] 1)) t := fun t k => castTop (ef_rmP m rn) k
  have sg1 : ∀ t, Steps p.tables e below (s₁.setTop (mkF m 20 #[.val (.int rn)] [(.int rn)])) t → Steps p.tables e below (s₁.setTop (mkF m 0 #[.val (.int rn)] [])) t := by
    intro t k
    show Steps p.tables e below (s₁.setTop (mkF m 0 #[.val (.int rn)] [])) _
    refine XS.iloadN X0.here hx rfl (hb hby d7_0) rfl ?_
    show Steps p.tables e below (s₁.setTop (mkF m 1 #[.val (.int rn)] [(.int rn)])) _
    refine XS.iconst X0.here hx rfl (hb hby d7_1) ?_
    show Steps p.tables e below (s₁.setTop (mkF m 2 #[.val (.int rn)] [(.int (1 : Int32)), (.int rn)])) _
    refine XS.icmpYes X0.here hx rfl (pc0 := 2) (pc' := 19) rfl (hb hby d7_2) rfl (flt (hge : ¬ (rn < (1 : Int32)))).2.1 (by decide) (by decide) ?_
    show Steps p.tables e below (s₁.setTop (mkF m 19 #[.val (.int rn)] [])) _
    refine XS.iloadN X0.here hx rfl (hb hby d7_19) rfl ?_
    exact k
  obtain ⟨fs, hr, hrun, hended, hW, hsame⟩ := X0.leave (v := some (.int rn)) (fun h => by rw [Bd.returns] at h; cases h)
  refine ⟨_, _, pre0 _ ?_, hrun, hended, _, _, rfl, ?_, ⟨_, rfl⟩, hW, hsame.mono (by decide) (by decide)⟩
  · show Steps p.tables e below (s₁.setTop (mkF m 0 #[.val (.int rn)] [])) _
    refine sg1 _ ?_
    show Steps p.tables e below (s₁.setTop (mkF m 20 #[.val (.int rn)] [(.int rn)])) _
    exact retI X0 hx Bd.returns (hb hby d7_20) hr
  · show Q_rmP Z rn h0 n0 _ s₁.heap _
    rw [e0]
    exact ⟨rfl, N0, rfl⟩
def Q_rmB (Z : State) (rb : Addr) (ra : Addr) (rn : Int32) (ro : Int32) (h0 : Heap) (n0 : Nat) (v : Option Value) (h : Heap) (L : List Loc) : Prop := v = none ∧ Fr n0 L ∧ Keep h0 h [rb] ∧ Fld Z h rb "com/example/haversack/haversack/core/BalancingPolicy" "increment" "I" (.int ro) ∧ Fld Z h rb "com/example/haversack/haversack/core/BalancingPolicy" "periods" "I" (.int rn)
theorem pd_1 : parseMethodDescriptor "()I" = some ⟨[], some .int⟩ := by decide +kernel
theorem pd_2 : parseMethodDescriptor "(I)I" = some ⟨[.int], some .int⟩ := by decide +kernel
theorem pn_3 : plainName "com/example/haversack/haversack/core/BalancingPolicy" = true := by first | (simp [plainName, overriddenIn]; done) | decide +kernel
theorem ef_rmB (m : MethodId) (x0 : Addr) (x1 : Addr) (x2 : Int32) : entryFrame m #[(.ref x0), (.ref x1), (.int x2)] 3 = mkF m 0 #[.val (.ref x0), .val (.ref x1), .val (.int x2)] [] := by first | (simp [entryFrame, mkF, argsToLocals, Value.category]; done) | rfl
theorem d5_0 : decode prog_3_method_1_code 0 = .ok (.aload_n 0, 1) := by decide +kernel
theorem d5_1 : decode prog_3_method_1_code 1 = .ok (.invokespecial 1, 3) := by decide +kernel
theorem d5_4 : decode prog_3_method_1_code 4 = .ok (.aload_n 0, 1) := by decide +kernel
theorem d5_5 : decode prog_3_method_1_code 5 = .ok (.aload_n 1, 1) := by decide +kernel
theorem d5_6 : decode prog_3_method_1_code 6 = .ok (.invokevirtual 7, 3) := by decide +kernel
theorem d5_9 : decode prog_3_method_1_code 9 = .ok (.putfield 13, 3) := by decide +kernel
theorem d5_12 : decode prog_3_method_1_code 12 = .ok (.aload_n 0, 1) := by decide +kernel
theorem d5_13 : decode prog_3_method_1_code 13 = .ok (.iload_n 2, 1) := by decide +kernel
theorem d5_14 : decode prog_3_method_1_code 14 = .ok (.invokestatic 18, 3) := by decide +kernel
theorem d5_17 : decode prog_3_method_1_code 17 = .ok (.putfield 24, 3) := by decide +kernel
theorem d5_20 : decode prog_3_method_1_code 20 = .ok (.return_, 1) := by decide +kernel
set_option maxRecDepth 65536 in
set_option maxHeartbeats 40000000 in
theorem rmB (l : Launch) (Z : State) (a0 : Array Value) (hw : ∀ d ∈ tables_1, d.before a0 Z = true) (ws : List Jvm.Cond) (rb : Addr) (ra : Addr) (rn : Int32) (ro : Int32) (h0 : Heap) (n0 : Nat) (Z0 : n0 ≤ h0.size) (P0 : Exa Z h0 rb "com/example/haversack/haversack/core/BalancingPolicy") (P1 : Fld Z h0 rb "com/example/haversack/haversack/core/BalancingPolicy" "increment" "I" (.int (0 : Int32))) (P2 : Fld Z h0 rb "com/example/haversack/haversack/core/BalancingPolicy" "periods" "I" (.int (0 : Int32))) (P3 : Exa Z h0 ra "com/example/haversack/haversack/core/IncrementalCapacity") (P4 : Fld Z h0 ra "com/example/haversack/haversack/core/IncrementalCapacity" "increment" "I" (.int ro)) (g_rb : n0 ≤ rb) (ne_rb_ra : rb ≠ ra) (hge : ¬ (rn < (1 : Int32))) :
    MetFree l (⟨"com/example/haversack/haversack/core/BalancingPolicy", "<init>", "(Lcom/example/haversack/haversack/core/IncrementalCapacity;I)V"⟩ : MethodName) (head1 (Jvm.Cond.code (⟨"com/example/haversack/haversack/core/BalancingPolicy", "<init>", "(Lcom/example/haversack/haversack/core/IncrementalCapacity;I)V"⟩ : MethodName) prog_3_method_1_code 3 none :: ws) ({ frames := 1, cells := 0, slots := 0, locals := 13 } : Room)) (fun a U => a = #[(.ref rb), (.ref ra), (.int rn)] ∧ Z.Warmed39 U.vm ∧ U.heap = h0) (fun _ _ _ _ _ => True) (fun _ U o U' => ∃ v L, o = .returned v ∧ Q_rmB Z rb ra rn ro h0 n0 v U'.heap L ∧ FrameEnd U o U' L ({ frames := 1, cells := 0, slots := 0, locals := 13 } : Room).cells ({ frames := 1, cells := 0, slots := 0, locals := 13 } : Room).slots) := by
  refine MetFree.of_bodySF (plainFor_of_name pn_3) hisR ?_
  intro p e s m args below meth c s₁ Bd hml0 hP hK
  obtain ⟨rfl, hZ, hh⟩ := hP
  have hx := Bd.exec
  have hby := Bd.bytes
  have hml : c.maxLocals = 3 := hml0
  have hown : s.vm.findClass "com/example/haversack/haversack/core/BalancingPolicy" = some m.cls := findClass_of_methodNamed Bd.named
  have hnm := (name_of_methodNamed Bd.named Bd.method).1
  have X0 : Stand p l e ({ frames := 1, cells := 0, slots := 0, locals := 13 } : Room) s m #[(.ref rb), (.ref ra), (.int rn)] below meth c s₁ [] 0 0 := Stand.of_body Bd
  have e0 : s₁.heap = h0 := by rw [← hh, Bd.state]; rfl
  have N0 := Fr.nil n0
  have pre0 : ∀ t, Steps p.tables e below (s₁.setTop (mkF m 0 #[.val (.ref rb), .val (.ref ra), .val (.int rn)] [])) t → Steps p.tables e below (s₁.setTop (entryFrame m #[(.ref rb), (.ref ra), (.int rn)] 3)) t := fun t k => castTop (ef_rmB m rb ra rn) k
  have K0 : Keep h0 h0 [rb] := Keep.refl h0 [rb]
  have sg1 : ∀ t, Steps p.tables e below (s₁.setTop (mkF m 1 #[.val (.ref rb), .val (.ref ra), .val (.int rn)] [(.ref rb)])) t → Steps p.tables e below (s₁.setTop (mkF m 0 #[.val (.ref rb), .val (.ref ra), .val (.int rn)] [])) t := by
    intro t k
    show Steps p.tables e below (s₁.setTop (mkF m 0 #[.val (.ref rb), .val (.ref ra), .val (.int rn)] [])) _
    refine XS.aloadN X0.here hx rfl (hb hby d5_0) rfl rfl ?_
    exact k
  obtain ⟨T2, X2, e2, st2⟩ := initO X0 hx hZ hown (hw _ (List.mem_of_getElem? (i := 27) rfl)) (hw _ (List.mem_of_getElem? (i := 20) rfl)) (hw _ (List.mem_of_getElem? (i := 21) rfl)) e0 (g := (mkF m 1 #[.val (.ref rb), .val (.ref ra), .val (.int rn)] [(.ref rb)])) rfl (by rw [hml]; rfl) rfl (hb hby d5_1) (by decide) (W := 0) (by show 2 * 0 + _ ≤ _; exact Nat.le_of_eq rfl) (by decide)
  have sg3 : ∀ t, Steps p.tables e below (T2.setTop (mkF m 6 #[.val (.ref rb), .val (.ref ra), .val (.int rn)] [(.ref ra), (.ref rb)])) t → Steps p.tables e below (T2.setTop (mkF m 4 #[.val (.ref rb), .val (.ref ra), .val (.int rn)] [])) t := by
    intro t k
    show Steps p.tables e below (T2.setTop (mkF m 4 #[.val (.ref rb), .val (.ref ra), .val (.int rn)] [])) _
    refine XS.aloadN X2.here hx rfl (hb hby d5_4) rfl rfl ?_
    show Steps p.tables e below (T2.setTop (mkF m 5 #[.val (.ref rb), .val (.ref ra), .val (.int rn)] [(.ref rb)])) _
    refine XS.aloadN X2.here hx rfl (hb hby d5_5) rfl rfl ?_
    exact k
  obtain ⟨cq4, kq4, q4a, q4b, q4c⟩ := isOf hZ e2 P3
  obtain ⟨_, _, ⟨T4, L4, k4, n4⟩, -, X4, ⟨Lc4, hQ4, l4, y4, z4⟩, st4⟩ := X2.virtualBack hx (y := (⟨"com/example/haversack/haversack/core/IncrementalCapacity", "increment", "()I"⟩ : MethodName)) (z := (⟨"com/example/haversack/haversack/core/IncrementalCapacity", "increment", "()I"⟩ : MethodName)) hown (mvT hZ (hw _ (List.mem_of_getElem? (i := 28) rfl))) (mvT hZ (hw _ (List.mem_of_getElem? (i := 29) rfl))) (notFace_of_selects (args := #[]) (mvT hZ (hw _ (List.mem_of_getElem? (i := 31) rfl)))) (mvT hZ (hw _ (List.mem_of_getElem? (i := 31) rfl))) (mvT hZ (hw _ (List.mem_of_getElem? (i := 30) rfl))) (by decide) (backOf (W := 1) (rmG l Z a0 hw [] ra ro h0 n0 Z0 P4) hZ (hw _ (List.mem_of_getElem? (i := 32) rfl)) (hw _ (List.mem_of_getElem? (i := 10) rfl)) (by decide) (by decide)) q4a q4c (g := (mkF m 6 #[.val (.ref rb), .val (.ref ra), .val (.int rn)] [(.ref ra), (.ref rb)])) rfl (by rw [hml]; rfl) (Steps.refl _) (argsL := []) (rest := [(.ref rb)]) (lenOf pd_1 rfl) rfl (by show 2 * 0 + _ ≤ _; exact Nat.le_of_eq rfl) (hb hby d5_6) (fun _ _ => ⟨rfl, e2, (by decide : 0 + 0 ≤ _), (by decide : 0 + 0 ≤ _)⟩)
  dsimp only [Pt.U, Pt.locs, Pt.cells, Pt.slots] at X4 l4 y4 z4 st4 hQ4
  subst l4 y4 z4
  obtain ⟨rfl, N4q, e4⟩ := hQ4
  have N4 := Fr.app N0 N4q
  obtain ⟨T5, h5, X5, e5, W5, st5⟩ := putF X4 hx hZ hown (host := "") (Or.inl (hw _ (List.mem_of_getElem? (i := 33) rfl))) Via.refl e4 P1 P0 (Or.inr ⟨(hw _ (List.mem_of_getElem? (i := 34) rfl)), rfl, hnm⟩) (hw _ (List.mem_of_getElem? (i := 6) rfl)) (ty := .int) (by decide) rfl rfl (g := (mkF m 9 #[.val (.ref rb), .val (.ref ra), .val (.int rn)] [(.int ro), (.ref rb)])) rfl rfl (hb hby d5_9)
  have N5 := Fr.snoc X5 N4 g_rb
  have f6 : Exa Z h5 rb "com/example/haversack/haversack/core/BalancingPolicy" := P0.wr W5
  have f7 : Fld Z h5 rb "com/example/haversack/haversack/core/BalancingPolicy" "periods" "I" (.int (0 : Int32)) := P2.other W5 (Or.inr (slot_ne (Or.inr (hw _ (List.mem_of_getElem? (i := 40) rfl))) (Or.inr (hw _ (List.mem_of_getElem? (i := 34) rfl))) (by decide) (t := .int) (t' := .int) (by decide) (by decide)))
  have f8 : Exa Z h5 ra "com/example/haversack/haversack/core/IncrementalCapacity" := P3.wr W5
  have f9 : Fld Z h5 ra "com/example/haversack/haversack/core/IncrementalCapacity" "increment" "I" (.int ro) := P4.other W5 (Or.inl (Ne.symm ne_rb_ra))
  have z10 : n0 ≤ h5.size := Nat.le_trans Z0 (Keep.of_wr W5).1
  have K11 : Keep h0 h5 [rb] := K0.wr W5 (Or.inl (List.mem_of_getElem? (i := 0) rfl))
  have f12 : Fld Z h5 rb "com/example/haversack/haversack/core/BalancingPolicy" "increment" "I" (.int ro) := P1.same W5
  have sg13 : ∀ t, Steps p.tables e below (T5.setTop (mkF m 14 #[.val (.ref rb), .val (.ref ra), .val (.int rn)] [(.int rn), (.ref rb)])) t → Steps p.tables e below (T5.setTop (mkF m 12 #[.val (.ref rb), .val (.ref ra), .val (.int rn)] [])) t := by
    intro t k
    show Steps p.tables e below (T5.setTop (mkF m 12 #[.val (.ref rb), .val (.ref ra), .val (.int rn)] [])) _
    refine XS.aloadN X5.here hx rfl (hb hby d5_12) rfl rfl ?_
    show Steps p.tables e below (T5.setTop (mkF m 13 #[.val (.ref rb), .val (.ref ra), .val (.int rn)] [(.ref rb)])) _
    refine XS.iloadN X5.here hx rfl (hb hby d5_13) rfl ?_
    exact k
  obtain ⟨_, _, ⟨T14, L14, k14, n14⟩, -, X14, ⟨Lc14, hQ14, l14, y14, z14⟩, st14⟩ := Jvm.LawKit.callS X5 hx (y := (⟨"com/example/haversack/haversack/core/Assumptions", "periods", "(I)I"⟩ : MethodName)) hown (mvT hZ (hw _ (List.mem_of_getElem? (i := 35) rfl))) (mvT hZ (hw _ (List.mem_of_getElem? (i := 36) rfl))) (mvT hZ (hw _ (List.mem_of_getElem? (i := 37) rfl))) (mvT hZ (hw _ (List.mem_of_getElem? (i := 38) rfl))) (by decide) (backOf (W := 1) (rmP l Z a0 hw [] rn h5 n0 z10 hge) hZ (hw _ (List.mem_of_getElem? (i := 38) rfl)) (hw _ (List.mem_of_getElem? (i := 37) rfl)) (by decide) (by decide)) (g := (mkF m 14 #[.val (.ref rb), .val (.ref ra), .val (.int rn)] [(.int rn), (.ref rb)])) rfl (by rw [hml]; rfl) (argsL := [(.int rn)]) (rest := [(.ref rb)]) (lenOf pd_2 rfl) rfl (by show 2 * 0 + _ ≤ _; exact Nat.le_of_eq rfl) (hb hby d5_14) (fun _ _ => ⟨rfl, e5, (by decide : 0 + 0 ≤ _), (by decide : 0 + 0 ≤ _)⟩)
  dsimp only [Pt.U, Pt.locs, Pt.cells, Pt.slots] at X14 l14 y14 z14 st14 hQ14
  subst l14 y14 z14
  obtain ⟨rfl, N14q, e14⟩ := hQ14
  have N14 := Fr.app N5 N14q
  obtain ⟨T15, h15, X15, e15, W15, st15⟩ := putF X14 hx hZ hown (host := "") (Or.inl (hw _ (List.mem_of_getElem? (i := 39) rfl))) Via.refl e14 f7 f6 (Or.inr ⟨(hw _ (List.mem_of_getElem? (i := 40) rfl)), rfl, hnm⟩) (hw _ (List.mem_of_getElem? (i := 6) rfl)) (ty := .int) (by decide) rfl rfl (g := (mkF m 17 #[.val (.ref rb), .val (.ref ra), .val (.int rn)] [(.int rn), (.ref rb)])) rfl rfl (hb hby d5_17)
  have N15 := Fr.snoc X15 N14 g_rb
  have f16 : Exa Z h15 rb "com/example/haversack/haversack/core/BalancingPolicy" := f6.wr W15
  have f17 : Exa Z h15 ra "com/example/haversack/haversack/core/IncrementalCapacity" := f8.wr W15
  have f18 : Fld Z h15 ra "com/example/haversack/haversack/core/IncrementalCapacity" "increment" "I" (.int ro) := f9.other W15 (Or.inl (Ne.symm ne_rb_ra))
  have f19 : Fld Z h15 rb "com/example/haversack/haversack/core/BalancingPolicy" "increment" "I" (.int ro) := f12.other W15 (Or.inr (slot_ne (Or.inr (hw _ (List.mem_of_getElem? (i := 34) rfl))) (Or.inr (hw _ (List.mem_of_getElem? (i := 40) rfl))) (by decide) (t := .int) (t' := .int) (by decide) (by decide)))
  have z20 : n0 ≤ h15.size := Nat.le_trans z10 (Keep.of_wr W15).1
  have K21 : Keep h0 h15 [rb] := K11.wr W15 (Or.inl (List.mem_of_getElem? (i := 0) rfl))
  have f22 : Fld Z h15 rb "com/example/haversack/haversack/core/BalancingPolicy" "periods" "I" (.int rn) := f7.same W15
  obtain ⟨fs, hr, hrun, hended, hW, hsame⟩ := X15.leave (v := none) (fun _ => rfl)
  refine ⟨_, _, pre0 _ ?_, hrun, hended, _, _, rfl, ?_, ⟨_, rfl⟩, hW, hsame.mono (by decide) (by decide)⟩
  · show Steps p.tables e below (s₁.setTop (mkF m 0 #[.val (.ref rb), .val (.ref ra), .val (.int rn)] [])) _
    refine sg1 _ ?_
    show Steps p.tables e below (s₁.setTop (mkF m 1 #[.val (.ref rb), .val (.ref ra), .val (.int rn)] [(.ref rb)])) _
    refine st2 _ ?_
    show Steps p.tables e below (T2.setTop (mkF m 4 #[.val (.ref rb), .val (.ref ra), .val (.int rn)] [])) _
    refine sg3 _ ?_
    show Steps p.tables e below (T2.setTop (mkF m 6 #[.val (.ref rb), .val (.ref ra), .val (.int rn)] [(.ref ra), (.ref rb)])) _
    refine st4.trans ?_
    show Steps p.tables e below (T4.setTop (mkF m 9 #[.val (.ref rb), .val (.ref ra), .val (.int rn)] [(.int ro), (.ref rb)])) _
    refine st5 _ ?_
    show Steps p.tables e below (T5.setTop (mkF m 12 #[.val (.ref rb), .val (.ref ra), .val (.int rn)] [])) _
    refine sg13 _ ?_
    show Steps p.tables e below (T5.setTop (mkF m 14 #[.val (.ref rb), .val (.ref ra), .val (.int rn)] [(.int rn), (.ref rb)])) _
    refine st14 _ ?_
    show Steps p.tables e below (T14.setTop (mkF m 17 #[.val (.ref rb), .val (.ref ra), .val (.int rn)] [(.int rn), (.ref rb)])) _
    refine st15 _ ?_
    show Steps p.tables e below (T15.setTop (mkF m 20 #[.val (.ref rb), .val (.ref ra), .val (.int rn)] [])) _
    exact X15.returnOut hx Bd.returns (hb hby d5_20) hr
  · show Q_rmB Z rb ra rn ro h0 n0 _ T15.heap _
    rw [e15]
    exact ⟨rfl, N15, K21, f19, f22⟩
def Q_rmL (Z : State) (rb : Addr) (rt : Int32) (ri : Int32) (rp : Int32) (h0 : Heap) (n0 : Nat) (v : Option Value) (h : Heap) (L : List Loc) : Prop := v = some (.long ((((rt.toInt64) * (((2 : Int64) * (ri.toInt64)) - (1 : Int64))) + (rp.toInt64)) / ((rp.toInt64) + (1 : Int64)))) ∧ Fr n0 L ∧ h = h0
theorem ef_rmL (m : MethodId) (x0 : Addr) (x1 : Int32) : entryFrame m #[(.ref x0), (.int x1)] 4 = mkF m 0 #[.val (.ref x0), .val (.int x1), .unset, .unset] [] := by first | (simp [entryFrame, mkF, argsToLocals, Value.category]; done) | rfl
theorem d8_0 : decode prog_3_method_2_code 0 = .ok (.iload_n 1, 1) := by decide +kernel
theorem d8_1 : decode prog_3_method_2_code 1 = .ok (.i2l, 1) := by decide +kernel
theorem d8_2 : decode prog_3_method_2_code 2 = .ok (.ldc2_w 26, 3) := by decide +kernel
theorem d8_5 : decode prog_3_method_2_code 5 = .ok (.aload_n 0, 1) := by decide +kernel
theorem d8_6 : decode prog_3_method_2_code 6 = .ok (.getfield 13, 3) := by decide +kernel
theorem d8_9 : decode prog_3_method_2_code 9 = .ok (.i2l, 1) := by decide +kernel
theorem d8_10 : decode prog_3_method_2_code 10 = .ok (.lmul, 1) := by decide +kernel
theorem d8_11 : decode prog_3_method_2_code 11 = .ok (.lconst 1, 1) := by decide +kernel
theorem d8_12 : decode prog_3_method_2_code 12 = .ok (.lsub, 1) := by decide +kernel
theorem d8_13 : decode prog_3_method_2_code 13 = .ok (.lmul, 1) := by decide +kernel
theorem d8_14 : decode prog_3_method_2_code 14 = .ok (.lstore_n 2, 1) := by decide +kernel
theorem d8_15 : decode prog_3_method_2_code 15 = .ok (.lload_n 2, 1) := by decide +kernel
theorem d8_16 : decode prog_3_method_2_code 16 = .ok (.aload_n 0, 1) := by decide +kernel
theorem d8_17 : decode prog_3_method_2_code 17 = .ok (.getfield 24, 3) := by decide +kernel
theorem d8_20 : decode prog_3_method_2_code 20 = .ok (.i2l, 1) := by decide +kernel
theorem d8_21 : decode prog_3_method_2_code 21 = .ok (.ladd, 1) := by decide +kernel
theorem d8_22 : decode prog_3_method_2_code 22 = .ok (.aload_n 0, 1) := by decide +kernel
theorem d8_23 : decode prog_3_method_2_code 23 = .ok (.getfield 24, 3) := by decide +kernel
theorem d8_26 : decode prog_3_method_2_code 26 = .ok (.i2l, 1) := by decide +kernel
theorem d8_27 : decode prog_3_method_2_code 27 = .ok (.lconst 1, 1) := by decide +kernel
theorem d8_28 : decode prog_3_method_2_code 28 = .ok (.ladd, 1) := by decide +kernel
theorem d8_29 : decode prog_3_method_2_code 29 = .ok (.ldiv, 1) := by decide +kernel
theorem d8_30 : decode prog_3_method_2_code 30 = .ok (.lreturn, 1) := by decide +kernel
set_option maxRecDepth 65536 in
set_option maxHeartbeats 40000000 in
theorem rmL (l : Launch) (Z : State) (a0 : Array Value) (hw : ∀ d ∈ tables_1, d.before a0 Z = true) (ws : List Jvm.Cond) (rb : Addr) (rt : Int32) (ri : Int32) (rp : Int32) (h0 : Heap) (n0 : Nat) (Z0 : n0 ≤ h0.size) (P0 : Fld Z h0 rb "com/example/haversack/haversack/core/BalancingPolicy" "increment" "I" (.int ri)) (P1 : Fld Z h0 rb "com/example/haversack/haversack/core/BalancingPolicy" "periods" "I" (.int rp)) (hnz : ¬ (((rp.toInt64) + (1 : Int64)) = 0)) :
    MetFree l (⟨"com/example/haversack/haversack/core/BalancingPolicy", "limit", "(I)J"⟩ : MethodName) (head1 (Jvm.Cond.code (⟨"com/example/haversack/haversack/core/BalancingPolicy", "limit", "(I)J"⟩ : MethodName) prog_3_method_2_code 4 (some .long) :: ws) ({ frames := 0, cells := 0, slots := 0, locals := 0 } : Room)) (fun a U => a = #[(.ref rb), (.int rt)] ∧ Z.Warmed39 U.vm ∧ U.heap = h0) (fun _ _ _ _ _ => True) (fun _ U o U' => ∃ v L, o = .returned v ∧ Q_rmL Z rb rt ri rp h0 n0 v U'.heap L ∧ FrameEnd U o U' L ({ frames := 0, cells := 0, slots := 0, locals := 0 } : Room).cells ({ frames := 0, cells := 0, slots := 0, locals := 0 } : Room).slots) := by
  refine MetFree.of_bodySF (plainFor_of_name pn_3) hisR ?_
  intro p e s m args below meth c s₁ Bd hml0 hP hK
  obtain ⟨rfl, hZ, hh⟩ := hP
  have hx := Bd.exec
  have hby := Bd.bytes
  have hml : c.maxLocals = 4 := hml0
  have hown : s.vm.findClass "com/example/haversack/haversack/core/BalancingPolicy" = some m.cls := findClass_of_methodNamed Bd.named
  have hnm := (name_of_methodNamed Bd.named Bd.method).1
  have X0 : Stand p l e ({ frames := 0, cells := 0, slots := 0, locals := 0 } : Room) s m #[(.ref rb), (.int rt)] below meth c s₁ [] 0 0 := Stand.of_body Bd
  have e0 : s₁.heap = h0 := by rw [← hh, Bd.state]; rfl
  have N0 := Fr.nil n0
  have pre0 : ∀ t, Steps p.tables e below (s₁.setTop (mkF m 0 #[.val (.ref rb), .val (.int rt), .unset, .unset] [])) t → Steps p.tables e below (s₁.setTop (entryFrame m #[(.ref rb), (.int rt)] 4)) t := fun t k => castTop (ef_rmL m rb rt) k
  have sg1 : ∀ t, Steps p.tables e below (s₁.setTop (mkF m 6 #[.val (.ref rb), .val (.int rt), .unset, .unset] [(.ref rb), (.long (2 : Int64)), (.long (rt.toInt64))])) t → Steps p.tables e below (s₁.setTop (mkF m 0 #[.val (.ref rb), .val (.int rt), .unset, .unset] [])) t := by
    intro t k
    show Steps p.tables e below (s₁.setTop (mkF m 0 #[.val (.ref rb), .val (.int rt), .unset, .unset] [])) _
    refine XS.iloadN X0.here hx rfl (hb hby d8_0) rfl ?_
    show Steps p.tables e below (s₁.setTop (mkF m 1 #[.val (.ref rb), .val (.int rt), .unset, .unset] [(.int rt)])) _
    refine XS.i2l X0.here hx rfl (hb hby d8_1) rfl ?_
    show Steps p.tables e below (s₁.setTop (mkF m 2 #[.val (.ref rb), .val (.int rt), .unset, .unset] [(.long (rt.toInt64))])) _
    refine X0.ldc2Long hx hown (mvT hZ (hw _ (List.mem_of_getElem? (i := 46) rfl))) (g := (mkF m 2 #[.val (.ref rb), .val (.int rt), .unset, .unset] [(.long (rt.toInt64))])) rfl (hb hby d8_2) _ ?_
    show Steps p.tables e below (s₁.setTop (mkF m 5 #[.val (.ref rb), .val (.int rt), .unset, .unset] [(.long (2 : Int64)), (.long (rt.toInt64))])) _
    refine XS.aloadN X0.here hx rfl (hb hby d8_5) rfl rfl ?_
    exact k
  obtain ⟨T2, X2, e2, st2⟩ := getF X0 hx hZ hown (host := "") (Or.inl (hw _ (List.mem_of_getElem? (i := 33) rfl))) Via.refl e0 P0 (g := (mkF m 6 #[.val (.ref rb), .val (.int rt), .unset, .unset] [(.ref rb), (.long (2 : Int64)), (.long (rt.toInt64))])) rfl rfl (hb hby d8_6)
  have sg3 : ∀ t, Steps p.tables e below (T2.setTop (mkF m 17 #[.val (.ref rb), .val (.int rt), .val (.long ((rt.toInt64) * (((2 : Int64) * (ri.toInt64)) - (1 : Int64)))), .second] [(.ref rb), (.long ((rt.toInt64) * (((2 : Int64) * (ri.toInt64)) - (1 : Int64))))])) t → Steps p.tables e below (T2.setTop (mkF m 9 #[.val (.ref rb), .val (.int rt), .unset, .unset] [(.int ri), (.long (2 : Int64)), (.long (rt.toInt64))])) t := by
    intro t k
    show Steps p.tables e below (T2.setTop (mkF m 9 #[.val (.ref rb), .val (.int rt), .unset, .unset] [(.int ri), (.long (2 : Int64)), (.long (rt.toInt64))])) _
    refine XS.i2l X2.here hx rfl (hb hby d8_9) rfl ?_
    show Steps p.tables e below (T2.setTop (mkF m 10 #[.val (.ref rb), .val (.int rt), .unset, .unset] [(.long (ri.toInt64)), (.long (2 : Int64)), (.long (rt.toInt64))])) _
    refine XS.lmul X2.here hx rfl (hb hby d8_10) rfl ?_
    show Steps p.tables e below (T2.setTop (mkF m 11 #[.val (.ref rb), .val (.int rt), .unset, .unset] [(.long ((2 : Int64) * (ri.toInt64))), (.long (rt.toInt64))])) _
    refine XS.lconst X2.here hx rfl (hb hby d8_11) ?_
    show Steps p.tables e below (T2.setTop (mkF m 12 #[.val (.ref rb), .val (.int rt), .unset, .unset] [(.long (1 : Int64)), (.long ((2 : Int64) * (ri.toInt64))), (.long (rt.toInt64))])) _
    refine XS.lsub X2.here hx rfl (hb hby d8_12) rfl ?_
    show Steps p.tables e below (T2.setTop (mkF m 13 #[.val (.ref rb), .val (.int rt), .unset, .unset] [(.long (((2 : Int64) * (ri.toInt64)) - (1 : Int64))), (.long (rt.toInt64))])) _
    refine XS.lmul X2.here hx rfl (hb hby d8_13) rfl ?_
    show Steps p.tables e below (T2.setTop (mkF m 14 #[.val (.ref rb), .val (.int rt), .unset, .unset] [(.long ((rt.toInt64) * (((2 : Int64) * (ri.toInt64)) - (1 : Int64))))])) _
    refine XS.lstoreN X2.here hx rfl (hb hby d8_14) rfl (l' := #[.val (.ref rb), .val (.int rt), .val (.long ((rt.toInt64) * (((2 : Int64) * (ri.toInt64)) - (1 : Int64)))), .second]) rfl ?_
    show Steps p.tables e below (T2.setTop (mkF m 15 #[.val (.ref rb), .val (.int rt), .val (.long ((rt.toInt64) * (((2 : Int64) * (ri.toInt64)) - (1 : Int64)))), .second] [])) _
    refine XS.lloadN X2.here hx rfl (hb hby d8_15) rfl ?_
    show Steps p.tables e below (T2.setTop (mkF m 16 #[.val (.ref rb), .val (.int rt), .val (.long ((rt.toInt64) * (((2 : Int64) * (ri.toInt64)) - (1 : Int64)))), .second] [(.long ((rt.toInt64) * (((2 : Int64) * (ri.toInt64)) - (1 : Int64))))])) _
    refine XS.aloadN X2.here hx rfl (hb hby d8_16) rfl rfl ?_
    exact k
  obtain ⟨T4, X4, e4, st4⟩ := getF X2 hx hZ hown (host := "") (Or.inl (hw _ (List.mem_of_getElem? (i := 39) rfl))) Via.refl e2 P1 (g := (mkF m 17 #[.val (.ref rb), .val (.int rt), .val (.long ((rt.toInt64) * (((2 : Int64) * (ri.toInt64)) - (1 : Int64)))), .second] [(.ref rb), (.long ((rt.toInt64) * (((2 : Int64) * (ri.toInt64)) - (1 : Int64))))])) rfl rfl (hb hby d8_17)
  have sg5 : ∀ t, Steps p.tables e below (T4.setTop (mkF m 23 #[.val (.ref rb), .val (.int rt), .val (.long ((rt.toInt64) * (((2 : Int64) * (ri.toInt64)) - (1 : Int64)))), .second] [(.ref rb), (.long (((rt.toInt64) * (((2 : Int64) * (ri.toInt64)) - (1 : Int64))) + (rp.toInt64)))])) t → Steps p.tables e below (T4.setTop (mkF m 20 #[.val (.ref rb), .val (.int rt), .val (.long ((rt.toInt64) * (((2 : Int64) * (ri.toInt64)) - (1 : Int64)))), .second] [(.int rp), (.long ((rt.toInt64) * (((2 : Int64) * (ri.toInt64)) - (1 : Int64))))])) t := by
    intro t k
    show Steps p.tables e below (T4.setTop (mkF m 20 #[.val (.ref rb), .val (.int rt), .val (.long ((rt.toInt64) * (((2 : Int64) * (ri.toInt64)) - (1 : Int64)))), .second] [(.int rp), (.long ((rt.toInt64) * (((2 : Int64) * (ri.toInt64)) - (1 : Int64))))])) _
    refine XS.i2l X4.here hx rfl (hb hby d8_20) rfl ?_
    show Steps p.tables e below (T4.setTop (mkF m 21 #[.val (.ref rb), .val (.int rt), .val (.long ((rt.toInt64) * (((2 : Int64) * (ri.toInt64)) - (1 : Int64)))), .second] [(.long (rp.toInt64)), (.long ((rt.toInt64) * (((2 : Int64) * (ri.toInt64)) - (1 : Int64))))])) _
    refine XS.ladd X4.here hx rfl (hb hby d8_21) rfl ?_
    show Steps p.tables e below (T4.setTop (mkF m 22 #[.val (.ref rb), .val (.int rt), .val (.long ((rt.toInt64) * (((2 : Int64) * (ri.toInt64)) - (1 : Int64)))), .second] [(.long (((rt.toInt64) * (((2 : Int64) * (ri.toInt64)) - (1 : Int64))) + (rp.toInt64)))])) _
    refine XS.aloadN X4.here hx rfl (hb hby d8_22) rfl rfl ?_
    exact k
  obtain ⟨T6, X6, e6, st6⟩ := getF X4 hx hZ hown (host := "") (Or.inl (hw _ (List.mem_of_getElem? (i := 39) rfl))) Via.refl e4 P1 (g := (mkF m 23 #[.val (.ref rb), .val (.int rt), .val (.long ((rt.toInt64) * (((2 : Int64) * (ri.toInt64)) - (1 : Int64)))), .second] [(.ref rb), (.long (((rt.toInt64) * (((2 : Int64) * (ri.toInt64)) - (1 : Int64))) + (rp.toInt64)))])) rfl rfl (hb hby d8_23)
  have sg7 : ∀ t, Steps p.tables e below (T6.setTop (mkF m 30 #[.val (.ref rb), .val (.int rt), .val (.long ((rt.toInt64) * (((2 : Int64) * (ri.toInt64)) - (1 : Int64)))), .second] [(.long ((((rt.toInt64) * (((2 : Int64) * (ri.toInt64)) - (1 : Int64))) + (rp.toInt64)) / ((rp.toInt64) + (1 : Int64))))])) t → Steps p.tables e below (T6.setTop (mkF m 26 #[.val (.ref rb), .val (.int rt), .val (.long ((rt.toInt64) * (((2 : Int64) * (ri.toInt64)) - (1 : Int64)))), .second] [(.int rp), (.long (((rt.toInt64) * (((2 : Int64) * (ri.toInt64)) - (1 : Int64))) + (rp.toInt64)))])) t := by
    intro t k
    show Steps p.tables e below (T6.setTop (mkF m 26 #[.val (.ref rb), .val (.int rt), .val (.long ((rt.toInt64) * (((2 : Int64) * (ri.toInt64)) - (1 : Int64)))), .second] [(.int rp), (.long (((rt.toInt64) * (((2 : Int64) * (ri.toInt64)) - (1 : Int64))) + (rp.toInt64)))])) _
    refine XS.i2l X6.here hx rfl (hb hby d8_26) rfl ?_
    show Steps p.tables e below (T6.setTop (mkF m 27 #[.val (.ref rb), .val (.int rt), .val (.long ((rt.toInt64) * (((2 : Int64) * (ri.toInt64)) - (1 : Int64)))), .second] [(.long (rp.toInt64)), (.long (((rt.toInt64) * (((2 : Int64) * (ri.toInt64)) - (1 : Int64))) + (rp.toInt64)))])) _
    refine XS.lconst X6.here hx rfl (hb hby d8_27) ?_
    show Steps p.tables e below (T6.setTop (mkF m 28 #[.val (.ref rb), .val (.int rt), .val (.long ((rt.toInt64) * (((2 : Int64) * (ri.toInt64)) - (1 : Int64)))), .second] [(.long (1 : Int64)), (.long (rp.toInt64)), (.long (((rt.toInt64) * (((2 : Int64) * (ri.toInt64)) - (1 : Int64))) + (rp.toInt64)))])) _
    refine XS.ladd X6.here hx rfl (hb hby d8_28) rfl ?_
    show Steps p.tables e below (T6.setTop (mkF m 29 #[.val (.ref rb), .val (.int rt), .val (.long ((rt.toInt64) * (((2 : Int64) * (ri.toInt64)) - (1 : Int64)))), .second] [(.long ((rp.toInt64) + (1 : Int64))), (.long (((rt.toInt64) * (((2 : Int64) * (ri.toInt64)) - (1 : Int64))) + (rp.toInt64)))])) _
    refine XS.ldiv X6.here hx rfl (hb hby d8_29) rfl hnz ?_
    exact k
  obtain ⟨fs, hr, hrun, hended, hW, hsame⟩ := X6.leave (v := some (.long ((((rt.toInt64) * (((2 : Int64) * (ri.toInt64)) - (1 : Int64))) + (rp.toInt64)) / ((rp.toInt64) + (1 : Int64))))) (fun h => by rw [Bd.returns] at h; cases h)
  refine ⟨_, _, pre0 _ ?_, hrun, hended, _, _, rfl, ?_, ⟨_, rfl⟩, hW, hsame.mono (by decide) (by decide)⟩
  · show Steps p.tables e below (s₁.setTop (mkF m 0 #[.val (.ref rb), .val (.int rt), .unset, .unset] [])) _
    refine sg1 _ ?_
    show Steps p.tables e below (s₁.setTop (mkF m 6 #[.val (.ref rb), .val (.int rt), .unset, .unset] [(.ref rb), (.long (2 : Int64)), (.long (rt.toInt64))])) _
    refine st2 _ ?_
    show Steps p.tables e below (T2.setTop (mkF m 9 #[.val (.ref rb), .val (.int rt), .unset, .unset] [(.int ri), (.long (2 : Int64)), (.long (rt.toInt64))])) _
    refine sg3 _ ?_
    show Steps p.tables e below (T2.setTop (mkF m 17 #[.val (.ref rb), .val (.int rt), .val (.long ((rt.toInt64) * (((2 : Int64) * (ri.toInt64)) - (1 : Int64)))), .second] [(.ref rb), (.long ((rt.toInt64) * (((2 : Int64) * (ri.toInt64)) - (1 : Int64))))])) _
    refine st4 _ ?_
    show Steps p.tables e below (T4.setTop (mkF m 20 #[.val (.ref rb), .val (.int rt), .val (.long ((rt.toInt64) * (((2 : Int64) * (ri.toInt64)) - (1 : Int64)))), .second] [(.int rp), (.long ((rt.toInt64) * (((2 : Int64) * (ri.toInt64)) - (1 : Int64))))])) _
    refine sg5 _ ?_
    show Steps p.tables e below (T4.setTop (mkF m 23 #[.val (.ref rb), .val (.int rt), .val (.long ((rt.toInt64) * (((2 : Int64) * (ri.toInt64)) - (1 : Int64)))), .second] [(.ref rb), (.long (((rt.toInt64) * (((2 : Int64) * (ri.toInt64)) - (1 : Int64))) + (rp.toInt64)))])) _
    refine st6 _ ?_
    show Steps p.tables e below (T6.setTop (mkF m 26 #[.val (.ref rb), .val (.int rt), .val (.long ((rt.toInt64) * (((2 : Int64) * (ri.toInt64)) - (1 : Int64)))), .second] [(.int rp), (.long (((rt.toInt64) * (((2 : Int64) * (ri.toInt64)) - (1 : Int64))) + (rp.toInt64)))])) _
    refine sg7 _ ?_
    show Steps p.tables e below (T6.setTop (mkF m 30 #[.val (.ref rb), .val (.int rt), .val (.long ((rt.toInt64) * (((2 : Int64) * (ri.toInt64)) - (1 : Int64)))), .second] [(.long ((((rt.toInt64) * (((2 : Int64) * (ri.toInt64)) - (1 : Int64))) + (rp.toInt64)) / ((rp.toInt64) + (1 : Int64))))])) _
    jvm_step X6.here [X6.here.top, hx, (hb hby d8_30), X6.method', Bd.returns, narrow]
    first | (intro acts; rw [hr _ acts rfl rfl rfl]) | rw [hr _ _ rfl rfl rfl]
    exact Steps.refl _
  · show Q_rmL Z rb rt ri rp h0 n0 _ T6.heap _
    rw [e6]
    exact ⟨rfl, N0, rfl⟩
section Own
open Jvm.Kit
theorem own_mul_le {a b x y : Int} (ha : 0 ≤ a) (hx : 0 ≤ x) (h1 : a ≤ b) (h2 : x ≤ y) : a * x ≤ b * y :=
  Int.le_trans (Int.mul_le_mul_of_nonneg_right h1 hx) (Int.mul_le_mul_of_nonneg_left h2 (Int.le_trans ha h1))
theorem own_div {S d : Int} (hd : 0 < d) (hS : 0 ≤ S) : 0 ≤ (S + (d - 1)) / d ∧ (S + (d - 1)) / d * d ≤ S + (d - 1) ∧ S ≤ (S + (d - 1)) / d * d ∧ (S + (d - 1)) / d ≤ S := by
  have h1 := Int.mul_ediv_add_emod (S + (d - 1)) d
  have h2 := Int.emod_nonneg (S + (d - 1)) (Int.ne_of_gt hd)
  have h3 := Int.emod_lt_of_pos (S + (d - 1)) hd
  have h4 : 0 ≤ (S + (d - 1)) / d := Int.ediv_nonneg (by omega) (by omega)
  have h5 : (S + (d - 1)) / d ≤ S := by
    rcases Int.lt_or_eq_of_le hS with h | h
    · apply Int.ediv_le_of_le_mul hd
      have : S * 1 ≤ S * d := Int.mul_le_mul_of_nonneg_left (by omega) hS
      have : 1 * (d - 1) ≤ S * (d - 1) := Int.mul_le_mul_of_nonneg_right (by omega) (by omega)
      have e : S * (d - 1) = S * d - S := by rw [Int.mul_sub, Int.mul_one]
      omega
    · rw [← h]
      rw [Int.zero_add, Int.ediv_eq_zero_of_lt (by omega) (by omega)]
      exact Int.le_refl _
  rw [Int.mul_comm d] at h1
  refine ⟨h4, by omega, by omega, h5⟩
/-- the whole arithmetic of the law, in plain numbers -/
theorem own_all (t i q : Int32) (ht : 0 ≤ t.toInt) (hi : 1 ≤ i.toInt) (hq : 1 ≤ q.toInt) :
    let sh : Int64 := t.toInt64 * ((2 : Int64) * i.toInt64 - (1 : Int64))
    let d : Int64 := q.toInt64 + (1 : Int64)
    let r : Int64 := (sh + q.toInt64) / (q.toInt64 + (1 : Int64))
    ¬ (r < 0) ∧ ¬ (sh < r) ∧ (r - 1) * d < sh ∧ ¬ (r * d < sh) := by
  have bt := t.toInt_lt; have bi := i.toInt_lt; have bq := q.toInt_lt
  intro sh d r
  have l1 : (1 : Int64).toInt = 1 := rfl
  have l2 : (2 : Int64).toInt = 2 := rfl
  have l0 : (0 : Int64).toInt = 0 := rfl
  have ti := i64_of_i32 t; have ii := i64_of_i32 i; have qi := i64_of_i32 q
  have e1 : ((2 : Int64) * i.toInt64).toInt = 2 * i.toInt := by rw [i64_mul (by rw [l2, ii]; omega) (by rw [l2, ii]; omega), l2, ii]
  have e2 : ((2 : Int64) * i.toInt64 - 1).toInt = 2 * i.toInt - 1 := by rw [i64_sub (by rw [e1, l1]; omega) (by rw [e1, l1]; omega), e1, l1]
  have m1 : t.toInt * (2 * i.toInt - 1) ≤ 2147483647 * 4294967293 := own_mul_le ht (by omega) (by omega) (by omega)
  have m0 : 0 ≤ t.toInt * (2 * i.toInt - 1) := Int.mul_nonneg ht (by omega)
  have e3 : sh.toInt = t.toInt * (2 * i.toInt - 1) := by
    show (t.toInt64 * ((2 : Int64) * i.toInt64 - (1 : Int64))).toInt = _
    rw [i64_mul (by rw [ti, e2]; omega) (by rw [ti, e2]; omega), ti, e2]
  generalize t.toInt * (2 * i.toInt - 1) = S at *
  have e4 : d.toInt = q.toInt + 1 := by show (q.toInt64 + (1 : Int64)).toInt = _; rw [i64_add (by rw [qi, l1]; omega) (by rw [qi, l1]; omega), qi, l1]
  have e5 : (sh + q.toInt64).toInt = S + q.toInt := by rw [i64_add (by rw [e3, qi]; omega) (by rw [e3, qi]; omega), e3, qi]
  obtain ⟨v1, v2, v3, v4⟩ := own_div (S := S) (d := q.toInt + 1) (by omega) m0
  rw [show q.toInt + 1 - 1 = q.toInt by omega] at v1 v2 v3 v4
  have e6 : r.toInt = (S + q.toInt) / (q.toInt + 1) := by
    show ((sh + q.toInt64) / d).toInt = _
    rw [i64_div (by rw [e4]; omega), e5, e4, Int.tdiv_eq_ediv_of_nonneg (by omega)]
  generalize (S + q.toInt) / (q.toInt + 1) = r0 at *
  have e7 : (r - 1).toInt = r0 - 1 := by rw [i64_sub (by rw [e6, l1]; omega) (by rw [e6, l1]; omega), e6, l1]
  have x1 : (r0 - 1) * (q.toInt + 1) = r0 * (q.toInt + 1) - (q.toInt + 1) := by rw [Int.sub_mul, Int.one_mul]
  have x0 : 0 ≤ r0 * (q.toInt + 1) := Int.mul_nonneg v1 (by omega)
  have e8 : ((r - 1) * d).toInt = r0 * (q.toInt + 1) - (q.toInt + 1) := by rw [i64_mul (by rw [e7, e4, x1]; omega) (by rw [e7, e4, x1]; omega), e7, e4, x1]
  have e9 : (r * d).toInt = r0 * (q.toInt + 1) := by rw [i64_mul (by rw [e6, e4]; omega) (by rw [e6, e4]; omega), e6, e4]
  refine ⟨?_, ?_, ?_, ?_⟩
  · rw [Int64.lt_iff_toInt_lt, e6, l0]; omega
  · rw [Int64.lt_iff_toInt_lt, e3, e6]; omega
  · rw [Int64.lt_iff_toInt_lt, e8, e3]; omega
  · rw [Int64.lt_iff_toInt_lt, e9, e3]; omega
theorem own_nz (q : Int32) (h1 : 1 ≤ q.toInt) : ¬ ((q.toInt64 + (1 : Int64)) = 0) := by
  intro h
  have l1 : (1 : Int64).toInt = 1 := rfl
  have l0 : (0 : Int64).toInt = 0 := rfl
  have bq := q.toInt_lt
  have qi := i64_of_i32 q
  have e4 : (q.toInt64 + (1 : Int64)).toInt = q.toInt + 1 := by rw [i64_add (by rw [qi, l1]; omega) (by rw [qi, l1]; omega), qi, l1]
  rw [h, l0] at e4
  omega
theorem own_t (x : Int32) : 0 ≤ (x &&& (2147483647 : Int32)).toInt := by
  have e := Jvm.Kit.i32_mask x 2147483647 (k := 31) (by decide) (by decide)
  omega
end Own
def Q0 (Z : State) (p1 p2 p3 : Int32) (h0 : Heap) (n0 : Nat) (v : Option Value) (h : Heap) (L : List Loc) : Prop := v = some (.int 1) ∧ Fr n0 L
theorem pd_3 : parseMethodDescriptor "(II)I" = some ⟨[.int, .int], some .int⟩ := by decide +kernel
theorem pd_4 : parseMethodDescriptor "(I)V" = some ⟨[.int], none⟩ := by decide +kernel
theorem pd_5 : parseMethodDescriptor "(Lcom/example/haversack/haversack/core/IncrementalCapacity;I)V" = some ⟨[(.object "com/example/haversack/haversack/core/IncrementalCapacity"), .int], none⟩ := by decide +kernel
theorem pd_6 : parseMethodDescriptor "(I)J" = some ⟨[.int], some .long⟩ := by decide +kernel
theorem pn_4 : plainName "com/example/haversack/haversack/core/BalancingPolicyLimitPinLaw" = true := by first | (simp [plainName, overriddenIn]; done) | decide +kernel
theorem ef_rm0 (m : MethodId) (x0 : Int32) (x1 : Int32) (x2 : Int32) : entryFrame m #[(.int x0), (.int x1), (.int x2)] maxLocals = mkF m 0 #[.val (.int x0), .val (.int x1), .val (.int x2), .unset, .unset, .unset, .unset, .unset, .unset, .unset, .unset, .unset, .unset] [] := by first | (simp [entryFrame, mkF, argsToLocals, Value.category, maxLocals]; done) | rfl
set_option maxRecDepth 65536 in
set_option maxHeartbeats 40000000 in
theorem rm0 (l : Launch) (Z : State) (a0 : Array Value) (hw : ∀ d ∈ tables_1, d.before a0 Z = true) (ws : List Jvm.Cond) (p1 : Int32) (p2 : Int32) (p3 : Int32)  (h0 : Heap) (n0 : Nat) (Z0 : n0 ≤ h0.size)  :
    MetFree l x (head1 (Jvm.Cond.code x code maxLocals ret :: ws) room_1) (fun a U => a = #[(.int p1), (.int p2), (.int p3)] ∧ Z.Warmed39 U.vm ∧ U.heap = h0) (fun _ _ _ _ _ => True) (fun _ U o U' => ∃ v L, o = .returned v ∧ Q0 Z p1 p2 p3 h0 n0 v U'.heap L ∧ FrameEnd U o U' L 16 128) := by
  refine MetFree.of_bodySF (plainFor_of_name pn_4) hisR ?_
  intro p e s m args below meth c s₁ Bd hml0 hP hK
  obtain ⟨rfl, hZ, hh⟩ := hP
  have hx := Bd.exec
  have hby := Bd.bytes
  have hml : c.maxLocals = 13 := hml0
  have hown : s.vm.findClass "com/example/haversack/haversack/core/BalancingPolicyLimitPinLaw" = some m.cls := findClass_of_methodNamed Bd.named
  have hnm := (name_of_methodNamed Bd.named Bd.method).1
  have X0 : Stand p l e room_1 s m #[(.int p1), (.int p2), (.int p3)] below meth c s₁ [] 0 0 := Stand.of_body Bd
  have e0 : s₁.heap = h0 := by rw [← hh, Bd.state]; rfl
  have N0 := Fr.nil n0
  have pre0 : ∀ t, Steps p.tables e below (s₁.setTop (mkF m 0 #[.val (.int p1), .val (.int p2), .val (.int p3), .unset, .unset, .unset, .unset, .unset, .unset, .unset, .unset, .unset, .unset] [])) t → Steps p.tables e below (s₁.setTop (entryFrame m #[(.int p1), (.int p2), (.int p3)] maxLocals)) t := fun t k => castTop (ef_rm0 m p1 p2 p3) k
  have sg1 : ∀ t, Steps p.tables e below (s₁.setTop (mkF m 10 #[.val (.int p1), .val (.int p2), .val (.int p3), .val (.int (p1 &&& (2147483647 : Int32))), .unset, .unset, .unset, .unset, .unset, .unset, .unset, .unset, .unset] [(.int (p2 &&& (2147483647 : Int32))), (.int (1 : Int32))])) t → Steps p.tables e below (s₁.setTop (mkF m 0 #[.val (.int p1), .val (.int p2), .val (.int p3), .unset, .unset, .unset, .unset, .unset, .unset, .unset, .unset, .unset, .unset] [])) t := by
    intro t k
    show Steps p.tables e below (s₁.setTop (mkF m 0 #[.val (.int p1), .val (.int p2), .val (.int p3), .unset, .unset, .unset, .unset, .unset, .unset, .unset, .unset, .unset, .unset] [])) _
    refine XS.iloadN X0.here hx rfl (hb hby at_0) rfl ?_
    show Steps p.tables e below (s₁.setTop (mkF m 1 #[.val (.int p1), .val (.int p2), .val (.int p3), .unset, .unset, .unset, .unset, .unset, .unset, .unset, .unset, .unset, .unset] [(.int p1)])) _
    refine X0.ldcInt hx hown (mvT hZ (hw _ (List.mem_of_getElem? (i := 0) rfl))) (g := (mkF m 1 #[.val (.int p1), .val (.int p2), .val (.int p3), .unset, .unset, .unset, .unset, .unset, .unset, .unset, .unset, .unset, .unset] [(.int p1)])) rfl (hb hby at_1) _ ?_
    show Steps p.tables e below (s₁.setTop (mkF m 3 #[.val (.int p1), .val (.int p2), .val (.int p3), .unset, .unset, .unset, .unset, .unset, .unset, .unset, .unset, .unset, .unset] [(.int (2147483647 : Int32)), (.int p1)])) _
    refine XS.iand X0.here hx rfl (hb hby at_3) rfl ?_
    show Steps p.tables e below (s₁.setTop (mkF m 4 #[.val (.int p1), .val (.int p2), .val (.int p3), .unset, .unset, .unset, .unset, .unset, .unset, .unset, .unset, .unset, .unset] [(.int (p1 &&& (2147483647 : Int32)))])) _
    refine XS.istoreN X0.here hx rfl (hb hby at_4) rfl (l' := #[.val (.int p1), .val (.int p2), .val (.int p3), .val (.int (p1 &&& (2147483647 : Int32))), .unset, .unset, .unset, .unset, .unset, .unset, .unset, .unset, .unset]) rfl ?_
    show Steps p.tables e below (s₁.setTop (mkF m 5 #[.val (.int p1), .val (.int p2), .val (.int p3), .val (.int (p1 &&& (2147483647 : Int32))), .unset, .unset, .unset, .unset, .unset, .unset, .unset, .unset, .unset] [])) _
    refine XS.iconst X0.here hx rfl (hb hby at_5) ?_
    show Steps p.tables e below (s₁.setTop (mkF m 6 #[.val (.int p1), .val (.int p2), .val (.int p3), .val (.int (p1 &&& (2147483647 : Int32))), .unset, .unset, .unset, .unset, .unset, .unset, .unset, .unset, .unset] [(.int (1 : Int32))])) _
    refine XS.iloadN X0.here hx rfl (hb hby at_6) rfl ?_
    show Steps p.tables e below (s₁.setTop (mkF m 7 #[.val (.int p1), .val (.int p2), .val (.int p3), .val (.int (p1 &&& (2147483647 : Int32))), .unset, .unset, .unset, .unset, .unset, .unset, .unset, .unset, .unset] [(.int p2), (.int (1 : Int32))])) _
    refine X0.ldcInt hx hown (mvT hZ (hw _ (List.mem_of_getElem? (i := 0) rfl))) (g := (mkF m 7 #[.val (.int p1), .val (.int p2), .val (.int p3), .val (.int (p1 &&& (2147483647 : Int32))), .unset, .unset, .unset, .unset, .unset, .unset, .unset, .unset, .unset] [(.int p2), (.int (1 : Int32))])) rfl (hb hby at_7) _ ?_
    show Steps p.tables e below (s₁.setTop (mkF m 9 #[.val (.int p1), .val (.int p2), .val (.int p3), .val (.int (p1 &&& (2147483647 : Int32))), .unset, .unset, .unset, .unset, .unset, .unset, .unset, .unset, .unset] [(.int (2147483647 : Int32)), (.int p2), (.int (1 : Int32))])) _
    refine XS.iand X0.here hx rfl (hb hby at_9) rfl ?_
    exact k
  obtain ⟨_, _, ⟨T2, L2, k2, n2⟩, -, X2, ⟨Lc2, hQ2, l2, y2, z2⟩, st2⟩ := Jvm.LawKit.callS X0 hx (y := (⟨"java/lang/Math", "max", "(II)I"⟩ : MethodName)) hown (mvT hZ (hw _ (List.mem_of_getElem? (i := 1) rfl))) (mvT hZ (hw _ (List.mem_of_getElem? (i := 2) rfl))) (mvT hZ (hw _ (List.mem_of_getElem? (i := 3) rfl))) (mvT hZ (hw _ (List.mem_of_getElem? (i := 4) rfl))) (by decide) (backOf (W := 0) (rmM l Z a0 hw [] (1 : Int32) (p2 &&& (2147483647 : Int32)) h0 n0 Z0) hZ (hw _ (List.mem_of_getElem? (i := 4) rfl)) (hw _ (List.mem_of_getElem? (i := 3) rfl)) (by decide) (by decide)) (g := (mkF m 10 #[.val (.int p1), .val (.int p2), .val (.int p3), .val (.int (p1 &&& (2147483647 : Int32))), .unset, .unset, .unset, .unset, .unset, .unset, .unset, .unset, .unset] [(.int (p2 &&& (2147483647 : Int32))), (.int (1 : Int32))])) rfl (by rw [hml]; rfl) (argsL := [(.int (1 : Int32)), (.int (p2 &&& (2147483647 : Int32)))]) (rest := []) (lenOf pd_3 rfl) rfl (by show 2 * 0 + _ ≤ _; exact Nat.le_of_eq rfl) (hb hby at_10) (fun _ _ => ⟨rfl, e0, (by decide : 0 + 0 ≤ _), (by decide : 0 + 0 ≤ _)⟩)
  dsimp only [Pt.U, Pt.locs, Pt.cells, Pt.slots] at X2 l2 y2 z2 st2 hQ2
  subst l2 y2 z2
  obtain ⟨rfl, N2q, e2⟩ := hQ2
  have N2 := Fr.app N0 N2q
  have sg3 : ∀ t, Steps p.tables e below (T2.setTop (mkF m 20 #[.val (.int p1), .val (.int p2), .val (.int p3), .val (.int (p1 &&& (2147483647 : Int32))), .val (.int (fM (1 : Int32) (p2 &&& (2147483647 : Int32)))), .unset, .unset, .unset, .unset, .unset, .unset, .unset, .unset] [(.int (p3 &&& (2147483647 : Int32))), (.int (1 : Int32))])) t → Steps p.tables e below (T2.setTop (mkF m 13 #[.val (.int p1), .val (.int p2), .val (.int p3), .val (.int (p1 &&& (2147483647 : Int32))), .unset, .unset, .unset, .unset, .unset, .unset, .unset, .unset, .unset] [(.int (fM (1 : Int32) (p2 &&& (2147483647 : Int32))))])) t := by
    intro t k
    show Steps p.tables e below (T2.setTop (mkF m 13 #[.val (.int p1), .val (.int p2), .val (.int p3), .val (.int (p1 &&& (2147483647 : Int32))), .unset, .unset, .unset, .unset, .unset, .unset, .unset, .unset, .unset] [(.int (fM (1 : Int32) (p2 &&& (2147483647 : Int32))))])) _
    refine XS.istore X2.here hx rfl (hb hby at_13) rfl (l' := #[.val (.int p1), .val (.int p2), .val (.int p3), .val (.int (p1 &&& (2147483647 : Int32))), .val (.int (fM (1 : Int32) (p2 &&& (2147483647 : Int32)))), .unset, .unset, .unset, .unset, .unset, .unset, .unset, .unset]) rfl ?_
    show Steps p.tables e below (T2.setTop (mkF m 15 #[.val (.int p1), .val (.int p2), .val (.int p3), .val (.int (p1 &&& (2147483647 : Int32))), .val (.int (fM (1 : Int32) (p2 &&& (2147483647 : Int32)))), .unset, .unset, .unset, .unset, .unset, .unset, .unset, .unset] [])) _
    refine XS.iconst X2.here hx rfl (hb hby at_15) ?_
    show Steps p.tables e below (T2.setTop (mkF m 16 #[.val (.int p1), .val (.int p2), .val (.int p3), .val (.int (p1 &&& (2147483647 : Int32))), .val (.int (fM (1 : Int32) (p2 &&& (2147483647 : Int32)))), .unset, .unset, .unset, .unset, .unset, .unset, .unset, .unset] [(.int (1 : Int32))])) _
    refine XS.iloadN X2.here hx rfl (hb hby at_16) rfl ?_
    show Steps p.tables e below (T2.setTop (mkF m 17 #[.val (.int p1), .val (.int p2), .val (.int p3), .val (.int (p1 &&& (2147483647 : Int32))), .val (.int (fM (1 : Int32) (p2 &&& (2147483647 : Int32)))), .unset, .unset, .unset, .unset, .unset, .unset, .unset, .unset] [(.int p3), (.int (1 : Int32))])) _
    refine X2.ldcInt hx hown (mvT hZ (hw _ (List.mem_of_getElem? (i := 0) rfl))) (g := (mkF m 17 #[.val (.int p1), .val (.int p2), .val (.int p3), .val (.int (p1 &&& (2147483647 : Int32))), .val (.int (fM (1 : Int32) (p2 &&& (2147483647 : Int32)))), .unset, .unset, .unset, .unset, .unset, .unset, .unset, .unset] [(.int p3), (.int (1 : Int32))])) rfl (hb hby at_17) _ ?_
    show Steps p.tables e below (T2.setTop (mkF m 19 #[.val (.int p1), .val (.int p2), .val (.int p3), .val (.int (p1 &&& (2147483647 : Int32))), .val (.int (fM (1 : Int32) (p2 &&& (2147483647 : Int32)))), .unset, .unset, .unset, .unset, .unset, .unset, .unset, .unset] [(.int (2147483647 : Int32)), (.int p3), (.int (1 : Int32))])) _
    refine XS.iand X2.here hx rfl (hb hby at_19) rfl ?_
    exact k
  obtain ⟨_, _, ⟨T4, L4, k4, n4⟩, -, X4, ⟨Lc4, hQ4, l4, y4, z4⟩, st4⟩ := Jvm.LawKit.callS X2 hx (y := (⟨"java/lang/Math", "max", "(II)I"⟩ : MethodName)) hown (mvT hZ (hw _ (List.mem_of_getElem? (i := 1) rfl))) (mvT hZ (hw _ (List.mem_of_getElem? (i := 2) rfl))) (mvT hZ (hw _ (List.mem_of_getElem? (i := 3) rfl))) (mvT hZ (hw _ (List.mem_of_getElem? (i := 4) rfl))) (by decide) (backOf (W := 0) (rmM l Z a0 hw [] (1 : Int32) (p3 &&& (2147483647 : Int32)) h0 n0 Z0) hZ (hw _ (List.mem_of_getElem? (i := 4) rfl)) (hw _ (List.mem_of_getElem? (i := 3) rfl)) (by decide) (by decide)) (g := (mkF m 20 #[.val (.int p1), .val (.int p2), .val (.int p3), .val (.int (p1 &&& (2147483647 : Int32))), .val (.int (fM (1 : Int32) (p2 &&& (2147483647 : Int32)))), .unset, .unset, .unset, .unset, .unset, .unset, .unset, .unset] [(.int (p3 &&& (2147483647 : Int32))), (.int (1 : Int32))])) rfl (by rw [hml]; rfl) (argsL := [(.int (1 : Int32)), (.int (p3 &&& (2147483647 : Int32)))]) (rest := []) (lenOf pd_3 rfl) rfl (by show 2 * 0 + _ ≤ _; exact Nat.le_of_eq rfl) (hb hby at_20) (fun _ _ => ⟨rfl, e2, (by decide : 0 + 0 ≤ _), (by decide : 0 + 0 ≤ _)⟩)
  dsimp only [Pt.U, Pt.locs, Pt.cells, Pt.slots] at X4 l4 y4 z4 st4 hQ4
  subst l4 y4 z4
  obtain ⟨rfl, N4q, e4⟩ := hQ4
  have N4 := Fr.app N2 N4q
  have sg5 : ∀ t, Steps p.tables e below (T4.setTop (mkF m 25 #[.val (.int p1), .val (.int p2), .val (.int p3), .val (.int (p1 &&& (2147483647 : Int32))), .val (.int (fM (1 : Int32) (p2 &&& (2147483647 : Int32)))), .val (.int (fM (1 : Int32) (p3 &&& (2147483647 : Int32)))), .unset, .unset, .unset, .unset, .unset, .unset, .unset] [])) t → Steps p.tables e below (T4.setTop (mkF m 23 #[.val (.int p1), .val (.int p2), .val (.int p3), .val (.int (p1 &&& (2147483647 : Int32))), .val (.int (fM (1 : Int32) (p2 &&& (2147483647 : Int32)))), .unset, .unset, .unset, .unset, .unset, .unset, .unset, .unset] [(.int (fM (1 : Int32) (p3 &&& (2147483647 : Int32))))])) t := by
    intro t k
    show Steps p.tables e below (T4.setTop (mkF m 23 #[.val (.int p1), .val (.int p2), .val (.int p3), .val (.int (p1 &&& (2147483647 : Int32))), .val (.int (fM (1 : Int32) (p2 &&& (2147483647 : Int32)))), .unset, .unset, .unset, .unset, .unset, .unset, .unset, .unset] [(.int (fM (1 : Int32) (p3 &&& (2147483647 : Int32))))])) _
    refine XS.istore X4.here hx rfl (hb hby at_23) rfl (l' := #[.val (.int p1), .val (.int p2), .val (.int p3), .val (.int (p1 &&& (2147483647 : Int32))), .val (.int (fM (1 : Int32) (p2 &&& (2147483647 : Int32)))), .val (.int (fM (1 : Int32) (p3 &&& (2147483647 : Int32)))), .unset, .unset, .unset, .unset, .unset, .unset, .unset]) rfl ?_
    exact k
  obtain ⟨T6, h6, X6, e6, E6, A6, D6, -, st6⟩ := newO X4 hx hZ hown (hw _ (List.mem_of_getElem? (i := 5) rfl)) (hw _ (List.mem_of_getElem? (i := 6) rfl)) (hw _ (List.mem_of_getElem? (i := 7) rfl)) e4 (g := (mkF m 25 #[.val (.int p1), .val (.int p2), .val (.int p3), .val (.int (p1 &&& (2147483647 : Int32))), .val (.int (fM (1 : Int32) (p2 &&& (2147483647 : Int32)))), .val (.int (fM (1 : Int32) (p3 &&& (2147483647 : Int32)))), .unset, .unset, .unset, .unset, .unset, .unset, .unset] [])) rfl (hb hby at_25) (by decide) (by decide)
  obtain ⟨b6, g6⟩ : ∃ z, z = h0.size := ⟨_, rfl⟩
  rw [← g6] at A6 D6 st6
  have gn_b6 : n0 ≤ b6 := Nat.le_trans Z0 (Nat.le_of_eq g6.symm)
  have z7 : n0 ≤ h6.size := Nat.le_trans Z0 E6.1
  have f8 : Fld Z h6 b6 "com/example/haversack/haversack/core/BalancingPolicy" "increment" "I" (.int (0 : Int32)) := D6 (Or.inr (hw _ (List.mem_of_getElem? (i := 34) rfl))) (ty := .int) (by decide)
  have f9 : Fld Z h6 b6 "com/example/haversack/haversack/core/BalancingPolicy" "periods" "I" (.int (0 : Int32)) := D6 (Or.inr (hw _ (List.mem_of_getElem? (i := 40) rfl))) (ty := .int) (by decide)
  have sg10 : ∀ t, Steps p.tables e below (T6.setTop (mkF m 29 #[.val (.int p1), .val (.int p2), .val (.int p3), .val (.int (p1 &&& (2147483647 : Int32))), .val (.int (fM (1 : Int32) (p2 &&& (2147483647 : Int32)))), .val (.int (fM (1 : Int32) (p3 &&& (2147483647 : Int32)))), .unset, .unset, .unset, .unset, .unset, .unset, .unset] [(.ref b6), (.ref b6)])) t → Steps p.tables e below (T6.setTop (mkF m 28 #[.val (.int p1), .val (.int p2), .val (.int p3), .val (.int (p1 &&& (2147483647 : Int32))), .val (.int (fM (1 : Int32) (p2 &&& (2147483647 : Int32)))), .val (.int (fM (1 : Int32) (p3 &&& (2147483647 : Int32)))), .unset, .unset, .unset, .unset, .unset, .unset, .unset] [(.ref b6)])) t := by
    intro t k
    show Steps p.tables e below (T6.setTop (mkF m 28 #[.val (.int p1), .val (.int p2), .val (.int p3), .val (.int (p1 &&& (2147483647 : Int32))), .val (.int (fM (1 : Int32) (p2 &&& (2147483647 : Int32)))), .val (.int (fM (1 : Int32) (p3 &&& (2147483647 : Int32)))), .unset, .unset, .unset, .unset, .unset, .unset, .unset] [(.ref b6)])) _
    refine XS.dup X6.here hx rfl (hb hby at_28) rfl rfl ?_
    exact k
  obtain ⟨T11, h11, X11, e11, E11, A11, D11, -, st11⟩ := newO X6 hx hZ hown (hw _ (List.mem_of_getElem? (i := 8) rfl)) (hw _ (List.mem_of_getElem? (i := 9) rfl)) (hw _ (List.mem_of_getElem? (i := 10) rfl)) e6 (g := (mkF m 29 #[.val (.int p1), .val (.int p2), .val (.int p3), .val (.int (p1 &&& (2147483647 : Int32))), .val (.int (fM (1 : Int32) (p2 &&& (2147483647 : Int32)))), .val (.int (fM (1 : Int32) (p3 &&& (2147483647 : Int32)))), .unset, .unset, .unset, .unset, .unset, .unset, .unset] [(.ref b6), (.ref b6)])) rfl (hb hby at_29) (by decide) (by decide)
  obtain ⟨b11, g11⟩ : ∃ z, z = h6.size := ⟨_, rfl⟩
  rw [← g11] at A11 D11 st11
  have ne12 : b6 ≠ b11 := Nat.ne_of_lt (Nat.lt_of_lt_of_le A6.lt (Nat.le_of_eq g11.symm))
  have gn_b11 : n0 ≤ b11 := Nat.le_trans z7 (Nat.le_of_eq g11.symm)
  have f13 : Exa Z h11 b6 "com/example/haversack/haversack/core/BalancingPolicy" := A6.ext E11
  have f14 : Fld Z h11 b6 "com/example/haversack/haversack/core/BalancingPolicy" "increment" "I" (.int (0 : Int32)) := f8.ext E11
  have f15 : Fld Z h11 b6 "com/example/haversack/haversack/core/BalancingPolicy" "periods" "I" (.int (0 : Int32)) := f9.ext E11
  have z16 : n0 ≤ h11.size := Nat.le_trans z7 E11.1
  have f17 : Fld Z h11 b11 "com/example/haversack/haversack/core/IncrementalCapacity" "increment" "I" (.int (0 : Int32)) := D11 (Or.inr (hw _ (List.mem_of_getElem? (i := 23) rfl))) (ty := .int) (by decide)
  have sg18 : ∀ t, Steps p.tables e below (T11.setTop (mkF m 35 #[.val (.int p1), .val (.int p2), .val (.int p3), .val (.int (p1 &&& (2147483647 : Int32))), .val (.int (fM (1 : Int32) (p2 &&& (2147483647 : Int32)))), .val (.int (fM (1 : Int32) (p3 &&& (2147483647 : Int32)))), .unset, .unset, .unset, .unset, .unset, .unset, .unset] [(.int (fM (1 : Int32) (p2 &&& (2147483647 : Int32)))), (.ref b11), (.ref b11), (.ref b6), (.ref b6)])) t → Steps p.tables e below (T11.setTop (mkF m 32 #[.val (.int p1), .val (.int p2), .val (.int p3), .val (.int (p1 &&& (2147483647 : Int32))), .val (.int (fM (1 : Int32) (p2 &&& (2147483647 : Int32)))), .val (.int (fM (1 : Int32) (p3 &&& (2147483647 : Int32)))), .unset, .unset, .unset, .unset, .unset, .unset, .unset] [(.ref b11), (.ref b6), (.ref b6)])) t := by
    intro t k
    show Steps p.tables e below (T11.setTop (mkF m 32 #[.val (.int p1), .val (.int p2), .val (.int p3), .val (.int (p1 &&& (2147483647 : Int32))), .val (.int (fM (1 : Int32) (p2 &&& (2147483647 : Int32)))), .val (.int (fM (1 : Int32) (p3 &&& (2147483647 : Int32)))), .unset, .unset, .unset, .unset, .unset, .unset, .unset] [(.ref b11), (.ref b6), (.ref b6)])) _
    refine XS.dup X11.here hx rfl (hb hby at_32) rfl rfl ?_
    show Steps p.tables e below (T11.setTop (mkF m 33 #[.val (.int p1), .val (.int p2), .val (.int p3), .val (.int (p1 &&& (2147483647 : Int32))), .val (.int (fM (1 : Int32) (p2 &&& (2147483647 : Int32)))), .val (.int (fM (1 : Int32) (p3 &&& (2147483647 : Int32)))), .unset, .unset, .unset, .unset, .unset, .unset, .unset] [(.ref b11), (.ref b11), (.ref b6), (.ref b6)])) _
    refine XS.iload X11.here hx rfl (hb hby at_33) rfl ?_
    exact k
  obtain ⟨_, _, ⟨T19, L19, k19, n19⟩, -, X19, ⟨Lc19, hQ19, l19, y19, z19⟩, st19⟩ := X11.specialBack hx (y := (⟨"com/example/haversack/haversack/core/IncrementalCapacity", "<init>", "(I)V"⟩ : MethodName)) rfl hown (mvT hZ (hw _ (List.mem_of_getElem? (i := 11) rfl))) (mvT hZ (hw _ (List.mem_of_getElem? (i := 12) rfl))) (mvT hZ (hw _ (List.mem_of_getElem? (i := 13) rfl))) (by decide) (backOf (W := 3) (rmI l Z a0 hw [] b11 (fM (1 : Int32) (p2 &&& (2147483647 : Int32))) h11 n0 z16 A11 f17 gn_b11 (own_pos _)) hZ (hw _ (List.mem_of_getElem? (i := 13) rfl)) (hw _ (List.mem_of_getElem? (i := 10) rfl)) (by decide) (by decide)) (g := (mkF m 35 #[.val (.int p1), .val (.int p2), .val (.int p3), .val (.int (p1 &&& (2147483647 : Int32))), .val (.int (fM (1 : Int32) (p2 &&& (2147483647 : Int32)))), .val (.int (fM (1 : Int32) (p3 &&& (2147483647 : Int32)))), .unset, .unset, .unset, .unset, .unset, .unset, .unset] [(.int (fM (1 : Int32) (p2 &&& (2147483647 : Int32)))), (.ref b11), (.ref b11), (.ref b6), (.ref b6)])) rfl (by rw [hml]; rfl) (Steps.refl _) (a := b11) (argsL := [(.int (fM (1 : Int32) (p2 &&& (2147483647 : Int32))))]) (rest := [(.ref b11), (.ref b6), (.ref b6)]) (lenOf pd_4 rfl) rfl (by show 2 * 0 + _ ≤ _; exact Nat.le_of_eq rfl) (hb hby at_35) (fun _ _ => ⟨rfl, e11, (by decide : 2 + 0 ≤ _), (by decide : 3 + 0 ≤ _)⟩)
  dsimp only [Pt.U, Pt.locs, Pt.cells, Pt.slots] at X19 l19 y19 z19 st19 hQ19
  subst l19 y19 z19
  obtain ⟨rfl, N19q, KQ19, Q19f0⟩ := hQ19
  have N19 := Fr.app N4 N19q
  have f20 : Exa Z T19.heap b6 "com/example/haversack/haversack/core/BalancingPolicy" := f13.keep KQ19
  have f21 : Fld Z T19.heap b6 "com/example/haversack/haversack/core/BalancingPolicy" "increment" "I" (.int (0 : Int32)) := f14.keep KQ19 (ninS ne12 nin0)
  have f22 : Fld Z T19.heap b6 "com/example/haversack/haversack/core/BalancingPolicy" "periods" "I" (.int (0 : Int32)) := f15.keep KQ19 (ninS ne12 nin0)
  have f23 : Exa Z T19.heap b11 "com/example/haversack/haversack/core/IncrementalCapacity" := A11.keep KQ19
  have z24 : n0 ≤ T19.heap.size := Nat.le_trans z16 KQ19.1
  have sg25 : ∀ t, Steps p.tables e below (T19.setTop (mkF m 40 #[.val (.int p1), .val (.int p2), .val (.int p3), .val (.int (p1 &&& (2147483647 : Int32))), .val (.int (fM (1 : Int32) (p2 &&& (2147483647 : Int32)))), .val (.int (fM (1 : Int32) (p3 &&& (2147483647 : Int32)))), .unset, .unset, .unset, .unset, .unset, .unset, .unset] [(.int (fM (1 : Int32) (p3 &&& (2147483647 : Int32)))), (.ref b11), (.ref b6), (.ref b6)])) t → Steps p.tables e below (T19.setTop (mkF m 38 #[.val (.int p1), .val (.int p2), .val (.int p3), .val (.int (p1 &&& (2147483647 : Int32))), .val (.int (fM (1 : Int32) (p2 &&& (2147483647 : Int32)))), .val (.int (fM (1 : Int32) (p3 &&& (2147483647 : Int32)))), .unset, .unset, .unset, .unset, .unset, .unset, .unset] [(.ref b11), (.ref b6), (.ref b6)])) t := by
    intro t k
    show Steps p.tables e below (T19.setTop (mkF m 38 #[.val (.int p1), .val (.int p2), .val (.int p3), .val (.int (p1 &&& (2147483647 : Int32))), .val (.int (fM (1 : Int32) (p2 &&& (2147483647 : Int32)))), .val (.int (fM (1 : Int32) (p3 &&& (2147483647 : Int32)))), .unset, .unset, .unset, .unset, .unset, .unset, .unset] [(.ref b11), (.ref b6), (.ref b6)])) _
    refine XS.iload X19.here hx rfl (hb hby at_38) rfl ?_
    exact k
  obtain ⟨_, _, ⟨T26, L26, k26, n26⟩, -, X26, ⟨Lc26, hQ26, l26, y26, z26⟩, st26⟩ := X19.specialBack hx (y := (⟨"com/example/haversack/haversack/core/BalancingPolicy", "<init>", "(Lcom/example/haversack/haversack/core/IncrementalCapacity;I)V"⟩ : MethodName)) rfl hown (mvT hZ (hw _ (List.mem_of_getElem? (i := 24) rfl))) (mvT hZ (hw _ (List.mem_of_getElem? (i := 25) rfl))) (mvT hZ (hw _ (List.mem_of_getElem? (i := 26) rfl))) (by decide) (backOf (W := 1) (rmB l Z a0 hw [] b6 b11 (fM (1 : Int32) (p3 &&& (2147483647 : Int32))) (fM (1 : Int32) (p2 &&& (2147483647 : Int32))) T19.heap n0 z24 f20 f21 f22 f23 Q19f0 gn_b6 ne12 (own_pos _)) hZ (hw _ (List.mem_of_getElem? (i := 26) rfl)) (hw _ (List.mem_of_getElem? (i := 7) rfl)) (by decide) (by decide)) (g := (mkF m 40 #[.val (.int p1), .val (.int p2), .val (.int p3), .val (.int (p1 &&& (2147483647 : Int32))), .val (.int (fM (1 : Int32) (p2 &&& (2147483647 : Int32)))), .val (.int (fM (1 : Int32) (p3 &&& (2147483647 : Int32)))), .unset, .unset, .unset, .unset, .unset, .unset, .unset] [(.int (fM (1 : Int32) (p3 &&& (2147483647 : Int32)))), (.ref b11), (.ref b6), (.ref b6)])) rfl (by rw [hml]; rfl) (Steps.refl _) (a := b6) (argsL := [(.ref b11), (.int (fM (1 : Int32) (p3 &&& (2147483647 : Int32))))]) (rest := [(.ref b6)]) (lenOf pd_5 rfl) rfl (by show 2 * 0 + _ ≤ _; exact Nat.le_of_eq rfl) (hb hby at_40) (fun _ _ => ⟨rfl, rfl, (by decide : 2 + 0 ≤ _), (by decide : 3 + 0 ≤ _)⟩)
  dsimp only [Pt.U, Pt.locs, Pt.cells, Pt.slots] at X26 l26 y26 z26 st26 hQ26
  subst l26 y26 z26
  obtain ⟨rfl, N26q, KQ26, Q26f0, Q26f1⟩ := hQ26
  have N26 := Fr.app N19 N26q
  have f27 : Exa Z T26.heap b6 "com/example/haversack/haversack/core/BalancingPolicy" := f20.keep KQ26
  have f28 : Exa Z T26.heap b11 "com/example/haversack/haversack/core/IncrementalCapacity" := f23.keep KQ26
  have f29 : Fld Z T26.heap b11 "com/example/haversack/haversack/core/IncrementalCapacity" "increment" "I" (.int (fM (1 : Int32) (p2 &&& (2147483647 : Int32)))) := Q19f0.keep KQ26 (ninS (Ne.symm ne12) nin0)
  have z30 : n0 ≤ T26.heap.size := Nat.le_trans z24 KQ26.1
  have sg31 : ∀ t, Steps p.tables e below (T26.setTop (mkF m 48 #[.val (.int p1), .val (.int p2), .val (.int p3), .val (.int (p1 &&& (2147483647 : Int32))), .val (.int (fM (1 : Int32) (p2 &&& (2147483647 : Int32)))), .val (.int (fM (1 : Int32) (p3 &&& (2147483647 : Int32)))), .val (.ref b6), .unset, .unset, .unset, .unset, .unset, .unset] [(.int (p1 &&& (2147483647 : Int32))), (.ref b6)])) t → Steps p.tables e below (T26.setTop (mkF m 43 #[.val (.int p1), .val (.int p2), .val (.int p3), .val (.int (p1 &&& (2147483647 : Int32))), .val (.int (fM (1 : Int32) (p2 &&& (2147483647 : Int32)))), .val (.int (fM (1 : Int32) (p3 &&& (2147483647 : Int32)))), .unset, .unset, .unset, .unset, .unset, .unset, .unset] [(.ref b6)])) t := by
    intro t k
    show Steps p.tables e below (T26.setTop (mkF m 43 #[.val (.int p1), .val (.int p2), .val (.int p3), .val (.int (p1 &&& (2147483647 : Int32))), .val (.int (fM (1 : Int32) (p2 &&& (2147483647 : Int32)))), .val (.int (fM (1 : Int32) (p3 &&& (2147483647 : Int32)))), .unset, .unset, .unset, .unset, .unset, .unset, .unset] [(.ref b6)])) _
    refine XS.astore X26.here hx rfl (hb hby at_43) rfl rfl (l' := #[.val (.int p1), .val (.int p2), .val (.int p3), .val (.int (p1 &&& (2147483647 : Int32))), .val (.int (fM (1 : Int32) (p2 &&& (2147483647 : Int32)))), .val (.int (fM (1 : Int32) (p3 &&& (2147483647 : Int32)))), .val (.ref b6), .unset, .unset, .unset, .unset, .unset, .unset]) rfl ?_
    show Steps p.tables e below (T26.setTop (mkF m 45 #[.val (.int p1), .val (.int p2), .val (.int p3), .val (.int (p1 &&& (2147483647 : Int32))), .val (.int (fM (1 : Int32) (p2 &&& (2147483647 : Int32)))), .val (.int (fM (1 : Int32) (p3 &&& (2147483647 : Int32)))), .val (.ref b6), .unset, .unset, .unset, .unset, .unset, .unset] [])) _
    refine XS.aload X26.here hx rfl (hb hby at_45) rfl rfl ?_
    show Steps p.tables e below (T26.setTop (mkF m 47 #[.val (.int p1), .val (.int p2), .val (.int p3), .val (.int (p1 &&& (2147483647 : Int32))), .val (.int (fM (1 : Int32) (p2 &&& (2147483647 : Int32)))), .val (.int (fM (1 : Int32) (p3 &&& (2147483647 : Int32)))), .val (.ref b6), .unset, .unset, .unset, .unset, .unset, .unset] [(.ref b6)])) _
    refine XS.iloadN X26.here hx rfl (hb hby at_47) rfl ?_
    exact k
  obtain ⟨cq32, kq32, q32a, q32b, q32c⟩ := isOf hZ rfl f27
  obtain ⟨_, _, ⟨T32, L32, k32, n32⟩, -, X32, ⟨Lc32, hQ32, l32, y32, z32⟩, st32⟩ := X26.virtualBack hx (y := (⟨"com/example/haversack/haversack/core/BalancingPolicy", "limit", "(I)J"⟩ : MethodName)) (z := (⟨"com/example/haversack/haversack/core/BalancingPolicy", "limit", "(I)J"⟩ : MethodName)) hown (mvT hZ (hw _ (List.mem_of_getElem? (i := 41) rfl))) (mvT hZ (hw _ (List.mem_of_getElem? (i := 42) rfl))) (notFace_of_selects (args := #[]) (mvT hZ (hw _ (List.mem_of_getElem? (i := 44) rfl)))) (mvT hZ (hw _ (List.mem_of_getElem? (i := 44) rfl))) (mvT hZ (hw _ (List.mem_of_getElem? (i := 43) rfl))) (by decide) (backOf (W := 0) (rmL l Z a0 hw [] b6 (p1 &&& (2147483647 : Int32)) (fM (1 : Int32) (p2 &&& (2147483647 : Int32))) (fM (1 : Int32) (p3 &&& (2147483647 : Int32))) T26.heap n0 z30 Q26f0 Q26f1 (own_nz _ (own_max _))) hZ (hw _ (List.mem_of_getElem? (i := 45) rfl)) (hw _ (List.mem_of_getElem? (i := 7) rfl)) (by decide) (by decide)) q32a q32c (g := (mkF m 48 #[.val (.int p1), .val (.int p2), .val (.int p3), .val (.int (p1 &&& (2147483647 : Int32))), .val (.int (fM (1 : Int32) (p2 &&& (2147483647 : Int32)))), .val (.int (fM (1 : Int32) (p3 &&& (2147483647 : Int32)))), .val (.ref b6), .unset, .unset, .unset, .unset, .unset, .unset] [(.int (p1 &&& (2147483647 : Int32))), (.ref b6)])) rfl (by rw [hml]; rfl) (Steps.refl _) (argsL := [(.int (p1 &&& (2147483647 : Int32)))]) (rest := []) (lenOf pd_6 rfl) rfl (by show 2 * 0 + _ ≤ _; exact Nat.le_of_eq rfl) (hb hby at_48) (fun _ _ => ⟨rfl, rfl, (by decide : 2 + 0 ≤ _), (by decide : 3 + 0 ≤ _)⟩)
  dsimp only [Pt.U, Pt.locs, Pt.cells, Pt.slots] at X32 l32 y32 z32 st32 hQ32
  subst l32 y32 z32
  obtain ⟨rfl, N32q, e32⟩ := hQ32
  have N32 := Fr.app N26 N32q
  have sg33 : ∀ t, Steps p.tables e below (T32.setTop (mkF m 120 #[.val (.int p1), .val (.int p2), .val (.int p3), .val (.int (p1 &&& (2147483647 : Int32))), .val (.int (fM (1 : Int32) (p2 &&& (2147483647 : Int32)))), .val (.int (fM (1 : Int32) (p3 &&& (2147483647 : Int32)))), .val (.ref b6), .val (.long (((((p1 &&& (2147483647 : Int32)).toInt64) * (((2 : Int64) * ((fM (1 : Int32) (p2 &&& (2147483647 : Int32))).toInt64)) - (1 : Int64))) + ((fM (1 : Int32) (p3 &&& (2147483647 : Int32))).toInt64)) / (((fM (1 : Int32) (p3 &&& (2147483647 : Int32))).toInt64) + (1 : Int64)))), .second, .val (.long (((p1 &&& (2147483647 : Int32)).toInt64) * (((2 : Int64) * ((fM (1 : Int32) (p2 &&& (2147483647 : Int32))).toInt64)) - (1 : Int64)))), .second, .val (.long (((fM (1 : Int32) (p3 &&& (2147483647 : Int32))).toInt64) + (1 : Int64))), .second] [(.int (1 : Int32))])) t → Steps p.tables e below (T32.setTop (mkF m 51 #[.val (.int p1), .val (.int p2), .val (.int p3), .val (.int (p1 &&& (2147483647 : Int32))), .val (.int (fM (1 : Int32) (p2 &&& (2147483647 : Int32)))), .val (.int (fM (1 : Int32) (p3 &&& (2147483647 : Int32)))), .val (.ref b6), .unset, .unset, .unset, .unset, .unset, .unset] [(.long (((((p1 &&& (2147483647 : Int32)).toInt64) * (((2 : Int64) * ((fM (1 : Int32) (p2 &&& (2147483647 : Int32))).toInt64)) - (1 : Int64))) + ((fM (1 : Int32) (p3 &&& (2147483647 : Int32))).toInt64)) / (((fM (1 : Int32) (p3 &&& (2147483647 : Int32))).toInt64) + (1 : Int64))))])) t := by
    intro t k
    show Steps p.tables e below (T32.setTop (mkF m 51 #[.val (.int p1), .val (.int p2), .val (.int p3), .val (.int (p1 &&& (2147483647 : Int32))), .val (.int (fM (1 : Int32) (p2 &&& (2147483647 : Int32)))), .val (.int (fM (1 : Int32) (p3 &&& (2147483647 : Int32)))), .val (.ref b6), .unset, .unset, .unset, .unset, .unset, .unset] [(.long (((((p1 &&& (2147483647 : Int32)).toInt64) * (((2 : Int64) * ((fM (1 : Int32) (p2 &&& (2147483647 : Int32))).toInt64)) - (1 : Int64))) + ((fM (1 : Int32) (p3 &&& (2147483647 : Int32))).toInt64)) / (((fM (1 : Int32) (p3 &&& (2147483647 : Int32))).toInt64) + (1 : Int64))))])) _
    refine XS.lstore X32.here hx rfl (hb hby at_51) rfl (l' := #[.val (.int p1), .val (.int p2), .val (.int p3), .val (.int (p1 &&& (2147483647 : Int32))), .val (.int (fM (1 : Int32) (p2 &&& (2147483647 : Int32)))), .val (.int (fM (1 : Int32) (p3 &&& (2147483647 : Int32)))), .val (.ref b6), .val (.long (((((p1 &&& (2147483647 : Int32)).toInt64) * (((2 : Int64) * ((fM (1 : Int32) (p2 &&& (2147483647 : Int32))).toInt64)) - (1 : Int64))) + ((fM (1 : Int32) (p3 &&& (2147483647 : Int32))).toInt64)) / (((fM (1 : Int32) (p3 &&& (2147483647 : Int32))).toInt64) + (1 : Int64)))), .second, .unset, .unset, .unset, .unset]) rfl ?_
    show Steps p.tables e below (T32.setTop (mkF m 53 #[.val (.int p1), .val (.int p2), .val (.int p3), .val (.int (p1 &&& (2147483647 : Int32))), .val (.int (fM (1 : Int32) (p2 &&& (2147483647 : Int32)))), .val (.int (fM (1 : Int32) (p3 &&& (2147483647 : Int32)))), .val (.ref b6), .val (.long (((((p1 &&& (2147483647 : Int32)).toInt64) * (((2 : Int64) * ((fM (1 : Int32) (p2 &&& (2147483647 : Int32))).toInt64)) - (1 : Int64))) + ((fM (1 : Int32) (p3 &&& (2147483647 : Int32))).toInt64)) / (((fM (1 : Int32) (p3 &&& (2147483647 : Int32))).toInt64) + (1 : Int64)))), .second, .unset, .unset, .unset, .unset] [])) _
    refine XS.iloadN X32.here hx rfl (hb hby at_53) rfl ?_
    show Steps p.tables e below (T32.setTop (mkF m 54 #[.val (.int p1), .val (.int p2), .val (.int p3), .val (.int (p1 &&& (2147483647 : Int32))), .val (.int (fM (1 : Int32) (p2 &&& (2147483647 : Int32)))), .val (.int (fM (1 : Int32) (p3 &&& (2147483647 : Int32)))), .val (.ref b6), .val (.long (((((p1 &&& (2147483647 : Int32)).toInt64) * (((2 : Int64) * ((fM (1 : Int32) (p2 &&& (2147483647 : Int32))).toInt64)) - (1 : Int64))) + ((fM (1 : Int32) (p3 &&& (2147483647 : Int32))).toInt64)) / (((fM (1 : Int32) (p3 &&& (2147483647 : Int32))).toInt64) + (1 : Int64)))), .second, .unset, .unset, .unset, .unset] [(.int (p1 &&& (2147483647 : Int32)))])) _
    refine XS.i2l X32.here hx rfl (hb hby at_54) rfl ?_
    show Steps p.tables e below (T32.setTop (mkF m 55 #[.val (.int p1), .val (.int p2), .val (.int p3), .val (.int (p1 &&& (2147483647 : Int32))), .val (.int (fM (1 : Int32) (p2 &&& (2147483647 : Int32)))), .val (.int (fM (1 : Int32) (p3 &&& (2147483647 : Int32)))), .val (.ref b6), .val (.long (((((p1 &&& (2147483647 : Int32)).toInt64) * (((2 : Int64) * ((fM (1 : Int32) (p2 &&& (2147483647 : Int32))).toInt64)) - (1 : Int64))) + ((fM (1 : Int32) (p3 &&& (2147483647 : Int32))).toInt64)) / (((fM (1 : Int32) (p3 &&& (2147483647 : Int32))).toInt64) + (1 : Int64)))), .second, .unset, .unset, .unset, .unset] [(.long ((p1 &&& (2147483647 : Int32)).toInt64))])) _
    refine X32.ldc2Long hx hown (mvT hZ (hw _ (List.mem_of_getElem? (i := 47) rfl))) (g := (mkF m 55 #[.val (.int p1), .val (.int p2), .val (.int p3), .val (.int (p1 &&& (2147483647 : Int32))), .val (.int (fM (1 : Int32) (p2 &&& (2147483647 : Int32)))), .val (.int (fM (1 : Int32) (p3 &&& (2147483647 : Int32)))), .val (.ref b6), .val (.long (((((p1 &&& (2147483647 : Int32)).toInt64) * (((2 : Int64) * ((fM (1 : Int32) (p2 &&& (2147483647 : Int32))).toInt64)) - (1 : Int64))) + ((fM (1 : Int32) (p3 &&& (2147483647 : Int32))).toInt64)) / (((fM (1 : Int32) (p3 &&& (2147483647 : Int32))).toInt64) + (1 : Int64)))), .second, .unset, .unset, .unset, .unset] [(.long ((p1 &&& (2147483647 : Int32)).toInt64))])) rfl (hb hby at_55) _ ?_
    show Steps p.tables e below (T32.setTop (mkF m 58 #[.val (.int p1), .val (.int p2), .val (.int p3), .val (.int (p1 &&& (2147483647 : Int32))), .val (.int (fM (1 : Int32) (p2 &&& (2147483647 : Int32)))), .val (.int (fM (1 : Int32) (p3 &&& (2147483647 : Int32)))), .val (.ref b6), .val (.long (((((p1 &&& (2147483647 : Int32)).toInt64) * (((2 : Int64) * ((fM (1 : Int32) (p2 &&& (2147483647 : Int32))).toInt64)) - (1 : Int64))) + ((fM (1 : Int32) (p3 &&& (2147483647 : Int32))).toInt64)) / (((fM (1 : Int32) (p3 &&& (2147483647 : Int32))).toInt64) + (1 : Int64)))), .second, .unset, .unset, .unset, .unset] [(.long (2 : Int64)), (.long ((p1 &&& (2147483647 : Int32)).toInt64))])) _
    refine XS.iload X32.here hx rfl (hb hby at_58) rfl ?_
    show Steps p.tables e below (T32.setTop (mkF m 60 #[.val (.int p1), .val (.int p2), .val (.int p3), .val (.int (p1 &&& (2147483647 : Int32))), .val (.int (fM (1 : Int32) (p2 &&& (2147483647 : Int32)))), .val (.int (fM (1 : Int32) (p3 &&& (2147483647 : Int32)))), .val (.ref b6), .val (.long (((((p1 &&& (2147483647 : Int32)).toInt64) * (((2 : Int64) * ((fM (1 : Int32) (p2 &&& (2147483647 : Int32))).toInt64)) - (1 : Int64))) + ((fM (1 : Int32) (p3 &&& (2147483647 : Int32))).toInt64)) / (((fM (1 : Int32) (p3 &&& (2147483647 : Int32))).toInt64) + (1 : Int64)))), .second, .unset, .unset, .unset, .unset] [(.int (fM (1 : Int32) (p2 &&& (2147483647 : Int32)))), (.long (2 : Int64)), (.long ((p1 &&& (2147483647 : Int32)).toInt64))])) _
    refine XS.i2l X32.here hx rfl (hb hby at_60) rfl ?_
    show Steps p.tables e below (T32.setTop (mkF m 61 #[.val (.int p1), .val (.int p2), .val (.int p3), .val (.int (p1 &&& (2147483647 : Int32))), .val (.int (fM (1 : Int32) (p2 &&& (2147483647 : Int32)))), .val (.int (fM (1 : Int32) (p3 &&& (2147483647 : Int32)))), .val (.ref b6), .val (.long (((((p1 &&& (2147483647 : Int32)).toInt64) * (((2 : Int64) * ((fM (1 : Int32) (p2 &&& (2147483647 : Int32))).toInt64)) - (1 : Int64))) + ((fM (1 : Int32) (p3 &&& (2147483647 : Int32))).toInt64)) / (((fM (1 : Int32) (p3 &&& (2147483647 : Int32))).toInt64) + (1 : Int64)))), .second, .unset, .unset, .unset, .unset] [(.long ((fM (1 : Int32) (p2 &&& (2147483647 : Int32))).toInt64)), (.long (2 : Int64)), (.long ((p1 &&& (2147483647 : Int32)).toInt64))])) _
    refine XS.lmul X32.here hx rfl (hb hby at_61) rfl ?_
    show Steps p.tables e below (T32.setTop (mkF m 62 #[.val (.int p1), .val (.int p2), .val (.int p3), .val (.int (p1 &&& (2147483647 : Int32))), .val (.int (fM (1 : Int32) (p2 &&& (2147483647 : Int32)))), .val (.int (fM (1 : Int32) (p3 &&& (2147483647 : Int32)))), .val (.ref b6), .val (.long (((((p1 &&& (2147483647 : Int32)).toInt64) * (((2 : Int64) * ((fM (1 : Int32) (p2 &&& (2147483647 : Int32))).toInt64)) - (1 : Int64))) + ((fM (1 : Int32) (p3 &&& (2147483647 : Int32))).toInt64)) / (((fM (1 : Int32) (p3 &&& (2147483647 : Int32))).toInt64) + (1 : Int64)))), .second, .unset, .unset, .unset, .unset] [(.long ((2 : Int64) * ((fM (1 : Int32) (p2 &&& (2147483647 : Int32))).toInt64))), (.long ((p1 &&& (2147483647 : Int32)).toInt64))])) _
    refine XS.lconst X32.here hx rfl (hb hby at_62) ?_
    show Steps p.tables e below (T32.setTop (mkF m 63 #[.val (.int p1), .val (.int p2), .val (.int p3), .val (.int (p1 &&& (2147483647 : Int32))), .val (.int (fM (1 : Int32) (p2 &&& (2147483647 : Int32)))), .val (.int (fM (1 : Int32) (p3 &&& (2147483647 : Int32)))), .val (.ref b6), .val (.long (((((p1 &&& (2147483647 : Int32)).toInt64) * (((2 : Int64) * ((fM (1 : Int32) (p2 &&& (2147483647 : Int32))).toInt64)) - (1 : Int64))) + ((fM (1 : Int32) (p3 &&& (2147483647 : Int32))).toInt64)) / (((fM (1 : Int32) (p3 &&& (2147483647 : Int32))).toInt64) + (1 : Int64)))), .second, .unset, .unset, .unset, .unset] [(.long (1 : Int64)), (.long ((2 : Int64) * ((fM (1 : Int32) (p2 &&& (2147483647 : Int32))).toInt64))), (.long ((p1 &&& (2147483647 : Int32)).toInt64))])) _
    refine XS.lsub X32.here hx rfl (hb hby at_63) rfl ?_
    show Steps p.tables e below (T32.setTop (mkF m 64 #[.val (.int p1), .val (.int p2), .val (.int p3), .val (.int (p1 &&& (2147483647 : Int32))), .val (.int (fM (1 : Int32) (p2 &&& (2147483647 : Int32)))), .val (.int (fM (1 : Int32) (p3 &&& (2147483647 : Int32)))), .val (.ref b6), .val (.long (((((p1 &&& (2147483647 : Int32)).toInt64) * (((2 : Int64) * ((fM (1 : Int32) (p2 &&& (2147483647 : Int32))).toInt64)) - (1 : Int64))) + ((fM (1 : Int32) (p3 &&& (2147483647 : Int32))).toInt64)) / (((fM (1 : Int32) (p3 &&& (2147483647 : Int32))).toInt64) + (1 : Int64)))), .second, .unset, .unset, .unset, .unset] [(.long (((2 : Int64) * ((fM (1 : Int32) (p2 &&& (2147483647 : Int32))).toInt64)) - (1 : Int64))), (.long ((p1 &&& (2147483647 : Int32)).toInt64))])) _
    refine XS.lmul X32.here hx rfl (hb hby at_64) rfl ?_
    show Steps p.tables e below (T32.setTop (mkF m 65 #[.val (.int p1), .val (.int p2), .val (.int p3), .val (.int (p1 &&& (2147483647 : Int32))), .val (.int (fM (1 : Int32) (p2 &&& (2147483647 : Int32)))), .val (.int (fM (1 : Int32) (p3 &&& (2147483647 : Int32)))), .val (.ref b6), .val (.long (((((p1 &&& (2147483647 : Int32)).toInt64) * (((2 : Int64) * ((fM (1 : Int32) (p2 &&& (2147483647 : Int32))).toInt64)) - (1 : Int64))) + ((fM (1 : Int32) (p3 &&& (2147483647 : Int32))).toInt64)) / (((fM (1 : Int32) (p3 &&& (2147483647 : Int32))).toInt64) + (1 : Int64)))), .second, .unset, .unset, .unset, .unset] [(.long (((p1 &&& (2147483647 : Int32)).toInt64) * (((2 : Int64) * ((fM (1 : Int32) (p2 &&& (2147483647 : Int32))).toInt64)) - (1 : Int64))))])) _
    refine XS.lstore X32.here hx rfl (hb hby at_65) rfl (l' := #[.val (.int p1), .val (.int p2), .val (.int p3), .val (.int (p1 &&& (2147483647 : Int32))), .val (.int (fM (1 : Int32) (p2 &&& (2147483647 : Int32)))), .val (.int (fM (1 : Int32) (p3 &&& (2147483647 : Int32)))), .val (.ref b6), .val (.long (((((p1 &&& (2147483647 : Int32)).toInt64) * (((2 : Int64) * ((fM (1 : Int32) (p2 &&& (2147483647 : Int32))).toInt64)) - (1 : Int64))) + ((fM (1 : Int32) (p3 &&& (2147483647 : Int32))).toInt64)) / (((fM (1 : Int32) (p3 &&& (2147483647 : Int32))).toInt64) + (1 : Int64)))), .second, .val (.long (((p1 &&& (2147483647 : Int32)).toInt64) * (((2 : Int64) * ((fM (1 : Int32) (p2 &&& (2147483647 : Int32))).toInt64)) - (1 : Int64)))), .second, .unset, .unset]) rfl ?_
    show Steps p.tables e below (T32.setTop (mkF m 67 #[.val (.int p1), .val (.int p2), .val (.int p3), .val (.int (p1 &&& (2147483647 : Int32))), .val (.int (fM (1 : Int32) (p2 &&& (2147483647 : Int32)))), .val (.int (fM (1 : Int32) (p3 &&& (2147483647 : Int32)))), .val (.ref b6), .val (.long (((((p1 &&& (2147483647 : Int32)).toInt64) * (((2 : Int64) * ((fM (1 : Int32) (p2 &&& (2147483647 : Int32))).toInt64)) - (1 : Int64))) + ((fM (1 : Int32) (p3 &&& (2147483647 : Int32))).toInt64)) / (((fM (1 : Int32) (p3 &&& (2147483647 : Int32))).toInt64) + (1 : Int64)))), .second, .val (.long (((p1 &&& (2147483647 : Int32)).toInt64) * (((2 : Int64) * ((fM (1 : Int32) (p2 &&& (2147483647 : Int32))).toInt64)) - (1 : Int64)))), .second, .unset, .unset] [])) _
    refine XS.iload X32.here hx rfl (hb hby at_67) rfl ?_
    show Steps p.tables e below (T32.setTop (mkF m 69 #[.val (.int p1), .val (.int p2), .val (.int p3), .val (.int (p1 &&& (2147483647 : Int32))), .val (.int (fM (1 : Int32) (p2 &&& (2147483647 : Int32)))), .val (.int (fM (1 : Int32) (p3 &&& (2147483647 : Int32)))), .val (.ref b6), .val (.long (((((p1 &&& (2147483647 : Int32)).toInt64) * (((2 : Int64) * ((fM (1 : Int32) (p2 &&& (2147483647 : Int32))).toInt64)) - (1 : Int64))) + ((fM (1 : Int32) (p3 &&& (2147483647 : Int32))).toInt64)) / (((fM (1 : Int32) (p3 &&& (2147483647 : Int32))).toInt64) + (1 : Int64)))), .second, .val (.long (((p1 &&& (2147483647 : Int32)).toInt64) * (((2 : Int64) * ((fM (1 : Int32) (p2 &&& (2147483647 : Int32))).toInt64)) - (1 : Int64)))), .second, .unset, .unset] [(.int (fM (1 : Int32) (p3 &&& (2147483647 : Int32))))])) _
    refine XS.i2l X32.here hx rfl (hb hby at_69) rfl ?_
    show Steps p.tables e below (T32.setTop (mkF m 70 #[.val (.int p1), .val (.int p2), .val (.int p3), .val (.int (p1 &&& (2147483647 : Int32))), .val (.int (fM (1 : Int32) (p2 &&& (2147483647 : Int32)))), .val (.int (fM (1 : Int32) (p3 &&& (2147483647 : Int32)))), .val (.ref b6), .val (.long (((((p1 &&& (2147483647 : Int32)).toInt64) * (((2 : Int64) * ((fM (1 : Int32) (p2 &&& (2147483647 : Int32))).toInt64)) - (1 : Int64))) + ((fM (1 : Int32) (p3 &&& (2147483647 : Int32))).toInt64)) / (((fM (1 : Int32) (p3 &&& (2147483647 : Int32))).toInt64) + (1 : Int64)))), .second, .val (.long (((p1 &&& (2147483647 : Int32)).toInt64) * (((2 : Int64) * ((fM (1 : Int32) (p2 &&& (2147483647 : Int32))).toInt64)) - (1 : Int64)))), .second, .unset, .unset] [(.long ((fM (1 : Int32) (p3 &&& (2147483647 : Int32))).toInt64))])) _
    refine XS.lconst X32.here hx rfl (hb hby at_70) ?_
    show Steps p.tables e below (T32.setTop (mkF m 71 #[.val (.int p1), .val (.int p2), .val (.int p3), .val (.int (p1 &&& (2147483647 : Int32))), .val (.int (fM (1 : Int32) (p2 &&& (2147483647 : Int32)))), .val (.int (fM (1 : Int32) (p3 &&& (2147483647 : Int32)))), .val (.ref b6), .val (.long (((((p1 &&& (2147483647 : Int32)).toInt64) * (((2 : Int64) * ((fM (1 : Int32) (p2 &&& (2147483647 : Int32))).toInt64)) - (1 : Int64))) + ((fM (1 : Int32) (p3 &&& (2147483647 : Int32))).toInt64)) / (((fM (1 : Int32) (p3 &&& (2147483647 : Int32))).toInt64) + (1 : Int64)))), .second, .val (.long (((p1 &&& (2147483647 : Int32)).toInt64) * (((2 : Int64) * ((fM (1 : Int32) (p2 &&& (2147483647 : Int32))).toInt64)) - (1 : Int64)))), .second, .unset, .unset] [(.long (1 : Int64)), (.long ((fM (1 : Int32) (p3 &&& (2147483647 : Int32))).toInt64))])) _
    refine XS.ladd X32.here hx rfl (hb hby at_71) rfl ?_
    show Steps p.tables e below (T32.setTop (mkF m 72 #[.val (.int p1), .val (.int p2), .val (.int p3), .val (.int (p1 &&& (2147483647 : Int32))), .val (.int (fM (1 : Int32) (p2 &&& (2147483647 : Int32)))), .val (.int (fM (1 : Int32) (p3 &&& (2147483647 : Int32)))), .val (.ref b6), .val (.long (((((p1 &&& (2147483647 : Int32)).toInt64) * (((2 : Int64) * ((fM (1 : Int32) (p2 &&& (2147483647 : Int32))).toInt64)) - (1 : Int64))) + ((fM (1 : Int32) (p3 &&& (2147483647 : Int32))).toInt64)) / (((fM (1 : Int32) (p3 &&& (2147483647 : Int32))).toInt64) + (1 : Int64)))), .second, .val (.long (((p1 &&& (2147483647 : Int32)).toInt64) * (((2 : Int64) * ((fM (1 : Int32) (p2 &&& (2147483647 : Int32))).toInt64)) - (1 : Int64)))), .second, .unset, .unset] [(.long (((fM (1 : Int32) (p3 &&& (2147483647 : Int32))).toInt64) + (1 : Int64)))])) _
    refine XS.lstore X32.here hx rfl (hb hby at_72) rfl (l' := #[.val (.int p1), .val (.int p2), .val (.int p3), .val (.int (p1 &&& (2147483647 : Int32))), .val (.int (fM (1 : Int32) (p2 &&& (2147483647 : Int32)))), .val (.int (fM (1 : Int32) (p3 &&& (2147483647 : Int32)))), .val (.ref b6), .val (.long (((((p1 &&& (2147483647 : Int32)).toInt64) * (((2 : Int64) * ((fM (1 : Int32) (p2 &&& (2147483647 : Int32))).toInt64)) - (1 : Int64))) + ((fM (1 : Int32) (p3 &&& (2147483647 : Int32))).toInt64)) / (((fM (1 : Int32) (p3 &&& (2147483647 : Int32))).toInt64) + (1 : Int64)))), .second, .val (.long (((p1 &&& (2147483647 : Int32)).toInt64) * (((2 : Int64) * ((fM (1 : Int32) (p2 &&& (2147483647 : Int32))).toInt64)) - (1 : Int64)))), .second, .val (.long (((fM (1 : Int32) (p3 &&& (2147483647 : Int32))).toInt64) + (1 : Int64))), .second]) rfl ?_
    show Steps p.tables e below (T32.setTop (mkF m 74 #[.val (.int p1), .val (.int p2), .val (.int p3), .val (.int (p1 &&& (2147483647 : Int32))), .val (.int (fM (1 : Int32) (p2 &&& (2147483647 : Int32)))), .val (.int (fM (1 : Int32) (p3 &&& (2147483647 : Int32)))), .val (.ref b6), .val (.long (((((p1 &&& (2147483647 : Int32)).toInt64) * (((2 : Int64) * ((fM (1 : Int32) (p2 &&& (2147483647 : Int32))).toInt64)) - (1 : Int64))) + ((fM (1 : Int32) (p3 &&& (2147483647 : Int32))).toInt64)) / (((fM (1 : Int32) (p3 &&& (2147483647 : Int32))).toInt64) + (1 : Int64)))), .second, .val (.long (((p1 &&& (2147483647 : Int32)).toInt64) * (((2 : Int64) * ((fM (1 : Int32) (p2 &&& (2147483647 : Int32))).toInt64)) - (1 : Int64)))), .second, .val (.long (((fM (1 : Int32) (p3 &&& (2147483647 : Int32))).toInt64) + (1 : Int64))), .second] [])) _
    refine XS.lload X32.here hx rfl (hb hby at_74) rfl ?_
    show Steps p.tables e below (T32.setTop (mkF m 76 #[.val (.int p1), .val (.int p2), .val (.int p3), .val (.int (p1 &&& (2147483647 : Int32))), .val (.int (fM (1 : Int32) (p2 &&& (2147483647 : Int32)))), .val (.int (fM (1 : Int32) (p3 &&& (2147483647 : Int32)))), .val (.ref b6), .val (.long (((((p1 &&& (2147483647 : Int32)).toInt64) * (((2 : Int64) * ((fM (1 : Int32) (p2 &&& (2147483647 : Int32))).toInt64)) - (1 : Int64))) + ((fM (1 : Int32) (p3 &&& (2147483647 : Int32))).toInt64)) / (((fM (1 : Int32) (p3 &&& (2147483647 : Int32))).toInt64) + (1 : Int64)))), .second, .val (.long (((p1 &&& (2147483647 : Int32)).toInt64) * (((2 : Int64) * ((fM (1 : Int32) (p2 &&& (2147483647 : Int32))).toInt64)) - (1 : Int64)))), .second, .val (.long (((fM (1 : Int32) (p3 &&& (2147483647 : Int32))).toInt64) + (1 : Int64))), .second] [(.long (((((p1 &&& (2147483647 : Int32)).toInt64) * (((2 : Int64) * ((fM (1 : Int32) (p2 &&& (2147483647 : Int32))).toInt64)) - (1 : Int64))) + ((fM (1 : Int32) (p3 &&& (2147483647 : Int32))).toInt64)) / (((fM (1 : Int32) (p3 &&& (2147483647 : Int32))).toInt64) + (1 : Int64))))])) _
    refine XS.lconst X32.here hx rfl (hb hby at_76) ?_
    show Steps p.tables e below (T32.setTop (mkF m 77 #[.val (.int p1), .val (.int p2), .val (.int p3), .val (.int (p1 &&& (2147483647 : Int32))), .val (.int (fM (1 : Int32) (p2 &&& (2147483647 : Int32)))), .val (.int (fM (1 : Int32) (p3 &&& (2147483647 : Int32)))), .val (.ref b6), .val (.long (((((p1 &&& (2147483647 : Int32)).toInt64) * (((2 : Int64) * ((fM (1 : Int32) (p2 &&& (2147483647 : Int32))).toInt64)) - (1 : Int64))) + ((fM (1 : Int32) (p3 &&& (2147483647 : Int32))).toInt64)) / (((fM (1 : Int32) (p3 &&& (2147483647 : Int32))).toInt64) + (1 : Int64)))), .second, .val (.long (((p1 &&& (2147483647 : Int32)).toInt64) * (((2 : Int64) * ((fM (1 : Int32) (p2 &&& (2147483647 : Int32))).toInt64)) - (1 : Int64)))), .second, .val (.long (((fM (1 : Int32) (p3 &&& (2147483647 : Int32))).toInt64) + (1 : Int64))), .second] [(.long (0 : Int64)), (.long (((((p1 &&& (2147483647 : Int32)).toInt64) * (((2 : Int64) * ((fM (1 : Int32) (p2 &&& (2147483647 : Int32))).toInt64)) - (1 : Int64))) + ((fM (1 : Int32) (p3 &&& (2147483647 : Int32))).toInt64)) / (((fM (1 : Int32) (p3 &&& (2147483647 : Int32))).toInt64) + (1 : Int64))))])) _
    refine XS.lcmp X32.here hx rfl (hb hby at_77) rfl ?_
    show Steps p.tables e below (T32.setTop (mkF m 78 #[.val (.int p1), .val (.int p2), .val (.int p3), .val (.int (p1 &&& (2147483647 : Int32))), .val (.int (fM (1 : Int32) (p2 &&& (2147483647 : Int32)))), .val (.int (fM (1 : Int32) (p3 &&& (2147483647 : Int32)))), .val (.ref b6), .val (.long (((((p1 &&& (2147483647 : Int32)).toInt64) * (((2 : Int64) * ((fM (1 : Int32) (p2 &&& (2147483647 : Int32))).toInt64)) - (1 : Int64))) + ((fM (1 : Int32) (p3 &&& (2147483647 : Int32))).toInt64)) / (((fM (1 : Int32) (p3 &&& (2147483647 : Int32))).toInt64) + (1 : Int64)))), .second, .val (.long (((p1 &&& (2147483647 : Int32)).toInt64) * (((2 : Int64) * ((fM (1 : Int32) (p2 &&& (2147483647 : Int32))).toInt64)) - (1 : Int64)))), .second, .val (.long (((fM (1 : Int32) (p3 &&& (2147483647 : Int32))).toInt64) + (1 : Int64))), .second] [(.int (lcmpW (((((p1 &&& (2147483647 : Int32)).toInt64) * (((2 : Int64) * ((fM (1 : Int32) (p2 &&& (2147483647 : Int32))).toInt64)) - (1 : Int64))) + ((fM (1 : Int32) (p3 &&& (2147483647 : Int32))).toInt64)) / (((fM (1 : Int32) (p3 &&& (2147483647 : Int32))).toInt64) + (1 : Int64))) (0 : Int64)))])) _
    refine XS.ifNo X32.here hx rfl (hb hby at_78) rfl ((if0 _ _).trans (flt (mt (lw_lt _ _).mp ((own_all _ _ _ (own_t p1) (own_max p2) (own_max p3)).1 : ¬ ((((((p1 &&& (2147483647 : Int32)).toInt64) * (((2 : Int64) * ((fM (1 : Int32) (p2 &&& (2147483647 : Int32))).toInt64)) - (1 : Int64))) + ((fM (1 : Int32) (p3 &&& (2147483647 : Int32))).toInt64)) / (((fM (1 : Int32) (p3 &&& (2147483647 : Int32))).toInt64) + (1 : Int64))) < (0 : Int64))))).1) ?_
    show Steps p.tables e below (T32.setTop (mkF m 81 #[.val (.int p1), .val (.int p2), .val (.int p3), .val (.int (p1 &&& (2147483647 : Int32))), .val (.int (fM (1 : Int32) (p2 &&& (2147483647 : Int32)))), .val (.int (fM (1 : Int32) (p3 &&& (2147483647 : Int32)))), .val (.ref b6), .val (.long (((((p1 &&& (2147483647 : Int32)).toInt64) * (((2 : Int64) * ((fM (1 : Int32) (p2 &&& (2147483647 : Int32))).toInt64)) - (1 : Int64))) + ((fM (1 : Int32) (p3 &&& (2147483647 : Int32))).toInt64)) / (((fM (1 : Int32) (p3 &&& (2147483647 : Int32))).toInt64) + (1 : Int64)))), .second, .val (.long (((p1 &&& (2147483647 : Int32)).toInt64) * (((2 : Int64) * ((fM (1 : Int32) (p2 &&& (2147483647 : Int32))).toInt64)) - (1 : Int64)))), .second, .val (.long (((fM (1 : Int32) (p3 &&& (2147483647 : Int32))).toInt64) + (1 : Int64))), .second] [])) _
    refine XS.lload X32.here hx rfl (hb hby at_81) rfl ?_
    show Steps p.tables e below (T32.setTop (mkF m 83 #[.val (.int p1), .val (.int p2), .val (.int p3), .val (.int (p1 &&& (2147483647 : Int32))), .val (.int (fM (1 : Int32) (p2 &&& (2147483647 : Int32)))), .val (.int (fM (1 : Int32) (p3 &&& (2147483647 : Int32)))), .val (.ref b6), .val (.long (((((p1 &&& (2147483647 : Int32)).toInt64) * (((2 : Int64) * ((fM (1 : Int32) (p2 &&& (2147483647 : Int32))).toInt64)) - (1 : Int64))) + ((fM (1 : Int32) (p3 &&& (2147483647 : Int32))).toInt64)) / (((fM (1 : Int32) (p3 &&& (2147483647 : Int32))).toInt64) + (1 : Int64)))), .second, .val (.long (((p1 &&& (2147483647 : Int32)).toInt64) * (((2 : Int64) * ((fM (1 : Int32) (p2 &&& (2147483647 : Int32))).toInt64)) - (1 : Int64)))), .second, .val (.long (((fM (1 : Int32) (p3 &&& (2147483647 : Int32))).toInt64) + (1 : Int64))), .second] [(.long (((((p1 &&& (2147483647 : Int32)).toInt64) * (((2 : Int64) * ((fM (1 : Int32) (p2 &&& (2147483647 : Int32))).toInt64)) - (1 : Int64))) + ((fM (1 : Int32) (p3 &&& (2147483647 : Int32))).toInt64)) / (((fM (1 : Int32) (p3 &&& (2147483647 : Int32))).toInt64) + (1 : Int64))))])) _
    refine XS.lload X32.here hx rfl (hb hby at_83) rfl ?_
    show Steps p.tables e below (T32.setTop (mkF m 85 #[.val (.int p1), .val (.int p2), .val (.int p3), .val (.int (p1 &&& (2147483647 : Int32))), .val (.int (fM (1 : Int32) (p2 &&& (2147483647 : Int32)))), .val (.int (fM (1 : Int32) (p3 &&& (2147483647 : Int32)))), .val (.ref b6), .val (.long (((((p1 &&& (2147483647 : Int32)).toInt64) * (((2 : Int64) * ((fM (1 : Int32) (p2 &&& (2147483647 : Int32))).toInt64)) - (1 : Int64))) + ((fM (1 : Int32) (p3 &&& (2147483647 : Int32))).toInt64)) / (((fM (1 : Int32) (p3 &&& (2147483647 : Int32))).toInt64) + (1 : Int64)))), .second, .val (.long (((p1 &&& (2147483647 : Int32)).toInt64) * (((2 : Int64) * ((fM (1 : Int32) (p2 &&& (2147483647 : Int32))).toInt64)) - (1 : Int64)))), .second, .val (.long (((fM (1 : Int32) (p3 &&& (2147483647 : Int32))).toInt64) + (1 : Int64))), .second] [(.long (((p1 &&& (2147483647 : Int32)).toInt64) * (((2 : Int64) * ((fM (1 : Int32) (p2 &&& (2147483647 : Int32))).toInt64)) - (1 : Int64)))), (.long (((((p1 &&& (2147483647 : Int32)).toInt64) * (((2 : Int64) * ((fM (1 : Int32) (p2 &&& (2147483647 : Int32))).toInt64)) - (1 : Int64))) + ((fM (1 : Int32) (p3 &&& (2147483647 : Int32))).toInt64)) / (((fM (1 : Int32) (p3 &&& (2147483647 : Int32))).toInt64) + (1 : Int64))))])) _
    refine XS.lcmp X32.here hx rfl (hb hby at_85) rfl ?_
    show Steps p.tables e below (T32.setTop (mkF m 86 #[.val (.int p1), .val (.int p2), .val (.int p3), .val (.int (p1 &&& (2147483647 : Int32))), .val (.int (fM (1 : Int32) (p2 &&& (2147483647 : Int32)))), .val (.int (fM (1 : Int32) (p3 &&& (2147483647 : Int32)))), .val (.ref b6), .val (.long (((((p1 &&& (2147483647 : Int32)).toInt64) * (((2 : Int64) * ((fM (1 : Int32) (p2 &&& (2147483647 : Int32))).toInt64)) - (1 : Int64))) + ((fM (1 : Int32) (p3 &&& (2147483647 : Int32))).toInt64)) / (((fM (1 : Int32) (p3 &&& (2147483647 : Int32))).toInt64) + (1 : Int64)))), .second, .val (.long (((p1 &&& (2147483647 : Int32)).toInt64) * (((2 : Int64) * ((fM (1 : Int32) (p2 &&& (2147483647 : Int32))).toInt64)) - (1 : Int64)))), .second, .val (.long (((fM (1 : Int32) (p3 &&& (2147483647 : Int32))).toInt64) + (1 : Int64))), .second] [(.int (lcmpW (((((p1 &&& (2147483647 : Int32)).toInt64) * (((2 : Int64) * ((fM (1 : Int32) (p2 &&& (2147483647 : Int32))).toInt64)) - (1 : Int64))) + ((fM (1 : Int32) (p3 &&& (2147483647 : Int32))).toInt64)) / (((fM (1 : Int32) (p3 &&& (2147483647 : Int32))).toInt64) + (1 : Int64))) (((p1 &&& (2147483647 : Int32)).toInt64) * (((2 : Int64) * ((fM (1 : Int32) (p2 &&& (2147483647 : Int32))).toInt64)) - (1 : Int64)))))])) _
    refine XS.ifYes X32.here hx rfl (pc0 := 86) (pc' := 91) rfl (hb hby at_86) rfl ((if0 _ _).trans (flt (mt (lw_gt _ _).mp ((own_all _ _ _ (own_t p1) (own_max p2) (own_max p3)).2.1 : ¬ ((((p1 &&& (2147483647 : Int32)).toInt64) * (((2 : Int64) * ((fM (1 : Int32) (p2 &&& (2147483647 : Int32))).toInt64)) - (1 : Int64))) < (((((p1 &&& (2147483647 : Int32)).toInt64) * (((2 : Int64) * ((fM (1 : Int32) (p2 &&& (2147483647 : Int32))).toInt64)) - (1 : Int64))) + ((fM (1 : Int32) (p3 &&& (2147483647 : Int32))).toInt64)) / (((fM (1 : Int32) (p3 &&& (2147483647 : Int32))).toInt64) + (1 : Int64))))))).2.2.2) (by decide) (by decide) ?_
    show Steps p.tables e below (T32.setTop (mkF m 91 #[.val (.int p1), .val (.int p2), .val (.int p3), .val (.int (p1 &&& (2147483647 : Int32))), .val (.int (fM (1 : Int32) (p2 &&& (2147483647 : Int32)))), .val (.int (fM (1 : Int32) (p3 &&& (2147483647 : Int32)))), .val (.ref b6), .val (.long (((((p1 &&& (2147483647 : Int32)).toInt64) * (((2 : Int64) * ((fM (1 : Int32) (p2 &&& (2147483647 : Int32))).toInt64)) - (1 : Int64))) + ((fM (1 : Int32) (p3 &&& (2147483647 : Int32))).toInt64)) / (((fM (1 : Int32) (p3 &&& (2147483647 : Int32))).toInt64) + (1 : Int64)))), .second, .val (.long (((p1 &&& (2147483647 : Int32)).toInt64) * (((2 : Int64) * ((fM (1 : Int32) (p2 &&& (2147483647 : Int32))).toInt64)) - (1 : Int64)))), .second, .val (.long (((fM (1 : Int32) (p3 &&& (2147483647 : Int32))).toInt64) + (1 : Int64))), .second] [])) _
    refine XS.lload X32.here hx rfl (hb hby at_91) rfl ?_
    show Steps p.tables e below (T32.setTop (mkF m 93 #[.val (.int p1), .val (.int p2), .val (.int p3), .val (.int (p1 &&& (2147483647 : Int32))), .val (.int (fM (1 : Int32) (p2 &&& (2147483647 : Int32)))), .val (.int (fM (1 : Int32) (p3 &&& (2147483647 : Int32)))), .val (.ref b6), .val (.long (((((p1 &&& (2147483647 : Int32)).toInt64) * (((2 : Int64) * ((fM (1 : Int32) (p2 &&& (2147483647 : Int32))).toInt64)) - (1 : Int64))) + ((fM (1 : Int32) (p3 &&& (2147483647 : Int32))).toInt64)) / (((fM (1 : Int32) (p3 &&& (2147483647 : Int32))).toInt64) + (1 : Int64)))), .second, .val (.long (((p1 &&& (2147483647 : Int32)).toInt64) * (((2 : Int64) * ((fM (1 : Int32) (p2 &&& (2147483647 : Int32))).toInt64)) - (1 : Int64)))), .second, .val (.long (((fM (1 : Int32) (p3 &&& (2147483647 : Int32))).toInt64) + (1 : Int64))), .second] [(.long (((((p1 &&& (2147483647 : Int32)).toInt64) * (((2 : Int64) * ((fM (1 : Int32) (p2 &&& (2147483647 : Int32))).toInt64)) - (1 : Int64))) + ((fM (1 : Int32) (p3 &&& (2147483647 : Int32))).toInt64)) / (((fM (1 : Int32) (p3 &&& (2147483647 : Int32))).toInt64) + (1 : Int64))))])) _
    refine XS.lconst X32.here hx rfl (hb hby at_93) ?_
    show Steps p.tables e below (T32.setTop (mkF m 94 #[.val (.int p1), .val (.int p2), .val (.int p3), .val (.int (p1 &&& (2147483647 : Int32))), .val (.int (fM (1 : Int32) (p2 &&& (2147483647 : Int32)))), .val (.int (fM (1 : Int32) (p3 &&& (2147483647 : Int32)))), .val (.ref b6), .val (.long (((((p1 &&& (2147483647 : Int32)).toInt64) * (((2 : Int64) * ((fM (1 : Int32) (p2 &&& (2147483647 : Int32))).toInt64)) - (1 : Int64))) + ((fM (1 : Int32) (p3 &&& (2147483647 : Int32))).toInt64)) / (((fM (1 : Int32) (p3 &&& (2147483647 : Int32))).toInt64) + (1 : Int64)))), .second, .val (.long (((p1 &&& (2147483647 : Int32)).toInt64) * (((2 : Int64) * ((fM (1 : Int32) (p2 &&& (2147483647 : Int32))).toInt64)) - (1 : Int64)))), .second, .val (.long (((fM (1 : Int32) (p3 &&& (2147483647 : Int32))).toInt64) + (1 : Int64))), .second] [(.long (1 : Int64)), (.long (((((p1 &&& (2147483647 : Int32)).toInt64) * (((2 : Int64) * ((fM (1 : Int32) (p2 &&& (2147483647 : Int32))).toInt64)) - (1 : Int64))) + ((fM (1 : Int32) (p3 &&& (2147483647 : Int32))).toInt64)) / (((fM (1 : Int32) (p3 &&& (2147483647 : Int32))).toInt64) + (1 : Int64))))])) _
    refine XS.lsub X32.here hx rfl (hb hby at_94) rfl ?_
    show Steps p.tables e below (T32.setTop (mkF m 95 #[.val (.int p1), .val (.int p2), .val (.int p3), .val (.int (p1 &&& (2147483647 : Int32))), .val (.int (fM (1 : Int32) (p2 &&& (2147483647 : Int32)))), .val (.int (fM (1 : Int32) (p3 &&& (2147483647 : Int32)))), .val (.ref b6), .val (.long (((((p1 &&& (2147483647 : Int32)).toInt64) * (((2 : Int64) * ((fM (1 : Int32) (p2 &&& (2147483647 : Int32))).toInt64)) - (1 : Int64))) + ((fM (1 : Int32) (p3 &&& (2147483647 : Int32))).toInt64)) / (((fM (1 : Int32) (p3 &&& (2147483647 : Int32))).toInt64) + (1 : Int64)))), .second, .val (.long (((p1 &&& (2147483647 : Int32)).toInt64) * (((2 : Int64) * ((fM (1 : Int32) (p2 &&& (2147483647 : Int32))).toInt64)) - (1 : Int64)))), .second, .val (.long (((fM (1 : Int32) (p3 &&& (2147483647 : Int32))).toInt64) + (1 : Int64))), .second] [(.long ((((((p1 &&& (2147483647 : Int32)).toInt64) * (((2 : Int64) * ((fM (1 : Int32) (p2 &&& (2147483647 : Int32))).toInt64)) - (1 : Int64))) + ((fM (1 : Int32) (p3 &&& (2147483647 : Int32))).toInt64)) / (((fM (1 : Int32) (p3 &&& (2147483647 : Int32))).toInt64) + (1 : Int64))) - (1 : Int64)))])) _
    refine XS.lload X32.here hx rfl (hb hby at_95) rfl ?_
    show Steps p.tables e below (T32.setTop (mkF m 97 #[.val (.int p1), .val (.int p2), .val (.int p3), .val (.int (p1 &&& (2147483647 : Int32))), .val (.int (fM (1 : Int32) (p2 &&& (2147483647 : Int32)))), .val (.int (fM (1 : Int32) (p3 &&& (2147483647 : Int32)))), .val (.ref b6), .val (.long (((((p1 &&& (2147483647 : Int32)).toInt64) * (((2 : Int64) * ((fM (1 : Int32) (p2 &&& (2147483647 : Int32))).toInt64)) - (1 : Int64))) + ((fM (1 : Int32) (p3 &&& (2147483647 : Int32))).toInt64)) / (((fM (1 : Int32) (p3 &&& (2147483647 : Int32))).toInt64) + (1 : Int64)))), .second, .val (.long (((p1 &&& (2147483647 : Int32)).toInt64) * (((2 : Int64) * ((fM (1 : Int32) (p2 &&& (2147483647 : Int32))).toInt64)) - (1 : Int64)))), .second, .val (.long (((fM (1 : Int32) (p3 &&& (2147483647 : Int32))).toInt64) + (1 : Int64))), .second] [(.long (((fM (1 : Int32) (p3 &&& (2147483647 : Int32))).toInt64) + (1 : Int64))), (.long ((((((p1 &&& (2147483647 : Int32)).toInt64) * (((2 : Int64) * ((fM (1 : Int32) (p2 &&& (2147483647 : Int32))).toInt64)) - (1 : Int64))) + ((fM (1 : Int32) (p3 &&& (2147483647 : Int32))).toInt64)) / (((fM (1 : Int32) (p3 &&& (2147483647 : Int32))).toInt64) + (1 : Int64))) - (1 : Int64)))])) _
    refine XS.lmul X32.here hx rfl (hb hby at_97) rfl ?_
    show Steps p.tables e below (T32.setTop (mkF m 98 #[.val (.int p1), .val (.int p2), .val (.int p3), .val (.int (p1 &&& (2147483647 : Int32))), .val (.int (fM (1 : Int32) (p2 &&& (2147483647 : Int32)))), .val (.int (fM (1 : Int32) (p3 &&& (2147483647 : Int32)))), .val (.ref b6), .val (.long (((((p1 &&& (2147483647 : Int32)).toInt64) * (((2 : Int64) * ((fM (1 : Int32) (p2 &&& (2147483647 : Int32))).toInt64)) - (1 : Int64))) + ((fM (1 : Int32) (p3 &&& (2147483647 : Int32))).toInt64)) / (((fM (1 : Int32) (p3 &&& (2147483647 : Int32))).toInt64) + (1 : Int64)))), .second, .val (.long (((p1 &&& (2147483647 : Int32)).toInt64) * (((2 : Int64) * ((fM (1 : Int32) (p2 &&& (2147483647 : Int32))).toInt64)) - (1 : Int64)))), .second, .val (.long (((fM (1 : Int32) (p3 &&& (2147483647 : Int32))).toInt64) + (1 : Int64))), .second] [(.long (((((((p1 &&& (2147483647 : Int32)).toInt64) * (((2 : Int64) * ((fM (1 : Int32) (p2 &&& (2147483647 : Int32))).toInt64)) - (1 : Int64))) + ((fM (1 : Int32) (p3 &&& (2147483647 : Int32))).toInt64)) / (((fM (1 : Int32) (p3 &&& (2147483647 : Int32))).toInt64) + (1 : Int64))) - (1 : Int64)) * (((fM (1 : Int32) (p3 &&& (2147483647 : Int32))).toInt64) + (1 : Int64))))])) _
    refine XS.lload X32.here hx rfl (hb hby at_98) rfl ?_
    show Steps p.tables e below (T32.setTop (mkF m 100 #[.val (.int p1), .val (.int p2), .val (.int p3), .val (.int (p1 &&& (2147483647 : Int32))), .val (.int (fM (1 : Int32) (p2 &&& (2147483647 : Int32)))), .val (.int (fM (1 : Int32) (p3 &&& (2147483647 : Int32)))), .val (.ref b6), .val (.long (((((p1 &&& (2147483647 : Int32)).toInt64) * (((2 : Int64) * ((fM (1 : Int32) (p2 &&& (2147483647 : Int32))).toInt64)) - (1 : Int64))) + ((fM (1 : Int32) (p3 &&& (2147483647 : Int32))).toInt64)) / (((fM (1 : Int32) (p3 &&& (2147483647 : Int32))).toInt64) + (1 : Int64)))), .second, .val (.long (((p1 &&& (2147483647 : Int32)).toInt64) * (((2 : Int64) * ((fM (1 : Int32) (p2 &&& (2147483647 : Int32))).toInt64)) - (1 : Int64)))), .second, .val (.long (((fM (1 : Int32) (p3 &&& (2147483647 : Int32))).toInt64) + (1 : Int64))), .second] [(.long (((p1 &&& (2147483647 : Int32)).toInt64) * (((2 : Int64) * ((fM (1 : Int32) (p2 &&& (2147483647 : Int32))).toInt64)) - (1 : Int64)))), (.long (((((((p1 &&& (2147483647 : Int32)).toInt64) * (((2 : Int64) * ((fM (1 : Int32) (p2 &&& (2147483647 : Int32))).toInt64)) - (1 : Int64))) + ((fM (1 : Int32) (p3 &&& (2147483647 : Int32))).toInt64)) / (((fM (1 : Int32) (p3 &&& (2147483647 : Int32))).toInt64) + (1 : Int64))) - (1 : Int64)) * (((fM (1 : Int32) (p3 &&& (2147483647 : Int32))).toInt64) + (1 : Int64))))])) _
    refine XS.lcmp X32.here hx rfl (hb hby at_100) rfl ?_
    show Steps p.tables e below (T32.setTop (mkF m 101 #[.val (.int p1), .val (.int p2), .val (.int p3), .val (.int (p1 &&& (2147483647 : Int32))), .val (.int (fM (1 : Int32) (p2 &&& (2147483647 : Int32)))), .val (.int (fM (1 : Int32) (p3 &&& (2147483647 : Int32)))), .val (.ref b6), .val (.long (((((p1 &&& (2147483647 : Int32)).toInt64) * (((2 : Int64) * ((fM (1 : Int32) (p2 &&& (2147483647 : Int32))).toInt64)) - (1 : Int64))) + ((fM (1 : Int32) (p3 &&& (2147483647 : Int32))).toInt64)) / (((fM (1 : Int32) (p3 &&& (2147483647 : Int32))).toInt64) + (1 : Int64)))), .second, .val (.long (((p1 &&& (2147483647 : Int32)).toInt64) * (((2 : Int64) * ((fM (1 : Int32) (p2 &&& (2147483647 : Int32))).toInt64)) - (1 : Int64)))), .second, .val (.long (((fM (1 : Int32) (p3 &&& (2147483647 : Int32))).toInt64) + (1 : Int64))), .second] [(.int (lcmpW (((((((p1 &&& (2147483647 : Int32)).toInt64) * (((2 : Int64) * ((fM (1 : Int32) (p2 &&& (2147483647 : Int32))).toInt64)) - (1 : Int64))) + ((fM (1 : Int32) (p3 &&& (2147483647 : Int32))).toInt64)) / (((fM (1 : Int32) (p3 &&& (2147483647 : Int32))).toInt64) + (1 : Int64))) - (1 : Int64)) * (((fM (1 : Int32) (p3 &&& (2147483647 : Int32))).toInt64) + (1 : Int64))) (((p1 &&& (2147483647 : Int32)).toInt64) * (((2 : Int64) * ((fM (1 : Int32) (p2 &&& (2147483647 : Int32))).toInt64)) - (1 : Int64)))))])) _
    refine XS.ifNo X32.here hx rfl (hb hby at_101) rfl ((if0 _ _).trans (tlt ((lw_lt _ _).mpr ((own_all _ _ _ (own_t p1) (own_max p2) (own_max p3)).2.2.1 : (((((((p1 &&& (2147483647 : Int32)).toInt64) * (((2 : Int64) * ((fM (1 : Int32) (p2 &&& (2147483647 : Int32))).toInt64)) - (1 : Int64))) + ((fM (1 : Int32) (p3 &&& (2147483647 : Int32))).toInt64)) / (((fM (1 : Int32) (p3 &&& (2147483647 : Int32))).toInt64) + (1 : Int64))) - (1 : Int64)) * (((fM (1 : Int32) (p3 &&& (2147483647 : Int32))).toInt64) + (1 : Int64))) < (((p1 &&& (2147483647 : Int32)).toInt64) * (((2 : Int64) * ((fM (1 : Int32) (p2 &&& (2147483647 : Int32))).toInt64)) - (1 : Int64)))))).2.1) ?_
    show Steps p.tables e below (T32.setTop (mkF m 104 #[.val (.int p1), .val (.int p2), .val (.int p3), .val (.int (p1 &&& (2147483647 : Int32))), .val (.int (fM (1 : Int32) (p2 &&& (2147483647 : Int32)))), .val (.int (fM (1 : Int32) (p3 &&& (2147483647 : Int32)))), .val (.ref b6), .val (.long (((((p1 &&& (2147483647 : Int32)).toInt64) * (((2 : Int64) * ((fM (1 : Int32) (p2 &&& (2147483647 : Int32))).toInt64)) - (1 : Int64))) + ((fM (1 : Int32) (p3 &&& (2147483647 : Int32))).toInt64)) / (((fM (1 : Int32) (p3 &&& (2147483647 : Int32))).toInt64) + (1 : Int64)))), .second, .val (.long (((p1 &&& (2147483647 : Int32)).toInt64) * (((2 : Int64) * ((fM (1 : Int32) (p2 &&& (2147483647 : Int32))).toInt64)) - (1 : Int64)))), .second, .val (.long (((fM (1 : Int32) (p3 &&& (2147483647 : Int32))).toInt64) + (1 : Int64))), .second] [])) _
    refine XS.lload X32.here hx rfl (hb hby at_104) rfl ?_
    show Steps p.tables e below (T32.setTop (mkF m 106 #[.val (.int p1), .val (.int p2), .val (.int p3), .val (.int (p1 &&& (2147483647 : Int32))), .val (.int (fM (1 : Int32) (p2 &&& (2147483647 : Int32)))), .val (.int (fM (1 : Int32) (p3 &&& (2147483647 : Int32)))), .val (.ref b6), .val (.long (((((p1 &&& (2147483647 : Int32)).toInt64) * (((2 : Int64) * ((fM (1 : Int32) (p2 &&& (2147483647 : Int32))).toInt64)) - (1 : Int64))) + ((fM (1 : Int32) (p3 &&& (2147483647 : Int32))).toInt64)) / (((fM (1 : Int32) (p3 &&& (2147483647 : Int32))).toInt64) + (1 : Int64)))), .second, .val (.long (((p1 &&& (2147483647 : Int32)).toInt64) * (((2 : Int64) * ((fM (1 : Int32) (p2 &&& (2147483647 : Int32))).toInt64)) - (1 : Int64)))), .second, .val (.long (((fM (1 : Int32) (p3 &&& (2147483647 : Int32))).toInt64) + (1 : Int64))), .second] [(.long (((p1 &&& (2147483647 : Int32)).toInt64) * (((2 : Int64) * ((fM (1 : Int32) (p2 &&& (2147483647 : Int32))).toInt64)) - (1 : Int64))))])) _
    refine XS.lload X32.here hx rfl (hb hby at_106) rfl ?_
    show Steps p.tables e below (T32.setTop (mkF m 108 #[.val (.int p1), .val (.int p2), .val (.int p3), .val (.int (p1 &&& (2147483647 : Int32))), .val (.int (fM (1 : Int32) (p2 &&& (2147483647 : Int32)))), .val (.int (fM (1 : Int32) (p3 &&& (2147483647 : Int32)))), .val (.ref b6), .val (.long (((((p1 &&& (2147483647 : Int32)).toInt64) * (((2 : Int64) * ((fM (1 : Int32) (p2 &&& (2147483647 : Int32))).toInt64)) - (1 : Int64))) + ((fM (1 : Int32) (p3 &&& (2147483647 : Int32))).toInt64)) / (((fM (1 : Int32) (p3 &&& (2147483647 : Int32))).toInt64) + (1 : Int64)))), .second, .val (.long (((p1 &&& (2147483647 : Int32)).toInt64) * (((2 : Int64) * ((fM (1 : Int32) (p2 &&& (2147483647 : Int32))).toInt64)) - (1 : Int64)))), .second, .val (.long (((fM (1 : Int32) (p3 &&& (2147483647 : Int32))).toInt64) + (1 : Int64))), .second] [(.long (((((p1 &&& (2147483647 : Int32)).toInt64) * (((2 : Int64) * ((fM (1 : Int32) (p2 &&& (2147483647 : Int32))).toInt64)) - (1 : Int64))) + ((fM (1 : Int32) (p3 &&& (2147483647 : Int32))).toInt64)) / (((fM (1 : Int32) (p3 &&& (2147483647 : Int32))).toInt64) + (1 : Int64)))), (.long (((p1 &&& (2147483647 : Int32)).toInt64) * (((2 : Int64) * ((fM (1 : Int32) (p2 &&& (2147483647 : Int32))).toInt64)) - (1 : Int64))))])) _
    refine XS.lload X32.here hx rfl (hb hby at_108) rfl ?_
    show Steps p.tables e below (T32.setTop (mkF m 110 #[.val (.int p1), .val (.int p2), .val (.int p3), .val (.int (p1 &&& (2147483647 : Int32))), .val (.int (fM (1 : Int32) (p2 &&& (2147483647 : Int32)))), .val (.int (fM (1 : Int32) (p3 &&& (2147483647 : Int32)))), .val (.ref b6), .val (.long (((((p1 &&& (2147483647 : Int32)).toInt64) * (((2 : Int64) * ((fM (1 : Int32) (p2 &&& (2147483647 : Int32))).toInt64)) - (1 : Int64))) + ((fM (1 : Int32) (p3 &&& (2147483647 : Int32))).toInt64)) / (((fM (1 : Int32) (p3 &&& (2147483647 : Int32))).toInt64) + (1 : Int64)))), .second, .val (.long (((p1 &&& (2147483647 : Int32)).toInt64) * (((2 : Int64) * ((fM (1 : Int32) (p2 &&& (2147483647 : Int32))).toInt64)) - (1 : Int64)))), .second, .val (.long (((fM (1 : Int32) (p3 &&& (2147483647 : Int32))).toInt64) + (1 : Int64))), .second] [(.long (((fM (1 : Int32) (p3 &&& (2147483647 : Int32))).toInt64) + (1 : Int64))), (.long (((((p1 &&& (2147483647 : Int32)).toInt64) * (((2 : Int64) * ((fM (1 : Int32) (p2 &&& (2147483647 : Int32))).toInt64)) - (1 : Int64))) + ((fM (1 : Int32) (p3 &&& (2147483647 : Int32))).toInt64)) / (((fM (1 : Int32) (p3 &&& (2147483647 : Int32))).toInt64) + (1 : Int64)))), (.long (((p1 &&& (2147483647 : Int32)).toInt64) * (((2 : Int64) * ((fM (1 : Int32) (p2 &&& (2147483647 : Int32))).toInt64)) - (1 : Int64))))])) _
    refine XS.lmul X32.here hx rfl (hb hby at_110) rfl ?_
    show Steps p.tables e below (T32.setTop (mkF m 111 #[.val (.int p1), .val (.int p2), .val (.int p3), .val (.int (p1 &&& (2147483647 : Int32))), .val (.int (fM (1 : Int32) (p2 &&& (2147483647 : Int32)))), .val (.int (fM (1 : Int32) (p3 &&& (2147483647 : Int32)))), .val (.ref b6), .val (.long (((((p1 &&& (2147483647 : Int32)).toInt64) * (((2 : Int64) * ((fM (1 : Int32) (p2 &&& (2147483647 : Int32))).toInt64)) - (1 : Int64))) + ((fM (1 : Int32) (p3 &&& (2147483647 : Int32))).toInt64)) / (((fM (1 : Int32) (p3 &&& (2147483647 : Int32))).toInt64) + (1 : Int64)))), .second, .val (.long (((p1 &&& (2147483647 : Int32)).toInt64) * (((2 : Int64) * ((fM (1 : Int32) (p2 &&& (2147483647 : Int32))).toInt64)) - (1 : Int64)))), .second, .val (.long (((fM (1 : Int32) (p3 &&& (2147483647 : Int32))).toInt64) + (1 : Int64))), .second] [(.long ((((((p1 &&& (2147483647 : Int32)).toInt64) * (((2 : Int64) * ((fM (1 : Int32) (p2 &&& (2147483647 : Int32))).toInt64)) - (1 : Int64))) + ((fM (1 : Int32) (p3 &&& (2147483647 : Int32))).toInt64)) / (((fM (1 : Int32) (p3 &&& (2147483647 : Int32))).toInt64) + (1 : Int64))) * (((fM (1 : Int32) (p3 &&& (2147483647 : Int32))).toInt64) + (1 : Int64)))), (.long (((p1 &&& (2147483647 : Int32)).toInt64) * (((2 : Int64) * ((fM (1 : Int32) (p2 &&& (2147483647 : Int32))).toInt64)) - (1 : Int64))))])) _
    refine XS.lcmp X32.here hx rfl (hb hby at_111) rfl ?_
    show Steps p.tables e below (T32.setTop (mkF m 112 #[.val (.int p1), .val (.int p2), .val (.int p3), .val (.int (p1 &&& (2147483647 : Int32))), .val (.int (fM (1 : Int32) (p2 &&& (2147483647 : Int32)))), .val (.int (fM (1 : Int32) (p3 &&& (2147483647 : Int32)))), .val (.ref b6), .val (.long (((((p1 &&& (2147483647 : Int32)).toInt64) * (((2 : Int64) * ((fM (1 : Int32) (p2 &&& (2147483647 : Int32))).toInt64)) - (1 : Int64))) + ((fM (1 : Int32) (p3 &&& (2147483647 : Int32))).toInt64)) / (((fM (1 : Int32) (p3 &&& (2147483647 : Int32))).toInt64) + (1 : Int64)))), .second, .val (.long (((p1 &&& (2147483647 : Int32)).toInt64) * (((2 : Int64) * ((fM (1 : Int32) (p2 &&& (2147483647 : Int32))).toInt64)) - (1 : Int64)))), .second, .val (.long (((fM (1 : Int32) (p3 &&& (2147483647 : Int32))).toInt64) + (1 : Int64))), .second] [(.int (lcmpW (((p1 &&& (2147483647 : Int32)).toInt64) * (((2 : Int64) * ((fM (1 : Int32) (p2 &&& (2147483647 : Int32))).toInt64)) - (1 : Int64))) ((((((p1 &&& (2147483647 : Int32)).toInt64) * (((2 : Int64) * ((fM (1 : Int32) (p2 &&& (2147483647 : Int32))).toInt64)) - (1 : Int64))) + ((fM (1 : Int32) (p3 &&& (2147483647 : Int32))).toInt64)) / (((fM (1 : Int32) (p3 &&& (2147483647 : Int32))).toInt64) + (1 : Int64))) * (((fM (1 : Int32) (p3 &&& (2147483647 : Int32))).toInt64) + (1 : Int64)))))])) _
    refine XS.ifNo X32.here hx rfl (hb hby at_112) rfl ((if0 _ _).trans (flt (mt (lw_gt _ _).mp ((own_all _ _ _ (own_t p1) (own_max p2) (own_max p3)).2.2.2 : ¬ (((((((p1 &&& (2147483647 : Int32)).toInt64) * (((2 : Int64) * ((fM (1 : Int32) (p2 &&& (2147483647 : Int32))).toInt64)) - (1 : Int64))) + ((fM (1 : Int32) (p3 &&& (2147483647 : Int32))).toInt64)) / (((fM (1 : Int32) (p3 &&& (2147483647 : Int32))).toInt64) + (1 : Int64))) * (((fM (1 : Int32) (p3 &&& (2147483647 : Int32))).toInt64) + (1 : Int64))) < (((p1 &&& (2147483647 : Int32)).toInt64) * (((2 : Int64) * ((fM (1 : Int32) (p2 &&& (2147483647 : Int32))).toInt64)) - (1 : Int64))))))).2.2.1) ?_
    show Steps p.tables e below (T32.setTop (mkF m 115 #[.val (.int p1), .val (.int p2), .val (.int p3), .val (.int (p1 &&& (2147483647 : Int32))), .val (.int (fM (1 : Int32) (p2 &&& (2147483647 : Int32)))), .val (.int (fM (1 : Int32) (p3 &&& (2147483647 : Int32)))), .val (.ref b6), .val (.long (((((p1 &&& (2147483647 : Int32)).toInt64) * (((2 : Int64) * ((fM (1 : Int32) (p2 &&& (2147483647 : Int32))).toInt64)) - (1 : Int64))) + ((fM (1 : Int32) (p3 &&& (2147483647 : Int32))).toInt64)) / (((fM (1 : Int32) (p3 &&& (2147483647 : Int32))).toInt64) + (1 : Int64)))), .second, .val (.long (((p1 &&& (2147483647 : Int32)).toInt64) * (((2 : Int64) * ((fM (1 : Int32) (p2 &&& (2147483647 : Int32))).toInt64)) - (1 : Int64)))), .second, .val (.long (((fM (1 : Int32) (p3 &&& (2147483647 : Int32))).toInt64) + (1 : Int64))), .second] [])) _
    refine XS.iconst X32.here hx rfl (hb hby at_115) ?_
    show Steps p.tables e below (T32.setTop (mkF m 116 #[.val (.int p1), .val (.int p2), .val (.int p3), .val (.int (p1 &&& (2147483647 : Int32))), .val (.int (fM (1 : Int32) (p2 &&& (2147483647 : Int32)))), .val (.int (fM (1 : Int32) (p3 &&& (2147483647 : Int32)))), .val (.ref b6), .val (.long (((((p1 &&& (2147483647 : Int32)).toInt64) * (((2 : Int64) * ((fM (1 : Int32) (p2 &&& (2147483647 : Int32))).toInt64)) - (1 : Int64))) + ((fM (1 : Int32) (p3 &&& (2147483647 : Int32))).toInt64)) / (((fM (1 : Int32) (p3 &&& (2147483647 : Int32))).toInt64) + (1 : Int64)))), .second, .val (.long (((p1 &&& (2147483647 : Int32)).toInt64) * (((2 : Int64) * ((fM (1 : Int32) (p2 &&& (2147483647 : Int32))).toInt64)) - (1 : Int64)))), .second, .val (.long (((fM (1 : Int32) (p3 &&& (2147483647 : Int32))).toInt64) + (1 : Int64))), .second] [(.int (1 : Int32))])) _
    refine XS.goto X32.here hx rfl (pc0 := 116) (pc' := 120) rfl (hb hby at_116) (by decide) (by decide) ?_
    exact k
  obtain ⟨fs, hr, hrun, hended, hW, hsame⟩ := X32.leave (v := some (.int (1 : Int32))) (fun h => by rw [Bd.returns] at h; cases h)
  refine ⟨_, _, pre0 _ ?_, hrun, hended, _, _, rfl, ?_, ⟨_, rfl⟩, hW, hsame.mono (by decide) (by decide)⟩
  · show Steps p.tables e below (s₁.setTop (mkF m 0 #[.val (.int p1), .val (.int p2), .val (.int p3), .unset, .unset, .unset, .unset, .unset, .unset, .unset, .unset, .unset, .unset] [])) _
    refine sg1 _ ?_
    show Steps p.tables e below (s₁.setTop (mkF m 10 #[.val (.int p1), .val (.int p2), .val (.int p3), .val (.int (p1 &&& (2147483647 : Int32))), .unset, .unset, .unset, .unset, .unset, .unset, .unset, .unset, .unset] [(.int (p2 &&& (2147483647 : Int32))), (.int (1 : Int32))])) _
    refine st2 _ ?_
    show Steps p.tables e below (T2.setTop (mkF m 13 #[.val (.int p1), .val (.int p2), .val (.int p3), .val (.int (p1 &&& (2147483647 : Int32))), .unset, .unset, .unset, .unset, .unset, .unset, .unset, .unset, .unset] [(.int (fM (1 : Int32) (p2 &&& (2147483647 : Int32))))])) _
    refine sg3 _ ?_
    show Steps p.tables e below (T2.setTop (mkF m 20 #[.val (.int p1), .val (.int p2), .val (.int p3), .val (.int (p1 &&& (2147483647 : Int32))), .val (.int (fM (1 : Int32) (p2 &&& (2147483647 : Int32)))), .unset, .unset, .unset, .unset, .unset, .unset, .unset, .unset] [(.int (p3 &&& (2147483647 : Int32))), (.int (1 : Int32))])) _
    refine st4 _ ?_
    show Steps p.tables e below (T4.setTop (mkF m 23 #[.val (.int p1), .val (.int p2), .val (.int p3), .val (.int (p1 &&& (2147483647 : Int32))), .val (.int (fM (1 : Int32) (p2 &&& (2147483647 : Int32)))), .unset, .unset, .unset, .unset, .unset, .unset, .unset, .unset] [(.int (fM (1 : Int32) (p3 &&& (2147483647 : Int32))))])) _
    refine sg5 _ ?_
    show Steps p.tables e below (T4.setTop (mkF m 25 #[.val (.int p1), .val (.int p2), .val (.int p3), .val (.int (p1 &&& (2147483647 : Int32))), .val (.int (fM (1 : Int32) (p2 &&& (2147483647 : Int32)))), .val (.int (fM (1 : Int32) (p3 &&& (2147483647 : Int32)))), .unset, .unset, .unset, .unset, .unset, .unset, .unset] [])) _
    refine st6 _ ?_
    show Steps p.tables e below (T6.setTop (mkF m 28 #[.val (.int p1), .val (.int p2), .val (.int p3), .val (.int (p1 &&& (2147483647 : Int32))), .val (.int (fM (1 : Int32) (p2 &&& (2147483647 : Int32)))), .val (.int (fM (1 : Int32) (p3 &&& (2147483647 : Int32)))), .unset, .unset, .unset, .unset, .unset, .unset, .unset] [(.ref b6)])) _
    refine sg10 _ ?_
    show Steps p.tables e below (T6.setTop (mkF m 29 #[.val (.int p1), .val (.int p2), .val (.int p3), .val (.int (p1 &&& (2147483647 : Int32))), .val (.int (fM (1 : Int32) (p2 &&& (2147483647 : Int32)))), .val (.int (fM (1 : Int32) (p3 &&& (2147483647 : Int32)))), .unset, .unset, .unset, .unset, .unset, .unset, .unset] [(.ref b6), (.ref b6)])) _
    refine st11 _ ?_
    show Steps p.tables e below (T11.setTop (mkF m 32 #[.val (.int p1), .val (.int p2), .val (.int p3), .val (.int (p1 &&& (2147483647 : Int32))), .val (.int (fM (1 : Int32) (p2 &&& (2147483647 : Int32)))), .val (.int (fM (1 : Int32) (p3 &&& (2147483647 : Int32)))), .unset, .unset, .unset, .unset, .unset, .unset, .unset] [(.ref b11), (.ref b6), (.ref b6)])) _
    refine sg18 _ ?_
    show Steps p.tables e below (T11.setTop (mkF m 35 #[.val (.int p1), .val (.int p2), .val (.int p3), .val (.int (p1 &&& (2147483647 : Int32))), .val (.int (fM (1 : Int32) (p2 &&& (2147483647 : Int32)))), .val (.int (fM (1 : Int32) (p3 &&& (2147483647 : Int32)))), .unset, .unset, .unset, .unset, .unset, .unset, .unset] [(.int (fM (1 : Int32) (p2 &&& (2147483647 : Int32)))), (.ref b11), (.ref b11), (.ref b6), (.ref b6)])) _
    refine st19.trans ?_
    show Steps p.tables e below (T19.setTop (mkF m 38 #[.val (.int p1), .val (.int p2), .val (.int p3), .val (.int (p1 &&& (2147483647 : Int32))), .val (.int (fM (1 : Int32) (p2 &&& (2147483647 : Int32)))), .val (.int (fM (1 : Int32) (p3 &&& (2147483647 : Int32)))), .unset, .unset, .unset, .unset, .unset, .unset, .unset] [(.ref b11), (.ref b6), (.ref b6)])) _
    refine sg25 _ ?_
    show Steps p.tables e below (T19.setTop (mkF m 40 #[.val (.int p1), .val (.int p2), .val (.int p3), .val (.int (p1 &&& (2147483647 : Int32))), .val (.int (fM (1 : Int32) (p2 &&& (2147483647 : Int32)))), .val (.int (fM (1 : Int32) (p3 &&& (2147483647 : Int32)))), .unset, .unset, .unset, .unset, .unset, .unset, .unset] [(.int (fM (1 : Int32) (p3 &&& (2147483647 : Int32)))), (.ref b11), (.ref b6), (.ref b6)])) _
    refine st26.trans ?_
    show Steps p.tables e below (T26.setTop (mkF m 43 #[.val (.int p1), .val (.int p2), .val (.int p3), .val (.int (p1 &&& (2147483647 : Int32))), .val (.int (fM (1 : Int32) (p2 &&& (2147483647 : Int32)))), .val (.int (fM (1 : Int32) (p3 &&& (2147483647 : Int32)))), .unset, .unset, .unset, .unset, .unset, .unset, .unset] [(.ref b6)])) _
    refine sg31 _ ?_
    show Steps p.tables e below (T26.setTop (mkF m 48 #[.val (.int p1), .val (.int p2), .val (.int p3), .val (.int (p1 &&& (2147483647 : Int32))), .val (.int (fM (1 : Int32) (p2 &&& (2147483647 : Int32)))), .val (.int (fM (1 : Int32) (p3 &&& (2147483647 : Int32)))), .val (.ref b6), .unset, .unset, .unset, .unset, .unset, .unset] [(.int (p1 &&& (2147483647 : Int32))), (.ref b6)])) _
    refine st32.trans ?_
    show Steps p.tables e below (T32.setTop (mkF m 51 #[.val (.int p1), .val (.int p2), .val (.int p3), .val (.int (p1 &&& (2147483647 : Int32))), .val (.int (fM (1 : Int32) (p2 &&& (2147483647 : Int32)))), .val (.int (fM (1 : Int32) (p3 &&& (2147483647 : Int32)))), .val (.ref b6), .unset, .unset, .unset, .unset, .unset, .unset] [(.long (((((p1 &&& (2147483647 : Int32)).toInt64) * (((2 : Int64) * ((fM (1 : Int32) (p2 &&& (2147483647 : Int32))).toInt64)) - (1 : Int64))) + ((fM (1 : Int32) (p3 &&& (2147483647 : Int32))).toInt64)) / (((fM (1 : Int32) (p3 &&& (2147483647 : Int32))).toInt64) + (1 : Int64))))])) _
    refine sg33 _ ?_
    show Steps p.tables e below (T32.setTop (mkF m 120 #[.val (.int p1), .val (.int p2), .val (.int p3), .val (.int (p1 &&& (2147483647 : Int32))), .val (.int (fM (1 : Int32) (p2 &&& (2147483647 : Int32)))), .val (.int (fM (1 : Int32) (p3 &&& (2147483647 : Int32)))), .val (.ref b6), .val (.long (((((p1 &&& (2147483647 : Int32)).toInt64) * (((2 : Int64) * ((fM (1 : Int32) (p2 &&& (2147483647 : Int32))).toInt64)) - (1 : Int64))) + ((fM (1 : Int32) (p3 &&& (2147483647 : Int32))).toInt64)) / (((fM (1 : Int32) (p3 &&& (2147483647 : Int32))).toInt64) + (1 : Int64)))), .second, .val (.long (((p1 &&& (2147483647 : Int32)).toInt64) * (((2 : Int64) * ((fM (1 : Int32) (p2 &&& (2147483647 : Int32))).toInt64)) - (1 : Int64)))), .second, .val (.long (((fM (1 : Int32) (p3 &&& (2147483647 : Int32))).toInt64) + (1 : Int64))), .second] [(.int (1 : Int32))])) _
    exact retN X32 hx (t := .boolean) Bd.returns (by simp) (hb hby at_120) hr
  · show Q0 Z p1 p2 p3 h0 n0 _ T32.heap _
    rw [e32]
    exact ⟨rfl, N32⟩
set_option maxRecDepth 65536 in
set_option maxHeartbeats 40000000 in
theorem comes_1 {Post : Tables → Env → Array Value → State → Outcome → State → Prop} (hpost : ∀ tb e args s v u, (limb_1_1.after args s (.returned v) u = true ∧ limb_1_2.after args s (.returned v) u = true ∧ True) → FrameEnd s (.returned v) u (Jvm.fieldLocs frame_1_writes args s ++ Jvm.arrayLocs frame_1_arrays args s ++ Jvm.staticLocs frame_1_statics s) 16 128 → Post tb e args s (.returned v) u) :
    ArmFor flags0 classFile x code maxLocals ret World_1 tables_1 room_1 Calls_1 rest_1 Pre_1 Post := by
  intro l hfl _ _ p e ha hc hk s m args below hf hA hF happ hP
  obtain ⟨hcalls, hrest, hpre⟩ := hP
  obtain ⟨-, -, -, hnamed, -, -, -, hat⟩ := (Spec.applies_iff hf).mp happ
  obtain ⟨hg, hn⟩ := and_e (Cond.before_iff.mp (show (Jvm.Cond.and given_1 narrow_1).before args s = true from hpre))
  obtain ⟨gc, gr0⟩ := and_e hg
  obtain ⟨ga0, gr1⟩ := and_e gr0
  obtain ⟨ga1, gr2⟩ := and_e gr1
  have ga2 := gr2
  obtain ⟨w0, w1, w2, rfl⟩ : ∃ w0 w1 w2 : Value, args = #[w0, w1, w2] := by
    have hs : args.size = 3 := by simpa [Cond.value, given_1] using gc
    obtain ⟨L⟩ := args
    match L, hs with
    | [w0, w1, w2], _ => exact ⟨w0, w1, w2, rfl⟩
  have hw := fun d (hd : d ∈ tables_1) => atoms_spec (ws := Jvm.Cond.code x code maxLocals ret :: tables_1) hat d (List.mem_cons_of_mem _ hd)
  have hfit : Fit s := fun {y c} hc i hi => by
    obtain ⟨ha, rfl⟩ := Array.getElem?_eq_some_iff.mp hc
    have q := List.all_eq_true.mp ((Array.all_eq_true_iff_forall_mem.mp hF) _ (Array.getElem_mem ha)) i (List.mem_range.mpr hi)
    simpa [Array.getElem?_eq_getElem hi] using q
  obtain ⟨i0, ei0⟩ := is_v ga0
  obtain rfl : w0 = (.int i0) := Option.some.inj ei0
  obtain ⟨i1, ei1⟩ := is_v ga1
  obtain rfl : w1 = (.int i1) := Option.some.inj ei1
  obtain ⟨i2, ei2⟩ := is_v ga2
  obtain rfl : w2 = (.int i2) := Option.some.inj ei2
  obtain ⟨n, o, h1, h2, h3, _, L, rfl, ⟨rfl, N⟩, hq⟩ := rm0 l s _ hw tables_1 i0 i1 i2 s.heap s.heap.size (Nat.le_refl _)  p e ha hc hk s m _ below hf ((Spec.applies_iff_loose hf).mp happ).1 ⟨rfl, State.Warmed39.refl s, rfl⟩ trivial
  refine ⟨n, _, h1, h2, h3, hpost _ _ _ _ _ _ ⟨Cond.after_iff.mpr rfl, Cond.after_iff.mpr (eq_i res_at (Term.int_eval (1)) rfl), trivial⟩ ⟨hq.1, hq.2.1, (hq.2.2.sift fun y hy => Or.inr (N y hy)).mono (by decide) (by decide)⟩⟩
theorem main_1_1 : Claimed_1_1 := comes_1 fun _ _ _ _ _ _ h hF => ⟨h.1, hF⟩
theorem main_1_2 : Claimed_1_2 := comes_1 fun _ _ _ _ _ _ h hF => ⟨h.2.1, hF⟩
end Jvm.Pilot.@@N@@
namespace Jvm.Pilot.@@N@@
open Jvm Jvm.ClassFile Sem Op Lib Jvm.Free Jvm.Stand Jvm.Pilot.@@N@@.Jvm.D
/-! MADE BY PROGRAM (witnessworld.py) out of the Statement's table words and the real class files: 13 classes; the members and pool entries that the words name. The judged class is class 1, her method 1. -/
namespace start1
open Jvm.ClassFile
def u (s : String) : CpInfo := .utf8 (stringToUtf16 s)
/-- a pool by its gaps: so many unusable entries, then the entry; so many at the end -/
def gap : Nat → List CpInfo → List CpInfo
  | 0, r => r
  | n + 1, r => .unusable :: gap n r
def poolList (es : List (Nat × CpInfo)) (last : Nat) : List CpInfo := es.foldr (fun e r => gap e.1 (e.2 :: r)) (gap last [])
def pool (es : List (Nat × CpInfo)) (last : Nat) : Array CpInfo := ⟨poolList es last⟩
def fileOf (pool : Array CpInfo) (this : Nat) (attrs : Array Attribute := #[]) (ms : Array MethodInfo := #[]) (fl : Nat := 33) (sup : Nat := 0) (ifs : Array Nat := #[]) (fds : Array FieldInfo := #[]) : ClassFile where
  minorVersion := 0
  majorVersion := 65
  constantPool := pool
  accessFlags := fl
  thisClass := this
  superClass := sup
  interfaces := ifs
  fields := fds
  methods := ms
  attributes := attrs
def plain (name : String) (sup : Option ClassId) : Class where
  name := name
  kind := .ordinary
  loader := none
  accessFlags := 33
  super := sup
  interfaces := #[]
  cf := none
  fields := #[]
  methods := #[]
  instanceTypes := #[]
  staticTypes := #[]
  resolved := #[]
  callSites := []
  init := .initialized
  statics := none
  mirror := none

def pool0 : Array CpInfo := pool [(5, u "<init>"), (0, u "()V"), (1, .class_ 10), (1, u "java/lang/Object")] 113

def k0c0 : Code := { maxStack := 0, maxLocals := 1, code := object_method_1_code, exceptionTable := #[], attributes := #[] }
def k0m0 : Method := { name := "<init>", desc := "()V", sig := { parameters := [], returnType := none }, accessFlags := 1, code := some k0c0 }
/-- java/lang/Object -/
def k0 : Class := { plain "java/lang/Object" none with
  accessFlags := 33
  interfaces := #[]
  cf := some (fileOf pool0 8 #[] #[{ accessFlags := 1, nameIndex := 5, descriptorIndex := 6, attributes := #[] }] 33 0 #[] #[])
  fields := #[]
  methods := #[k0m0]
  instanceTypes := #[]
  staticTypes := #[]
  resolved := Array.replicate 124 none
  statics := none }

def pool1 : Array CpInfo := pool [(2, .class_ 4), (1, u "java/lang/Object"), (0, u "<init>"), (0, u "()V"), (0, .integer 2147483647), (0, .methodref 9 10), (0, .class_ 11), (0, .nameAndType 12 13), (0, u "java/lang/Math"), (0, u "max"), (0, u "(II)I"), (0, .class_ 15), (0, u "com/example/haversack/haversack/core/BalancingPolicy"), (0, .class_ 17), (0, u "com/example/haversack/haversack/core/IncrementalCapacity"), (0, .methodref 16 19), (0, .nameAndType 5 20), (0, u "(I)V"), (0, .methodref 14 22), (0, .nameAndType 5 23), (0, u "(Lcom/example/haversack/haversack/core/IncrementalCapacity;I)V"), (0, .methodref 14 25), (0, .nameAndType 26 27), (0, u "limit"), (0, u "(I)J"), (0, .long 2), (1, .class_ 31), (0, u "com/example/haversack/haversack/core/BalancingPolicyLimitPinLaw"), (2, u "law"), (0, u "(III)Z")] 3

def k1m0 : Method := { name := "<init>", desc := "()V", sig := { parameters := [], returnType := none }, accessFlags := 2, code := none }
def k1c1 : Code := { maxStack := 6, maxLocals := 13, code := code, exceptionTable := #[], attributes := #[] }
def k1m1 : Method := { name := "law", desc := "(III)Z", sig := { parameters := [.int, .int, .int], returnType := some .boolean }, accessFlags := 9, code := some k1c1 }
/-- com/example/haversack/haversack/core/BalancingPolicyLimitPinLaw -/
def k1 : Class := { plain "com/example/haversack/haversack/core/BalancingPolicyLimitPinLaw" (some 0) with
  accessFlags := 49
  interfaces := #[]
  cf := some (fileOf pool1 30 #[] #[{ accessFlags := 2, nameIndex := 5, descriptorIndex := 6, attributes := #[] }, { accessFlags := 9, nameIndex := 34, descriptorIndex := 35, attributes := #[] }] 49 2 #[] #[])
  fields := #[]
  methods := #[k1m0, k1m1]
  instanceTypes := #[]
  staticTypes := #[]
  resolved := Array.replicate 39 none
  statics := none }

def pool2 : Array CpInfo := pool [(1, .class_ 2), (0, u "java/lang/Math"), (1, .class_ 6), (1, u "java/lang/Object"), (0, u "<init>"), (0, u "()V"), (89, .class_ 100), (1, u "java/lang/Math$RandomNumberGeneratorHolder"), (71, u "negativeZeroFloatBits"), (0, u "J"), (2, u "negativeZeroDoubleBits"), (21, u "max"), (46, u "$assertionsDisabled"), (0, u "Z"), (88, u "(II)I"), (2, u "twoToTheDoubleScaleDown"), (0, u "D"), (4, u "twoToTheDoubleScaleUp"), (9, u "E"), (3, u "PI"), (2, u "TAU"), (2, u "DEGREES_TO_RADIANS"), (0, u "RADIANS_TO_DEGREES")] 94

def k2m0 : Method := { name := "<init>", desc := "()V", sig := { parameters := [], returnType := none }, accessFlags := 2, code := none }
def k2c1 : Code := { maxStack := 2, maxLocals := 2, code := jdk_29_method_65_code, exceptionTable := #[], attributes := #[] }
def k2m1 : Method := { name := "max", desc := "(II)I", sig := { parameters := [.int, .int], returnType := some .int }, accessFlags := 9, code := some k2c1 }
/-- java/lang/Math -/
def k2 : Class := { plain "java/lang/Math" (some 0) with
  accessFlags := 49
  interfaces := #[]
  cf := some (fileOf pool2 1 #[.nestMembers #[98]] #[{ accessFlags := 2, nameIndex := 7, descriptorIndex := 8, attributes := #[] }, { accessFlags := 9, nameIndex := 198, descriptorIndex := 335, attributes := #[] }] 49 4 #[] #[{ accessFlags := 25, nameIndex := 354, descriptorIndex := 339, attributes := #[] }, { accessFlags := 25, nameIndex := 358, descriptorIndex := 339, attributes := #[] }, { accessFlags := 25, nameIndex := 361, descriptorIndex := 339, attributes := #[] }, { accessFlags := 26, nameIndex := 364, descriptorIndex := 339, attributes := #[] }, { accessFlags := 26, nameIndex := 365, descriptorIndex := 339, attributes := #[] }, { accessFlags := 26, nameIndex := 172, descriptorIndex := 173, attributes := #[] }, { accessFlags := 26, nameIndex := 176, descriptorIndex := 173, attributes := #[] }, { accessFlags := 8, nameIndex := 344, descriptorIndex := 339, attributes := #[] }, { accessFlags := 8, nameIndex := 338, descriptorIndex := 339, attributes := #[] }, { accessFlags := 4120, nameIndex := 245, descriptorIndex := 246, attributes := #[] }])
  fields := #[{ name := "E", type := .double, accessFlags := 25, slot := 0, constantValue := 0 }, { name := "PI", type := .double, accessFlags := 25, slot := 1, constantValue := 0 }, { name := "TAU", type := .double, accessFlags := 25, slot := 2, constantValue := 0 }, { name := "DEGREES_TO_RADIANS", type := .double, accessFlags := 26, slot := 3, constantValue := 0 }, { name := "RADIANS_TO_DEGREES", type := .double, accessFlags := 26, slot := 4, constantValue := 0 }, { name := "negativeZeroFloatBits", type := .long, accessFlags := 26, slot := 5, constantValue := 0 }, { name := "negativeZeroDoubleBits", type := .long, accessFlags := 26, slot := 6, constantValue := 0 }, { name := "twoToTheDoubleScaleUp", type := .double, accessFlags := 8, slot := 7, constantValue := 0 }, { name := "twoToTheDoubleScaleDown", type := .double, accessFlags := 8, slot := 8, constantValue := 0 }, { name := "$assertionsDisabled", type := .boolean, accessFlags := 4120, slot := 9, constantValue := 0 }]
  methods := #[k2m0, k2m1]
  instanceTypes := #[]
  staticTypes := #[.double, .double, .double, .double, .double, .long, .long, .double, .double, .boolean]
  resolved := Array.replicate 460 none
  statics := none }

def pool3 : Array CpInfo := pool [(13, .class_ 14), (0, u "com/example/haversack/haversack/core/IncrementalPolicy"), (0, .class_ 16), (0, u "java/lang/Object")] 19

/-- com/example/haversack/haversack/core/IncrementalPolicy -/
def k3 : Class := { plain "com/example/haversack/haversack/core/IncrementalPolicy" (some 0) with
  accessFlags := 1537
  interfaces := #[]
  cf := some (fileOf pool3 13 #[] #[] 1537 15 #[] #[])
  fields := #[]
  methods := #[]
  instanceTypes := #[]
  staticTypes := #[]
  resolved := Array.replicate 36 none
  statics := none }

def pool4 : Array CpInfo := pool [(1, .methodref 2 3), (0, .class_ 4), (0, .nameAndType 5 6), (0, u "java/lang/Object"), (0, u "<init>"), (0, u "()V"), (0, .methodref 8 9), (0, .class_ 10), (0, .nameAndType 11 12), (0, u "com/example/haversack/haversack/core/IncrementalCapacity"), (0, u "increment"), (0, u "()I"), (0, .fieldref 14 15), (0, .class_ 16), (0, .nameAndType 11 17), (0, u "com/example/haversack/haversack/core/BalancingPolicy"), (0, u "I"), (0, .methodref 19 20), (0, .class_ 21), (0, .nameAndType 22 23), (0, u "com/example/haversack/haversack/core/Assumptions"), (0, u "periods"), (0, u "(I)I"), (0, .fieldref 14 25), (0, .nameAndType 22 17), (0, .long 2), (5, u "limit"), (0, u "(I)J"), (92, .class_ 127), (0, u "com/example/haversack/haversack/core/IncrementalPolicy"), (0, u "NAME"), (0, u "Ljava/lang/String;"), (1, u "(Lcom/example/haversack/haversack/core/IncrementalCapacity;I)V")] 46

def k4c0 : Code := { maxStack := 2, maxLocals := 3, code := prog_3_method_1_code, exceptionTable := #[], attributes := #[] }
def k4m0 : Method := { name := "<init>", desc := "(Lcom/example/haversack/haversack/core/IncrementalCapacity;I)V", sig := { parameters := [(.object "com/example/haversack/haversack/core/IncrementalCapacity"), .int], returnType := none }, accessFlags := 1, code := some k4c0 }
def k4c1 : Code := { maxStack := 6, maxLocals := 4, code := prog_3_method_2_code, exceptionTable := #[], attributes := #[] }
def k4m1 : Method := { name := "limit", desc := "(I)J", sig := { parameters := [.int], returnType := some .long }, accessFlags := 1, code := some k4c1 }
/-- com/example/haversack/haversack/core/BalancingPolicy -/
def k4 : Class := { plain "com/example/haversack/haversack/core/BalancingPolicy" (some 0) with
  accessFlags := 49
  interfaces := #[3]
  cf := some (fileOf pool4 14 #[] #[{ accessFlags := 1, nameIndex := 5, descriptorIndex := 131, attributes := #[] }, { accessFlags := 1, nameIndex := 32, descriptorIndex := 33, attributes := #[] }] 49 2 #[126] #[{ accessFlags := 25, nameIndex := 128, descriptorIndex := 129, attributes := #[] }, { accessFlags := 18, nameIndex := 11, descriptorIndex := 17, attributes := #[] }, { accessFlags := 18, nameIndex := 22, descriptorIndex := 17, attributes := #[] }])
  fields := #[{ name := "NAME", type := (.object "java/lang/String"), accessFlags := 25, slot := 0, constantValue := 0 }, { name := "increment", type := .int, accessFlags := 18, slot := 0, constantValue := 0 }, { name := "periods", type := .int, accessFlags := 18, slot := 1, constantValue := 0 }]
  methods := #[k4m0, k4m1]
  instanceTypes := #[.int, .int]
  staticTypes := #[(.object "java/lang/String")]
  resolved := Array.replicate 178 none
  statics := none }

def pool5 : Array CpInfo := pool [(1, .methodref 2 3), (0, .class_ 4), (0, .nameAndType 5 6), (0, u "java/lang/Object"), (0, u "<init>"), (0, u "()V"), (0, .class_ 8), (0, u "java/lang/Record")] 13

def k5c0 : Code := { maxStack := 1, maxLocals := 1, code := jdk_30_method_1_code, exceptionTable := #[], attributes := #[] }
def k5m0 : Method := { name := "<init>", desc := "()V", sig := { parameters := [], returnType := none }, accessFlags := 4, code := some k5c0 }
/-- java/lang/Record -/
def k5 : Class := { plain "java/lang/Record" (some 0) with
  accessFlags := 1057
  interfaces := #[]
  cf := some (fileOf pool5 7 #[] #[{ accessFlags := 4, nameIndex := 5, descriptorIndex := 6, attributes := #[] }] 1057 2 #[] #[])
  fields := #[]
  methods := #[k5m0]
  instanceTypes := #[]
  staticTypes := #[]
  resolved := Array.replicate 22 none
  statics := none }

def pool6 : Array CpInfo := pool [(14, .class_ 15), (0, u "com/example/haversack/haversack/core/CapacityModel$1"), (5, .class_ 23), (1, u "com/example/haversack/haversack/core/CapacityModel"), (29, .class_ 54), (0, u "java/lang/Object")] 34

/-- com/example/haversack/haversack/core/CapacityModel -/
def k6 : Class := { plain "com/example/haversack/haversack/core/CapacityModel" (some 0) with
  accessFlags := 1537
  interfaces := #[]
  cf := some (fileOf pool6 21 #[.nestMembers #[14]] #[] 1537 53 #[] #[])
  fields := #[]
  methods := #[]
  instanceTypes := #[]
  staticTypes := #[]
  resolved := Array.replicate 89 none
  statics := none }

def pool7 : Array CpInfo := pool [(1, .methodref 2 3), (0, .class_ 4), (0, .nameAndType 5 6), (0, u "java/lang/Record"), (0, u "<init>"), (0, u "()V"), (9, .fieldref 17 18), (0, .class_ 19), (0, .nameAndType 20 21), (0, u "com/example/haversack/haversack/core/IncrementalCapacity"), (0, u "increment"), (0, u "I"), (97, u "()I"), (19, .class_ 140), (0, u "com/example/haversack/haversack/core/CapacityModel"), (0, u "(I)V")] 45

def k7c0 : Code := { maxStack := 3, maxLocals := 2, code := prog_44_method_1_code, exceptionTable := #[], attributes := #[] }
def k7m0 : Method := { name := "<init>", desc := "(I)V", sig := { parameters := [.int], returnType := none }, accessFlags := 1, code := some k7c0 }
def k7c1 : Code := { maxStack := 1, maxLocals := 1, code := prog_44_method_9_code, exceptionTable := #[], attributes := #[] }
def k7m1 : Method := { name := "increment", desc := "()I", sig := { parameters := [], returnType := some .int }, accessFlags := 1, code := some k7c1 }
/-- com/example/haversack/haversack/core/IncrementalCapacity -/
def k7 : Class := { plain "com/example/haversack/haversack/core/IncrementalCapacity" (some 5) with
  accessFlags := 49
  interfaces := #[6]
  cf := some (fileOf pool7 17 #[] #[{ accessFlags := 1, nameIndex := 5, descriptorIndex := 141, attributes := #[] }, { accessFlags := 1, nameIndex := 20, descriptorIndex := 119, attributes := #[] }] 49 2 #[139] #[{ accessFlags := 18, nameIndex := 20, descriptorIndex := 21, attributes := #[] }])
  fields := #[{ name := "increment", type := .int, accessFlags := 18, slot := 0, constantValue := 0 }]
  methods := #[k7m0, k7m1]
  instanceTypes := #[.int]
  staticTypes := #[]
  resolved := Array.replicate 187 none
  statics := none }

def pool8 : Array CpInfo := pool [(2, .class_ 4), (1, u "java/lang/Object"), (0, u "<init>"), (0, u "()V"), (72, .class_ 80), (0, u "com/example/haversack/haversack/core/Assumptions"), (2, u "periods"), (0, u "(I)I")] 44

def k8m0 : Method := { name := "<init>", desc := "()V", sig := { parameters := [], returnType := none }, accessFlags := 2, code := none }
def k8c1 : Code := { maxStack := 3, maxLocals := 1, code := prog_2_method_2_code, exceptionTable := #[], attributes := #[] }
def k8m1 : Method := { name := "periods", desc := "(I)I", sig := { parameters := [.int], returnType := some .int }, accessFlags := 8, code := some k8c1 }
/-- com/example/haversack/haversack/core/Assumptions -/
def k8 : Class := { plain "com/example/haversack/haversack/core/Assumptions" (some 0) with
  accessFlags := 48
  interfaces := #[]
  cf := some (fileOf pool8 79 #[] #[{ accessFlags := 2, nameIndex := 5, descriptorIndex := 6, attributes := #[] }, { accessFlags := 8, nameIndex := 83, descriptorIndex := 84, attributes := #[] }] 48 2 #[] #[])
  fields := #[]
  methods := #[k8m0, k8m1]
  instanceTypes := #[]
  staticTypes := #[]
  resolved := Array.replicate 129 none
  statics := none }

def pool9 : Array CpInfo := pool [(1, u "java/lang/Cloneable"), (0, .class_ 1), (0, u "java/lang/Object"), (0, .class_ 3)] 3

/-- java/lang/Cloneable -/
def k9 : Class := { plain "java/lang/Cloneable" (some 0) with
  accessFlags := 1537
  interfaces := #[]
  cf := some (fileOf pool9 2 #[] #[] 1537 4 #[] #[])
  fields := #[]
  methods := #[]
  instanceTypes := #[]
  staticTypes := #[]
  resolved := Array.replicate 8 none
  statics := none }

def pool10 : Array CpInfo := pool [(1, u "java/io/Serializable"), (0, .class_ 1), (0, u "java/lang/Object"), (0, .class_ 3)] 3

/-- java/io/Serializable -/
def k10 : Class := { plain "java/io/Serializable" (some 0) with
  accessFlags := 1537
  interfaces := #[]
  cf := some (fileOf pool10 2 #[] #[] 1537 4 #[] #[])
  fields := #[]
  methods := #[]
  instanceTypes := #[]
  staticTypes := #[]
  resolved := Array.replicate 8 none
  statics := none }

/-- the primitive byte -/
def k11 : Class := { plain "byte" none with kind := .primitive 'B', accessFlags := 0x411 }
/-- [B -/
def k12 : Class := { plain "[B" (some 0) with kind := .array 11 .byte, interfaces := #[9, 10], accessFlags := 1041 }

def heap : Heap := #[]
def classes : Array Class := #[k0, k1, k2, k3, k4, k5, k6, k7, k8, k9, k10, k11, k12]
def interned : List (Array UInt16 × Addr) := []
def slotsUsed : Nat := 0
def theMethod : MethodId := ⟨1, 1⟩
def args0 : Array Value := #[.int 5, .int 6, .int 7]
def aboutOver (below : List Frame) : State where
  vm := { classes := classes, interned := interned.toArray }
  heap := heap
  slotsUsed := slotsUsed
  threads := #[{ frames := .invoking theMethod args0 :: below }]
def below0 : List Frame := [.native { method := ⟨0, 0⟩, args := #[] }]
def about1 : State := aboutOver below0
def p0 : Program := .bare "" "" ""
def e0 : Env := launch0.env 0 0 0
theorem w_frames : about1.frames = Frame.invoking theMethod args0 :: below0 := rfl
set_option maxRecDepth 65536 in
theorem w_args : argsFit about1.vm theMethod args0 = true := by decide +kernel
set_option maxRecDepth 65536 in
theorem w_heap : heapFits about1 = true := by decide +kernel
set_option maxRecDepth 65536 in
theorem w_runnable : about1.curStatus? = some .runnable := by decide +kernel
set_option maxRecDepth 65536 in
theorem w_alone : about1.alone = true := by decide +kernel
set_option maxRecDepth 65536 in
theorem w_named : about1.methodNamed? x = some theMethod := by decide +kernel
set_option maxRecDepth 65536 in
theorem w_hears : about1.hears theMethod below0 = true := by decide +kernel
set_option maxRecDepth 65536 in
theorem w_ripe : about1.ripe theMethod args0 below0 = true := by decide +kernel
theorem w_running : about1.status = .running := rfl
set_option maxRecDepth 65536 in
theorem w_room : about1.hasRoom e0.platform room_1 = true :=
  launch0.hasRoom_least _ room_1 (by decide +kernel) (by decide +kernel) (by decide +kernel) (by decide +kernel) (by decide +kernel) (by decide +kernel)
theorem allAtoms_all (ts : List Jvm.Cond) (a : Array Jvm.Value) (st : Jvm.State) : (allAtoms ts).before a st = ts.all (fun c => c.before a st) := by
  induction ts with
  | nil => rfl
  | cons c t ih =>
    show (Jvm.Cond.and c (allAtoms t)).before a st = _
    rw [Jvm.Cond.before_and, ih, List.all_cons]
def words1 : List Jvm.Cond := Jvm.Cond.code x code maxLocals ret :: tables_1
/-- a 'code' word, met by the world's own term for the bytes: nothing is compared byte by byte -/
theorem code_word {y : MethodName} {bytes : ByteArray} {mx : Nat} {rt : Option FieldType} {a : Array Value} {s : State} {m : MethodId} {meth : Method} {c : Code} (h1 : s.methodNamed? y = some m) (h2 : s.vm.method? m = some meth) (h3 : meth.code = some c) (h4 : c.code = bytes)
    (h5 : (c.maxLocals == mx && c.exceptionTable.isEmpty && decide (c.maxStack ≤ mostOperands) && decide (meth.sig.returnType = rt) && !meth.locks && decide (parseMethodDescriptor y.desc = some meth.sig)) = true) : (Jvm.Cond.code y bytes mx rt).before a s = true := by
  simp only [Bool.and_eq_true, beq_iff_eq, Bool.not_eq_true', decide_eq_true_eq] at h5
  obtain ⟨⟨⟨⟨⟨g1, g2⟩, g3⟩, g4⟩, g5⟩, g6⟩ := h5
  simp [Cond.before, Cond.holds, Cond.value, h1, h2, h3, h4, g1, g2, g3, g4, g5, g6]
def isCode : Jvm.Cond → Bool
  | .code _ _ _ _ => true
  | _ => false
theorem all_split {L : List Jvm.Cond} {P : Jvm.Cond → Bool} (h1 : L.all (fun c => isCode c || P c) = true) (h2 : ∀ c ∈ L.filter isCode, P c = true) : L.all P = true := by
  refine List.all_eq_true.mpr fun c hc => ?_
  have h := List.all_eq_true.mp h1 c hc
  rcases Bool.eq_false_or_eq_true (isCode c) with hi | hi
  · exact h2 c (List.mem_filter.mpr ⟨hc, hi⟩)
  · simpa [hi] using h
set_option maxRecDepth 65536 in
theorem w_c0 : (Jvm.Cond.code x code maxLocals ret).before args0 about1 = true := code_word (m := ⟨1, 1⟩) (meth := k1m1) (c := k1c1) (by decide +kernel) rfl rfl rfl (by decide +kernel)
set_option maxRecDepth 65536 in
theorem w_c1 : (Jvm.Cond.code ({ cls := "java/lang/Math", name := "max", desc := "(II)I" } : Jvm.MethodName) jdk_29_method_65_code (2 : Nat) (Option.some Jvm.ClassFile.FieldType.int)).before args0 about1 = true := code_word (m := ⟨2, 1⟩) (meth := k2m1) (c := k2c1) (by decide +kernel) rfl rfl rfl (by decide +kernel)
set_option maxRecDepth 65536 in
theorem w_c2 : (Jvm.Cond.code ({ cls := "com/example/haversack/haversack/core/IncrementalCapacity", name := "<init>", desc := "(I)V" } : Jvm.MethodName) prog_44_method_1_code (2 : Nat) (Option.none : Option Jvm.ClassFile.FieldType)).before args0 about1 = true := code_word (m := ⟨7, 0⟩) (meth := k7m0) (c := k7c0) (by decide +kernel) rfl rfl rfl (by decide +kernel)
set_option maxRecDepth 65536 in
theorem w_c3 : (Jvm.Cond.code ({ cls := "java/lang/Record", name := "<init>", desc := "()V" } : Jvm.MethodName) jdk_30_method_1_code (1 : Nat) (Option.none : Option Jvm.ClassFile.FieldType)).before args0 about1 = true := code_word (m := ⟨5, 0⟩) (meth := k5m0) (c := k5c0) (by decide +kernel) rfl rfl rfl (by decide +kernel)
set_option maxRecDepth 65536 in
theorem w_c4 : (Jvm.Cond.code ({ cls := "java/lang/Object", name := "<init>", desc := "()V" } : Jvm.MethodName) object_method_1_code (1 : Nat) (Option.none : Option Jvm.ClassFile.FieldType)).before args0 about1 = true := code_word (m := ⟨0, 0⟩) (meth := k0m0) (c := k0c0) (by decide +kernel) rfl rfl rfl (by decide +kernel)
set_option maxRecDepth 65536 in
theorem w_c5 : (Jvm.Cond.code ({ cls := "com/example/haversack/haversack/core/BalancingPolicy", name := "<init>", desc := "(Lcom/example/haversack/haversack/core/IncrementalCapacity;I)V" } : Jvm.MethodName) prog_3_method_1_code (3 : Nat) (Option.none : Option Jvm.ClassFile.FieldType)).before args0 about1 = true := code_word (m := ⟨4, 0⟩) (meth := k4m0) (c := k4c0) (by decide +kernel) rfl rfl rfl (by decide +kernel)
set_option maxRecDepth 65536 in
theorem w_c6 : (Jvm.Cond.code ({ cls := "com/example/haversack/haversack/core/IncrementalCapacity", name := "increment", desc := "()I" } : Jvm.MethodName) prog_44_method_9_code (1 : Nat) (Option.some Jvm.ClassFile.FieldType.int)).before args0 about1 = true := code_word (m := ⟨7, 1⟩) (meth := k7m1) (c := k7c1) (by decide +kernel) rfl rfl rfl (by decide +kernel)
set_option maxRecDepth 65536 in
theorem w_c7 : (Jvm.Cond.code ({ cls := "com/example/haversack/haversack/core/Assumptions", name := "periods", desc := "(I)I" } : Jvm.MethodName) prog_2_method_2_code (1 : Nat) (Option.some Jvm.ClassFile.FieldType.int)).before args0 about1 = true := code_word (m := ⟨8, 1⟩) (meth := k8m1) (c := k8c1) (by decide +kernel) rfl rfl rfl (by decide +kernel)
set_option maxRecDepth 65536 in
theorem w_c8 : (Jvm.Cond.code ({ cls := "com/example/haversack/haversack/core/BalancingPolicy", name := "limit", desc := "(I)J" } : Jvm.MethodName) prog_3_method_2_code (4 : Nat) (Option.some Jvm.ClassFile.FieldType.long)).before args0 about1 = true := code_word (m := ⟨4, 1⟩) (meth := k4m1) (c := k4c1) (by decide +kernel) rfl rfl rfl (by decide +kernel)
def codes1 : List Jvm.Cond := [Jvm.Cond.code x code maxLocals ret, Jvm.Cond.code ({ cls := "java/lang/Math", name := "max", desc := "(II)I" } : Jvm.MethodName) jdk_29_method_65_code (2 : Nat) (Option.some Jvm.ClassFile.FieldType.int), Jvm.Cond.code ({ cls := "com/example/haversack/haversack/core/IncrementalCapacity", name := "<init>", desc := "(I)V" } : Jvm.MethodName) prog_44_method_1_code (2 : Nat) (Option.none : Option Jvm.ClassFile.FieldType), Jvm.Cond.code ({ cls := "java/lang/Record", name := "<init>", desc := "()V" } : Jvm.MethodName) jdk_30_method_1_code (1 : Nat) (Option.none : Option Jvm.ClassFile.FieldType), Jvm.Cond.code ({ cls := "java/lang/Object", name := "<init>", desc := "()V" } : Jvm.MethodName) object_method_1_code (1 : Nat) (Option.none : Option Jvm.ClassFile.FieldType), Jvm.Cond.code ({ cls := "com/example/haversack/haversack/core/BalancingPolicy", name := "<init>", desc := "(Lcom/example/haversack/haversack/core/IncrementalCapacity;I)V" } : Jvm.MethodName) prog_3_method_1_code (3 : Nat) (Option.none : Option Jvm.ClassFile.FieldType), Jvm.Cond.code ({ cls := "com/example/haversack/haversack/core/IncrementalCapacity", name := "increment", desc := "()I" } : Jvm.MethodName) prog_44_method_9_code (1 : Nat) (Option.some Jvm.ClassFile.FieldType.int), Jvm.Cond.code ({ cls := "com/example/haversack/haversack/core/Assumptions", name := "periods", desc := "(I)I" } : Jvm.MethodName) prog_2_method_2_code (1 : Nat) (Option.some Jvm.ClassFile.FieldType.int), Jvm.Cond.code ({ cls := "com/example/haversack/haversack/core/BalancingPolicy", name := "limit", desc := "(I)J" } : Jvm.MethodName) prog_3_method_2_code (4 : Nat) (Option.some Jvm.ClassFile.FieldType.long)]
set_option maxRecDepth 65536 in
theorem codes_eq : words1.filter isCode = codes1 := rfl
theorem w_codes : ∀ c ∈ words1.filter isCode, c.before args0 about1 = true := by
  rw [codes_eq]
  intro c hc
  simp only [codes1, List.mem_cons, List.not_mem_nil, or_false] at hc
  rcases hc with rfl | rfl | rfl | rfl | rfl | rfl | rfl | rfl | rfl
  · exact w_c0
  · exact w_c1
  · exact w_c2
  · exact w_c3
  · exact w_c4
  · exact w_c5
  · exact w_c6
  · exact w_c7
  · exact w_c8
set_option maxRecDepth 65536 in
theorem w_t1 : (words1.take 24).all (fun c => isCode c || c.before args0 about1) = true := by decide +kernel
set_option maxRecDepth 65536 in
theorem w_t2 : ((words1.drop 24).take 24).all (fun c => isCode c || c.before args0 about1) = true := by decide +kernel
set_option maxRecDepth 65536 in
theorem w_t3 : ((words1.drop 24).drop 24).all (fun c => isCode c || c.before args0 about1) = true := by decide +kernel
theorem w_tables : (allAtoms (Jvm.Cond.code x code maxLocals ret :: tables_1)).before args0 about1 = true := by
  rw [allAtoms_all]
  show words1.all (fun c => c.before args0 about1) = true
  refine all_split ?_ w_codes
  rw [← List.take_append_drop 24 words1, List.all_append, w_t1, ← List.take_append_drop 24 (words1.drop 24), List.all_append, w_t2, w_t3]
  rfl
set_option maxRecDepth 65536 in
theorem w_case : (Jvm.Cond.and given_1 narrow_1).before args0 about1 = true := by decide +kernel
theorem w_applies : (headSpec (Jvm.Cond.code x code maxLocals ret :: tables_1) room_1).applies x e0.platform about1 = true :=
  (Spec.applies_iff w_frames).mpr ⟨w_running, w_runnable, w_alone, w_named, w_hears, w_ripe, w_room, w_tables⟩
theorem atStart : AtStart classFile x code maxLocals ret World_1 tables_1 room_1 Calls_1 rest_1 Pre_1 launch0 p0 e0 about1 theMethod args0 below0 :=
  ⟨lists_1, trivial, launch0.admits_env _ _ _, launch0.least_env, fairChoices_fair.cas, fairChoices_fair.clock, w_frames, w_args, w_heap, w_applies, trivial, trivial, w_case⟩
end start1
theorem witness_1 : WitnessClaimed_1 := ⟨start1.p0, start1.e0, start1.about1, start1.theMethod, start1.args0, start1.below0, start1.atStart⟩
end Jvm.Pilot.@@N@@
