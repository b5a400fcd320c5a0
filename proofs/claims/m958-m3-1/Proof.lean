import JvmDerived
import JvmDerived.Pilot.@@N@@Statement
import JvmDerived.Pilot.@@N@@Code
set_option linter.unusedVariables false
set_option linter.unusedSimpArgs false
@@BLOCK:NumsL.lean.txt@@
namespace Jvm.RoadKit
open Sem ClassFile Op Lib Jvm.Stand Jvm.Free Jvm.LawKit
section New
variable {p : Program} {l : Launch} {e : Env} {R : Room} {s : State} {m : MethodId} {args : Array Value} {below : List Frame} {meth : Method} {c : Code} {T : State} {locs : List Loc} {cells slots : Nat}
theorem retI (X : Stand p l e R s m args below meth c T locs cells slots) (hx : p.tables.exec = Jvm.exec) {pc : Nat} {Ls : Array Slot} {z : Int32} {rest : List Value} (hret : meth.sig.returnType = some .int) (hd : decode c.code pc = .ok (.ireturn, 1)) {fs : List Frame}
    (hl : ∀ (f : JFrame) (acts : List Action), f.method = m → f.locked = none → f.entered = [] → (doReturn e (T.setTop f) acts (some (.int z))).1 = T.setFrames fs) : Steps p.tables e below (T.setTop (mkF m pc Ls (.int z :: rest))) (T.setFrames fs) := by
  have hm' : T.vm.method? m = some meth := X.method'
  have hn : narrow .int (.int z) = .int z := rfl
  show Steps p.tables e below (T.setTop { method := m, pc := pc, locals := Ls, stack := _ :: rest, locked := none }) _
  jvm_step X.here [X.here.top, hx, hd, hm', hret, hn]
  first | (intro acts; rw [hl _ acts rfl rfl rfl]) | rw [hl _ _ rfl rfl rfl]
  exact Steps.refl _
end New
end Jvm.RoadKit
namespace Jvm.Pilot.@@N@@
open Jvm Jvm.ClassFile Sem Op Lib Jvm.Free Jvm.Stand Jvm.LawKit Jvm.RoadKit Bundle Jvm.Pilot.@@N@@.Jvm.D
def fV (x : Int32) : Int32 := (if (x &&& (2147483647 : Int32)) = (0 : Int32) then (1 : Int32) else (x &&& (2147483647 : Int32)))
def Q_rmV (x : Int32) (h0 : Heap) (n0 : Nat) (v : Option Value) (h : Heap) (L : List Loc) : Prop := v = some (.int (fV x)) ∧ Fr n0 L ∧ h = h0
theorem pn_0 : plainName "com/example/pochta/pochta/entity/QueueSettingsMaxDeliveryCountPinLaw" = true := by first | (simp [plainName, overriddenIn]; done) | decide +kernel
theorem ef_rmV (m : MethodId) (x0 : Int32) : entryFrame m #[(.int x0)] 2 = mkF m 0 #[.val (.int x0), .unset] [] := by first | (simp [entryFrame, mkF, argsToLocals, Value.category]; done) | rfl
theorem d1_0 : decode method_2_code 0 = .ok (.iload_n 0, 1) := by decide +kernel
theorem d1_1 : decode method_2_code 1 = .ok (.ldc 7, 2) := by decide +kernel
theorem d1_3 : decode method_2_code 3 = .ok (.iand, 1) := by decide +kernel
theorem d1_4 : decode method_2_code 4 = .ok (.istore_n 1, 1) := by decide +kernel
theorem d1_5 : decode method_2_code 5 = .ok (.iload_n 1, 1) := by decide +kernel
theorem d1_6 : decode method_2_code 6 = .ok (.ifCond .ne 5, 3) := by decide +kernel
theorem d1_9 : decode method_2_code 9 = .ok (.iconst 1, 1) := by decide +kernel
theorem d1_10 : decode method_2_code 10 = .ok (.istore_n 1, 1) := by decide +kernel
theorem d1_11 : decode method_2_code 11 = .ok (.iload_n 1, 1) := by decide +kernel
theorem d1_12 : decode method_2_code 12 = .ok (.ireturn, 1) := by decide +kernel
set_option maxRecDepth 65536 in
set_option maxHeartbeats 40000000 in
theorem rmV (l : Launch) (Z : State) (a0 : Array Value) (hw : ∀ d ∈ tables_1, d.before a0 Z = true) (ws : List Jvm.Cond) (x : Int32)  (h0 : Heap) (n0 : Nat) (Z0 : n0 ≤ h0.size)  :
    MetFree l (⟨"com/example/pochta/pochta/entity/QueueSettingsMaxDeliveryCountPinLaw", "validCount", "(I)I"⟩ : MethodName) (head1 (Jvm.Cond.code (⟨"com/example/pochta/pochta/entity/QueueSettingsMaxDeliveryCountPinLaw", "validCount", "(I)I"⟩ : MethodName) method_2_code 2 (some .int) :: ws) ({ frames := 0, cells := 0, slots := 0, locals := 0 } : Room)) (fun a U => a = #[(.int x)] ∧ Z.Warmed39 U.vm ∧ U.heap = h0) (fun _ _ _ _ _ => True) (fun _ U o U' => ∃ v L, o = .returned v ∧ Q_rmV x h0 n0 v U'.heap L ∧ FrameEnd U o U' L ({ frames := 0, cells := 0, slots := 0, locals := 0 } : Room).cells ({ frames := 0, cells := 0, slots := 0, locals := 0 } : Room).slots) := by
  refine MetFree.of_bodySF (plainFor_of_name pn_0) hisR ?_
  intro p e s m args below meth c s₁ Bd hml0 hP hK
  obtain ⟨rfl, hZ, hh⟩ := hP
  have hx := Bd.exec
  have hby := Bd.bytes
  have hml : c.maxLocals = 2 := hml0
  have hown : s.vm.findClass "com/example/pochta/pochta/entity/QueueSettingsMaxDeliveryCountPinLaw" = some m.cls := findClass_of_methodNamed Bd.named
  have hnm := (name_of_methodNamed Bd.named Bd.method).1
  have X0 : Stand p l e ({ frames := 0, cells := 0, slots := 0, locals := 0 } : Room) s m #[(.int x)] below meth c s₁ [] 0 0 := Stand.of_body Bd
  have e0 : s₁.heap = h0 := by rw [← hh, Bd.state]; rfl
  have N0 := Fr.nil n0
  have pre0 : ∀ t, Steps p.tables e below (s₁.setTop (mkF m 0 #[.val (.int x), .unset] [])) t → Steps p.tables e below (s₁.setTop (entryFrame m #[(.int x)] 2)) t := fun t k => castTop (ef_rmV m x) k
  obtain ⟨fs, hr, hrun, hended, hW, hsame⟩ := X0.leave (v := some (.int (fV x))) (fun h => by rw [Bd.returns] at h; cases h)
  refine ⟨_, _, pre0 _ ?_, hrun, hended, _, _, rfl, ?_, ⟨_, rfl⟩, hW, hsame.mono (by decide) (by decide)⟩
  · have hq0 : (if (x &&& (2147483647 : Int32)) = (0 : Int32) then (1 : Int32) else (x &&& (2147483647 : Int32))) = fV x := rfl
    show Steps p.tables e below (s₁.setTop (mkF m 0 #[.val (.int x), .unset] [])) _
    refine XS.iloadN X0.here hx rfl (hb hby d1_0) rfl ?_
    show Steps p.tables e below (s₁.setTop (mkF m 1 #[.val (.int x), .unset] [(.int x)])) _
    refine X0.ldcInt hx hown (mvT hZ (hw _ (List.mem_of_getElem? (i := 4) rfl))) (g := (mkF m 1 #[.val (.int x), .unset] [(.int x)])) rfl (hb hby d1_1) _ ?_
    show Steps p.tables e below (s₁.setTop (mkF m 3 #[.val (.int x), .unset] [(.int (2147483647 : Int32)), (.int x)])) _
    refine XS.iand X0.here hx rfl (hb hby d1_3) rfl ?_
    show Steps p.tables e below (s₁.setTop (mkF m 4 #[.val (.int x), .unset] [(.int (x &&& (2147483647 : Int32)))])) _
    refine XS.istoreN X0.here hx rfl (hb hby d1_4) rfl (l' := #[.val (.int x), .val (.int (x &&& (2147483647 : Int32)))]) rfl ?_
    show Steps p.tables e below (s₁.setTop (mkF m 5 #[.val (.int x), .val (.int (x &&& (2147483647 : Int32)))] [])) _
    refine XS.iloadN X0.here hx rfl (hb hby d1_5) rfl ?_
    show Steps p.tables e below (s₁.setTop (mkF m 6 #[.val (.int x), .val (.int (x &&& (2147483647 : Int32)))] [(.int (x &&& (2147483647 : Int32)))])) _
    by_cases hc6 : (x &&& (2147483647 : Int32)) = (0 : Int32)
    · have hqhc60 : (1 : Int32) = fV x := (if_pos hc6).symm.trans hq0
      refine XS.ifNo X0.here hx rfl (hb hby d1_6) rfl ((if0 _ _).trans (teq hc6).2) ?_
      show Steps p.tables e below (s₁.setTop (mkF m 9 #[.val (.int x), .val (.int (x &&& (2147483647 : Int32)))] [])) _
      refine XS.iconst X0.here hx rfl (hb hby d1_9) ?_
      show Steps p.tables e below (s₁.setTop (mkF m 10 #[.val (.int x), .val (.int (x &&& (2147483647 : Int32)))] [(.int (1 : Int32))])) _
      refine XS.istoreN X0.here hx rfl (hb hby d1_10) rfl (l' := #[.val (.int x), .val (.int (1 : Int32))]) rfl ?_
      show Steps p.tables e below (s₁.setTop (mkF m 11 #[.val (.int x), .val (.int (1 : Int32))] [])) _
      refine XS.iloadN X0.here hx rfl (hb hby d1_11) rfl ?_
      have hr1 := hr
      rw [← hqhc60] at hr1
      exact retI X0 hx Bd.returns (hb hby d1_12) hr1
    · have hqhc61 : (x &&& (2147483647 : Int32)) = fV x := (if_neg hc6).symm.trans hq0
      refine XS.ifYes X0.here hx rfl (pc0 := 6) (pc' := 11) rfl (hb hby d1_6) rfl ((if0 _ _).trans (feq hc6).2) (by decide) (by decide) ?_
      show Steps p.tables e below (s₁.setTop (mkF m 11 #[.val (.int x), .val (.int (x &&& (2147483647 : Int32)))] [])) _
      refine XS.iloadN X0.here hx rfl (hb hby d1_11) rfl ?_
      have hr1 := hr
      rw [← hqhc61] at hr1
      exact retI X0 hx Bd.returns (hb hby d1_12) hr1
  · show Q_rmV x h0 n0 _ s₁.heap _
    rw [e0]
    exact ⟨rfl, N0, rfl⟩
theorem own_pos (x : Int32) : ¬ (fV x < (1 : Int32)) := by
  have e := Jvm.Kit.i32_mask x 2147483647 (k := 31) (by decide) (by decide)
  have l0 : (0 : Int32).toInt = 0 := rfl
  have l1 : (1 : Int32).toInt = 1 := rfl
  simp only [fV]
  split
  · decide
  · rename_i h
    rw [← Int32.toInt_inj, l0] at h
    rw [Int32.lt_iff_toInt_lt, l1]
    omega
def Q_rmI (Z : State) (ra : Addr) (dd : Addr) (h0 : Heap) (n0 : Nat) (v : Option Value) (h : Heap) (L : List Loc) : Prop := v = none ∧ Fr n0 L ∧ Keep h0 h [ra] ∧ Fld Z h ra "com/example/pochta/pochta/entity/QueueSettings" "lockDuration" "Ljava/time/Duration;" (.ref dd) ∧ Fld Z h ra "com/example/pochta/pochta/entity/QueueSettings" "maxDeliveryCount" "I" (.int (10 : Int32)) ∧ Fld Z h ra "com/example/pochta/pochta/entity/QueueSettings" "defaultMessageTimeToLive" "Ljava/time/Duration;" .null ∧ Sta Z h "com/example/pochta/pochta/entity/QueueSettings" "DEFAULT_LOCK_DURATION" "Ljava/time/Duration;" (.ref dd)
theorem pd_0 : parseMethodDescriptor "()V" = some ⟨[], none⟩ := by decide +kernel
theorem pn_1 : plainName "com/example/pochta/pochta/entity/QueueSettings" = true := by first | (simp [plainName, overriddenIn]; done) | decide +kernel
theorem ef_rmI (m : MethodId) (x0 : Addr) : entryFrame m #[(.ref x0)] 1 = mkF m 0 #[.val (.ref x0)] [] := by first | (simp [entryFrame, mkF, argsToLocals, Value.category]; done) | rfl
theorem d2_0 : decode prog_13_method_1_code 0 = .ok (.aload_n 0, 1) := by decide +kernel
theorem d2_1 : decode prog_13_method_1_code 1 = .ok (.invokespecial 1, 3) := by decide +kernel
theorem d2_4 : decode prog_13_method_1_code 4 = .ok (.aload_n 0, 1) := by decide +kernel
theorem d2_5 : decode prog_13_method_1_code 5 = .ok (.getstatic 7, 3) := by decide +kernel
theorem d2_8 : decode prog_13_method_1_code 8 = .ok (.putfield 13, 3) := by decide +kernel
theorem d2_11 : decode prog_13_method_1_code 11 = .ok (.aload_n 0, 1) := by decide +kernel
theorem d2_12 : decode prog_13_method_1_code 12 = .ok (.bipush 10, 2) := by decide +kernel
theorem d2_14 : decode prog_13_method_1_code 14 = .ok (.putfield 16, 3) := by decide +kernel
theorem d2_17 : decode prog_13_method_1_code 17 = .ok (.return_, 1) := by decide +kernel
set_option maxRecDepth 65536 in
set_option maxHeartbeats 40000000 in
theorem rmI (l : Launch) (Z : State) (a0 : Array Value) (hw : ∀ d ∈ tables_1, d.before a0 Z = true) (ws : List Jvm.Cond) (ra : Addr) (dd : Addr) (h0 : Heap) (n0 : Nat) (Z0 : n0 ≤ h0.size) (P0 : Exa Z h0 ra "com/example/pochta/pochta/entity/QueueSettings") (P1 : Fld Z h0 ra "com/example/pochta/pochta/entity/QueueSettings" "lockDuration" "Ljava/time/Duration;" .null) (P2 : Fld Z h0 ra "com/example/pochta/pochta/entity/QueueSettings" "maxDeliveryCount" "I" (.int (0 : Int32))) (P3 : Fld Z h0 ra "com/example/pochta/pochta/entity/QueueSettings" "defaultMessageTimeToLive" "Ljava/time/Duration;" .null) (P4 : Sta Z h0 "com/example/pochta/pochta/entity/QueueSettings" "DEFAULT_LOCK_DURATION" "Ljava/time/Duration;" (.ref dd)) (g_ra : n0 ≤ ra) :
    MetFree l (⟨"com/example/pochta/pochta/entity/QueueSettings", "<init>", "()V"⟩ : MethodName) (head1 (Jvm.Cond.code (⟨"com/example/pochta/pochta/entity/QueueSettings", "<init>", "()V"⟩ : MethodName) prog_13_method_1_code 1 none :: ws) ({ frames := 1, cells := 0, slots := 0, locals := 12 } : Room)) (fun a U => a = #[(.ref ra)] ∧ Z.Warmed39 U.vm ∧ U.heap = h0) (fun _ _ _ _ _ => True) (fun _ U o U' => ∃ v L, o = .returned v ∧ Q_rmI Z ra dd h0 n0 v U'.heap L ∧ FrameEnd U o U' L ({ frames := 1, cells := 0, slots := 0, locals := 12 } : Room).cells ({ frames := 1, cells := 0, slots := 0, locals := 12 } : Room).slots) := by
  refine MetFree.of_bodySF (plainFor_of_name pn_1) hisR ?_
  intro p e s m args below meth c s₁ Bd hml0 hP hK
  obtain ⟨rfl, hZ, hh⟩ := hP
  have hx := Bd.exec
  have hby := Bd.bytes
  have hml : c.maxLocals = 1 := hml0
  have hown : s.vm.findClass "com/example/pochta/pochta/entity/QueueSettings" = some m.cls := findClass_of_methodNamed Bd.named
  have hnm := (name_of_methodNamed Bd.named Bd.method).1
  have X0 : Stand p l e ({ frames := 1, cells := 0, slots := 0, locals := 12 } : Room) s m #[(.ref ra)] below meth c s₁ [] 0 0 := Stand.of_body Bd
  have e0 : s₁.heap = h0 := by rw [← hh, Bd.state]; rfl
  have N0 := Fr.nil n0
  have pre0 : ∀ t, Steps p.tables e below (s₁.setTop (mkF m 0 #[.val (.ref ra)] [])) t → Steps p.tables e below (s₁.setTop (entryFrame m #[(.ref ra)] 1)) t := fun t k => castTop (ef_rmI m ra) k
  have K0 : Keep h0 h0 [ra] := Keep.refl h0 [ra]
  have sg1 : ∀ t, Steps p.tables e below (s₁.setTop (mkF m 1 #[.val (.ref ra)] [(.ref ra)])) t → Steps p.tables e below (s₁.setTop (mkF m 0 #[.val (.ref ra)] [])) t := by
    intro t k
    show Steps p.tables e below (s₁.setTop (mkF m 0 #[.val (.ref ra)] [])) _
    refine XS.aloadN X0.here hx rfl (hb hby d2_0) rfl rfl ?_
    exact k
  obtain ⟨T2, X2, e2, st2⟩ := initO X0 hx hZ hown (hw _ (List.mem_of_getElem? (i := 11) rfl)) (hw _ (List.mem_of_getElem? (i := 12) rfl)) (hw _ (List.mem_of_getElem? (i := 13) rfl)) e0 (g := (mkF m 1 #[.val (.ref ra)] [(.ref ra)])) rfl (by rw [hml]; rfl) rfl (hb hby d2_1) (by decide) (W := 0) (by show 2 * 0 + _ ≤ _; exact Nat.le_of_eq rfl) (by decide)
  have sg3 : ∀ t, Steps p.tables e below (T2.setTop (mkF m 5 #[.val (.ref ra)] [(.ref ra)])) t → Steps p.tables e below (T2.setTop (mkF m 4 #[.val (.ref ra)] [])) t := by
    intro t k
    show Steps p.tables e below (T2.setTop (mkF m 4 #[.val (.ref ra)] [])) _
    refine XS.aloadN X2.here hx rfl (hb hby d2_4) rfl rfl ?_
    exact k
  obtain ⟨T4, X4, e4, st4⟩ := getS2 X2 hx hZ hown (host := "") (Or.inl (hw _ (List.mem_of_getElem? (i := 14) rfl))) Via.refl e2 P4 (g := (mkF m 5 #[.val (.ref ra)] [(.ref ra)])) rfl (hb hby d2_5)
  obtain ⟨T5, h5, X5, e5, W5, st5⟩ := putF X4 hx hZ hown (host := "") (Or.inl (hw _ (List.mem_of_getElem? (i := 16) rfl))) Via.refl e4 P1 P0 (Or.inl (hw _ (List.mem_of_getElem? (i := 17) rfl))) (hw _ (List.mem_of_getElem? (i := 6) rfl)) (ty := (.object "java/time/Duration")) (by decide) rfl rfl (g := (mkF m 8 #[.val (.ref ra)] [(.ref dd), (.ref ra)])) rfl rfl (hb hby d2_8)
  have N5 := Fr.snoc X5 N0 g_ra
  have f6 : Exa Z h5 ra "com/example/pochta/pochta/entity/QueueSettings" := P0.wr W5
  have f7 : Fld Z h5 ra "com/example/pochta/pochta/entity/QueueSettings" "maxDeliveryCount" "I" (.int (0 : Int32)) := P2.other W5 (Or.inr (slot_ne (Or.inl (hw _ (List.mem_of_getElem? (i := 19) rfl))) (Or.inl (hw _ (List.mem_of_getElem? (i := 17) rfl))) (by decide) (t := .int) (t' := (.object "java/time/Duration")) (by decide) (by decide)))
  have f8 : Fld Z h5 ra "com/example/pochta/pochta/entity/QueueSettings" "defaultMessageTimeToLive" "Ljava/time/Duration;" .null := P3.other W5 (Or.inr (slot_ne (Or.inl (hw _ (List.mem_of_getElem? (i := 42) rfl))) (Or.inl (hw _ (List.mem_of_getElem? (i := 17) rfl))) (by decide) (t := (.object "java/time/Duration")) (t' := (.object "java/time/Duration")) (by decide) (by decide)))
  have f9 : Sta Z h5 "com/example/pochta/pochta/entity/QueueSettings" "DEFAULT_LOCK_DURATION" "Ljava/time/Duration;" (.ref dd) := P4.wr W5
  have z10 : n0 ≤ h5.size := Nat.le_trans Z0 (Keep.of_wr W5).1
  have K11 : Keep h0 h5 [ra] := K0.wr W5 (Or.inl (List.mem_of_getElem? (i := 0) rfl))
  have f12 : Fld Z h5 ra "com/example/pochta/pochta/entity/QueueSettings" "lockDuration" "Ljava/time/Duration;" (.ref dd) := P1.same W5
  have sg13 : ∀ t, Steps p.tables e below (T5.setTop (mkF m 14 #[.val (.ref ra)] [(.int (10 : Int32)), (.ref ra)])) t → Steps p.tables e below (T5.setTop (mkF m 11 #[.val (.ref ra)] [])) t := by
    intro t k
    show Steps p.tables e below (T5.setTop (mkF m 11 #[.val (.ref ra)] [])) _
    refine XS.aloadN X5.here hx rfl (hb hby d2_11) rfl rfl ?_
    show Steps p.tables e below (T5.setTop (mkF m 12 #[.val (.ref ra)] [(.ref ra)])) _
    refine XS.bipush X5.here hx rfl (hb hby d2_12) ?_
    exact k
  obtain ⟨T14, h14, X14, e14, W14, st14⟩ := putF X5 hx hZ hown (host := "") (Or.inl (hw _ (List.mem_of_getElem? (i := 18) rfl))) Via.refl e5 f7 f6 (Or.inl (hw _ (List.mem_of_getElem? (i := 19) rfl))) (hw _ (List.mem_of_getElem? (i := 6) rfl)) (ty := .int) (by decide) rfl rfl (g := (mkF m 14 #[.val (.ref ra)] [(.int (10 : Int32)), (.ref ra)])) rfl rfl (hb hby d2_14)
  have N14 := Fr.snoc X14 N5 g_ra
  have f15 : Exa Z h14 ra "com/example/pochta/pochta/entity/QueueSettings" := f6.wr W14
  have f16 : Fld Z h14 ra "com/example/pochta/pochta/entity/QueueSettings" "defaultMessageTimeToLive" "Ljava/time/Duration;" .null := f8.other W14 (Or.inr (slot_ne (Or.inl (hw _ (List.mem_of_getElem? (i := 42) rfl))) (Or.inl (hw _ (List.mem_of_getElem? (i := 19) rfl))) (by decide) (t := (.object "java/time/Duration")) (t' := .int) (by decide) (by decide)))
  have f17 : Sta Z h14 "com/example/pochta/pochta/entity/QueueSettings" "DEFAULT_LOCK_DURATION" "Ljava/time/Duration;" (.ref dd) := f9.wr W14
  have f18 : Fld Z h14 ra "com/example/pochta/pochta/entity/QueueSettings" "lockDuration" "Ljava/time/Duration;" (.ref dd) := f12.other W14 (Or.inr (slot_ne (Or.inl (hw _ (List.mem_of_getElem? (i := 17) rfl))) (Or.inl (hw _ (List.mem_of_getElem? (i := 19) rfl))) (by decide) (t := (.object "java/time/Duration")) (t' := .int) (by decide) (by decide)))
  have z19 : n0 ≤ h14.size := Nat.le_trans z10 (Keep.of_wr W14).1
  have K20 : Keep h0 h14 [ra] := K11.wr W14 (Or.inl (List.mem_of_getElem? (i := 0) rfl))
  have f21 : Fld Z h14 ra "com/example/pochta/pochta/entity/QueueSettings" "maxDeliveryCount" "I" (.int (10 : Int32)) := f7.same W14
  obtain ⟨fs, hr, hrun, hended, hW, hsame⟩ := X14.leave (v := none) (fun _ => rfl)
  refine ⟨_, _, pre0 _ ?_, hrun, hended, _, _, rfl, ?_, ⟨_, rfl⟩, hW, hsame.mono (by decide) (by decide)⟩
  · show Steps p.tables e below (s₁.setTop (mkF m 0 #[.val (.ref ra)] [])) _
    refine sg1 _ ?_
    show Steps p.tables e below (s₁.setTop (mkF m 1 #[.val (.ref ra)] [(.ref ra)])) _
    refine st2 _ ?_
    show Steps p.tables e below (T2.setTop (mkF m 4 #[.val (.ref ra)] [])) _
    refine sg3 _ ?_
    show Steps p.tables e below (T2.setTop (mkF m 5 #[.val (.ref ra)] [(.ref ra)])) _
    refine st4 _ ?_
    show Steps p.tables e below (T4.setTop (mkF m 8 #[.val (.ref ra)] [(.ref dd), (.ref ra)])) _
    refine st5 _ ?_
    show Steps p.tables e below (T5.setTop (mkF m 11 #[.val (.ref ra)] [])) _
    refine sg13 _ ?_
    show Steps p.tables e below (T5.setTop (mkF m 14 #[.val (.ref ra)] [(.int (10 : Int32)), (.ref ra)])) _
    refine st14 _ ?_
    show Steps p.tables e below (T14.setTop (mkF m 17 #[.val (.ref ra)] [])) _
    exact X14.returnOut hx Bd.returns (hb hby d2_17) hr
  · show Q_rmI Z ra dd h0 n0 _ T14.heap _
    rw [e14]
    exact ⟨rfl, N14, K20, f18, f21, f16, f17⟩
def Q_rmS (Z : State) (ra : Addr) (rn : Int32) (dd : Addr) (ro : Int32) (h0 : Heap) (n0 : Nat) (v : Option Value) (h : Heap) (L : List Loc) : Prop := v = some (.ref ra) ∧ Fr n0 L ∧ Keep h0 h [ra] ∧ Fld Z h ra "com/example/pochta/pochta/entity/QueueSettings" "maxDeliveryCount" "I" (.int rn) ∧ Fld Z h ra "com/example/pochta/pochta/entity/QueueSettings" "lockDuration" "Ljava/time/Duration;" (.ref dd) ∧ Fld Z h ra "com/example/pochta/pochta/entity/QueueSettings" "defaultMessageTimeToLive" "Ljava/time/Duration;" .null ∧ Sta Z h "com/example/pochta/pochta/entity/QueueSettings" "DEFAULT_LOCK_DURATION" "Ljava/time/Duration;" (.ref dd)
theorem ef_rmS (m : MethodId) (x0 : Addr) (x1 : Int32) : entryFrame m #[(.ref x0), (.int x1)] 2 = mkF m 0 #[.val (.ref x0), .val (.int x1)] [] := by first | (simp [entryFrame, mkF, argsToLocals, Value.category]; done) | rfl
theorem d4_0 : decode prog_13_method_7_code 0 = .ok (.iload_n 1, 1) := by decide +kernel
theorem d4_1 : decode prog_13_method_7_code 1 = .ok (.iconst 1, 1) := by decide +kernel
theorem d4_2 : decode prog_13_method_7_code 2 = .ok (.if_icmp .ge 17, 3) := by decide +kernel
theorem d4_19 : decode prog_13_method_7_code 19 = .ok (.aload_n 0, 1) := by decide +kernel
theorem d4_20 : decode prog_13_method_7_code 20 = .ok (.iload_n 1, 1) := by decide +kernel
theorem d4_21 : decode prog_13_method_7_code 21 = .ok (.putfield 16, 3) := by decide +kernel
theorem d4_24 : decode prog_13_method_7_code 24 = .ok (.aload_n 0, 1) := by decide +kernel
theorem d4_25 : decode prog_13_method_7_code 25 = .ok (.areturn, 1) := by decide +kernel
set_option maxRecDepth 65536 in
set_option maxHeartbeats 40000000 in
theorem rmS (l : Launch) (Z : State) (a0 : Array Value) (hw : ∀ d ∈ tables_1, d.before a0 Z = true) (ws : List Jvm.Cond) (ra : Addr) (rn : Int32) (dd : Addr) (ro : Int32) (h0 : Heap) (n0 : Nat) (Z0 : n0 ≤ h0.size) (P0 : Exa Z h0 ra "com/example/pochta/pochta/entity/QueueSettings") (P1 : Fld Z h0 ra "com/example/pochta/pochta/entity/QueueSettings" "maxDeliveryCount" "I" (.int ro)) (P2 : Fld Z h0 ra "com/example/pochta/pochta/entity/QueueSettings" "lockDuration" "Ljava/time/Duration;" (.ref dd)) (P3 : Fld Z h0 ra "com/example/pochta/pochta/entity/QueueSettings" "defaultMessageTimeToLive" "Ljava/time/Duration;" .null) (P4 : Sta Z h0 "com/example/pochta/pochta/entity/QueueSettings" "DEFAULT_LOCK_DURATION" "Ljava/time/Duration;" (.ref dd)) (g_ra : n0 ≤ ra) (hge : ¬ (rn < (1 : Int32))) :
    MetFree l (⟨"com/example/pochta/pochta/entity/QueueSettings", "maxDeliveryCount", "(I)Lcom/example/pochta/pochta/entity/QueueSettings;"⟩ : MethodName) (head1 (Jvm.Cond.code (⟨"com/example/pochta/pochta/entity/QueueSettings", "maxDeliveryCount", "(I)Lcom/example/pochta/pochta/entity/QueueSettings;"⟩ : MethodName) prog_13_method_7_code 2 (some (.object "com/example/pochta/pochta/entity/QueueSettings")) :: ws) ({ frames := 0, cells := 0, slots := 0, locals := 0 } : Room)) (fun a U => a = #[(.ref ra), (.int rn)] ∧ Z.Warmed39 U.vm ∧ U.heap = h0) (fun _ _ _ _ _ => True) (fun _ U o U' => ∃ v L, o = .returned v ∧ Q_rmS Z ra rn dd ro h0 n0 v U'.heap L ∧ FrameEnd U o U' L ({ frames := 0, cells := 0, slots := 0, locals := 0 } : Room).cells ({ frames := 0, cells := 0, slots := 0, locals := 0 } : Room).slots) := by
  refine MetFree.of_bodySF (plainFor_of_name pn_1) hisR ?_
  intro p e s m args below meth c s₁ Bd hml0 hP hK
  obtain ⟨rfl, hZ, hh⟩ := hP
  have hx := Bd.exec
  have hby := Bd.bytes
  have hml : c.maxLocals = 2 := hml0
  have hown : s.vm.findClass "com/example/pochta/pochta/entity/QueueSettings" = some m.cls := findClass_of_methodNamed Bd.named
  have hnm := (name_of_methodNamed Bd.named Bd.method).1
  have X0 : Stand p l e ({ frames := 0, cells := 0, slots := 0, locals := 0 } : Room) s m #[(.ref ra), (.int rn)] below meth c s₁ [] 0 0 := Stand.of_body Bd
  have e0 : s₁.heap = h0 := by rw [← hh, Bd.state]; rfl
  have N0 := Fr.nil n0
  have pre0 : ∀ t, Steps p.tables e below (s₁.setTop (mkF m 0 #[.val (.ref ra), .val (.int rn)] [])) t → Steps p.tables e below (s₁.setTop (entryFrame m #[(.ref ra), (.int rn)] 2)) t := fun t k => castTop (ef_rmS m ra rn) k
  have K0 : Keep h0 h0 [ra] := Keep.refl h0 [ra]
  have sg1 : ∀ t, Steps p.tables e below (s₁.setTop (mkF m 21 #[.val (.ref ra), .val (.int rn)] [(.int rn), (.ref ra)])) t → Steps p.tables e below (s₁.setTop (mkF m 0 #[.val (.ref ra), .val (.int rn)] [])) t := by
    intro t k
    show Steps p.tables e below (s₁.setTop (mkF m 0 #[.val (.ref ra), .val (.int rn)] [])) _
    refine XS.iloadN X0.here hx rfl (hb hby d4_0) rfl ?_
    show Steps p.tables e below (s₁.setTop (mkF m 1 #[.val (.ref ra), .val (.int rn)] [(.int rn)])) _
    refine XS.iconst X0.here hx rfl (hb hby d4_1) ?_
    show Steps p.tables e below (s₁.setTop (mkF m 2 #[.val (.ref ra), .val (.int rn)] [(.int (1 : Int32)), (.int rn)])) _
    refine XS.icmpYes X0.here hx rfl (pc0 := 2) (pc' := 19) rfl (hb hby d4_2) rfl (flt (hge : ¬ (rn < (1 : Int32)))).2.1 (by decide) (by decide) ?_
    show Steps p.tables e below (s₁.setTop (mkF m 19 #[.val (.ref ra), .val (.int rn)] [])) _
    refine XS.aloadN X0.here hx rfl (hb hby d4_19) rfl rfl ?_
    show Steps p.tables e below (s₁.setTop (mkF m 20 #[.val (.ref ra), .val (.int rn)] [(.ref ra)])) _
    refine XS.iloadN X0.here hx rfl (hb hby d4_20) rfl ?_
    exact k
  obtain ⟨T2, h2, X2, e2, W2, st2⟩ := putF X0 hx hZ hown (host := "") (Or.inl (hw _ (List.mem_of_getElem? (i := 18) rfl))) Via.refl e0 P1 P0 (Or.inl (hw _ (List.mem_of_getElem? (i := 19) rfl))) (hw _ (List.mem_of_getElem? (i := 6) rfl)) (ty := .int) (by decide) rfl rfl (g := (mkF m 21 #[.val (.ref ra), .val (.int rn)] [(.int rn), (.ref ra)])) rfl rfl (hb hby d4_21)
  have N2 := Fr.snoc X2 N0 g_ra
  have f3 : Exa Z h2 ra "com/example/pochta/pochta/entity/QueueSettings" := P0.wr W2
  have f4 : Fld Z h2 ra "com/example/pochta/pochta/entity/QueueSettings" "lockDuration" "Ljava/time/Duration;" (.ref dd) := P2.other W2 (Or.inr (slot_ne (Or.inl (hw _ (List.mem_of_getElem? (i := 17) rfl))) (Or.inl (hw _ (List.mem_of_getElem? (i := 19) rfl))) (by decide) (t := (.object "java/time/Duration")) (t' := .int) (by decide) (by decide)))
  have f5 : Fld Z h2 ra "com/example/pochta/pochta/entity/QueueSettings" "defaultMessageTimeToLive" "Ljava/time/Duration;" .null := P3.other W2 (Or.inr (slot_ne (Or.inl (hw _ (List.mem_of_getElem? (i := 42) rfl))) (Or.inl (hw _ (List.mem_of_getElem? (i := 19) rfl))) (by decide) (t := (.object "java/time/Duration")) (t' := .int) (by decide) (by decide)))
  have f6 : Sta Z h2 "com/example/pochta/pochta/entity/QueueSettings" "DEFAULT_LOCK_DURATION" "Ljava/time/Duration;" (.ref dd) := P4.wr W2
  have z7 : n0 ≤ h2.size := Nat.le_trans Z0 (Keep.of_wr W2).1
  have K8 : Keep h0 h2 [ra] := K0.wr W2 (Or.inl (List.mem_of_getElem? (i := 0) rfl))
  have f9 : Fld Z h2 ra "com/example/pochta/pochta/entity/QueueSettings" "maxDeliveryCount" "I" (.int rn) := P1.same W2
  have sg10 : ∀ t, Steps p.tables e below (T2.setTop (mkF m 25 #[.val (.ref ra), .val (.int rn)] [(.ref ra)])) t → Steps p.tables e below (T2.setTop (mkF m 24 #[.val (.ref ra), .val (.int rn)] [])) t := by
    intro t k
    show Steps p.tables e below (T2.setTop (mkF m 24 #[.val (.ref ra), .val (.int rn)] [])) _
    refine XS.aloadN X2.here hx rfl (hb hby d4_24) rfl rfl ?_
    exact k
  obtain ⟨fs, hr, hrun, hended, hW, hsame⟩ := X2.leave (v := some (.ref ra)) (fun h => by rw [Bd.returns] at h; cases h)
  refine ⟨_, _, pre0 _ ?_, hrun, hended, _, _, rfl, ?_, ⟨_, rfl⟩, hW, hsame.mono (by decide) (by decide)⟩
  · show Steps p.tables e below (s₁.setTop (mkF m 0 #[.val (.ref ra), .val (.int rn)] [])) _
    refine sg1 _ ?_
    show Steps p.tables e below (s₁.setTop (mkF m 21 #[.val (.ref ra), .val (.int rn)] [(.int rn), (.ref ra)])) _
    refine st2 _ ?_
    show Steps p.tables e below (T2.setTop (mkF m 24 #[.val (.ref ra), .val (.int rn)] [])) _
    refine sg10 _ ?_
    show Steps p.tables e below (T2.setTop (mkF m 25 #[.val (.ref ra), .val (.int rn)] [(.ref ra)])) _
    jvm_step X2.here [X2.here.top, hx, (hb hby d4_25), X2.method', Bd.returns, Value.isRef, FieldType.isReference]
    first | (intro acts; rw [hr _ acts rfl rfl rfl]) | rw [hr _ _ rfl rfl rfl]
    exact Steps.refl _
  · show Q_rmS Z ra rn dd ro h0 n0 _ T2.heap _
    rw [e2]
    exact ⟨rfl, N2, K8, f9, f4, f5, f6⟩
def Q_rmG (Z : State) (ra : Addr) (ro : Int32) (h0 : Heap) (n0 : Nat) (v : Option Value) (h : Heap) (L : List Loc) : Prop := v = some (.int ro) ∧ Fr n0 L ∧ h = h0
theorem ef_rmG (m : MethodId) (x0 : Addr) : entryFrame m #[(.ref x0)] 1 = mkF m 0 #[.val (.ref x0)] [] := by first | (simp [entryFrame, mkF, argsToLocals, Value.category]; done) | rfl
theorem d5_0 : decode prog_13_method_6_code 0 = .ok (.aload_n 0, 1) := by decide +kernel
theorem d5_1 : decode prog_13_method_6_code 1 = .ok (.getfield 16, 3) := by decide +kernel
theorem d5_4 : decode prog_13_method_6_code 4 = .ok (.ireturn, 1) := by decide +kernel
set_option maxRecDepth 65536 in
set_option maxHeartbeats 40000000 in
theorem rmG (l : Launch) (Z : State) (a0 : Array Value) (hw : ∀ d ∈ tables_1, d.before a0 Z = true) (ws : List Jvm.Cond) (ra : Addr) (ro : Int32) (h0 : Heap) (n0 : Nat) (Z0 : n0 ≤ h0.size) (P0 : Fld Z h0 ra "com/example/pochta/pochta/entity/QueueSettings" "maxDeliveryCount" "I" (.int ro)) :
    MetFree l (⟨"com/example/pochta/pochta/entity/QueueSettings", "maxDeliveryCount", "()I"⟩ : MethodName) (head1 (Jvm.Cond.code (⟨"com/example/pochta/pochta/entity/QueueSettings", "maxDeliveryCount", "()I"⟩ : MethodName) prog_13_method_6_code 1 (some .int) :: ws) ({ frames := 0, cells := 0, slots := 0, locals := 0 } : Room)) (fun a U => a = #[(.ref ra)] ∧ Z.Warmed39 U.vm ∧ U.heap = h0) (fun _ _ _ _ _ => True) (fun _ U o U' => ∃ v L, o = .returned v ∧ Q_rmG Z ra ro h0 n0 v U'.heap L ∧ FrameEnd U o U' L ({ frames := 0, cells := 0, slots := 0, locals := 0 } : Room).cells ({ frames := 0, cells := 0, slots := 0, locals := 0 } : Room).slots) := by
  refine MetFree.of_bodySF (plainFor_of_name pn_1) hisR ?_
  intro p e s m args below meth c s₁ Bd hml0 hP hK
  obtain ⟨rfl, hZ, hh⟩ := hP
  have hx := Bd.exec
  have hby := Bd.bytes
  have hml : c.maxLocals = 1 := hml0
  have hown : s.vm.findClass "com/example/pochta/pochta/entity/QueueSettings" = some m.cls := findClass_of_methodNamed Bd.named
  have hnm := (name_of_methodNamed Bd.named Bd.method).1
  have X0 : Stand p l e ({ frames := 0, cells := 0, slots := 0, locals := 0 } : Room) s m #[(.ref ra)] below meth c s₁ [] 0 0 := Stand.of_body Bd
  have e0 : s₁.heap = h0 := by rw [← hh, Bd.state]; rfl
  have N0 := Fr.nil n0
  have pre0 : ∀ t, Steps p.tables e below (s₁.setTop (mkF m 0 #[.val (.ref ra)] [])) t → Steps p.tables e below (s₁.setTop (entryFrame m #[(.ref ra)] 1)) t := fun t k => castTop (ef_rmG m ra) k
  have sg1 : ∀ t, Steps p.tables e below (s₁.setTop (mkF m 1 #[.val (.ref ra)] [(.ref ra)])) t → Steps p.tables e below (s₁.setTop (mkF m 0 #[.val (.ref ra)] [])) t := by
    intro t k
    show Steps p.tables e below (s₁.setTop (mkF m 0 #[.val (.ref ra)] [])) _
    refine XS.aloadN X0.here hx rfl (hb hby d5_0) rfl rfl ?_
    exact k
  obtain ⟨T2, X2, e2, st2⟩ := getF X0 hx hZ hown (host := "") (Or.inl (hw _ (List.mem_of_getElem? (i := 18) rfl))) Via.refl e0 P0 (g := (mkF m 1 #[.val (.ref ra)] [(.ref ra)])) rfl rfl (hb hby d5_1)
  obtain ⟨fs, hr, hrun, hended, hW, hsame⟩ := X2.leave (v := some (.int ro)) (fun h => by rw [Bd.returns] at h; cases h)
  refine ⟨_, _, pre0 _ ?_, hrun, hended, _, _, rfl, ?_, ⟨_, rfl⟩, hW, hsame.mono (by decide) (by decide)⟩
  · show Steps p.tables e below (s₁.setTop (mkF m 0 #[.val (.ref ra)] [])) _
    refine sg1 _ ?_
    show Steps p.tables e below (s₁.setTop (mkF m 1 #[.val (.ref ra)] [(.ref ra)])) _
    refine st2 _ ?_
    show Steps p.tables e below (T2.setTop (mkF m 4 #[.val (.ref ra)] [(.int ro)])) _
    exact retI X2 hx Bd.returns (hb hby d5_4) hr
  · show Q_rmG Z ra ro h0 n0 _ T2.heap _
    rw [e2]
    exact ⟨rfl, N0, rfl⟩
def Q_rmL (Z : State) (ra : Addr) (dd : Addr) (h0 : Heap) (n0 : Nat) (v : Option Value) (h : Heap) (L : List Loc) : Prop := v = some (.ref dd) ∧ Fr n0 L ∧ h = h0
theorem ef_rmL (m : MethodId) (x0 : Addr) : entryFrame m #[(.ref x0)] 1 = mkF m 0 #[.val (.ref x0)] [] := by first | (simp [entryFrame, mkF, argsToLocals, Value.category]; done) | rfl
theorem d6_0 : decode prog_13_method_2_code 0 = .ok (.aload_n 0, 1) := by decide +kernel
theorem d6_1 : decode prog_13_method_2_code 1 = .ok (.getfield 13, 3) := by decide +kernel
theorem d6_4 : decode prog_13_method_2_code 4 = .ok (.areturn, 1) := by decide +kernel
set_option maxRecDepth 65536 in
set_option maxHeartbeats 40000000 in
theorem rmL (l : Launch) (Z : State) (a0 : Array Value) (hw : ∀ d ∈ tables_1, d.before a0 Z = true) (ws : List Jvm.Cond) (ra : Addr) (dd : Addr) (h0 : Heap) (n0 : Nat) (Z0 : n0 ≤ h0.size) (P0 : Fld Z h0 ra "com/example/pochta/pochta/entity/QueueSettings" "lockDuration" "Ljava/time/Duration;" (.ref dd)) :
    MetFree l (⟨"com/example/pochta/pochta/entity/QueueSettings", "lockDuration", "()Ljava/time/Duration;"⟩ : MethodName) (head1 (Jvm.Cond.code (⟨"com/example/pochta/pochta/entity/QueueSettings", "lockDuration", "()Ljava/time/Duration;"⟩ : MethodName) prog_13_method_2_code 1 (some (.object "java/time/Duration")) :: ws) ({ frames := 0, cells := 0, slots := 0, locals := 0 } : Room)) (fun a U => a = #[(.ref ra)] ∧ Z.Warmed39 U.vm ∧ U.heap = h0) (fun _ _ _ _ _ => True) (fun _ U o U' => ∃ v L, o = .returned v ∧ Q_rmL Z ra dd h0 n0 v U'.heap L ∧ FrameEnd U o U' L ({ frames := 0, cells := 0, slots := 0, locals := 0 } : Room).cells ({ frames := 0, cells := 0, slots := 0, locals := 0 } : Room).slots) := by
  refine MetFree.of_bodySF (plainFor_of_name pn_1) hisR ?_
  intro p e s m args below meth c s₁ Bd hml0 hP hK
  obtain ⟨rfl, hZ, hh⟩ := hP
  have hx := Bd.exec
  have hby := Bd.bytes
  have hml : c.maxLocals = 1 := hml0
  have hown : s.vm.findClass "com/example/pochta/pochta/entity/QueueSettings" = some m.cls := findClass_of_methodNamed Bd.named
  have hnm := (name_of_methodNamed Bd.named Bd.method).1
  have X0 : Stand p l e ({ frames := 0, cells := 0, slots := 0, locals := 0 } : Room) s m #[(.ref ra)] below meth c s₁ [] 0 0 := Stand.of_body Bd
  have e0 : s₁.heap = h0 := by rw [← hh, Bd.state]; rfl
  have N0 := Fr.nil n0
  have pre0 : ∀ t, Steps p.tables e below (s₁.setTop (mkF m 0 #[.val (.ref ra)] [])) t → Steps p.tables e below (s₁.setTop (entryFrame m #[(.ref ra)] 1)) t := fun t k => castTop (ef_rmL m ra) k
  have sg1 : ∀ t, Steps p.tables e below (s₁.setTop (mkF m 1 #[.val (.ref ra)] [(.ref ra)])) t → Steps p.tables e below (s₁.setTop (mkF m 0 #[.val (.ref ra)] [])) t := by
    intro t k
    show Steps p.tables e below (s₁.setTop (mkF m 0 #[.val (.ref ra)] [])) _
    refine XS.aloadN X0.here hx rfl (hb hby d6_0) rfl rfl ?_
    exact k
  obtain ⟨T2, X2, e2, st2⟩ := getF X0 hx hZ hown (host := "") (Or.inl (hw _ (List.mem_of_getElem? (i := 16) rfl))) Via.refl e0 P0 (g := (mkF m 1 #[.val (.ref ra)] [(.ref ra)])) rfl rfl (hb hby d6_1)
  obtain ⟨fs, hr, hrun, hended, hW, hsame⟩ := X2.leave (v := some (.ref dd)) (fun h => by rw [Bd.returns] at h; cases h)
  refine ⟨_, _, pre0 _ ?_, hrun, hended, _, _, rfl, ?_, ⟨_, rfl⟩, hW, hsame.mono (by decide) (by decide)⟩
  · show Steps p.tables e below (s₁.setTop (mkF m 0 #[.val (.ref ra)] [])) _
    refine sg1 _ ?_
    show Steps p.tables e below (s₁.setTop (mkF m 1 #[.val (.ref ra)] [(.ref ra)])) _
    refine st2 _ ?_
    show Steps p.tables e below (T2.setTop (mkF m 4 #[.val (.ref ra)] [(.ref dd)])) _
    jvm_step X2.here [X2.here.top, hx, (hb hby d6_4), X2.method', Bd.returns, Value.isRef, FieldType.isReference]
    first | (intro acts; rw [hr _ acts rfl rfl rfl]) | rw [hr _ _ rfl rfl rfl]
    exact Steps.refl _
  · show Q_rmL Z ra dd h0 n0 _ T2.heap _
    rw [e2]
    exact ⟨rfl, N0, rfl⟩
def Q_rmT (Z : State) (ra : Addr) (h0 : Heap) (n0 : Nat) (v : Option Value) (h : Heap) (L : List Loc) : Prop := v = some .null ∧ Fr n0 L ∧ h = h0
theorem ef_rmT (m : MethodId) (x0 : Addr) : entryFrame m #[(.ref x0)] 1 = mkF m 0 #[.val (.ref x0)] [] := by first | (simp [entryFrame, mkF, argsToLocals, Value.category]; done) | rfl
theorem d7_0 : decode prog_13_method_4_code 0 = .ok (.aload_n 0, 1) := by decide +kernel
theorem d7_1 : decode prog_13_method_4_code 1 = .ok (.getfield 53, 3) := by decide +kernel
theorem d7_4 : decode prog_13_method_4_code 4 = .ok (.areturn, 1) := by decide +kernel
set_option maxRecDepth 65536 in
set_option maxHeartbeats 40000000 in
theorem rmT (l : Launch) (Z : State) (a0 : Array Value) (hw : ∀ d ∈ tables_1, d.before a0 Z = true) (ws : List Jvm.Cond) (ra : Addr)  (h0 : Heap) (n0 : Nat) (Z0 : n0 ≤ h0.size) (P0 : Fld Z h0 ra "com/example/pochta/pochta/entity/QueueSettings" "defaultMessageTimeToLive" "Ljava/time/Duration;" .null) :
    MetFree l (⟨"com/example/pochta/pochta/entity/QueueSettings", "defaultMessageTimeToLive", "()Ljava/time/Duration;"⟩ : MethodName) (head1 (Jvm.Cond.code (⟨"com/example/pochta/pochta/entity/QueueSettings", "defaultMessageTimeToLive", "()Ljava/time/Duration;"⟩ : MethodName) prog_13_method_4_code 1 (some (.object "java/time/Duration")) :: ws) ({ frames := 0, cells := 0, slots := 0, locals := 0 } : Room)) (fun a U => a = #[(.ref ra)] ∧ Z.Warmed39 U.vm ∧ U.heap = h0) (fun _ _ _ _ _ => True) (fun _ U o U' => ∃ v L, o = .returned v ∧ Q_rmT Z ra h0 n0 v U'.heap L ∧ FrameEnd U o U' L ({ frames := 0, cells := 0, slots := 0, locals := 0 } : Room).cells ({ frames := 0, cells := 0, slots := 0, locals := 0 } : Room).slots) := by
  refine MetFree.of_bodySF (plainFor_of_name pn_1) hisR ?_
  intro p e s m args below meth c s₁ Bd hml0 hP hK
  obtain ⟨rfl, hZ, hh⟩ := hP
  have hx := Bd.exec
  have hby := Bd.bytes
  have hml : c.maxLocals = 1 := hml0
  have hown : s.vm.findClass "com/example/pochta/pochta/entity/QueueSettings" = some m.cls := findClass_of_methodNamed Bd.named
  have hnm := (name_of_methodNamed Bd.named Bd.method).1
  have X0 : Stand p l e ({ frames := 0, cells := 0, slots := 0, locals := 0 } : Room) s m #[(.ref ra)] below meth c s₁ [] 0 0 := Stand.of_body Bd
  have e0 : s₁.heap = h0 := by rw [← hh, Bd.state]; rfl
  have N0 := Fr.nil n0
  have pre0 : ∀ t, Steps p.tables e below (s₁.setTop (mkF m 0 #[.val (.ref ra)] [])) t → Steps p.tables e below (s₁.setTop (entryFrame m #[(.ref ra)] 1)) t := fun t k => castTop (ef_rmT m ra) k
  have sg1 : ∀ t, Steps p.tables e below (s₁.setTop (mkF m 1 #[.val (.ref ra)] [(.ref ra)])) t → Steps p.tables e below (s₁.setTop (mkF m 0 #[.val (.ref ra)] [])) t := by
    intro t k
    show Steps p.tables e below (s₁.setTop (mkF m 0 #[.val (.ref ra)] [])) _
    refine XS.aloadN X0.here hx rfl (hb hby d7_0) rfl rfl ?_
    exact k
  obtain ⟨T2, X2, e2, st2⟩ := getF X0 hx hZ hown (host := "") (Or.inl (hw _ (List.mem_of_getElem? (i := 41) rfl))) Via.refl e0 P0 (g := (mkF m 1 #[.val (.ref ra)] [(.ref ra)])) rfl rfl (hb hby d7_1)
  obtain ⟨fs, hr, hrun, hended, hW, hsame⟩ := X2.leave (v := some .null) (fun h => by rw [Bd.returns] at h; cases h)
  refine ⟨_, _, pre0 _ ?_, hrun, hended, _, _, rfl, ?_, ⟨_, rfl⟩, hW, hsame.mono (by decide) (by decide)⟩
  · show Steps p.tables e below (s₁.setTop (mkF m 0 #[.val (.ref ra)] [])) _
    refine sg1 _ ?_
    show Steps p.tables e below (s₁.setTop (mkF m 1 #[.val (.ref ra)] [(.ref ra)])) _
    refine st2 _ ?_
    show Steps p.tables e below (T2.setTop (mkF m 4 #[.val (.ref ra)] [.null])) _
    jvm_step X2.here [X2.here.top, hx, (hb hby d7_4), X2.method', Bd.returns, Value.isRef, FieldType.isReference]
    first | (intro acts; rw [hr _ acts rfl rfl rfl]) | rw [hr _ _ rfl rfl rfl]
    exact Steps.refl _
  · show Q_rmT Z ra h0 n0 _ T2.heap _
    rw [e2]
    exact ⟨rfl, N0, rfl⟩
def Q0 (Z : State) (p1 p2 : Int32) (dd : Addr) (h0 : Heap) (n0 : Nat) (v : Option Value) (h : Heap) (L : List Loc) : Prop := v = some (.int 1) ∧ Fr n0 L
theorem pd_1 : parseMethodDescriptor "(I)I" = some ⟨[.int], some .int⟩ := by decide +kernel
theorem pd_2 : parseMethodDescriptor "(I)Lcom/example/pochta/pochta/entity/QueueSettings;" = some ⟨[.int], some (.object "com/example/pochta/pochta/entity/QueueSettings")⟩ := by decide +kernel
theorem pd_3 : parseMethodDescriptor "()I" = some ⟨[], some .int⟩ := by decide +kernel
theorem pd_4 : parseMethodDescriptor "()Ljava/time/Duration;" = some ⟨[], some (.object "java/time/Duration")⟩ := by decide +kernel
theorem ef_rm0 (m : MethodId) (x0 : Int32) (x1 : Int32) : entryFrame m #[(.int x0), (.int x1)] maxLocals = mkF m 0 #[.val (.int x0), .val (.int x1), .unset, .unset, .unset, .unset, .unset, .unset, .unset, .unset] [] := by first | (simp [entryFrame, mkF, argsToLocals, Value.category, maxLocals]; done) | rfl
set_option maxRecDepth 65536 in
set_option maxHeartbeats 40000000 in
theorem rm0 (l : Launch) (Z : State) (a0 : Array Value) (hw : ∀ d ∈ tables_1, d.before a0 Z = true) (ws : List Jvm.Cond) (p1 : Int32) (p2 : Int32) (dd : Addr) (h0 : Heap) (n0 : Nat) (Z0 : n0 ≤ h0.size) (PS : Sta Z h0 "com/example/pochta/pochta/entity/QueueSettings" "DEFAULT_LOCK_DURATION" "Ljava/time/Duration;" (.ref dd)) :
    MetFree l x (head1 (Jvm.Cond.code x code maxLocals ret :: ws) room_1) (fun a U => a = #[(.int p1), (.int p2)] ∧ Z.Warmed39 U.vm ∧ U.heap = h0) (fun _ _ _ _ _ => True) (fun _ U o U' => ∃ v L, o = .returned v ∧ Q0 Z p1 p2 dd h0 n0 v U'.heap L ∧ FrameEnd U o U' L 16 128) := by
  refine MetFree.of_bodySF (plainFor_of_name pn_0) hisR ?_
  intro p e s m args below meth c s₁ Bd hml0 hP hK
  obtain ⟨rfl, hZ, hh⟩ := hP
  have hx := Bd.exec
  have hby := Bd.bytes
  have hml : c.maxLocals = 10 := hml0
  have hown : s.vm.findClass "com/example/pochta/pochta/entity/QueueSettingsMaxDeliveryCountPinLaw" = some m.cls := findClass_of_methodNamed Bd.named
  have hnm := (name_of_methodNamed Bd.named Bd.method).1
  have X0 : Stand p l e room_1 s m #[(.int p1), (.int p2)] below meth c s₁ [] 0 0 := Stand.of_body Bd
  have e0 : s₁.heap = h0 := by rw [← hh, Bd.state]; rfl
  have N0 := Fr.nil n0
  have pre0 : ∀ t, Steps p.tables e below (s₁.setTop (mkF m 0 #[.val (.int p1), .val (.int p2), .unset, .unset, .unset, .unset, .unset, .unset, .unset, .unset] [])) t → Steps p.tables e below (s₁.setTop (entryFrame m #[(.int p1), (.int p2)] maxLocals)) t := fun t k => castTop (ef_rm0 m p1 p2) k
  have sg1 : ∀ t, Steps p.tables e below (s₁.setTop (mkF m 1 #[.val (.int p1), .val (.int p2), .unset, .unset, .unset, .unset, .unset, .unset, .unset, .unset] [(.int p1)])) t → Steps p.tables e below (s₁.setTop (mkF m 0 #[.val (.int p1), .val (.int p2), .unset, .unset, .unset, .unset, .unset, .unset, .unset, .unset] [])) t := by
    intro t k
    show Steps p.tables e below (s₁.setTop (mkF m 0 #[.val (.int p1), .val (.int p2), .unset, .unset, .unset, .unset, .unset, .unset, .unset, .unset] [])) _
    refine XS.iloadN X0.here hx rfl (hb hby at_0) rfl ?_
    exact k
  obtain ⟨_, _, ⟨T2, L2, k2, n2⟩, -, X2, ⟨Lc2, hQ2, l2, y2, z2⟩, st2⟩ := Jvm.LawKit.callS X0 hx (y := (⟨"com/example/pochta/pochta/entity/QueueSettingsMaxDeliveryCountPinLaw", "validCount", "(I)I"⟩ : MethodName)) hown (mvT hZ (hw _ (List.mem_of_getElem? (i := 0) rfl))) (mvT hZ (hw _ (List.mem_of_getElem? (i := 1) rfl))) (mvT hZ (hw _ (List.mem_of_getElem? (i := 2) rfl))) (mvT hZ (hw _ (List.mem_of_getElem? (i := 3) rfl))) (by decide) (backOf (W := 0) (rmV l Z a0 hw [] p1 h0 n0 Z0) hZ (hw _ (List.mem_of_getElem? (i := 3) rfl)) (hw _ (List.mem_of_getElem? (i := 2) rfl)) (by decide) (by decide)) (g := (mkF m 1 #[.val (.int p1), .val (.int p2), .unset, .unset, .unset, .unset, .unset, .unset, .unset, .unset] [(.int p1)])) rfl (by rw [hml]; rfl) (argsL := [(.int p1)]) (rest := []) (lenOf pd_1 rfl) rfl (by show 2 * 0 + _ ≤ _; exact Nat.le_of_eq rfl) (hb hby at_1) (fun _ _ => ⟨rfl, e0, (by decide : 0 + 0 ≤ _), (by decide : 0 + 0 ≤ _)⟩)
  dsimp only [Pt.U, Pt.locs, Pt.cells, Pt.slots] at X2 l2 y2 z2 st2 hQ2
  subst l2 y2 z2
  obtain ⟨rfl, N2q, e2⟩ := hQ2
  have N2 := Fr.app N0 N2q
  have sg3 : ∀ t, Steps p.tables e below (T2.setTop (mkF m 6 #[.val (.int p1), .val (.int p2), .val (.int (fV p1)), .unset, .unset, .unset, .unset, .unset, .unset, .unset] [(.int p2)])) t → Steps p.tables e below (T2.setTop (mkF m 4 #[.val (.int p1), .val (.int p2), .unset, .unset, .unset, .unset, .unset, .unset, .unset, .unset] [(.int (fV p1))])) t := by
    intro t k
    show Steps p.tables e below (T2.setTop (mkF m 4 #[.val (.int p1), .val (.int p2), .unset, .unset, .unset, .unset, .unset, .unset, .unset, .unset] [(.int (fV p1))])) _
    refine XS.istoreN X2.here hx rfl (hb hby at_4) rfl (l' := #[.val (.int p1), .val (.int p2), .val (.int (fV p1)), .unset, .unset, .unset, .unset, .unset, .unset, .unset]) rfl ?_
    show Steps p.tables e below (T2.setTop (mkF m 5 #[.val (.int p1), .val (.int p2), .val (.int (fV p1)), .unset, .unset, .unset, .unset, .unset, .unset, .unset] [])) _
    refine XS.iloadN X2.here hx rfl (hb hby at_5) rfl ?_
    exact k
  obtain ⟨_, _, ⟨T4, L4, k4, n4⟩, -, X4, ⟨Lc4, hQ4, l4, y4, z4⟩, st4⟩ := Jvm.LawKit.callS X2 hx (y := (⟨"com/example/pochta/pochta/entity/QueueSettingsMaxDeliveryCountPinLaw", "validCount", "(I)I"⟩ : MethodName)) hown (mvT hZ (hw _ (List.mem_of_getElem? (i := 0) rfl))) (mvT hZ (hw _ (List.mem_of_getElem? (i := 1) rfl))) (mvT hZ (hw _ (List.mem_of_getElem? (i := 2) rfl))) (mvT hZ (hw _ (List.mem_of_getElem? (i := 3) rfl))) (by decide) (backOf (W := 0) (rmV l Z a0 hw [] p2 h0 n0 Z0) hZ (hw _ (List.mem_of_getElem? (i := 3) rfl)) (hw _ (List.mem_of_getElem? (i := 2) rfl)) (by decide) (by decide)) (g := (mkF m 6 #[.val (.int p1), .val (.int p2), .val (.int (fV p1)), .unset, .unset, .unset, .unset, .unset, .unset, .unset] [(.int p2)])) rfl (by rw [hml]; rfl) (argsL := [(.int p2)]) (rest := []) (lenOf pd_1 rfl) rfl (by show 2 * 0 + _ ≤ _; exact Nat.le_of_eq rfl) (hb hby at_6) (fun _ _ => ⟨rfl, e2, (by decide : 0 + 0 ≤ _), (by decide : 0 + 0 ≤ _)⟩)
  dsimp only [Pt.U, Pt.locs, Pt.cells, Pt.slots] at X4 l4 y4 z4 st4 hQ4
  subst l4 y4 z4
  obtain ⟨rfl, N4q, e4⟩ := hQ4
  have N4 := Fr.app N2 N4q
  have sg5 : ∀ t, Steps p.tables e below (T4.setTop (mkF m 10 #[.val (.int p1), .val (.int p2), .val (.int (fV p1)), .val (.int (fV p2)), .unset, .unset, .unset, .unset, .unset, .unset] [])) t → Steps p.tables e below (T4.setTop (mkF m 9 #[.val (.int p1), .val (.int p2), .val (.int (fV p1)), .unset, .unset, .unset, .unset, .unset, .unset, .unset] [(.int (fV p2))])) t := by
    intro t k
    show Steps p.tables e below (T4.setTop (mkF m 9 #[.val (.int p1), .val (.int p2), .val (.int (fV p1)), .unset, .unset, .unset, .unset, .unset, .unset, .unset] [(.int (fV p2))])) _
    refine XS.istoreN X4.here hx rfl (hb hby at_9) rfl (l' := #[.val (.int p1), .val (.int p2), .val (.int (fV p1)), .val (.int (fV p2)), .unset, .unset, .unset, .unset, .unset, .unset]) rfl ?_
    exact k
  obtain ⟨T6, h6, X6, e6, E6, A6, D6, -, st6⟩ := newO X4 hx hZ hown (hw _ (List.mem_of_getElem? (i := 5) rfl)) (hw _ (List.mem_of_getElem? (i := 6) rfl)) (hw _ (List.mem_of_getElem? (i := 7) rfl)) e4 (g := (mkF m 10 #[.val (.int p1), .val (.int p2), .val (.int (fV p1)), .val (.int (fV p2)), .unset, .unset, .unset, .unset, .unset, .unset] [])) rfl (hb hby at_10) (by decide) (by decide)
  obtain ⟨b6, g6⟩ : ∃ z, z = h0.size := ⟨_, rfl⟩
  rw [← g6] at A6 D6 st6
  have gn_b6 : n0 ≤ b6 := Nat.le_trans Z0 (Nat.le_of_eq g6.symm)
  have f7 : Sta Z h6 "com/example/pochta/pochta/entity/QueueSettings" "DEFAULT_LOCK_DURATION" "Ljava/time/Duration;" (.ref dd) := PS.ext E6
  have z8 : n0 ≤ h6.size := Nat.le_trans Z0 E6.1
  have f9 : Fld Z h6 b6 "com/example/pochta/pochta/entity/QueueSettings" "lockDuration" "Ljava/time/Duration;" .null := D6 (Or.inl (hw _ (List.mem_of_getElem? (i := 17) rfl))) (ty := (.object "java/time/Duration")) (by decide)
  have f10 : Fld Z h6 b6 "com/example/pochta/pochta/entity/QueueSettings" "maxDeliveryCount" "I" (.int (0 : Int32)) := D6 (Or.inl (hw _ (List.mem_of_getElem? (i := 19) rfl))) (ty := .int) (by decide)
  have f11 : Fld Z h6 b6 "com/example/pochta/pochta/entity/QueueSettings" "defaultMessageTimeToLive" "Ljava/time/Duration;" .null := D6 (Or.inl (hw _ (List.mem_of_getElem? (i := 42) rfl))) (ty := (.object "java/time/Duration")) (by decide)
  have sg12 : ∀ t, Steps p.tables e below (T6.setTop (mkF m 14 #[.val (.int p1), .val (.int p2), .val (.int (fV p1)), .val (.int (fV p2)), .unset, .unset, .unset, .unset, .unset, .unset] [(.ref b6), (.ref b6)])) t → Steps p.tables e below (T6.setTop (mkF m 13 #[.val (.int p1), .val (.int p2), .val (.int (fV p1)), .val (.int (fV p2)), .unset, .unset, .unset, .unset, .unset, .unset] [(.ref b6)])) t := by
    intro t k
    show Steps p.tables e below (T6.setTop (mkF m 13 #[.val (.int p1), .val (.int p2), .val (.int (fV p1)), .val (.int (fV p2)), .unset, .unset, .unset, .unset, .unset, .unset] [(.ref b6)])) _
    refine XS.dup X6.here hx rfl (hb hby at_13) rfl rfl ?_
    exact k
  obtain ⟨_, _, ⟨T13, L13, k13, n13⟩, -, X13, ⟨Lc13, hQ13, l13, y13, z13⟩, st13⟩ := X6.specialBack hx (y := (⟨"com/example/pochta/pochta/entity/QueueSettings", "<init>", "()V"⟩ : MethodName)) rfl hown (mvT hZ (hw _ (List.mem_of_getElem? (i := 8) rfl))) (mvT hZ (hw _ (List.mem_of_getElem? (i := 9) rfl))) (mvT hZ (hw _ (List.mem_of_getElem? (i := 10) rfl))) (by decide) (backOf (W := 1) (rmI l Z a0 hw [] b6 dd h6 n0 z8 A6 f9 f10 f11 f7 gn_b6) hZ (hw _ (List.mem_of_getElem? (i := 10) rfl)) (hw _ (List.mem_of_getElem? (i := 7) rfl)) (by decide) (by decide)) (g := (mkF m 14 #[.val (.int p1), .val (.int p2), .val (.int (fV p1)), .val (.int (fV p2)), .unset, .unset, .unset, .unset, .unset, .unset] [(.ref b6), (.ref b6)])) rfl (by rw [hml]; rfl) (Steps.refl _) (a := b6) (argsL := []) (rest := [(.ref b6)]) (lenOf pd_0 rfl) rfl (by show 2 * 0 + _ ≤ _; exact Nat.le_of_eq rfl) (hb hby at_14) (fun _ _ => ⟨rfl, e6, (by decide : 1 + 0 ≤ _), (by decide : 3 + 0 ≤ _)⟩)
  dsimp only [Pt.U, Pt.locs, Pt.cells, Pt.slots] at X13 l13 y13 z13 st13 hQ13
  subst l13 y13 z13
  obtain ⟨rfl, N13q, KQ13, Q13f0, Q13f1, Q13f2, Q13f3⟩ := hQ13
  have N13 := Fr.app N4 N13q
  have f14 : Exa Z T13.heap b6 "com/example/pochta/pochta/entity/QueueSettings" := A6.keep KQ13
  have z15 : n0 ≤ T13.heap.size := Nat.le_trans z8 KQ13.1
  have sg16 : ∀ t, Steps p.tables e below (T13.setTop (mkF m 22 #[.val (.int p1), .val (.int p2), .val (.int (fV p1)), .val (.int (fV p2)), .val (.ref b6), .unset, .unset, .unset, .unset, .unset] [(.int (fV p1)), (.ref b6)])) t → Steps p.tables e below (T13.setTop (mkF m 17 #[.val (.int p1), .val (.int p2), .val (.int (fV p1)), .val (.int (fV p2)), .unset, .unset, .unset, .unset, .unset, .unset] [(.ref b6)])) t := by
    intro t k
    show Steps p.tables e below (T13.setTop (mkF m 17 #[.val (.int p1), .val (.int p2), .val (.int (fV p1)), .val (.int (fV p2)), .unset, .unset, .unset, .unset, .unset, .unset] [(.ref b6)])) _
    refine XS.astore X13.here hx rfl (hb hby at_17) rfl rfl (l' := #[.val (.int p1), .val (.int p2), .val (.int (fV p1)), .val (.int (fV p2)), .val (.ref b6), .unset, .unset, .unset, .unset, .unset]) rfl ?_
    show Steps p.tables e below (T13.setTop (mkF m 19 #[.val (.int p1), .val (.int p2), .val (.int (fV p1)), .val (.int (fV p2)), .val (.ref b6), .unset, .unset, .unset, .unset, .unset] [])) _
    refine XS.aload X13.here hx rfl (hb hby at_19) rfl rfl ?_
    show Steps p.tables e below (T13.setTop (mkF m 21 #[.val (.int p1), .val (.int p2), .val (.int (fV p1)), .val (.int (fV p2)), .val (.ref b6), .unset, .unset, .unset, .unset, .unset] [(.ref b6)])) _
    refine XS.iloadN X13.here hx rfl (hb hby at_21) rfl ?_
    exact k
  obtain ⟨cq17, kq17, q17a, q17b, q17c⟩ := isOf hZ rfl f14
  obtain ⟨_, _, ⟨T17, L17, k17, n17⟩, -, X17, ⟨Lc17, hQ17, l17, y17, z17⟩, st17⟩ := X13.virtualBack hx (y := (⟨"com/example/pochta/pochta/entity/QueueSettings", "maxDeliveryCount", "(I)Lcom/example/pochta/pochta/entity/QueueSettings;"⟩ : MethodName)) (z := (⟨"com/example/pochta/pochta/entity/QueueSettings", "maxDeliveryCount", "(I)Lcom/example/pochta/pochta/entity/QueueSettings;"⟩ : MethodName)) hown (mvT hZ (hw _ (List.mem_of_getElem? (i := 20) rfl))) (mvT hZ (hw _ (List.mem_of_getElem? (i := 21) rfl))) (notFace_of_selects (args := #[]) (mvT hZ (hw _ (List.mem_of_getElem? (i := 23) rfl)))) (mvT hZ (hw _ (List.mem_of_getElem? (i := 23) rfl))) (mvT hZ (hw _ (List.mem_of_getElem? (i := 22) rfl))) (by decide) (backOf (W := 0) (rmS l Z a0 hw [] b6 (fV p1) dd (10 : Int32) T13.heap n0 z15 f14 Q13f1 Q13f0 Q13f2 Q13f3 gn_b6 (own_pos _)) hZ (hw _ (List.mem_of_getElem? (i := 24) rfl)) (hw _ (List.mem_of_getElem? (i := 7) rfl)) (by decide) (by decide)) q17a q17c (g := (mkF m 22 #[.val (.int p1), .val (.int p2), .val (.int (fV p1)), .val (.int (fV p2)), .val (.ref b6), .unset, .unset, .unset, .unset, .unset] [(.int (fV p1)), (.ref b6)])) rfl (by rw [hml]; rfl) (Steps.refl _) (argsL := [(.int (fV p1))]) (rest := []) (lenOf pd_2 rfl) rfl (by show 2 * 0 + _ ≤ _; exact Nat.le_of_eq rfl) (hb hby at_22) (fun _ _ => ⟨rfl, rfl, (by decide : 1 + 0 ≤ _), (by decide : 3 + 0 ≤ _)⟩)
  dsimp only [Pt.U, Pt.locs, Pt.cells, Pt.slots] at X17 l17 y17 z17 st17 hQ17
  subst l17 y17 z17
  obtain ⟨rfl, N17q, KQ17, Q17f0, Q17f1, Q17f2, Q17f3⟩ := hQ17
  have N17 := Fr.app N13 N17q
  have f18 : Exa Z T17.heap b6 "com/example/pochta/pochta/entity/QueueSettings" := f14.keep KQ17
  have z19 : n0 ≤ T17.heap.size := Nat.le_trans z15 KQ17.1
  have sg20 : ∀ t, Steps p.tables e below (T17.setTop (mkF m 36 #[.val (.int p1), .val (.int p2), .val (.int (fV p1)), .val (.int (fV p2)), .val (.ref b6), .val (.ref b6), .unset, .unset, .unset, .unset] [(.ref b6)])) t → Steps p.tables e below (T17.setTop (mkF m 25 #[.val (.int p1), .val (.int p2), .val (.int (fV p1)), .val (.int (fV p2)), .val (.ref b6), .unset, .unset, .unset, .unset, .unset] [(.ref b6)])) t := by
    intro t k
    show Steps p.tables e below (T17.setTop (mkF m 25 #[.val (.int p1), .val (.int p2), .val (.int (fV p1)), .val (.int (fV p2)), .val (.ref b6), .unset, .unset, .unset, .unset, .unset] [(.ref b6)])) _
    refine XS.astore X17.here hx rfl (hb hby at_25) rfl rfl (l' := #[.val (.int p1), .val (.int p2), .val (.int (fV p1)), .val (.int (fV p2)), .val (.ref b6), .val (.ref b6), .unset, .unset, .unset, .unset]) rfl ?_
    show Steps p.tables e below (T17.setTop (mkF m 27 #[.val (.int p1), .val (.int p2), .val (.int (fV p1)), .val (.int (fV p2)), .val (.ref b6), .val (.ref b6), .unset, .unset, .unset, .unset] [])) _
    refine XS.aload X17.here hx rfl (hb hby at_27) rfl rfl ?_
    show Steps p.tables e below (T17.setTop (mkF m 29 #[.val (.int p1), .val (.int p2), .val (.int (fV p1)), .val (.int (fV p2)), .val (.ref b6), .val (.ref b6), .unset, .unset, .unset, .unset] [(.ref b6)])) _
    refine XS.aload X17.here hx rfl (hb hby at_29) rfl rfl ?_
    show Steps p.tables e below (T17.setTop (mkF m 31 #[.val (.int p1), .val (.int p2), .val (.int (fV p1)), .val (.int (fV p2)), .val (.ref b6), .val (.ref b6), .unset, .unset, .unset, .unset] [(.ref b6), (.ref b6)])) _
    refine Jvm.RoadKit.acmp (g := (mkF m 31 #[.val (.int p1), .val (.int p2), .val (.int (fV p1)), .val (.int (fV p2)), .val (.ref b6), .val (.ref b6), .unset, .unset, .unset, .unset] [(.ref b6), (.ref b6)])) X17 hx rfl rfl rfl (pc0 := 31) (pc' := 34) (same := true) rfl (hb hby at_31) rfl (decide_eq_true rfl) (by decide) (by decide) ?_
    show Steps p.tables e below (T17.setTop (mkF m 34 #[.val (.int p1), .val (.int p2), .val (.int (fV p1)), .val (.int (fV p2)), .val (.ref b6), .val (.ref b6), .unset, .unset, .unset, .unset] [])) _
    refine XS.aload X17.here hx rfl (hb hby at_34) rfl rfl ?_
    exact k
  obtain ⟨cq21, kq21, q21a, q21b, q21c⟩ := isOf hZ rfl f18
  obtain ⟨_, _, ⟨T21, L21, k21, n21⟩, -, X21, ⟨Lc21, hQ21, l21, y21, z21⟩, st21⟩ := X17.virtualBack hx (y := (⟨"com/example/pochta/pochta/entity/QueueSettings", "maxDeliveryCount", "()I"⟩ : MethodName)) (z := (⟨"com/example/pochta/pochta/entity/QueueSettings", "maxDeliveryCount", "()I"⟩ : MethodName)) hown (mvT hZ (hw _ (List.mem_of_getElem? (i := 25) rfl))) (mvT hZ (hw _ (List.mem_of_getElem? (i := 26) rfl))) (notFace_of_selects (args := #[]) (mvT hZ (hw _ (List.mem_of_getElem? (i := 28) rfl)))) (mvT hZ (hw _ (List.mem_of_getElem? (i := 28) rfl))) (mvT hZ (hw _ (List.mem_of_getElem? (i := 27) rfl))) (by decide) (backOf (W := 0) (rmG l Z a0 hw [] b6 (fV p1) T17.heap n0 z19 Q17f0) hZ (hw _ (List.mem_of_getElem? (i := 29) rfl)) (hw _ (List.mem_of_getElem? (i := 7) rfl)) (by decide) (by decide)) q21a q21c (g := (mkF m 36 #[.val (.int p1), .val (.int p2), .val (.int (fV p1)), .val (.int (fV p2)), .val (.ref b6), .val (.ref b6), .unset, .unset, .unset, .unset] [(.ref b6)])) rfl (by rw [hml]; rfl) (Steps.refl _) (argsL := []) (rest := []) (lenOf pd_3 rfl) rfl (by show 2 * 0 + _ ≤ _; exact Nat.le_of_eq rfl) (hb hby at_36) (fun _ _ => ⟨rfl, rfl, (by decide : 1 + 0 ≤ _), (by decide : 3 + 0 ≤ _)⟩)
  dsimp only [Pt.U, Pt.locs, Pt.cells, Pt.slots] at X21 l21 y21 z21 st21 hQ21
  subst l21 y21 z21
  obtain ⟨rfl, N21q, e21⟩ := hQ21
  have N21 := Fr.app N17 N21q
  have sg22 : ∀ t, Steps p.tables e below (T21.setTop (mkF m 53 #[.val (.int p1), .val (.int p2), .val (.int (fV p1)), .val (.int (fV p2)), .val (.ref b6), .val (.ref b6), .val (.int (1 : Int32)), .unset, .unset, .unset] [(.int (fV p2)), (.ref b6)])) t → Steps p.tables e below (T21.setTop (mkF m 39 #[.val (.int p1), .val (.int p2), .val (.int (fV p1)), .val (.int (fV p2)), .val (.ref b6), .val (.ref b6), .unset, .unset, .unset, .unset] [(.int (fV p1))])) t := by
    intro t k
    show Steps p.tables e below (T21.setTop (mkF m 39 #[.val (.int p1), .val (.int p2), .val (.int (fV p1)), .val (.int (fV p2)), .val (.ref b6), .val (.ref b6), .unset, .unset, .unset, .unset] [(.int (fV p1))])) _
    refine XS.iloadN X21.here hx rfl (hb hby at_39) rfl ?_
    show Steps p.tables e below (T21.setTop (mkF m 40 #[.val (.int p1), .val (.int p2), .val (.int (fV p1)), .val (.int (fV p2)), .val (.ref b6), .val (.ref b6), .unset, .unset, .unset, .unset] [(.int (fV p1)), (.int (fV p1))])) _
    refine XS.icmpNo X21.here hx rfl (hb hby at_40) rfl (teq (rfl : (fV p1) = (fV p1))).2 ?_
    show Steps p.tables e below (T21.setTop (mkF m 43 #[.val (.int p1), .val (.int p2), .val (.int (fV p1)), .val (.int (fV p2)), .val (.ref b6), .val (.ref b6), .unset, .unset, .unset, .unset] [])) _
    refine XS.iconst X21.here hx rfl (hb hby at_43) ?_
    show Steps p.tables e below (T21.setTop (mkF m 44 #[.val (.int p1), .val (.int p2), .val (.int (fV p1)), .val (.int (fV p2)), .val (.ref b6), .val (.ref b6), .unset, .unset, .unset, .unset] [(.int (1 : Int32))])) _
    refine XS.goto X21.here hx rfl (pc0 := 44) (pc' := 48) rfl (hb hby at_44) (by decide) (by decide) ?_
    show Steps p.tables e below (T21.setTop (mkF m 48 #[.val (.int p1), .val (.int p2), .val (.int (fV p1)), .val (.int (fV p2)), .val (.ref b6), .val (.ref b6), .unset, .unset, .unset, .unset] [(.int (1 : Int32))])) _
    refine XS.istore X21.here hx rfl (hb hby at_48) rfl (l' := #[.val (.int p1), .val (.int p2), .val (.int (fV p1)), .val (.int (fV p2)), .val (.ref b6), .val (.ref b6), .val (.int (1 : Int32)), .unset, .unset, .unset]) rfl ?_
    show Steps p.tables e below (T21.setTop (mkF m 50 #[.val (.int p1), .val (.int p2), .val (.int (fV p1)), .val (.int (fV p2)), .val (.ref b6), .val (.ref b6), .val (.int (1 : Int32)), .unset, .unset, .unset] [])) _
    refine XS.aload X21.here hx rfl (hb hby at_50) rfl rfl ?_
    show Steps p.tables e below (T21.setTop (mkF m 52 #[.val (.int p1), .val (.int p2), .val (.int (fV p1)), .val (.int (fV p2)), .val (.ref b6), .val (.ref b6), .val (.int (1 : Int32)), .unset, .unset, .unset] [(.ref b6)])) _
    refine XS.iloadN X21.here hx rfl (hb hby at_52) rfl ?_
    exact k
  obtain ⟨cq23, kq23, q23a, q23b, q23c⟩ := isOf hZ e21 f18
  obtain ⟨_, _, ⟨T23, L23, k23, n23⟩, -, X23, ⟨Lc23, hQ23, l23, y23, z23⟩, st23⟩ := X21.virtualBack hx (y := (⟨"com/example/pochta/pochta/entity/QueueSettings", "maxDeliveryCount", "(I)Lcom/example/pochta/pochta/entity/QueueSettings;"⟩ : MethodName)) (z := (⟨"com/example/pochta/pochta/entity/QueueSettings", "maxDeliveryCount", "(I)Lcom/example/pochta/pochta/entity/QueueSettings;"⟩ : MethodName)) hown (mvT hZ (hw _ (List.mem_of_getElem? (i := 20) rfl))) (mvT hZ (hw _ (List.mem_of_getElem? (i := 21) rfl))) (notFace_of_selects (args := #[]) (mvT hZ (hw _ (List.mem_of_getElem? (i := 23) rfl)))) (mvT hZ (hw _ (List.mem_of_getElem? (i := 23) rfl))) (mvT hZ (hw _ (List.mem_of_getElem? (i := 22) rfl))) (by decide) (backOf (W := 0) (rmS l Z a0 hw [] b6 (fV p2) dd (fV p1) T17.heap n0 z19 f18 Q17f0 Q17f1 Q17f2 Q17f3 gn_b6 (own_pos _)) hZ (hw _ (List.mem_of_getElem? (i := 24) rfl)) (hw _ (List.mem_of_getElem? (i := 7) rfl)) (by decide) (by decide)) q23a q23c (g := (mkF m 53 #[.val (.int p1), .val (.int p2), .val (.int (fV p1)), .val (.int (fV p2)), .val (.ref b6), .val (.ref b6), .val (.int (1 : Int32)), .unset, .unset, .unset] [(.int (fV p2)), (.ref b6)])) rfl (by rw [hml]; rfl) (Steps.refl _) (argsL := [(.int (fV p2))]) (rest := []) (lenOf pd_2 rfl) rfl (by show 2 * 0 + _ ≤ _; exact Nat.le_of_eq rfl) (hb hby at_53) (fun _ _ => ⟨rfl, e21, (by decide : 1 + 0 ≤ _), (by decide : 3 + 0 ≤ _)⟩)
  dsimp only [Pt.U, Pt.locs, Pt.cells, Pt.slots] at X23 l23 y23 z23 st23 hQ23
  subst l23 y23 z23
  obtain ⟨rfl, N23q, KQ23, Q23f0, Q23f1, Q23f2, Q23f3⟩ := hQ23
  have N23 := Fr.app N21 N23q
  have f24 : Exa Z T23.heap b6 "com/example/pochta/pochta/entity/QueueSettings" := f18.keep KQ23
  have z25 : n0 ≤ T23.heap.size := Nat.le_trans z19 KQ23.1
  have sg26 : ∀ t, Steps p.tables e below (T23.setTop (mkF m 67 #[.val (.int p1), .val (.int p2), .val (.int (fV p1)), .val (.int (fV p2)), .val (.ref b6), .val (.ref b6), .val (.int (1 : Int32)), .val (.ref b6), .unset, .unset] [(.ref b6)])) t → Steps p.tables e below (T23.setTop (mkF m 56 #[.val (.int p1), .val (.int p2), .val (.int (fV p1)), .val (.int (fV p2)), .val (.ref b6), .val (.ref b6), .val (.int (1 : Int32)), .unset, .unset, .unset] [(.ref b6)])) t := by
    intro t k
    show Steps p.tables e below (T23.setTop (mkF m 56 #[.val (.int p1), .val (.int p2), .val (.int (fV p1)), .val (.int (fV p2)), .val (.ref b6), .val (.ref b6), .val (.int (1 : Int32)), .unset, .unset, .unset] [(.ref b6)])) _
    refine XS.astore X23.here hx rfl (hb hby at_56) rfl rfl (l' := #[.val (.int p1), .val (.int p2), .val (.int (fV p1)), .val (.int (fV p2)), .val (.ref b6), .val (.ref b6), .val (.int (1 : Int32)), .val (.ref b6), .unset, .unset]) rfl ?_
    show Steps p.tables e below (T23.setTop (mkF m 58 #[.val (.int p1), .val (.int p2), .val (.int (fV p1)), .val (.int (fV p2)), .val (.ref b6), .val (.ref b6), .val (.int (1 : Int32)), .val (.ref b6), .unset, .unset] [])) _
    refine XS.aload X23.here hx rfl (hb hby at_58) rfl rfl ?_
    show Steps p.tables e below (T23.setTop (mkF m 60 #[.val (.int p1), .val (.int p2), .val (.int (fV p1)), .val (.int (fV p2)), .val (.ref b6), .val (.ref b6), .val (.int (1 : Int32)), .val (.ref b6), .unset, .unset] [(.ref b6)])) _
    refine XS.aload X23.here hx rfl (hb hby at_60) rfl rfl ?_
    show Steps p.tables e below (T23.setTop (mkF m 62 #[.val (.int p1), .val (.int p2), .val (.int (fV p1)), .val (.int (fV p2)), .val (.ref b6), .val (.ref b6), .val (.int (1 : Int32)), .val (.ref b6), .unset, .unset] [(.ref b6), (.ref b6)])) _
    refine Jvm.RoadKit.acmp (g := (mkF m 62 #[.val (.int p1), .val (.int p2), .val (.int (fV p1)), .val (.int (fV p2)), .val (.ref b6), .val (.ref b6), .val (.int (1 : Int32)), .val (.ref b6), .unset, .unset] [(.ref b6), (.ref b6)])) X23 hx rfl rfl rfl (pc0 := 62) (pc' := 65) (same := true) rfl (hb hby at_62) rfl (decide_eq_true rfl) (by decide) (by decide) ?_
    show Steps p.tables e below (T23.setTop (mkF m 65 #[.val (.int p1), .val (.int p2), .val (.int (fV p1)), .val (.int (fV p2)), .val (.ref b6), .val (.ref b6), .val (.int (1 : Int32)), .val (.ref b6), .unset, .unset] [])) _
    refine XS.aload X23.here hx rfl (hb hby at_65) rfl rfl ?_
    exact k
  obtain ⟨cq27, kq27, q27a, q27b, q27c⟩ := isOf hZ rfl f24
  obtain ⟨_, _, ⟨T27, L27, k27, n27⟩, -, X27, ⟨Lc27, hQ27, l27, y27, z27⟩, st27⟩ := X23.virtualBack hx (y := (⟨"com/example/pochta/pochta/entity/QueueSettings", "maxDeliveryCount", "()I"⟩ : MethodName)) (z := (⟨"com/example/pochta/pochta/entity/QueueSettings", "maxDeliveryCount", "()I"⟩ : MethodName)) hown (mvT hZ (hw _ (List.mem_of_getElem? (i := 25) rfl))) (mvT hZ (hw _ (List.mem_of_getElem? (i := 26) rfl))) (notFace_of_selects (args := #[]) (mvT hZ (hw _ (List.mem_of_getElem? (i := 28) rfl)))) (mvT hZ (hw _ (List.mem_of_getElem? (i := 28) rfl))) (mvT hZ (hw _ (List.mem_of_getElem? (i := 27) rfl))) (by decide) (backOf (W := 0) (rmG l Z a0 hw [] b6 (fV p2) T23.heap n0 z25 Q23f0) hZ (hw _ (List.mem_of_getElem? (i := 29) rfl)) (hw _ (List.mem_of_getElem? (i := 7) rfl)) (by decide) (by decide)) q27a q27c (g := (mkF m 67 #[.val (.int p1), .val (.int p2), .val (.int (fV p1)), .val (.int (fV p2)), .val (.ref b6), .val (.ref b6), .val (.int (1 : Int32)), .val (.ref b6), .unset, .unset] [(.ref b6)])) rfl (by rw [hml]; rfl) (Steps.refl _) (argsL := []) (rest := []) (lenOf pd_3 rfl) rfl (by show 2 * 0 + _ ≤ _; exact Nat.le_of_eq rfl) (hb hby at_67) (fun _ _ => ⟨rfl, rfl, (by decide : 1 + 0 ≤ _), (by decide : 3 + 0 ≤ _)⟩)
  dsimp only [Pt.U, Pt.locs, Pt.cells, Pt.slots] at X27 l27 y27 z27 st27 hQ27
  subst l27 y27 z27
  obtain ⟨rfl, N27q, e27⟩ := hQ27
  have N27 := Fr.app N23 N27q
  have sg28 : ∀ t, Steps p.tables e below (T27.setTop (mkF m 83 #[.val (.int p1), .val (.int p2), .val (.int (fV p1)), .val (.int (fV p2)), .val (.ref b6), .val (.ref b6), .val (.int (1 : Int32)), .val (.ref b6), .val (.int (1 : Int32)), .unset] [(.ref b6)])) t → Steps p.tables e below (T27.setTop (mkF m 70 #[.val (.int p1), .val (.int p2), .val (.int (fV p1)), .val (.int (fV p2)), .val (.ref b6), .val (.ref b6), .val (.int (1 : Int32)), .val (.ref b6), .unset, .unset] [(.int (fV p2))])) t := by
    intro t k
    show Steps p.tables e below (T27.setTop (mkF m 70 #[.val (.int p1), .val (.int p2), .val (.int (fV p1)), .val (.int (fV p2)), .val (.ref b6), .val (.ref b6), .val (.int (1 : Int32)), .val (.ref b6), .unset, .unset] [(.int (fV p2))])) _
    refine XS.iloadN X27.here hx rfl (hb hby at_70) rfl ?_
    show Steps p.tables e below (T27.setTop (mkF m 71 #[.val (.int p1), .val (.int p2), .val (.int (fV p1)), .val (.int (fV p2)), .val (.ref b6), .val (.ref b6), .val (.int (1 : Int32)), .val (.ref b6), .unset, .unset] [(.int (fV p2)), (.int (fV p2))])) _
    refine XS.icmpNo X27.here hx rfl (hb hby at_71) rfl (teq (rfl : (fV p2) = (fV p2))).2 ?_
    show Steps p.tables e below (T27.setTop (mkF m 74 #[.val (.int p1), .val (.int p2), .val (.int (fV p1)), .val (.int (fV p2)), .val (.ref b6), .val (.ref b6), .val (.int (1 : Int32)), .val (.ref b6), .unset, .unset] [])) _
    refine XS.iconst X27.here hx rfl (hb hby at_74) ?_
    show Steps p.tables e below (T27.setTop (mkF m 75 #[.val (.int p1), .val (.int p2), .val (.int (fV p1)), .val (.int (fV p2)), .val (.ref b6), .val (.ref b6), .val (.int (1 : Int32)), .val (.ref b6), .unset, .unset] [(.int (1 : Int32))])) _
    refine XS.goto X27.here hx rfl (pc0 := 75) (pc' := 79) rfl (hb hby at_75) (by decide) (by decide) ?_
    show Steps p.tables e below (T27.setTop (mkF m 79 #[.val (.int p1), .val (.int p2), .val (.int (fV p1)), .val (.int (fV p2)), .val (.ref b6), .val (.ref b6), .val (.int (1 : Int32)), .val (.ref b6), .unset, .unset] [(.int (1 : Int32))])) _
    refine XS.istore X27.here hx rfl (hb hby at_79) rfl (l' := #[.val (.int p1), .val (.int p2), .val (.int (fV p1)), .val (.int (fV p2)), .val (.ref b6), .val (.ref b6), .val (.int (1 : Int32)), .val (.ref b6), .val (.int (1 : Int32)), .unset]) rfl ?_
    show Steps p.tables e below (T27.setTop (mkF m 81 #[.val (.int p1), .val (.int p2), .val (.int (fV p1)), .val (.int (fV p2)), .val (.ref b6), .val (.ref b6), .val (.int (1 : Int32)), .val (.ref b6), .val (.int (1 : Int32)), .unset] [])) _
    refine XS.aload X27.here hx rfl (hb hby at_81) rfl rfl ?_
    exact k
  obtain ⟨cq29, kq29, q29a, q29b, q29c⟩ := isOf hZ e27 f24
  obtain ⟨_, _, ⟨T29, L29, k29, n29⟩, -, X29, ⟨Lc29, hQ29, l29, y29, z29⟩, st29⟩ := X27.virtualBack hx (y := (⟨"com/example/pochta/pochta/entity/QueueSettings", "lockDuration", "()Ljava/time/Duration;"⟩ : MethodName)) (z := (⟨"com/example/pochta/pochta/entity/QueueSettings", "lockDuration", "()Ljava/time/Duration;"⟩ : MethodName)) hown (mvT hZ (hw _ (List.mem_of_getElem? (i := 30) rfl))) (mvT hZ (hw _ (List.mem_of_getElem? (i := 31) rfl))) (notFace_of_selects (args := #[]) (mvT hZ (hw _ (List.mem_of_getElem? (i := 33) rfl)))) (mvT hZ (hw _ (List.mem_of_getElem? (i := 33) rfl))) (mvT hZ (hw _ (List.mem_of_getElem? (i := 32) rfl))) (by decide) (backOf (W := 0) (rmL l Z a0 hw [] b6 dd T23.heap n0 z25 Q23f1) hZ (hw _ (List.mem_of_getElem? (i := 34) rfl)) (hw _ (List.mem_of_getElem? (i := 7) rfl)) (by decide) (by decide)) q29a q29c (g := (mkF m 83 #[.val (.int p1), .val (.int p2), .val (.int (fV p1)), .val (.int (fV p2)), .val (.ref b6), .val (.ref b6), .val (.int (1 : Int32)), .val (.ref b6), .val (.int (1 : Int32)), .unset] [(.ref b6)])) rfl (by rw [hml]; rfl) (Steps.refl _) (argsL := []) (rest := []) (lenOf pd_4 rfl) rfl (by show 2 * 0 + _ ≤ _; exact Nat.le_of_eq rfl) (hb hby at_83) (fun _ _ => ⟨rfl, e27, (by decide : 1 + 0 ≤ _), (by decide : 3 + 0 ≤ _)⟩)
  dsimp only [Pt.U, Pt.locs, Pt.cells, Pt.slots] at X29 l29 y29 z29 st29 hQ29
  subst l29 y29 z29
  obtain ⟨rfl, N29q, e29⟩ := hQ29
  have N29 := Fr.app N27 N29q
  obtain ⟨T30, X30, e30, st30⟩ := getS2 X29 hx hZ hown (host := "") (Or.inl (hw _ (List.mem_of_getElem? (i := 35) rfl))) Via.refl e29 Q23f3 (g := (mkF m 86 #[.val (.int p1), .val (.int p2), .val (.int (fV p1)), .val (.int (fV p2)), .val (.ref b6), .val (.ref b6), .val (.int (1 : Int32)), .val (.ref b6), .val (.int (1 : Int32)), .unset] [(.ref dd)])) rfl (hb hby at_86)
  have sg31 : ∀ t, Steps p.tables e below (T30.setTop (mkF m 94 #[.val (.int p1), .val (.int p2), .val (.int (fV p1)), .val (.int (fV p2)), .val (.ref b6), .val (.ref b6), .val (.int (1 : Int32)), .val (.ref b6), .val (.int (1 : Int32)), .unset] [(.ref b6)])) t → Steps p.tables e below (T30.setTop (mkF m 89 #[.val (.int p1), .val (.int p2), .val (.int (fV p1)), .val (.int (fV p2)), .val (.ref b6), .val (.ref b6), .val (.int (1 : Int32)), .val (.ref b6), .val (.int (1 : Int32)), .unset] [(.ref dd), (.ref dd)])) t := by
    intro t k
    show Steps p.tables e below (T30.setTop (mkF m 89 #[.val (.int p1), .val (.int p2), .val (.int (fV p1)), .val (.int (fV p2)), .val (.ref b6), .val (.ref b6), .val (.int (1 : Int32)), .val (.ref b6), .val (.int (1 : Int32)), .unset] [(.ref dd), (.ref dd)])) _
    refine Jvm.RoadKit.acmp (g := (mkF m 89 #[.val (.int p1), .val (.int p2), .val (.int (fV p1)), .val (.int (fV p2)), .val (.ref b6), .val (.ref b6), .val (.int (1 : Int32)), .val (.ref b6), .val (.int (1 : Int32)), .unset] [(.ref dd), (.ref dd)])) X30 hx rfl rfl rfl (pc0 := 89) (pc' := 92) (same := true) rfl (hb hby at_89) rfl (decide_eq_true rfl) (by decide) (by decide) ?_
    show Steps p.tables e below (T30.setTop (mkF m 92 #[.val (.int p1), .val (.int p2), .val (.int (fV p1)), .val (.int (fV p2)), .val (.ref b6), .val (.ref b6), .val (.int (1 : Int32)), .val (.ref b6), .val (.int (1 : Int32)), .unset] [])) _
    refine XS.aload X30.here hx rfl (hb hby at_92) rfl rfl ?_
    exact k
  obtain ⟨cq32, kq32, q32a, q32b, q32c⟩ := isOf hZ e30 f24
  obtain ⟨_, _, ⟨T32, L32, k32, n32⟩, -, X32, ⟨Lc32, hQ32, l32, y32, z32⟩, st32⟩ := X30.virtualBack hx (y := (⟨"com/example/pochta/pochta/entity/QueueSettings", "defaultMessageTimeToLive", "()Ljava/time/Duration;"⟩ : MethodName)) (z := (⟨"com/example/pochta/pochta/entity/QueueSettings", "defaultMessageTimeToLive", "()Ljava/time/Duration;"⟩ : MethodName)) hown (mvT hZ (hw _ (List.mem_of_getElem? (i := 36) rfl))) (mvT hZ (hw _ (List.mem_of_getElem? (i := 37) rfl))) (notFace_of_selects (args := #[]) (mvT hZ (hw _ (List.mem_of_getElem? (i := 39) rfl)))) (mvT hZ (hw _ (List.mem_of_getElem? (i := 39) rfl))) (mvT hZ (hw _ (List.mem_of_getElem? (i := 38) rfl))) (by decide) (backOf (W := 0) (rmT l Z a0 hw [] b6 T23.heap n0 z25 Q23f2) hZ (hw _ (List.mem_of_getElem? (i := 40) rfl)) (hw _ (List.mem_of_getElem? (i := 7) rfl)) (by decide) (by decide)) q32a q32c (g := (mkF m 94 #[.val (.int p1), .val (.int p2), .val (.int (fV p1)), .val (.int (fV p2)), .val (.ref b6), .val (.ref b6), .val (.int (1 : Int32)), .val (.ref b6), .val (.int (1 : Int32)), .unset] [(.ref b6)])) rfl (by rw [hml]; rfl) (Steps.refl _) (argsL := []) (rest := []) (lenOf pd_4 rfl) rfl (by show 2 * 0 + _ ≤ _; exact Nat.le_of_eq rfl) (hb hby at_94) (fun _ _ => ⟨rfl, e30, (by decide : 1 + 0 ≤ _), (by decide : 3 + 0 ≤ _)⟩)
  dsimp only [Pt.U, Pt.locs, Pt.cells, Pt.slots] at X32 l32 y32 z32 st32 hQ32
  subst l32 y32 z32
  obtain ⟨rfl, N32q, e32⟩ := hQ32
  have N32 := Fr.app N29 N32q
  have sg33 : ∀ t, Steps p.tables e below (T32.setTop (mkF m 127 #[.val (.int p1), .val (.int p2), .val (.int (fV p1)), .val (.int (fV p2)), .val (.ref b6), .val (.ref b6), .val (.int (1 : Int32)), .val (.ref b6), .val (.int (1 : Int32)), .val (.int (1 : Int32))] [(.int (1 : Int32))])) t → Steps p.tables e below (T32.setTop (mkF m 97 #[.val (.int p1), .val (.int p2), .val (.int (fV p1)), .val (.int (fV p2)), .val (.ref b6), .val (.ref b6), .val (.int (1 : Int32)), .val (.ref b6), .val (.int (1 : Int32)), .unset] [.null])) t := by
    intro t k
    show Steps p.tables e below (T32.setTop (mkF m 97 #[.val (.int p1), .val (.int p2), .val (.int (fV p1)), .val (.int (fV p2)), .val (.ref b6), .val (.ref b6), .val (.int (1 : Int32)), .val (.ref b6), .val (.int (1 : Int32)), .unset] [.null])) _
    refine XS.ifnonnullNo X32.here hx rfl (hb hby at_97) rfl ?_
    show Steps p.tables e below (T32.setTop (mkF m 100 #[.val (.int p1), .val (.int p2), .val (.int (fV p1)), .val (.int (fV p2)), .val (.ref b6), .val (.ref b6), .val (.int (1 : Int32)), .val (.ref b6), .val (.int (1 : Int32)), .unset] [])) _
    refine XS.iconst X32.here hx rfl (hb hby at_100) ?_
    show Steps p.tables e below (T32.setTop (mkF m 101 #[.val (.int p1), .val (.int p2), .val (.int (fV p1)), .val (.int (fV p2)), .val (.ref b6), .val (.ref b6), .val (.int (1 : Int32)), .val (.ref b6), .val (.int (1 : Int32)), .unset] [(.int (1 : Int32))])) _
    refine XS.goto X32.here hx rfl (pc0 := 101) (pc' := 105) rfl (hb hby at_101) (by decide) (by decide) ?_
    show Steps p.tables e below (T32.setTop (mkF m 105 #[.val (.int p1), .val (.int p2), .val (.int (fV p1)), .val (.int (fV p2)), .val (.ref b6), .val (.ref b6), .val (.int (1 : Int32)), .val (.ref b6), .val (.int (1 : Int32)), .unset] [(.int (1 : Int32))])) _
    refine XS.istore X32.here hx rfl (hb hby at_105) rfl (l' := #[.val (.int p1), .val (.int p2), .val (.int (fV p1)), .val (.int (fV p2)), .val (.ref b6), .val (.ref b6), .val (.int (1 : Int32)), .val (.ref b6), .val (.int (1 : Int32)), .val (.int (1 : Int32))]) rfl ?_
    show Steps p.tables e below (T32.setTop (mkF m 107 #[.val (.int p1), .val (.int p2), .val (.int (fV p1)), .val (.int (fV p2)), .val (.ref b6), .val (.ref b6), .val (.int (1 : Int32)), .val (.ref b6), .val (.int (1 : Int32)), .val (.int (1 : Int32))] [])) _
    refine XS.iload X32.here hx rfl (hb hby at_107) rfl ?_
    show Steps p.tables e below (T32.setTop (mkF m 109 #[.val (.int p1), .val (.int p2), .val (.int (fV p1)), .val (.int (fV p2)), .val (.ref b6), .val (.ref b6), .val (.int (1 : Int32)), .val (.ref b6), .val (.int (1 : Int32)), .val (.int (1 : Int32))] [(.int (1 : Int32))])) _
    refine XS.ifNo X32.here hx rfl (hb hby at_109) rfl ((if0 _ _).trans (feq (by decide : ¬ ((1 : Int32) = (0 : Int32)))).1) ?_
    show Steps p.tables e below (T32.setTop (mkF m 112 #[.val (.int p1), .val (.int p2), .val (.int (fV p1)), .val (.int (fV p2)), .val (.ref b6), .val (.ref b6), .val (.int (1 : Int32)), .val (.ref b6), .val (.int (1 : Int32)), .val (.int (1 : Int32))] [])) _
    refine XS.iload X32.here hx rfl (hb hby at_112) rfl ?_
    show Steps p.tables e below (T32.setTop (mkF m 114 #[.val (.int p1), .val (.int p2), .val (.int (fV p1)), .val (.int (fV p2)), .val (.ref b6), .val (.ref b6), .val (.int (1 : Int32)), .val (.ref b6), .val (.int (1 : Int32)), .val (.int (1 : Int32))] [(.int (1 : Int32))])) _
    refine XS.ifNo X32.here hx rfl (hb hby at_114) rfl ((if0 _ _).trans (feq (by decide : ¬ ((1 : Int32) = (0 : Int32)))).1) ?_
    show Steps p.tables e below (T32.setTop (mkF m 117 #[.val (.int p1), .val (.int p2), .val (.int (fV p1)), .val (.int (fV p2)), .val (.ref b6), .val (.ref b6), .val (.int (1 : Int32)), .val (.ref b6), .val (.int (1 : Int32)), .val (.int (1 : Int32))] [])) _
    refine XS.iload X32.here hx rfl (hb hby at_117) rfl ?_
    show Steps p.tables e below (T32.setTop (mkF m 119 #[.val (.int p1), .val (.int p2), .val (.int (fV p1)), .val (.int (fV p2)), .val (.ref b6), .val (.ref b6), .val (.int (1 : Int32)), .val (.ref b6), .val (.int (1 : Int32)), .val (.int (1 : Int32))] [(.int (1 : Int32))])) _
    refine XS.ifNo X32.here hx rfl (hb hby at_119) rfl ((if0 _ _).trans (feq (by decide : ¬ ((1 : Int32) = (0 : Int32)))).1) ?_
    show Steps p.tables e below (T32.setTop (mkF m 122 #[.val (.int p1), .val (.int p2), .val (.int (fV p1)), .val (.int (fV p2)), .val (.ref b6), .val (.ref b6), .val (.int (1 : Int32)), .val (.ref b6), .val (.int (1 : Int32)), .val (.int (1 : Int32))] [])) _
    refine XS.iconst X32.here hx rfl (hb hby at_122) ?_
    show Steps p.tables e below (T32.setTop (mkF m 123 #[.val (.int p1), .val (.int p2), .val (.int (fV p1)), .val (.int (fV p2)), .val (.ref b6), .val (.ref b6), .val (.int (1 : Int32)), .val (.ref b6), .val (.int (1 : Int32)), .val (.int (1 : Int32))] [(.int (1 : Int32))])) _
    refine XS.goto X32.here hx rfl (pc0 := 123) (pc' := 127) rfl (hb hby at_123) (by decide) (by decide) ?_
    exact k
  obtain ⟨fs, hr, hrun, hended, hW, hsame⟩ := X32.leave (v := some (.int (1 : Int32))) (fun h => by rw [Bd.returns] at h; cases h)
  refine ⟨_, _, pre0 _ ?_, hrun, hended, _, _, rfl, ?_, ⟨_, rfl⟩, hW, hsame.mono (by decide) (by decide)⟩
  · show Steps p.tables e below (s₁.setTop (mkF m 0 #[.val (.int p1), .val (.int p2), .unset, .unset, .unset, .unset, .unset, .unset, .unset, .unset] [])) _
    refine sg1 _ ?_
    show Steps p.tables e below (s₁.setTop (mkF m 1 #[.val (.int p1), .val (.int p2), .unset, .unset, .unset, .unset, .unset, .unset, .unset, .unset] [(.int p1)])) _
    refine st2 _ ?_
    show Steps p.tables e below (T2.setTop (mkF m 4 #[.val (.int p1), .val (.int p2), .unset, .unset, .unset, .unset, .unset, .unset, .unset, .unset] [(.int (fV p1))])) _
    refine sg3 _ ?_
    show Steps p.tables e below (T2.setTop (mkF m 6 #[.val (.int p1), .val (.int p2), .val (.int (fV p1)), .unset, .unset, .unset, .unset, .unset, .unset, .unset] [(.int p2)])) _
    refine st4 _ ?_
    show Steps p.tables e below (T4.setTop (mkF m 9 #[.val (.int p1), .val (.int p2), .val (.int (fV p1)), .unset, .unset, .unset, .unset, .unset, .unset, .unset] [(.int (fV p2))])) _
    refine sg5 _ ?_
    show Steps p.tables e below (T4.setTop (mkF m 10 #[.val (.int p1), .val (.int p2), .val (.int (fV p1)), .val (.int (fV p2)), .unset, .unset, .unset, .unset, .unset, .unset] [])) _
    refine st6 _ ?_
    show Steps p.tables e below (T6.setTop (mkF m 13 #[.val (.int p1), .val (.int p2), .val (.int (fV p1)), .val (.int (fV p2)), .unset, .unset, .unset, .unset, .unset, .unset] [(.ref b6)])) _
    refine sg12 _ ?_
    show Steps p.tables e below (T6.setTop (mkF m 14 #[.val (.int p1), .val (.int p2), .val (.int (fV p1)), .val (.int (fV p2)), .unset, .unset, .unset, .unset, .unset, .unset] [(.ref b6), (.ref b6)])) _
    refine st13.trans ?_
    show Steps p.tables e below (T13.setTop (mkF m 17 #[.val (.int p1), .val (.int p2), .val (.int (fV p1)), .val (.int (fV p2)), .unset, .unset, .unset, .unset, .unset, .unset] [(.ref b6)])) _
    refine sg16 _ ?_
    show Steps p.tables e below (T13.setTop (mkF m 22 #[.val (.int p1), .val (.int p2), .val (.int (fV p1)), .val (.int (fV p2)), .val (.ref b6), .unset, .unset, .unset, .unset, .unset] [(.int (fV p1)), (.ref b6)])) _
    refine st17.trans ?_
    show Steps p.tables e below (T17.setTop (mkF m 25 #[.val (.int p1), .val (.int p2), .val (.int (fV p1)), .val (.int (fV p2)), .val (.ref b6), .unset, .unset, .unset, .unset, .unset] [(.ref b6)])) _
    refine sg20 _ ?_
    show Steps p.tables e below (T17.setTop (mkF m 36 #[.val (.int p1), .val (.int p2), .val (.int (fV p1)), .val (.int (fV p2)), .val (.ref b6), .val (.ref b6), .unset, .unset, .unset, .unset] [(.ref b6)])) _
    refine st21.trans ?_
    show Steps p.tables e below (T21.setTop (mkF m 39 #[.val (.int p1), .val (.int p2), .val (.int (fV p1)), .val (.int (fV p2)), .val (.ref b6), .val (.ref b6), .unset, .unset, .unset, .unset] [(.int (fV p1))])) _
    refine sg22 _ ?_
    show Steps p.tables e below (T21.setTop (mkF m 53 #[.val (.int p1), .val (.int p2), .val (.int (fV p1)), .val (.int (fV p2)), .val (.ref b6), .val (.ref b6), .val (.int (1 : Int32)), .unset, .unset, .unset] [(.int (fV p2)), (.ref b6)])) _
    refine st23.trans ?_
    show Steps p.tables e below (T23.setTop (mkF m 56 #[.val (.int p1), .val (.int p2), .val (.int (fV p1)), .val (.int (fV p2)), .val (.ref b6), .val (.ref b6), .val (.int (1 : Int32)), .unset, .unset, .unset] [(.ref b6)])) _
    refine sg26 _ ?_
    show Steps p.tables e below (T23.setTop (mkF m 67 #[.val (.int p1), .val (.int p2), .val (.int (fV p1)), .val (.int (fV p2)), .val (.ref b6), .val (.ref b6), .val (.int (1 : Int32)), .val (.ref b6), .unset, .unset] [(.ref b6)])) _
    refine st27.trans ?_
    show Steps p.tables e below (T27.setTop (mkF m 70 #[.val (.int p1), .val (.int p2), .val (.int (fV p1)), .val (.int (fV p2)), .val (.ref b6), .val (.ref b6), .val (.int (1 : Int32)), .val (.ref b6), .unset, .unset] [(.int (fV p2))])) _
    refine sg28 _ ?_
    show Steps p.tables e below (T27.setTop (mkF m 83 #[.val (.int p1), .val (.int p2), .val (.int (fV p1)), .val (.int (fV p2)), .val (.ref b6), .val (.ref b6), .val (.int (1 : Int32)), .val (.ref b6), .val (.int (1 : Int32)), .unset] [(.ref b6)])) _
    refine st29.trans ?_
    show Steps p.tables e below (T29.setTop (mkF m 86 #[.val (.int p1), .val (.int p2), .val (.int (fV p1)), .val (.int (fV p2)), .val (.ref b6), .val (.ref b6), .val (.int (1 : Int32)), .val (.ref b6), .val (.int (1 : Int32)), .unset] [(.ref dd)])) _
    refine st30 _ ?_
    show Steps p.tables e below (T30.setTop (mkF m 89 #[.val (.int p1), .val (.int p2), .val (.int (fV p1)), .val (.int (fV p2)), .val (.ref b6), .val (.ref b6), .val (.int (1 : Int32)), .val (.ref b6), .val (.int (1 : Int32)), .unset] [(.ref dd), (.ref dd)])) _
    refine sg31 _ ?_
    show Steps p.tables e below (T30.setTop (mkF m 94 #[.val (.int p1), .val (.int p2), .val (.int (fV p1)), .val (.int (fV p2)), .val (.ref b6), .val (.ref b6), .val (.int (1 : Int32)), .val (.ref b6), .val (.int (1 : Int32)), .unset] [(.ref b6)])) _
    refine st32.trans ?_
    show Steps p.tables e below (T32.setTop (mkF m 97 #[.val (.int p1), .val (.int p2), .val (.int (fV p1)), .val (.int (fV p2)), .val (.ref b6), .val (.ref b6), .val (.int (1 : Int32)), .val (.ref b6), .val (.int (1 : Int32)), .unset] [.null])) _
    refine sg33 _ ?_
    show Steps p.tables e below (T32.setTop (mkF m 127 #[.val (.int p1), .val (.int p2), .val (.int (fV p1)), .val (.int (fV p2)), .val (.ref b6), .val (.ref b6), .val (.int (1 : Int32)), .val (.ref b6), .val (.int (1 : Int32)), .val (.int (1 : Int32))] [(.int (1 : Int32))])) _
    exact retN X32 hx (t := .boolean) Bd.returns (by simp) (hb hby at_127) hr
  · show Q0 Z p1 p2 dd h0 n0 _ T32.heap _
    rw [e32]
    exact ⟨rfl, N32⟩
set_option maxRecDepth 65536 in
set_option maxHeartbeats 40000000 in
theorem comes_1 {Post : Tables → Env → Array Value → State → Outcome → State → Prop} (hpost : ∀ tb e args s v u, (limb_1_1.after args s (.returned v) u = true ∧ limb_1_2.after args s (.returned v) u = true ∧ True) → FrameEnd s (.returned v) u (Jvm.fieldLocs frame_1_writes args s ++ Jvm.arrayLocs frame_1_arrays args s ++ Jvm.staticLocs frame_1_statics s) 16 128 → Post tb e args s (.returned v) u) :
    ArmFor flags0 classFile x code maxLocals ret World_1 tables_1 room_1 Calls_1 rest_1 Pre_1 Post := by
  intro l hfl _ _ p e ha hc hk s m args below hf hA hF happ hP
  obtain ⟨hcalls, hrest, hpre⟩ := hP
  obtain ⟨-, -, -, hnamed, -, -, -, hat⟩ := (Spec.applies_iff hf).mp happ
  obtain ⟨hg, hn⟩ := and_e (Cond.before_iff.mp (show (Jvm.Cond.and given_1 narrow_1).before args s = true from hpre))
  obtain ⟨gc, gr0⟩ := and_e hg
  obtain ⟨ga0, gr1⟩ := and_e gr0
  have ga1 := gr1
  obtain ⟨w0, w1, rfl⟩ : ∃ w0 w1 : Value, args = #[w0, w1] := by
    have hs : args.size = 2 := by simpa [Cond.value, given_1] using gc
    obtain ⟨L⟩ := args
    match L, hs with
    | [w0, w1], _ => exact ⟨w0, w1, rfl⟩
  have hw := fun d (hd : d ∈ tables_1) => atoms_spec (ws := Jvm.Cond.code x code maxLocals ret :: tables_1) hat d (List.mem_cons_of_mem _ hd)
  have hfit : Fit s := fun {y c} hc i hi => by
    obtain ⟨ha, rfl⟩ := Array.getElem?_eq_some_iff.mp hc
    have q := List.all_eq_true.mp ((Array.all_eq_true_iff_forall_mem.mp hF) _ (Array.getElem_mem ha)) i (List.mem_range.mpr hi)
    simpa [Array.getElem?_eq_getElem hi] using q
  obtain ⟨i0, ei0⟩ := is_v ga0
  obtain rfl : w0 = (.int i0) := Option.some.inj ei0
  obtain ⟨i1, ei1⟩ := is_v ga1
  obtain rfl : w1 = (.int i1) := Option.some.inj ei1
  obtain ⟨dd, _, _, _, evd, -⟩ := Cond.exactly_spec (Cond.before_iff.mpr hn)
  have Sd : Sta s s.heap "com/example/pochta/pochta/entity/QueueSettings" "DEFAULT_LOCK_DURATION" "Ljava/time/Duration;" (.ref dd) := Sta.start evd (Or.inr ⟨hw _ (List.mem_of_getElem? (i := 7) rfl), hw _ (List.mem_of_getElem? (i := 15) rfl)⟩)
  obtain ⟨n, o, h1, h2, h3, _, L, rfl, ⟨rfl, N⟩, hq⟩ := rm0 l s _ hw tables_1 i0 i1 dd s.heap s.heap.size (Nat.le_refl _) Sd p e ha hc hk s m _ below hf ((Spec.applies_iff_loose hf).mp happ).1 ⟨rfl, State.Warmed39.refl s, rfl⟩ trivial
  refine ⟨n, _, h1, h2, h3, hpost _ _ _ _ _ _ ⟨Cond.after_iff.mpr rfl, Cond.after_iff.mpr (eq_i res_at (Term.int_eval (1)) rfl), trivial⟩ ⟨hq.1, hq.2.1, (hq.2.2.sift fun y hy => Or.inr (N y hy)).mono (by decide) (by decide)⟩⟩
theorem main_1_1 : Claimed_1_1 := comes_1 fun _ _ _ _ _ _ h hF => ⟨h.1, hF⟩
theorem main_1_2 : Claimed_1_2 := comes_1 fun _ _ _ _ _ _ h hF => ⟨h.2.1, hF⟩
end Jvm.Pilot.@@N@@
namespace Jvm.Pilot.@@N@@
open Jvm Jvm.ClassFile Sem Op Lib Jvm.Free Jvm.Stand Jvm.Pilot.@@N@@.Jvm.D
/-! MADE BY PROGRAM (witnessworld.py) out of the Statement's table words and the real class files: 10 classes; the members and pool entries that the words name. The judged class is class 1, her method 2. -/
namespace start1
open Jvm.ClassFile
def u (s : String) : CpInfo := .utf8 (stringToUtf16 s)
/-- a pool by its gaps: so many unusable entries, then the entry; so many at the end -/
def gap : Nat → List CpInfo → List CpInfo
  | 0, r => r
  | n + 1, r => .unusable :: gap n r
def poolList (es : List (Nat × CpInfo)) (last : Nat) : List CpInfo := es.foldr (fun e r => gap e.1 (e.2 :: r)) (gap last [])
def pool (es : List (Nat × CpInfo)) (last : Nat) : Array CpInfo := ⟨poolList es last⟩
def fileOf (pool : Array CpInfo) (this : Nat) (attrs : Array Attribute := #[]) (ms : Array MethodInfo := #[]) (fl : Nat := 33) (sup : Nat := 0) (ifs : Array Nat := #[]) (fds : Array FieldInfo := #[]) : ClassFile where
  minorVersion := 0
  majorVersion := 65
  constantPool := pool
  accessFlags := fl
  thisClass := this
  superClass := sup
  interfaces := ifs
  fields := fds
  methods := ms
  attributes := attrs
def plain (name : String) (sup : Option ClassId) : Class where
  name := name
  kind := .ordinary
  loader := none
  accessFlags := 33
  super := sup
  interfaces := #[]
  cf := none
  fields := #[]
  methods := #[]
  instanceTypes := #[]
  staticTypes := #[]
  resolved := #[]
  callSites := []
  init := .initialized
  statics := none
  mirror := none

def pool0 : Array CpInfo := pool [(5, u "<init>"), (0, u "()V"), (1, .class_ 10), (1, u "java/lang/Object")] 113

def k0c0 : Code := { maxStack := 0, maxLocals := 1, code := object_method_1_code, exceptionTable := #[], attributes := #[] }
def k0m0 : Method := { name := "<init>", desc := "()V", sig := { parameters := [], returnType := none }, accessFlags := 1, code := some k0c0 }
/-- java/lang/Object -/
def k0 : Class := { plain "java/lang/Object" none with
  accessFlags := 33
  interfaces := #[]
  cf := some (fileOf pool0 8 #[] #[{ accessFlags := 1, nameIndex := 5, descriptorIndex := 6, attributes := #[] }] 33 0 #[] #[])
  fields := #[]
  methods := #[k0m0]
  instanceTypes := #[]
  staticTypes := #[]
  resolved := Array.replicate 124 none
  statics := none }

def pool1 : Array CpInfo := pool [(2, .class_ 4), (0, .nameAndType 5 6), (0, u "java/lang/Object"), (0, u "<init>"), (0, u "()V"), (0, .integer 2147483647), (0, .methodref 9 10), (0, .class_ 11), (0, .nameAndType 12 13), (0, u "com/example/pochta/pochta/entity/QueueSettingsMaxDeliveryCountPinLaw"), (0, u "validCount"), (0, u "(I)I"), (0, .class_ 15), (0, u "com/example/pochta/pochta/entity/QueueSettings"), (0, .methodref 14 3), (0, .methodref 14 18), (0, .nameAndType 19 20), (0, u "maxDeliveryCount"), (0, u "(I)Lcom/example/pochta/pochta/entity/QueueSettings;"), (0, .methodref 14 22), (0, .nameAndType 19 23), (0, u "()I"), (0, .methodref 14 25), (0, .nameAndType 26 27), (0, u "lockDuration"), (0, u "()Ljava/time/Duration;"), (0, .fieldref 14 29), (0, .nameAndType 30 31), (0, u "DEFAULT_LOCK_DURATION"), (0, u "Ljava/time/Duration;"), (0, .methodref 14 33), (0, .nameAndType 34 27), (0, u "defaultMessageTimeToLive"), (3, u "law"), (0, u "(II)Z")] 2

def k1m0 : Method := { name := "<init>", desc := "()V", sig := { parameters := [], returnType := none }, accessFlags := 1, code := none }
def k1c1 : Code := { maxStack := 2, maxLocals := 2, code := method_2_code, exceptionTable := #[], attributes := #[] }
def k1m1 : Method := { name := "validCount", desc := "(I)I", sig := { parameters := [.int], returnType := some .int }, accessFlags := 10, code := some k1c1 }
def k1c2 : Code := { maxStack := 2, maxLocals := 10, code := code, exceptionTable := #[], attributes := #[] }
def k1m2 : Method := { name := "law", desc := "(II)Z", sig := { parameters := [.int, .int], returnType := some .boolean }, accessFlags := 9, code := some k1c2 }
/-- com/example/pochta/pochta/entity/QueueSettingsMaxDeliveryCountPinLaw -/
def k1 : Class := { plain "com/example/pochta/pochta/entity/QueueSettingsMaxDeliveryCountPinLaw" (some 0) with
  accessFlags := 49
  interfaces := #[]
  cf := some (fileOf pool1 9 #[] #[{ accessFlags := 1, nameIndex := 5, descriptorIndex := 6, attributes := #[] }, { accessFlags := 10, nameIndex := 12, descriptorIndex := 13, attributes := #[] }, { accessFlags := 9, nameIndex := 38, descriptorIndex := 39, attributes := #[] }] 49 2 #[] #[])
  fields := #[]
  methods := #[k1m0, k1m1, k1m2]
  instanceTypes := #[]
  staticTypes := #[]
  resolved := Array.replicate 42 none
  statics := none }

def pool2 : Array CpInfo := pool [(1, .methodref 2 3), (0, .class_ 4), (0, .nameAndType 5 6), (0, u "java/lang/Object"), (0, u "<init>"), (0, u "()V"), (0, .fieldref 8 9), (0, .class_ 10), (0, .nameAndType 11 12), (0, u "com/example/pochta/pochta/entity/QueueSettings"), (0, u "DEFAULT_LOCK_DURATION"), (0, u "Ljava/time/Duration;"), (0, .fieldref 8 14), (0, .nameAndType 15 12), (0, u "lockDuration"), (0, .fieldref 8 17), (0, .nameAndType 18 19), (0, u "maxDeliveryCount"), (0, u "I"), (2, u "MIN_LOCK_DURATION"), (8, u "MAX_LOCK_DURATION"), (21, .fieldref 8 54), (0, .nameAndType 55 12), (0, u "defaultMessageTimeToLive"), (2, u "MIN_TIME_TO_LIVE"), (25, u "DEFAULT_MAX_DELIVERY_COUNT"), (4, u "()Ljava/time/Duration;"), (2, u "()I"), (0, u "(I)Lcom/example/pochta/pochta/entity/QueueSettings;")] 22

def k2c0 : Code := { maxStack := 2, maxLocals := 1, code := prog_13_method_1_code, exceptionTable := #[], attributes := #[] }
def k2m0 : Method := { name := "<init>", desc := "()V", sig := { parameters := [], returnType := none }, accessFlags := 1, code := some k2c0 }
def k2c1 : Code := { maxStack := 1, maxLocals := 1, code := prog_13_method_2_code, exceptionTable := #[], attributes := #[] }
def k2m1 : Method := { name := "lockDuration", desc := "()Ljava/time/Duration;", sig := { parameters := [], returnType := some (.object "java/time/Duration") }, accessFlags := 1, code := some k2c1 }
def k2c2 : Code := { maxStack := 1, maxLocals := 1, code := prog_13_method_4_code, exceptionTable := #[], attributes := #[] }
def k2m2 : Method := { name := "defaultMessageTimeToLive", desc := "()Ljava/time/Duration;", sig := { parameters := [], returnType := some (.object "java/time/Duration") }, accessFlags := 1, code := some k2c2 }
def k2c3 : Code := { maxStack := 1, maxLocals := 1, code := prog_13_method_6_code, exceptionTable := #[], attributes := #[] }
def k2m3 : Method := { name := "maxDeliveryCount", desc := "()I", sig := { parameters := [], returnType := some .int }, accessFlags := 1, code := some k2c3 }
def k2c4 : Code := { maxStack := 3, maxLocals := 2, code := prog_13_method_7_code, exceptionTable := #[], attributes := #[] }
def k2m4 : Method := { name := "maxDeliveryCount", desc := "(I)Lcom/example/pochta/pochta/entity/QueueSettings;", sig := { parameters := [.int], returnType := some (.object "com/example/pochta/pochta/entity/QueueSettings") }, accessFlags := 1, code := some k2c4 }
/-- com/example/pochta/pochta/entity/QueueSettings -/
def k2 : Class := { plain "com/example/pochta/pochta/entity/QueueSettings" (some 0) with
  accessFlags := 33
  interfaces := #[]
  cf := some (fileOf pool2 8 #[] #[{ accessFlags := 1, nameIndex := 5, descriptorIndex := 6, attributes := #[] }, { accessFlags := 1, nameIndex := 15, descriptorIndex := 89, attributes := #[] }, { accessFlags := 1, nameIndex := 55, descriptorIndex := 89, attributes := #[] }, { accessFlags := 1, nameIndex := 18, descriptorIndex := 92, attributes := #[] }, { accessFlags := 1, nameIndex := 18, descriptorIndex := 93, attributes := #[] }] 33 2 #[] #[{ accessFlags := 25, nameIndex := 11, descriptorIndex := 12, attributes := #[] }, { accessFlags := 25, nameIndex := 31, descriptorIndex := 12, attributes := #[] }, { accessFlags := 25, nameIndex := 84, descriptorIndex := 19, attributes := #[] }, { accessFlags := 26, nameIndex := 22, descriptorIndex := 12, attributes := #[] }, { accessFlags := 26, nameIndex := 58, descriptorIndex := 12, attributes := #[] }, { accessFlags := 2, nameIndex := 15, descriptorIndex := 12, attributes := #[] }, { accessFlags := 2, nameIndex := 55, descriptorIndex := 12, attributes := #[] }, { accessFlags := 2, nameIndex := 18, descriptorIndex := 19, attributes := #[] }])
  fields := #[{ name := "DEFAULT_LOCK_DURATION", type := (.object "java/time/Duration"), accessFlags := 25, slot := 0, constantValue := 0 }, { name := "MAX_LOCK_DURATION", type := (.object "java/time/Duration"), accessFlags := 25, slot := 1, constantValue := 0 }, { name := "DEFAULT_MAX_DELIVERY_COUNT", type := .int, accessFlags := 25, slot := 2, constantValue := 0 }, { name := "MIN_LOCK_DURATION", type := (.object "java/time/Duration"), accessFlags := 26, slot := 3, constantValue := 0 }, { name := "MIN_TIME_TO_LIVE", type := (.object "java/time/Duration"), accessFlags := 26, slot := 4, constantValue := 0 }, { name := "lockDuration", type := (.object "java/time/Duration"), accessFlags := 2, slot := 0, constantValue := 0 }, { name := "defaultMessageTimeToLive", type := (.object "java/time/Duration"), accessFlags := 2, slot := 1, constantValue := 0 }, { name := "maxDeliveryCount", type := .int, accessFlags := 2, slot := 2, constantValue := 0 }]
  methods := #[k2m0, k2m1, k2m2, k2m3, k2m4]
  instanceTypes := #[(.object "java/time/Duration"), (.object "java/time/Duration"), .int]
  staticTypes := #[(.object "java/time/Duration"), (.object "java/time/Duration"), .int, (.object "java/time/Duration"), (.object "java/time/Duration")]
  resolved := Array.replicate 116 none
  statics := some 0 }

def pool3 : Array CpInfo := pool [(1, .class_ 2), (0, u "java/time/temporal/TemporalAmount"), (0, .class_ 4), (0, u "java/lang/Object")] 11

/-- java/time/temporal/TemporalAmount -/
def k3 : Class := { plain "java/time/temporal/TemporalAmount" (some 0) with
  accessFlags := 1537
  interfaces := #[]
  cf := some (fileOf pool3 1 #[] #[] 1537 3 #[] #[])
  fields := #[]
  methods := #[]
  instanceTypes := #[]
  staticTypes := #[]
  resolved := Array.replicate 16 none
  statics := none }

def pool4 : Array CpInfo := pool [(1, .class_ 2), (0, u "java/lang/Comparable"), (0, .class_ 4), (0, u "java/lang/Object")] 7

/-- java/lang/Comparable -/
def k4 : Class := { plain "java/lang/Comparable" (some 0) with
  accessFlags := 1537
  interfaces := #[]
  cf := some (fileOf pool4 1 #[] #[] 1537 3 #[] #[])
  fields := #[]
  methods := #[]
  instanceTypes := #[]
  staticTypes := #[]
  resolved := Array.replicate 12 none
  statics := none }

def pool5 : Array CpInfo := pool [(1, .class_ 2), (0, u "java/io/Serializable"), (0, .class_ 4), (0, u "java/lang/Object")] 2

/-- java/io/Serializable -/
def k5 : Class := { plain "java/io/Serializable" (some 0) with
  accessFlags := 1537
  interfaces := #[]
  cf := some (fileOf pool5 1 #[] #[] 1537 3 #[] #[])
  fields := #[]
  methods := #[]
  instanceTypes := #[]
  staticTypes := #[]
  resolved := Array.replicate 7 none
  statics := none }

def pool6 : Array CpInfo := pool [(11, .class_ 13), (1, u "java/time/Duration"), (20, u "ZERO"), (0, u "Ljava/time/Duration;"), (13, .class_ 51), (1, u "java/time/temporal/TemporalAmount"), (27, .class_ 81), (1, u "java/time/Duration$Lazy"), (35, u "seconds"), (101, .class_ 220), (0, u "java/lang/Object"), (2, u "J"), (2, u "nanos"), (0, u "I"), (11, .class_ 241), (1, u "java/time/Duration$DurationUnits"), (27, .class_ 271), (1, u "java/time/Duration$1"), (91, u "BI_NANOS_PER_SECOND"), (0, u "Ljava/math/BigInteger;"), (120, .class_ 486), (0, u "java/lang/Comparable"), (0, .class_ 488), (0, u "java/io/Serializable"), (0, u "serialVersionUID")] 166

/-- java/time/Duration -/
def k6 : Class := { plain "java/time/Duration" (some 0) with
  accessFlags := 49
  interfaces := #[3, 4, 5]
  cf := some (fileOf pool6 11 #[.nestMembers #[269, 239, 79]] #[] 49 219 #[49, 485, 487] #[{ accessFlags := 25, nameIndex := 34, descriptorIndex := 35, attributes := #[] }, { accessFlags := 26, nameIndex := 489, descriptorIndex := 223, attributes := #[] }, { accessFlags := 26, nameIndex := 363, descriptorIndex := 364, attributes := #[] }, { accessFlags := 18, nameIndex := 117, descriptorIndex := 223, attributes := #[] }, { accessFlags := 18, nameIndex := 226, descriptorIndex := 227, attributes := #[] }])
  fields := #[{ name := "ZERO", type := (.object "java/time/Duration"), accessFlags := 25, slot := 0, constantValue := 0 }, { name := "serialVersionUID", type := .long, accessFlags := 26, slot := 1, constantValue := 0 }, { name := "BI_NANOS_PER_SECOND", type := (.object "java/math/BigInteger"), accessFlags := 26, slot := 2, constantValue := 0 }, { name := "seconds", type := .long, accessFlags := 18, slot := 0, constantValue := 0 }, { name := "nanos", type := .int, accessFlags := 18, slot := 1, constantValue := 0 }]
  methods := #[]
  instanceTypes := #[.long, .int]
  staticTypes := #[(.object "java/time/Duration"), .long, (.object "java/math/BigInteger")]
  resolved := Array.replicate 656 none
  statics := none }

def pool7 : Array CpInfo := pool [(1, u "java/lang/Cloneable"), (0, .class_ 1), (0, u "java/lang/Object"), (0, .class_ 3)] 3

/-- java/lang/Cloneable -/
def k7 : Class := { plain "java/lang/Cloneable" (some 0) with
  accessFlags := 1537
  interfaces := #[]
  cf := some (fileOf pool7 2 #[] #[] 1537 4 #[] #[])
  fields := #[]
  methods := #[]
  instanceTypes := #[]
  staticTypes := #[]
  resolved := Array.replicate 8 none
  statics := none }

/-- the primitive byte -/
def k8 : Class := { plain "byte" none with kind := .primitive 'B', accessFlags := 0x411 }
/-- [B -/
def k9 : Class := { plain "[B" (some 0) with kind := .array 8 .byte, interfaces := #[7, 5], accessFlags := 1041 }

def heap : Heap := #[{ cls := 2, slots := #[.ref 1, .null, .int 0, .null, .null], vm := .statics 2 },
  { cls := 6, slots := #[.long 60, .int 0], vm := .none }]
def classes : Array Class := #[k0, k1, k2, k3, k4, k5, k6, k7, k8, k9]
def interned : List (Array UInt16 × Addr) := []
def slotsUsed : Nat := 7
def theMethod : MethodId := ⟨1, 2⟩
def args0 : Array Value := #[.int 5, .int 6]
def aboutOver (below : List Frame) : State where
  vm := { classes := classes, interned := interned.toArray }
  heap := heap
  slotsUsed := slotsUsed
  threads := #[{ frames := .invoking theMethod args0 :: below }]
def below0 : List Frame := [.native { method := ⟨0, 0⟩, args := #[] }]
def about1 : State := aboutOver below0
def p0 : Program := .bare "" "" ""
def e0 : Env := launch0.env 0 0 0
theorem w_frames : about1.frames = Frame.invoking theMethod args0 :: below0 := rfl
set_option maxRecDepth 65536 in
theorem w_args : argsFit about1.vm theMethod args0 = true := by decide +kernel
set_option maxRecDepth 65536 in
theorem w_heap : heapFits about1 = true := by decide +kernel
set_option maxRecDepth 65536 in
theorem w_runnable : about1.curStatus? = some .runnable := by decide +kernel
set_option maxRecDepth 65536 in
theorem w_alone : about1.alone = true := by decide +kernel
set_option maxRecDepth 65536 in
theorem w_named : about1.methodNamed? x = some theMethod := by decide +kernel
set_option maxRecDepth 65536 in
theorem w_hears : about1.hears theMethod below0 = true := by decide +kernel
set_option maxRecDepth 65536 in
theorem w_ripe : about1.ripe theMethod args0 below0 = true := by decide +kernel
theorem w_running : about1.status = .running := rfl
set_option maxRecDepth 65536 in
theorem w_room : about1.hasRoom e0.platform room_1 = true :=
  launch0.hasRoom_least _ room_1 (by decide +kernel) (by decide +kernel) (by decide +kernel) (by decide +kernel) (by decide +kernel) (by decide +kernel)
theorem allAtoms_all (ts : List Jvm.Cond) (a : Array Jvm.Value) (st : Jvm.State) : (allAtoms ts).before a st = ts.all (fun c => c.before a st) := by
  induction ts with
  | nil => rfl
  | cons c t ih =>
    show (Jvm.Cond.and c (allAtoms t)).before a st = _
    rw [Jvm.Cond.before_and, ih, List.all_cons]
def words1 : List Jvm.Cond := Jvm.Cond.code x code maxLocals ret :: tables_1
/-- a 'code' word, met by the world's own term for the bytes: nothing is compared byte by byte -/
theorem code_word {y : MethodName} {bytes : ByteArray} {mx : Nat} {rt : Option FieldType} {a : Array Value} {s : State} {m : MethodId} {meth : Method} {c : Code} (h1 : s.methodNamed? y = some m) (h2 : s.vm.method? m = some meth) (h3 : meth.code = some c) (h4 : c.code = bytes)
    (h5 : (c.maxLocals == mx && c.exceptionTable.isEmpty && decide (c.maxStack ≤ mostOperands) && decide (meth.sig.returnType = rt) && !meth.locks && decide (parseMethodDescriptor y.desc = some meth.sig)) = true) : (Jvm.Cond.code y bytes mx rt).before a s = true := by
  simp only [Bool.and_eq_true, beq_iff_eq, Bool.not_eq_true', decide_eq_true_eq] at h5
  obtain ⟨⟨⟨⟨⟨g1, g2⟩, g3⟩, g4⟩, g5⟩, g6⟩ := h5
  simp [Cond.before, Cond.holds, Cond.value, h1, h2, h3, h4, g1, g2, g3, g4, g5, g6]
def isCode : Jvm.Cond → Bool
  | .code _ _ _ _ => true
  | _ => false
theorem all_split {L : List Jvm.Cond} {P : Jvm.Cond → Bool} (h1 : L.all (fun c => isCode c || P c) = true) (h2 : ∀ c ∈ L.filter isCode, P c = true) : L.all P = true := by
  refine List.all_eq_true.mpr fun c hc => ?_
  have h := List.all_eq_true.mp h1 c hc
  rcases Bool.eq_false_or_eq_true (isCode c) with hi | hi
  · exact h2 c (List.mem_filter.mpr ⟨hc, hi⟩)
  · simpa [hi] using h
set_option maxRecDepth 65536 in
theorem w_c0 : (Jvm.Cond.code x code maxLocals ret).before args0 about1 = true := code_word (m := ⟨1, 2⟩) (meth := k1m2) (c := k1c2) (by decide +kernel) rfl rfl rfl (by decide +kernel)
set_option maxRecDepth 65536 in
theorem w_c1 : (Jvm.Cond.code ({ cls := "com/example/pochta/pochta/entity/QueueSettingsMaxDeliveryCountPinLaw", name := "validCount", desc := "(I)I" } : Jvm.MethodName) method_2_code (2 : Nat) (Option.some Jvm.ClassFile.FieldType.int)).before args0 about1 = true := code_word (m := ⟨1, 1⟩) (meth := k1m1) (c := k1c1) (by decide +kernel) rfl rfl rfl (by decide +kernel)
set_option maxRecDepth 65536 in
theorem w_c2 : (Jvm.Cond.code ({ cls := "com/example/pochta/pochta/entity/QueueSettings", name := "<init>", desc := "()V" } : Jvm.MethodName) prog_13_method_1_code (1 : Nat) (Option.none : Option Jvm.ClassFile.FieldType)).before args0 about1 = true := code_word (m := ⟨2, 0⟩) (meth := k2m0) (c := k2c0) (by decide +kernel) rfl rfl rfl (by decide +kernel)
set_option maxRecDepth 65536 in
theorem w_c3 : (Jvm.Cond.code ({ cls := "java/lang/Object", name := "<init>", desc := "()V" } : Jvm.MethodName) object_method_1_code (1 : Nat) (Option.none : Option Jvm.ClassFile.FieldType)).before args0 about1 = true := code_word (m := ⟨0, 0⟩) (meth := k0m0) (c := k0c0) (by decide +kernel) rfl rfl rfl (by decide +kernel)
set_option maxRecDepth 65536 in
theorem w_c4 : (Jvm.Cond.code ({ cls := "com/example/pochta/pochta/entity/QueueSettings", name := "maxDeliveryCount", desc := "(I)Lcom/example/pochta/pochta/entity/QueueSettings;" } : Jvm.MethodName) prog_13_method_7_code (2 : Nat) (Option.some (Jvm.ClassFile.FieldType.object "com/example/pochta/pochta/entity/QueueSettings"))).before args0 about1 = true := code_word (m := ⟨2, 4⟩) (meth := k2m4) (c := k2c4) (by decide +kernel) rfl rfl rfl (by decide +kernel)
set_option maxRecDepth 65536 in
theorem w_c5 : (Jvm.Cond.code ({ cls := "com/example/pochta/pochta/entity/QueueSettings", name := "maxDeliveryCount", desc := "()I" } : Jvm.MethodName) prog_13_method_6_code (1 : Nat) (Option.some Jvm.ClassFile.FieldType.int)).before args0 about1 = true := code_word (m := ⟨2, 3⟩) (meth := k2m3) (c := k2c3) (by decide +kernel) rfl rfl rfl (by decide +kernel)
set_option maxRecDepth 65536 in
theorem w_c6 : (Jvm.Cond.code ({ cls := "com/example/pochta/pochta/entity/QueueSettings", name := "lockDuration", desc := "()Ljava/time/Duration;" } : Jvm.MethodName) prog_13_method_2_code (1 : Nat) (Option.some (Jvm.ClassFile.FieldType.object "java/time/Duration"))).before args0 about1 = true := code_word (m := ⟨2, 1⟩) (meth := k2m1) (c := k2c1) (by decide +kernel) rfl rfl rfl (by decide +kernel)
set_option maxRecDepth 65536 in
theorem w_c7 : (Jvm.Cond.code ({ cls := "com/example/pochta/pochta/entity/QueueSettings", name := "defaultMessageTimeToLive", desc := "()Ljava/time/Duration;" } : Jvm.MethodName) prog_13_method_4_code (1 : Nat) (Option.some (Jvm.ClassFile.FieldType.object "java/time/Duration"))).before args0 about1 = true := code_word (m := ⟨2, 2⟩) (meth := k2m2) (c := k2c2) (by decide +kernel) rfl rfl rfl (by decide +kernel)
def codes1 : List Jvm.Cond := [Jvm.Cond.code x code maxLocals ret, Jvm.Cond.code ({ cls := "com/example/pochta/pochta/entity/QueueSettingsMaxDeliveryCountPinLaw", name := "validCount", desc := "(I)I" } : Jvm.MethodName) method_2_code (2 : Nat) (Option.some Jvm.ClassFile.FieldType.int), Jvm.Cond.code ({ cls := "com/example/pochta/pochta/entity/QueueSettings", name := "<init>", desc := "()V" } : Jvm.MethodName) prog_13_method_1_code (1 : Nat) (Option.none : Option Jvm.ClassFile.FieldType), Jvm.Cond.code ({ cls := "java/lang/Object", name := "<init>", desc := "()V" } : Jvm.MethodName) object_method_1_code (1 : Nat) (Option.none : Option Jvm.ClassFile.FieldType), Jvm.Cond.code ({ cls := "com/example/pochta/pochta/entity/QueueSettings", name := "maxDeliveryCount", desc := "(I)Lcom/example/pochta/pochta/entity/QueueSettings;" } : Jvm.MethodName) prog_13_method_7_code (2 : Nat) (Option.some (Jvm.ClassFile.FieldType.object "com/example/pochta/pochta/entity/QueueSettings")), Jvm.Cond.code ({ cls := "com/example/pochta/pochta/entity/QueueSettings", name := "maxDeliveryCount", desc := "()I" } : Jvm.MethodName) prog_13_method_6_code (1 : Nat) (Option.some Jvm.ClassFile.FieldType.int), Jvm.Cond.code ({ cls := "com/example/pochta/pochta/entity/QueueSettings", name := "lockDuration", desc := "()Ljava/time/Duration;" } : Jvm.MethodName) prog_13_method_2_code (1 : Nat) (Option.some (Jvm.ClassFile.FieldType.object "java/time/Duration")), Jvm.Cond.code ({ cls := "com/example/pochta/pochta/entity/QueueSettings", name := "defaultMessageTimeToLive", desc := "()Ljava/time/Duration;" } : Jvm.MethodName) prog_13_method_4_code (1 : Nat) (Option.some (Jvm.ClassFile.FieldType.object "java/time/Duration"))]
set_option maxRecDepth 65536 in
theorem codes_eq : words1.filter isCode = codes1 := rfl
theorem w_codes : ∀ c ∈ words1.filter isCode, c.before args0 about1 = true := by
  rw [codes_eq]
  intro c hc
  simp only [codes1, List.mem_cons, List.not_mem_nil, or_false] at hc
  rcases hc with rfl | rfl | rfl | rfl | rfl | rfl | rfl | rfl
  · exact w_c0
  · exact w_c1
  · exact w_c2
  · exact w_c3
  · exact w_c4
  · exact w_c5
  · exact w_c6
  · exact w_c7
set_option maxRecDepth 65536 in
theorem w_t1 : (words1.take 24).all (fun c => isCode c || c.before args0 about1) = true := by decide +kernel
set_option maxRecDepth 65536 in
theorem w_t2 : (words1.drop 24).all (fun c => isCode c || c.before args0 about1) = true := by decide +kernel
theorem w_tables : (allAtoms (Jvm.Cond.code x code maxLocals ret :: tables_1)).before args0 about1 = true := by
  rw [allAtoms_all]
  show words1.all (fun c => c.before args0 about1) = true
  refine all_split ?_ w_codes
  rw [← List.take_append_drop 24 words1, List.all_append, w_t1, w_t2]
  rfl
set_option maxRecDepth 65536 in
theorem w_case : (Jvm.Cond.and given_1 narrow_1).before args0 about1 = true := by decide +kernel
theorem w_applies : (headSpec (Jvm.Cond.code x code maxLocals ret :: tables_1) room_1).applies x e0.platform about1 = true :=
  (Spec.applies_iff w_frames).mpr ⟨w_running, w_runnable, w_alone, w_named, w_hears, w_ripe, w_room, w_tables⟩
theorem atStart : AtStart classFile x code maxLocals ret World_1 tables_1 room_1 Calls_1 rest_1 Pre_1 launch0 p0 e0 about1 theMethod args0 below0 :=
  ⟨lists_1, trivial, launch0.admits_env _ _ _, launch0.least_env, fairChoices_fair.cas, fairChoices_fair.clock, w_frames, w_args, w_heap, w_applies, trivial, trivial, w_case⟩
end start1
theorem witness_1 : WitnessClaimed_1 := ⟨start1.p0, start1.e0, start1.about1, start1.theMethod, start1.args0, start1.below0, start1.atStart⟩
end Jvm.Pilot.@@N@@
