import JvmDerived
import JvmDerived.Pilot.@@N@@Statement
import JvmDerived.Pilot.@@N@@Code
set_option linter.unusedVariables false
set_option linter.unusedSimpArgs false
@@BLOCK:NumsL.lean.txt@@
namespace Jvm.RoadKit
open Sem ClassFile Op Lib Jvm.Stand Jvm.Free Jvm.LawKit
section New
variable {p : Program} {l : Launch} {e : Env} {R : Room} {s : State} {m : MethodId} {args : Array Value} {below : List Frame} {meth : Method} {c : Code} {T : State} {locs : List Loc} {cells slots : Nat}
theorem retI (X : Stand p l e R s m args below meth c T locs cells slots) (hx : p.tables.exec = Jvm.exec) {pc : Nat} {Ls : Array Slot} {z : Int32} {rest : List Value} (hret : meth.sig.returnType = some .int) (hd : decode c.code pc = .ok (.ireturn, 1)) {fs : List Frame}
    (hl : ∀ (f : JFrame) (acts : List Action), f.method = m → f.locked = none → f.entered = [] → (doReturn e (T.setTop f) acts (some (.int z))).1 = T.setFrames fs) : Steps p.tables e below (T.setTop (mkF m pc Ls (.int z :: rest))) (T.setFrames fs) := by
  have hm' : T.vm.method? m = some meth := X.method'
  have hn : narrow .int (.int z) = .int z := rfl
  show Steps p.tables e below (T.setTop { method := m, pc := pc, locals := Ls, stack := _ :: rest, locked := none }) _
  jvm_step X.here [X.here.top, hx, hd, hm', hret, hn]
  first | (intro acts; rw [hl _ acts rfl rfl rfl]) | rw [hl _ _ rfl rfl rfl]
  exact Steps.refl _
theorem own_abs {k : Nat} (X : Stand p l e R s m args below meth c T locs cells slots) (N : Fr k locs) : ∃ lo, Stand p l e R s m args below meth c T lo cells slots ∧ Fr k lo := ⟨locs, X, N⟩
end New
end Jvm.RoadKit
namespace Jvm.Pilot.@@N@@
open Jvm Jvm.ClassFile Sem Op Lib Jvm.Free Jvm.Stand Jvm.LawKit Jvm.RoadKit Bundle Jvm.Pilot.@@N@@.Jvm.D
def fX (q : Int64) (r : Int64) : Int64 := (if q < r then r else q)
def Q_rmX (q : Int64) (r : Int64) (h0 : Heap) (n0 : Nat) (v : Option Value) (h : Heap) (L : List Loc) : Prop := v = some (.long (fX q r)) ∧ Fr n0 L ∧ h = h0
theorem ef_rmX (m : MethodId) (x0 : Int64) (x1 : Int64) : entryFrame m #[(.long x0), (.long x1)] 4 = mkF m 0 #[.val (.long x0), .second, .val (.long x1), .second] [] := by first | (simp [entryFrame, mkF, argsToLocals, Value.category]; done) | rfl
theorem d6_0 : decode jdk_29_method_66_code 0 = .ok (.lload_n 0, 1) := by decide +kernel
theorem d6_1 : decode jdk_29_method_66_code 1 = .ok (.lload_n 2, 1) := by decide +kernel
theorem d6_2 : decode jdk_29_method_66_code 2 = .ok (.lcmp, 1) := by decide +kernel
theorem d6_3 : decode jdk_29_method_66_code 3 = .ok (.ifCond .lt 7, 3) := by decide +kernel
theorem d6_6 : decode jdk_29_method_66_code 6 = .ok (.lload_n 0, 1) := by decide +kernel
theorem d6_7 : decode jdk_29_method_66_code 7 = .ok (.goto 4, 3) := by decide +kernel
theorem d6_10 : decode jdk_29_method_66_code 10 = .ok (.lload_n 2, 1) := by decide +kernel
theorem d6_11 : decode jdk_29_method_66_code 11 = .ok (.lreturn, 1) := by decide +kernel
set_option maxRecDepth 65536 in
set_option maxHeartbeats 40000000 in
theorem rmX (l : Launch) (Z : State) (a0 : Array Value) (hw : ∀ d ∈ tables_1, d.before a0 Z = true) (ws : List Jvm.Cond) (q : Int64) (r : Int64)  (h0 : Heap) (n0 : Nat) (Z0 : n0 ≤ h0.size)  :
    MetFree l (⟨"java/lang/Math", "max", "(JJ)J"⟩ : MethodName) (head1 (Jvm.Cond.code (⟨"java/lang/Math", "max", "(JJ)J"⟩ : MethodName) jdk_29_method_66_code 4 (some .long) :: ws) ({ frames := 0, cells := 0, slots := 0, locals := 0 } : Room)) (fun a U => a = #[(.long q), (.long r)] ∧ Z.Warmed39 U.vm ∧ U.heap = h0) (fun _ _ _ _ _ => True) (fun _ U o U' => ∃ v L, o = .returned v ∧ Q_rmX q r h0 n0 v U'.heap L ∧ FrameEnd U o U' L ({ frames := 0, cells := 0, slots := 0, locals := 0 } : Room).cells ({ frames := 0, cells := 0, slots := 0, locals := 0 } : Room).slots) := by
  refine MetFree.of_bodySF (Jvm.Free.JP.mathPlain rfl (by decide +kernel)) hisR ?_
  intro p e s m args below meth c s₁ Bd hml0 hP hK
  obtain ⟨rfl, hZ, hh⟩ := hP
  have hx := Bd.exec
  have hby := Bd.bytes
  have hml : c.maxLocals = 4 := hml0
  have hown : s.vm.findClass "java/lang/Math" = some m.cls := findClass_of_methodNamed Bd.named
  have hnm := (name_of_methodNamed Bd.named Bd.method).1
  have hlk : meth.locks = false := by first | exact BodyLoose.notSynchronized Bd | exact Body.notSynchronized Bd
  have X0 : Stand p l e ({ frames := 0, cells := 0, slots := 0, locals := 0 } : Room) s m #[(.long q), (.long r)] below meth c s₁ [] 0 0 := Stand.of_body Bd
  have e0 : s₁.heap = h0 := by rw [← hh, Bd.state]; rfl
  have N0 := Fr.nil n0
  have pre0 : ∀ t, Steps p.tables e below (s₁.setTop (mkF m 0 #[.val (.long q), .second, .val (.long r), .second] [])) t → Steps p.tables e below (s₁.setTop (entryFrame m #[(.long q), (.long r)] 4)) t := fun t k => castTop (ef_rmX m q r) k
  obtain ⟨fs, hr, hrun, hended, hW, hsame⟩ := X0.leave (v := some (.long (fX q r))) (fun h => by rw [Bd.returns] at h; cases h) (hlocks := hlk)
  refine ⟨_, _, pre0 _ ?_, hrun, hended, _, _, rfl, ?_, ⟨_, rfl⟩, hW, hsame.mono (by decide) (by decide)⟩
  · have hq0 : (if q < r then r else q) = fX q r := rfl
    show Steps p.tables e below (s₁.setTop (mkF m 0 #[.val (.long q), .second, .val (.long r), .second] [])) _
    refine XS.lloadN X0.here hx rfl (hb hby d6_0) rfl ?_
    show Steps p.tables e below (s₁.setTop (mkF m 1 #[.val (.long q), .second, .val (.long r), .second] [(.long q)])) _
    refine XS.lloadN X0.here hx rfl (hb hby d6_1) rfl ?_
    show Steps p.tables e below (s₁.setTop (mkF m 2 #[.val (.long q), .second, .val (.long r), .second] [(.long r), (.long q)])) _
    refine XS.lcmp X0.here hx rfl (hb hby d6_2) rfl ?_
    show Steps p.tables e below (s₁.setTop (mkF m 3 #[.val (.long q), .second, .val (.long r), .second] [(.int (lcmpW q r))])) _
    by_cases hc3 : q < r
    · have hqhc30 : r = fX q r := (if_pos hc3).symm.trans hq0
      refine XS.ifYes X0.here hx rfl (pc0 := 3) (pc' := 10) rfl (hb hby d6_3) rfl ((if0 _ _).trans (tlt ((lw_lt _ _).mpr hc3)).1) (by decide) (by decide) ?_
      show Steps p.tables e below (s₁.setTop (mkF m 10 #[.val (.long q), .second, .val (.long r), .second] [])) _
      refine XS.lloadN X0.here hx rfl (hb hby d6_10) rfl ?_
      have hr1 := hr
      rw [← hqhc30] at hr1
      exact X0.lreturnOut hx Bd.returns (hb hby d6_11) hr1
    · have hqhc31 : q = fX q r := (if_neg hc3).symm.trans hq0
      refine XS.ifNo X0.here hx rfl (hb hby d6_3) rfl ((if0 _ _).trans (flt (mt (lw_lt _ _).mp hc3)).1) ?_
      show Steps p.tables e below (s₁.setTop (mkF m 6 #[.val (.long q), .second, .val (.long r), .second] [])) _
      refine XS.lloadN X0.here hx rfl (hb hby d6_6) rfl ?_
      show Steps p.tables e below (s₁.setTop (mkF m 7 #[.val (.long q), .second, .val (.long r), .second] [(.long q)])) _
      refine XS.goto X0.here hx rfl (pc0 := 7) (pc' := 11) rfl (hb hby d6_7) (by decide) (by decide) ?_
      have hr1 := hr
      rw [← hqhc31] at hr1
      exact X0.lreturnOut hx Bd.returns (hb hby d6_11) hr1
  · show Q_rmX q r h0 n0 _ s₁.heap _
    rw [e0]
    exact ⟨rfl, N0, rfl⟩
def Q_rmN (Z : State) (ra : Addr) (rs : Addr) (h0 : Heap) (n0 : Nat) (v : Option Value) (h : Heap) (L : List Loc) : Prop := v = some (.ref ra) ∧ Fr n0 L ∧ h = h0
theorem pn_0 : plainName "java/util/Objects" = true := by first | (simp [plainName, overriddenIn]; done) | decide +kernel
theorem ef_rmN (m : MethodId) (x0 : Addr) (x1 : Addr) : entryFrame m #[(.ref x0), (.ref x1)] 2 = mkF m 0 #[.val (.ref x0), .val (.ref x1)] [] := by first | (simp [entryFrame, mkF, argsToLocals, Value.category]; done) | rfl
theorem d3_0 : decode jdk_31_method_11_code 0 = .ok (.aload_n 0, 1) := by decide +kernel
theorem d3_1 : decode jdk_31_method_11_code 1 = .ok (.ifnonnull 12, 3) := by decide +kernel
theorem d3_13 : decode jdk_31_method_11_code 13 = .ok (.aload_n 0, 1) := by decide +kernel
theorem d3_14 : decode jdk_31_method_11_code 14 = .ok (.areturn, 1) := by decide +kernel
set_option maxRecDepth 65536 in
set_option maxHeartbeats 40000000 in
theorem rmN (l : Launch) (Z : State) (a0 : Array Value) (hw : ∀ d ∈ tables_1, d.before a0 Z = true) (ws : List Jvm.Cond) (ra : Addr) (rs : Addr)  (h0 : Heap) (n0 : Nat) (Z0 : n0 ≤ h0.size)  :
    MetFree l (⟨"java/util/Objects", "requireNonNull", "(Ljava/lang/Object;Ljava/lang/String;)Ljava/lang/Object;"⟩ : MethodName) (head1 (Jvm.Cond.code (⟨"java/util/Objects", "requireNonNull", "(Ljava/lang/Object;Ljava/lang/String;)Ljava/lang/Object;"⟩ : MethodName) jdk_31_method_11_code 2 (some (.object "java/lang/Object")) :: ws) ({ frames := 0, cells := 0, slots := 0, locals := 0 } : Room)) (fun a U => a = #[(.ref ra), (.ref rs)] ∧ Z.Warmed39 U.vm ∧ U.heap = h0) (fun _ _ _ _ _ => True) (fun _ U o U' => ∃ v L, o = .returned v ∧ Q_rmN Z ra rs h0 n0 v U'.heap L ∧ FrameEnd U o U' L ({ frames := 0, cells := 0, slots := 0, locals := 0 } : Room).cells ({ frames := 0, cells := 0, slots := 0, locals := 0 } : Room).slots) := by
  refine MetFree.of_bodySF (plainFor_of_name pn_0) hisR ?_
  intro p e s m args below meth c s₁ Bd hml0 hP hK
  obtain ⟨rfl, hZ, hh⟩ := hP
  have hx := Bd.exec
  have hby := Bd.bytes
  have hml : c.maxLocals = 2 := hml0
  have hown : s.vm.findClass "java/util/Objects" = some m.cls := findClass_of_methodNamed Bd.named
  have hnm := (name_of_methodNamed Bd.named Bd.method).1
  have hlk : meth.locks = false := by first | exact BodyLoose.notSynchronized Bd | exact Body.notSynchronized Bd
  have X0 : Stand p l e ({ frames := 0, cells := 0, slots := 0, locals := 0 } : Room) s m #[(.ref ra), (.ref rs)] below meth c s₁ [] 0 0 := Stand.of_body Bd
  have e0 : s₁.heap = h0 := by rw [← hh, Bd.state]; rfl
  have N0 := Fr.nil n0
  have pre0 : ∀ t, Steps p.tables e below (s₁.setTop (mkF m 0 #[.val (.ref ra), .val (.ref rs)] [])) t → Steps p.tables e below (s₁.setTop (entryFrame m #[(.ref ra), (.ref rs)] 2)) t := fun t k => castTop (ef_rmN m ra rs) k
  have sg1 : ∀ t, Steps p.tables e below (s₁.setTop (mkF m 14 #[.val (.ref ra), .val (.ref rs)] [(.ref ra)])) t → Steps p.tables e below (s₁.setTop (mkF m 0 #[.val (.ref ra), .val (.ref rs)] [])) t := by
    intro t k
    show Steps p.tables e below (s₁.setTop (mkF m 0 #[.val (.ref ra), .val (.ref rs)] [])) _
    refine XS.aloadN X0.here hx rfl (hb hby d3_0) rfl rfl ?_
    show Steps p.tables e below (s₁.setTop (mkF m 1 #[.val (.ref ra), .val (.ref rs)] [(.ref ra)])) _
    refine XS.ifnonnullYes X0.here hx rfl (pc0 := 1) (pc' := 13) rfl (hb hby d3_1) rfl (by decide) (by decide) ?_
    show Steps p.tables e below (s₁.setTop (mkF m 13 #[.val (.ref ra), .val (.ref rs)] [])) _
    refine XS.aloadN X0.here hx rfl (hb hby d3_13) rfl rfl ?_
    exact k
  obtain ⟨fs, hr, hrun, hended, hW, hsame⟩ := X0.leave (v := some (.ref ra)) (fun h => by rw [Bd.returns] at h; cases h) (hlocks := hlk)
  refine ⟨_, _, pre0 _ ?_, hrun, hended, _, _, rfl, ?_, ⟨_, rfl⟩, hW, hsame.mono (by decide) (by decide)⟩
  · show Steps p.tables e below (s₁.setTop (mkF m 0 #[.val (.ref ra), .val (.ref rs)] [])) _
    refine sg1 _ ?_
    show Steps p.tables e below (s₁.setTop (mkF m 14 #[.val (.ref ra), .val (.ref rs)] [(.ref ra)])) _
    jvm_step X0.here [X0.here.top, hx, (hb hby d3_14), X0.method', Bd.returns, Value.isRef, FieldType.isReference]
    first | (intro acts; rw [hr _ acts rfl rfl rfl]) | rw [hr _ _ rfl rfl rfl]
    exact Steps.refl _
  · show Q_rmN Z ra rs h0 n0 _ s₁.heap _
    rw [e0]
    exact ⟨rfl, N0, rfl⟩
def Q_rmM (Z : State) (ra : Addr) (rb : Addr) (rn : Int32) (h0 : Heap) (n0 : Nat) (v : Option Value) (h : Heap) (L : List Loc) : Prop := v = none ∧ Fr n0 L ∧ Keep h0 h [ra]
theorem pd_0 : parseMethodDescriptor "()V" = some ⟨[], none⟩ := by decide +kernel
theorem pd_1 : parseMethodDescriptor "(Ljava/lang/Object;Ljava/lang/String;)Ljava/lang/Object;" = some ⟨[(.object "java/lang/Object"), (.object "java/lang/String")], some (.object "java/lang/Object")⟩ := by decide +kernel
theorem pn_1 : plainName "com/example/pochta/pochta/entity/Message" = true := by first | (simp [plainName, overriddenIn]; done) | decide +kernel
theorem ef_rmM (m : MethodId) (x0 : Addr) (x1 : Addr) (x2 : Int32) : entryFrame m #[(.ref x0), (.ref x1), (.int x2)] 3 = mkF m 0 #[.val (.ref x0), .val (.ref x1), .val (.int x2)] [] := by first | (simp [entryFrame, mkF, argsToLocals, Value.category]; done) | rfl
theorem d1_0 : decode prog_9_method_1_code 0 = .ok (.aload_n 0, 1) := by decide +kernel
theorem d1_1 : decode prog_9_method_1_code 1 = .ok (.invokespecial 1, 3) := by decide +kernel
theorem d1_4 : decode prog_9_method_1_code 4 = .ok (.aload_n 0, 1) := by decide +kernel
theorem d1_5 : decode prog_9_method_1_code 5 = .ok (.aload_n 1, 1) := by decide +kernel
theorem d1_6 : decode prog_9_method_1_code 6 = .ok (.ldc 7, 2) := by decide +kernel
theorem d1_8 : decode prog_9_method_1_code 8 = .ok (.invokestatic 9, 3) := by decide +kernel
theorem d1_11 : decode prog_9_method_1_code 11 = .ok (.checkcast 15, 3) := by decide +kernel
theorem d1_14 : decode prog_9_method_1_code 14 = .ok (.putfield 17, 3) := by decide +kernel
theorem d1_17 : decode prog_9_method_1_code 17 = .ok (.aload_n 0, 1) := by decide +kernel
theorem d1_18 : decode prog_9_method_1_code 18 = .ok (.iload_n 2, 1) := by decide +kernel
theorem d1_19 : decode prog_9_method_1_code 19 = .ok (.putfield 21, 3) := by decide +kernel
theorem d1_22 : decode prog_9_method_1_code 22 = .ok (.return_, 1) := by decide +kernel
set_option maxRecDepth 65536 in
set_option maxHeartbeats 40000000 in
theorem rmM (l : Launch) (Z : State) (a0 : Array Value) (hw : ∀ d ∈ tables_1, d.before a0 Z = true) (ws : List Jvm.Cond) (ra : Addr) (rb : Addr) (rn : Int32)  (h0 : Heap) (n0 : Nat) (Z0 : n0 ≤ h0.size) (P0 : Exa Z h0 ra "com/example/pochta/pochta/entity/Message") (P1 : Fld Z h0 ra "com/example/pochta/pochta/entity/Message" "encoded" "[B" .null) (P2 : Fld Z h0 ra "com/example/pochta/pochta/entity/Message" "format" "I" (.int (0 : Int32))) (P3 : Exa Z h0 rb "[B") (g_ra : n0 ≤ ra) (ne_ra_rb : ra ≠ rb) :
    MetFree l (⟨"com/example/pochta/pochta/entity/Message", "<init>", "([BI)V"⟩ : MethodName) (head1 (Jvm.Cond.code (⟨"com/example/pochta/pochta/entity/Message", "<init>", "([BI)V"⟩ : MethodName) prog_9_method_1_code 3 none :: ws) ({ frames := 1, cells := 2, slots := 32, locals := 14 } : Room)) (fun a U => a = #[(.ref ra), (.ref rb), (.int rn)] ∧ Z.Warmed39 U.vm ∧ U.heap = h0) (fun _ _ _ _ _ => True) (fun _ U o U' => ∃ v L, o = .returned v ∧ Q_rmM Z ra rb rn h0 n0 v U'.heap L ∧ ReturnedEndW U o U' L ({ frames := 1, cells := 2, slots := 32, locals := 14 } : Room).cells ({ frames := 1, cells := 2, slots := 32, locals := 14 } : Room).slots) := by
  refine MetFree.of_bodySF (plainFor_of_name pn_1) hisR ?_
  intro p e s m args below meth c s₁ Bd hml0 hP hK
  obtain ⟨rfl, hZ, hh⟩ := hP
  have hx := Bd.exec
  have hby := Bd.bytes
  have hml : c.maxLocals = 3 := hml0
  have hown : s.vm.findClass "com/example/pochta/pochta/entity/Message" = some m.cls := findClass_of_methodNamed Bd.named
  have hnm := (name_of_methodNamed Bd.named Bd.method).1
  have hlk : meth.locks = false := by first | exact BodyLoose.notSynchronized Bd | exact Body.notSynchronized Bd
  have X0 : Stand p l e ({ frames := 1, cells := 2, slots := 32, locals := 14 } : Room) s m #[(.ref ra), (.ref rb), (.int rn)] below meth c s₁ [] 0 0 := Stand.of_body Bd
  have e0 : s₁.heap = h0 := by rw [← hh, Bd.state]; rfl
  have N0 := Fr.nil n0
  have pre0 : ∀ t, Steps p.tables e below (s₁.setTop (mkF m 0 #[.val (.ref ra), .val (.ref rb), .val (.int rn)] [])) t → Steps p.tables e below (s₁.setTop (entryFrame m #[(.ref ra), (.ref rb), (.int rn)] 3)) t := fun t k => castTop (ef_rmM m ra rb rn) k
  have K0 : Keep h0 h0 [ra] := Keep.refl h0 [ra]
  have wS : ∀ a ∈ Bundle.stringAtoms, a.before a0 Z = true := by
    intro a ha
    simp only [Bundle.stringAtoms, List.mem_cons, List.not_mem_nil, or_false] at ha
    rcases ha with rfl | rfl | rfl | rfl | rfl | rfl | rfl
    · exact hw _ (List.mem_of_getElem? (i := 12) rfl)
    · exact hw _ (List.mem_of_getElem? (i := 13) rfl)
    · exact hw _ (List.mem_of_getElem? (i := 4) rfl)
    · exact hw _ (List.mem_of_getElem? (i := 14) rfl)
    · exact hw _ (List.mem_of_getElem? (i := 15) rfl)
    · exact hw _ (List.mem_of_getElem? (i := 16) rfl)
    · exact hw _ (List.mem_of_getElem? (i := 17) rfl)
  have sg1 : ∀ t, Steps p.tables e below (s₁.setTop (mkF m 1 #[.val (.ref ra), .val (.ref rb), .val (.int rn)] [(.ref ra)])) t → Steps p.tables e below (s₁.setTop (mkF m 0 #[.val (.ref ra), .val (.ref rb), .val (.int rn)] [])) t := by
    intro t k
    show Steps p.tables e below (s₁.setTop (mkF m 0 #[.val (.ref ra), .val (.ref rb), .val (.int rn)] [])) _
    refine XS.aloadN X0.here hx rfl (hb hby d1_0) rfl rfl ?_
    exact k
  obtain ⟨T2, X2, e2, st2⟩ := initO X0 hx hZ hown (hw _ (List.mem_of_getElem? (i := 8) rfl)) (hw _ (List.mem_of_getElem? (i := 9) rfl)) (hw _ (List.mem_of_getElem? (i := 10) rfl)) e0 (g := (mkF m 1 #[.val (.ref ra), .val (.ref rb), .val (.int rn)] [(.ref ra)])) rfl (by rw [hml]; rfl) rfl (hb hby d1_1) (by decide) (W := 0) (by show 2 * 0 + _ ≤ _; exact Nat.le_of_eq rfl) (by decide)
  have sg3 : ∀ t, Steps p.tables e below (T2.setTop (mkF m 6 #[.val (.ref ra), .val (.ref rb), .val (.int rn)] [(.ref rb), (.ref ra)])) t → Steps p.tables e below (T2.setTop (mkF m 4 #[.val (.ref ra), .val (.ref rb), .val (.int rn)] [])) t := by
    intro t k
    show Steps p.tables e below (T2.setTop (mkF m 4 #[.val (.ref ra), .val (.ref rb), .val (.int rn)] [])) _
    refine XS.aloadN X2.here hx rfl (hb hby d1_4) rfl rfl ?_
    show Steps p.tables e below (T2.setTop (mkF m 5 #[.val (.ref ra), .val (.ref rb), .val (.int rn)] [(.ref ra)])) _
    refine XS.aloadN X2.here hx rfl (hb hby d1_5) rfl rfl ?_
    exact k
  have hS0 : s.Since s.vm h0.size := (State.WarmedH.refl s).since _
  obtain ⟨sa4, T4, h4, kk4, X4, e4, E4, hS4, hk4, hZ, hown, st4⟩ := ldcS (s := s) (vm0 := s.vm) X2 hx hZ hown (hw _ (List.mem_of_getElem? (i := 11) rfl)) wS e2 hS0 (Nat.le_refl _) (g := (mkF m 6 #[.val (.ref ra), .val (.ref rb), .val (.int rn)] [(.ref rb), (.ref ra)])) rfl (hb hby d1_6) (n := 28) (by decide) (by decide) (by decide) (by decide)
  have f5 : Exa Z h4 ra "com/example/pochta/pochta/entity/Message" := P0.ext E4
  have f6 : Fld Z h4 ra "com/example/pochta/pochta/entity/Message" "encoded" "[B" .null := P1.ext E4
  have f7 : Fld Z h4 ra "com/example/pochta/pochta/entity/Message" "format" "I" (.int (0 : Int32)) := P2.ext E4
  have f8 : Exa Z h4 rb "[B" := P3.ext E4
  have z9 : n0 ≤ h4.size := Nat.le_trans Z0 E4.1
  have K10 : Keep h0 h4 [ra] := K0.ext E4
  obtain ⟨_, _, ⟨T11, L11, k11, n11⟩, -, X11, ⟨Lc11, hQ11, l11, y11, z11⟩, st11⟩ := Jvm.LawKit.callS X4 hx (y := (⟨"java/util/Objects", "requireNonNull", "(Ljava/lang/Object;Ljava/lang/String;)Ljava/lang/Object;"⟩ : MethodName)) hown (mvT hZ (hw _ (List.mem_of_getElem? (i := 18) rfl))) (mvT hZ (hw _ (List.mem_of_getElem? (i := 19) rfl))) (mvT hZ (hw _ (List.mem_of_getElem? (i := 20) rfl))) (mvT hZ (hw _ (List.mem_of_getElem? (i := 21) rfl))) (by decide) (backOf (W := 1) (rmN l Z a0 hw [] rb sa4 h4 n0 z9 ) hZ (hw _ (List.mem_of_getElem? (i := 21) rfl)) (hw _ (List.mem_of_getElem? (i := 20) rfl)) (by decide) (by decide)) (g := (mkF m 8 #[.val (.ref ra), .val (.ref rb), .val (.int rn)] [(.ref sa4), (.ref rb), (.ref ra)])) rfl (by rw [hml]; rfl) (argsL := [(.ref rb), (.ref sa4)]) (rest := [(.ref ra)]) (lenOf pd_1 rfl) rfl (by show 2 * 0 + _ ≤ _; exact Nat.le_of_eq rfl) (hb hby d1_8) (fun _ _ => ⟨rfl, e4, (by decide : 2 + 0 ≤ _), (by decide : 32 + 0 ≤ _)⟩)
  dsimp only [Pt.U, Pt.locs, Pt.cells, Pt.slots] at X11 l11 y11 z11 st11 hQ11
  subst l11 y11 z11
  obtain ⟨rfl, N11q, e11⟩ := hQ11
  have N11 := Fr.app N0 N11q
  obtain ⟨T12, X12, e12, st12⟩ := castY X11 hx hZ hown (hw _ (List.mem_of_getElem? (i := 22) rfl)) e11 (Ins.self f8) (g := (mkF m 11 #[.val (.ref ra), .val (.ref rb), .val (.int rn)] [(.ref rb), (.ref ra)])) rfl rfl (hb hby d1_11)
  obtain ⟨T13, h13, X13, e13, W13, st13⟩ := putF X12 hx hZ hown (host := "") (Or.inl (hw _ (List.mem_of_getElem? (i := 24) rfl))) Via.refl e12 f6 f5 (Or.inr ⟨(hw _ (List.mem_of_getElem? (i := 25) rfl)), rfl, hnm⟩) (hw _ (List.mem_of_getElem? (i := 2) rfl)) (ty := (.array .byte)) (by decide) rfl rfl (g := (mkF m 14 #[.val (.ref ra), .val (.ref rb), .val (.int rn)] [(.ref rb), (.ref ra)])) rfl rfl (hb hby d1_14)
  have N13 := Fr.snoc X13 N11 g_ra
  have f14 : Exa Z h13 ra "com/example/pochta/pochta/entity/Message" := f5.wr W13
  have f15 : Fld Z h13 ra "com/example/pochta/pochta/entity/Message" "format" "I" (.int (0 : Int32)) := f7.other W13 (Or.inr (slot_ne (Or.inr (hw _ (List.mem_of_getElem? (i := 27) rfl))) (Or.inr (hw _ (List.mem_of_getElem? (i := 25) rfl))) (by decide) (t := .int) (t' := (.array .byte)) (by decide) (by decide)))
  have f16 : Exa Z h13 rb "[B" := f8.wr W13
  have z17 : n0 ≤ h13.size := Nat.le_trans z9 (Keep.of_wr W13).1
  have K18 : Keep h0 h13 [ra] := K10.wr W13 (Or.inl (List.mem_of_getElem? (i := 0) rfl))
  have hk19 : kk4 ≤ h13.size := Nat.le_trans hk4 (Keep.of_wr W13).1
  have f20 : Fld Z h13 ra "com/example/pochta/pochta/entity/Message" "encoded" "[B" (.ref rb) := f6.same W13
  have sg21 : ∀ t, Steps p.tables e below (T13.setTop (mkF m 19 #[.val (.ref ra), .val (.ref rb), .val (.int rn)] [(.int rn), (.ref ra)])) t → Steps p.tables e below (T13.setTop (mkF m 17 #[.val (.ref ra), .val (.ref rb), .val (.int rn)] [])) t := by
    intro t k
    show Steps p.tables e below (T13.setTop (mkF m 17 #[.val (.ref ra), .val (.ref rb), .val (.int rn)] [])) _
    refine XS.aloadN X13.here hx rfl (hb hby d1_17) rfl rfl ?_
    show Steps p.tables e below (T13.setTop (mkF m 18 #[.val (.ref ra), .val (.ref rb), .val (.int rn)] [(.ref ra)])) _
    refine XS.iloadN X13.here hx rfl (hb hby d1_18) rfl ?_
    exact k
  obtain ⟨T22, h22, X22, e22, W22, st22⟩ := putF X13 hx hZ hown (host := "") (Or.inl (hw _ (List.mem_of_getElem? (i := 26) rfl))) Via.refl e13 f15 f14 (Or.inr ⟨(hw _ (List.mem_of_getElem? (i := 27) rfl)), rfl, hnm⟩) (hw _ (List.mem_of_getElem? (i := 2) rfl)) (ty := .int) (by decide) rfl rfl (g := (mkF m 19 #[.val (.ref ra), .val (.ref rb), .val (.int rn)] [(.int rn), (.ref ra)])) rfl rfl (hb hby d1_19)
  have N22 := Fr.snoc X22 N13 g_ra
  have f23 : Exa Z h22 ra "com/example/pochta/pochta/entity/Message" := f14.wr W22
  have f24 : Exa Z h22 rb "[B" := f16.wr W22
  have f25 : Fld Z h22 ra "com/example/pochta/pochta/entity/Message" "encoded" "[B" (.ref rb) := f20.other W22 (Or.inr (slot_ne (Or.inr (hw _ (List.mem_of_getElem? (i := 25) rfl))) (Or.inr (hw _ (List.mem_of_getElem? (i := 27) rfl))) (by decide) (t := (.array .byte)) (t' := .int) (by decide) (by decide)))
  have z26 : n0 ≤ h22.size := Nat.le_trans z17 (Keep.of_wr W22).1
  have K27 : Keep h0 h22 [ra] := K18.wr W22 (Or.inl (List.mem_of_getElem? (i := 0) rfl))
  have hk28 : kk4 ≤ h22.size := Nat.le_trans hk19 (Keep.of_wr W22).1
  have f29 : Fld Z h22 ra "com/example/pochta/pochta/entity/Message" "format" "I" (.int rn) := f15.same W22
  obtain ⟨fs, hr, hrun, hended, hEnd⟩ := Jvm.Stand.leaveW (s := s) (vm₁ := T4.vm) X22 hS4 (by rw [e22]; exact hk28) (v := none) (fun _ => rfl) (hlocks := hlk)
  refine ⟨_, _, pre0 _ ?_, hrun, hended, _, _, rfl, ?_, hEnd.1, hEnd.2.1, hEnd.2.2.1, hEnd.2.2.2.mono (by decide) (by decide)⟩
  · show Steps p.tables e below (s₁.setTop (mkF m 0 #[.val (.ref ra), .val (.ref rb), .val (.int rn)] [])) _
    refine sg1 _ ?_
    show Steps p.tables e below (s₁.setTop (mkF m 1 #[.val (.ref ra), .val (.ref rb), .val (.int rn)] [(.ref ra)])) _
    refine st2 _ ?_
    show Steps p.tables e below (T2.setTop (mkF m 4 #[.val (.ref ra), .val (.ref rb), .val (.int rn)] [])) _
    refine sg3 _ ?_
    show Steps p.tables e below (T2.setTop (mkF m 6 #[.val (.ref ra), .val (.ref rb), .val (.int rn)] [(.ref rb), (.ref ra)])) _
    refine st4 _ ?_
    show Steps p.tables e below (T4.setTop (mkF m 8 #[.val (.ref ra), .val (.ref rb), .val (.int rn)] [(.ref sa4), (.ref rb), (.ref ra)])) _
    refine st11 _ ?_
    show Steps p.tables e below (T11.setTop (mkF m 11 #[.val (.ref ra), .val (.ref rb), .val (.int rn)] [(.ref rb), (.ref ra)])) _
    refine st12 _ ?_
    show Steps p.tables e below (T12.setTop (mkF m 14 #[.val (.ref ra), .val (.ref rb), .val (.int rn)] [(.ref rb), (.ref ra)])) _
    refine st13 _ ?_
    show Steps p.tables e below (T13.setTop (mkF m 17 #[.val (.ref ra), .val (.ref rb), .val (.int rn)] [])) _
    refine sg21 _ ?_
    show Steps p.tables e below (T13.setTop (mkF m 19 #[.val (.ref ra), .val (.ref rb), .val (.int rn)] [(.int rn), (.ref ra)])) _
    refine st22 _ ?_
    show Steps p.tables e below (T22.setTop (mkF m 22 #[.val (.ref ra), .val (.ref rb), .val (.int rn)] [])) _
    exact X22.returnOut hx Bd.returns (hb hby d1_22) hr
  · show Q_rmM Z ra rb rn h0 n0 _ T22.heap _
    rw [e22]
    exact ⟨rfl, N22, K27⟩
def Q_rmQ (Z : State) (ra : Addr) (rm : Addr) (q0 : Int64) (q1 : Int64) (q2 : Int64) (rn : Int32) (h0 : Heap) (n0 : Nat) (v : Option Value) (h : Heap) (L : List Loc) : Prop := v = none ∧ Fr n0 L ∧ Keep h0 h [ra] ∧ Fld Z h ra "com/example/pochta/pochta/entity/QueuedMessage" "enqueuedTime" "J" (.long q1) ∧ Fld Z h ra "com/example/pochta/pochta/entity/QueuedMessage" "timeToLive" "J" (.long q2)
theorem pn_2 : plainName "com/example/pochta/pochta/entity/QueuedMessage" = true := by first | (simp [plainName, overriddenIn]; done) | decide +kernel
theorem ef_rmQ (m : MethodId) (x0 : Addr) (x1 : Addr) (x2 : Int64) (x3 : Int64) (x4 : Int64) (x5 : Int32) : entryFrame m #[(.ref x0), (.ref x1), (.long x2), (.long x3), (.long x4), (.int x5), .null] 10 = mkF m 0 #[.val (.ref x0), .val (.ref x1), .val (.long x2), .second, .val (.long x3), .second, .val (.long x4), .second, .val (.int x5), .val .null] [] := by first | (simp [entryFrame, mkF, argsToLocals, Value.category]; done) | rfl
theorem d4_0 : decode prog_14_method_1_code 0 = .ok (.aload_n 0, 1) := by decide +kernel
theorem d4_1 : decode prog_14_method_1_code 1 = .ok (.invokespecial 3, 3) := by decide +kernel
theorem d4_4 : decode prog_14_method_1_code 4 = .ok (.aload_n 0, 1) := by decide +kernel
theorem d4_5 : decode prog_14_method_1_code 5 = .ok (.aload_n 1, 1) := by decide +kernel
theorem d4_6 : decode prog_14_method_1_code 6 = .ok (.ldc 9, 2) := by decide +kernel
theorem d4_8 : decode prog_14_method_1_code 8 = .ok (.invokestatic 11, 3) := by decide +kernel
theorem d4_11 : decode prog_14_method_1_code 11 = .ok (.checkcast 17, 3) := by decide +kernel
theorem d4_14 : decode prog_14_method_1_code 14 = .ok (.putfield 19, 3) := by decide +kernel
theorem d4_17 : decode prog_14_method_1_code 17 = .ok (.aload_n 0, 1) := by decide +kernel
theorem d4_18 : decode prog_14_method_1_code 18 = .ok (.lload_n 2, 1) := by decide +kernel
theorem d4_19 : decode prog_14_method_1_code 19 = .ok (.putfield 24, 3) := by decide +kernel
theorem d4_22 : decode prog_14_method_1_code 22 = .ok (.aload_n 0, 1) := by decide +kernel
theorem d4_23 : decode prog_14_method_1_code 23 = .ok (.lload 4, 2) := by decide +kernel
theorem d4_25 : decode prog_14_method_1_code 25 = .ok (.putfield 28, 3) := by decide +kernel
theorem d4_28 : decode prog_14_method_1_code 28 = .ok (.aload_n 0, 1) := by decide +kernel
theorem d4_29 : decode prog_14_method_1_code 29 = .ok (.lload 6, 2) := by decide +kernel
theorem d4_31 : decode prog_14_method_1_code 31 = .ok (.putfield 31, 3) := by decide +kernel
theorem d4_34 : decode prog_14_method_1_code 34 = .ok (.aload_n 0, 1) := by decide +kernel
theorem d4_35 : decode prog_14_method_1_code 35 = .ok (.iload 8, 2) := by decide +kernel
theorem d4_37 : decode prog_14_method_1_code 37 = .ok (.putfield 34, 3) := by decide +kernel
theorem d4_40 : decode prog_14_method_1_code 40 = .ok (.aload_n 0, 1) := by decide +kernel
theorem d4_41 : decode prog_14_method_1_code 41 = .ok (.aload 9, 2) := by decide +kernel
theorem d4_43 : decode prog_14_method_1_code 43 = .ok (.putfield 38, 3) := by decide +kernel
theorem d4_46 : decode prog_14_method_1_code 46 = .ok (.return_, 1) := by decide +kernel
set_option maxRecDepth 65536 in
set_option maxHeartbeats 40000000 in
theorem rmQ (l : Launch) (Z : State) (a0 : Array Value) (hw : ∀ d ∈ tables_1, d.before a0 Z = true) (ws : List Jvm.Cond) (ra : Addr) (rm : Addr) (q0 : Int64) (q1 : Int64) (q2 : Int64) (rn : Int32)  (h0 : Heap) (n0 : Nat) (Z0 : n0 ≤ h0.size) (P0 : Exa Z h0 ra "com/example/pochta/pochta/entity/QueuedMessage") (P1 : Fld Z h0 ra "com/example/pochta/pochta/entity/QueuedMessage" "message" "Lcom/example/pochta/pochta/entity/Message;" .null) (P2 : Fld Z h0 ra "com/example/pochta/pochta/entity/QueuedMessage" "sequenceNumber" "J" (.long (0 : Int64))) (P3 : Fld Z h0 ra "com/example/pochta/pochta/entity/QueuedMessage" "enqueuedTime" "J" (.long (0 : Int64))) (P4 : Fld Z h0 ra "com/example/pochta/pochta/entity/QueuedMessage" "timeToLive" "J" (.long (0 : Int64))) (P5 : Fld Z h0 ra "com/example/pochta/pochta/entity/QueuedMessage" "deliveryCount" "I" (.int (0 : Int32))) (P6 : Fld Z h0 ra "com/example/pochta/pochta/entity/QueuedMessage" "deadLettering" "Lcom/example/pochta/pochta/entity/DeadLettering;" .null) (P7 : Exa Z h0 rm "com/example/pochta/pochta/entity/Message") (g_ra : n0 ≤ ra) (ne_ra_rm : ra ≠ rm) :
    MetFree l (⟨"com/example/pochta/pochta/entity/QueuedMessage", "<init>", "(Lcom/example/pochta/pochta/entity/Message;JJJILcom/example/pochta/pochta/entity/DeadLettering;)V"⟩ : MethodName) (head1 (Jvm.Cond.code (⟨"com/example/pochta/pochta/entity/QueuedMessage", "<init>", "(Lcom/example/pochta/pochta/entity/Message;JJJILcom/example/pochta/pochta/entity/DeadLettering;)V"⟩ : MethodName) prog_14_method_1_code 10 none :: ws) ({ frames := 1, cells := 2, slots := 32, locals := 14 } : Room)) (fun a U => a = #[(.ref ra), (.ref rm), (.long q0), (.long q1), (.long q2), (.int rn), .null] ∧ Z.Warmed39 U.vm ∧ U.heap = h0) (fun _ _ _ _ _ => True) (fun _ U o U' => ∃ v L, o = .returned v ∧ Q_rmQ Z ra rm q0 q1 q2 rn h0 n0 v U'.heap L ∧ ReturnedEndW U o U' L ({ frames := 1, cells := 2, slots := 32, locals := 14 } : Room).cells ({ frames := 1, cells := 2, slots := 32, locals := 14 } : Room).slots) := by
  refine MetFree.of_bodySF (plainFor_of_name pn_2) hisR ?_
  intro p e s m args below meth c s₁ Bd hml0 hP hK
  obtain ⟨rfl, hZ, hh⟩ := hP
  have hx := Bd.exec
  have hby := Bd.bytes
  have hml : c.maxLocals = 10 := hml0
  have hown : s.vm.findClass "com/example/pochta/pochta/entity/QueuedMessage" = some m.cls := findClass_of_methodNamed Bd.named
  have hnm := (name_of_methodNamed Bd.named Bd.method).1
  have hlk : meth.locks = false := by first | exact BodyLoose.notSynchronized Bd | exact Body.notSynchronized Bd
  have X0 : Stand p l e ({ frames := 1, cells := 2, slots := 32, locals := 14 } : Room) s m #[(.ref ra), (.ref rm), (.long q0), (.long q1), (.long q2), (.int rn), .null] below meth c s₁ [] 0 0 := Stand.of_body Bd
  have e0 : s₁.heap = h0 := by rw [← hh, Bd.state]; rfl
  have N0 := Fr.nil n0
  have pre0 : ∀ t, Steps p.tables e below (s₁.setTop (mkF m 0 #[.val (.ref ra), .val (.ref rm), .val (.long q0), .second, .val (.long q1), .second, .val (.long q2), .second, .val (.int rn), .val .null] [])) t → Steps p.tables e below (s₁.setTop (entryFrame m #[(.ref ra), (.ref rm), (.long q0), (.long q1), (.long q2), (.int rn), .null] 10)) t := fun t k => castTop (ef_rmQ m ra rm q0 q1 q2 rn) k
  have K0 : Keep h0 h0 [ra] := Keep.refl h0 [ra]
  have wS : ∀ a ∈ Bundle.stringAtoms, a.before a0 Z = true := by
    intro a ha
    simp only [Bundle.stringAtoms, List.mem_cons, List.not_mem_nil, or_false] at ha
    rcases ha with rfl | rfl | rfl | rfl | rfl | rfl | rfl
    · exact hw _ (List.mem_of_getElem? (i := 12) rfl)
    · exact hw _ (List.mem_of_getElem? (i := 13) rfl)
    · exact hw _ (List.mem_of_getElem? (i := 4) rfl)
    · exact hw _ (List.mem_of_getElem? (i := 14) rfl)
    · exact hw _ (List.mem_of_getElem? (i := 15) rfl)
    · exact hw _ (List.mem_of_getElem? (i := 16) rfl)
    · exact hw _ (List.mem_of_getElem? (i := 17) rfl)
  have sg1 : ∀ t, Steps p.tables e below (s₁.setTop (mkF m 1 #[.val (.ref ra), .val (.ref rm), .val (.long q0), .second, .val (.long q1), .second, .val (.long q2), .second, .val (.int rn), .val .null] [(.ref ra)])) t → Steps p.tables e below (s₁.setTop (mkF m 0 #[.val (.ref ra), .val (.ref rm), .val (.long q0), .second, .val (.long q1), .second, .val (.long q2), .second, .val (.int rn), .val .null] [])) t := by
    intro t k
    show Steps p.tables e below (s₁.setTop (mkF m 0 #[.val (.ref ra), .val (.ref rm), .val (.long q0), .second, .val (.long q1), .second, .val (.long q2), .second, .val (.int rn), .val .null] [])) _
    refine XS.aloadN X0.here hx rfl (hb hby d4_0) rfl rfl ?_
    exact k
  obtain ⟨T2, X2, e2, st2⟩ := initO X0 hx hZ hown (hw _ (List.mem_of_getElem? (i := 34) rfl)) (hw _ (List.mem_of_getElem? (i := 9) rfl)) (hw _ (List.mem_of_getElem? (i := 10) rfl)) e0 (g := (mkF m 1 #[.val (.ref ra), .val (.ref rm), .val (.long q0), .second, .val (.long q1), .second, .val (.long q2), .second, .val (.int rn), .val .null] [(.ref ra)])) rfl (by rw [hml]; rfl) rfl (hb hby d4_1) (by decide) (W := 0) (by show 2 * 0 + _ ≤ _; exact Nat.le_of_eq rfl) (by decide)
  have sg3 : ∀ t, Steps p.tables e below (T2.setTop (mkF m 6 #[.val (.ref ra), .val (.ref rm), .val (.long q0), .second, .val (.long q1), .second, .val (.long q2), .second, .val (.int rn), .val .null] [(.ref rm), (.ref ra)])) t → Steps p.tables e below (T2.setTop (mkF m 4 #[.val (.ref ra), .val (.ref rm), .val (.long q0), .second, .val (.long q1), .second, .val (.long q2), .second, .val (.int rn), .val .null] [])) t := by
    intro t k
    show Steps p.tables e below (T2.setTop (mkF m 4 #[.val (.ref ra), .val (.ref rm), .val (.long q0), .second, .val (.long q1), .second, .val (.long q2), .second, .val (.int rn), .val .null] [])) _
    refine XS.aloadN X2.here hx rfl (hb hby d4_4) rfl rfl ?_
    show Steps p.tables e below (T2.setTop (mkF m 5 #[.val (.ref ra), .val (.ref rm), .val (.long q0), .second, .val (.long q1), .second, .val (.long q2), .second, .val (.int rn), .val .null] [(.ref ra)])) _
    refine XS.aloadN X2.here hx rfl (hb hby d4_5) rfl rfl ?_
    exact k
  have hS0 : s.Since s.vm h0.size := (State.WarmedH.refl s).since _
  obtain ⟨sa4, T4, h4, kk4, X4, e4, E4, hS4, hk4, hZ, hown, st4⟩ := ldcS (s := s) (vm0 := s.vm) X2 hx hZ hown (hw _ (List.mem_of_getElem? (i := 35) rfl)) wS e2 hS0 (Nat.le_refl _) (g := (mkF m 6 #[.val (.ref ra), .val (.ref rm), .val (.long q0), .second, .val (.long q1), .second, .val (.long q2), .second, .val (.int rn), .val .null] [(.ref rm), (.ref ra)])) rfl (hb hby d4_6) (n := 28) (by decide) (by decide) (by decide) (by decide)
  have f5 : Exa Z h4 ra "com/example/pochta/pochta/entity/QueuedMessage" := P0.ext E4
  have f6 : Fld Z h4 ra "com/example/pochta/pochta/entity/QueuedMessage" "message" "Lcom/example/pochta/pochta/entity/Message;" .null := P1.ext E4
  have f7 : Fld Z h4 ra "com/example/pochta/pochta/entity/QueuedMessage" "sequenceNumber" "J" (.long (0 : Int64)) := P2.ext E4
  have f8 : Fld Z h4 ra "com/example/pochta/pochta/entity/QueuedMessage" "enqueuedTime" "J" (.long (0 : Int64)) := P3.ext E4
  have f9 : Fld Z h4 ra "com/example/pochta/pochta/entity/QueuedMessage" "timeToLive" "J" (.long (0 : Int64)) := P4.ext E4
  have f10 : Fld Z h4 ra "com/example/pochta/pochta/entity/QueuedMessage" "deliveryCount" "I" (.int (0 : Int32)) := P5.ext E4
  have f11 : Fld Z h4 ra "com/example/pochta/pochta/entity/QueuedMessage" "deadLettering" "Lcom/example/pochta/pochta/entity/DeadLettering;" .null := P6.ext E4
  have f12 : Exa Z h4 rm "com/example/pochta/pochta/entity/Message" := P7.ext E4
  have z13 : n0 ≤ h4.size := Nat.le_trans Z0 E4.1
  have K14 : Keep h0 h4 [ra] := K0.ext E4
  obtain ⟨_, _, ⟨T15, L15, k15, n15⟩, -, X15, ⟨Lc15, hQ15, l15, y15, z15⟩, st15⟩ := Jvm.LawKit.callS X4 hx (y := (⟨"java/util/Objects", "requireNonNull", "(Ljava/lang/Object;Ljava/lang/String;)Ljava/lang/Object;"⟩ : MethodName)) hown (mvT hZ (hw _ (List.mem_of_getElem? (i := 36) rfl))) (mvT hZ (hw _ (List.mem_of_getElem? (i := 19) rfl))) (mvT hZ (hw _ (List.mem_of_getElem? (i := 20) rfl))) (mvT hZ (hw _ (List.mem_of_getElem? (i := 21) rfl))) (by decide) (backOf (W := 1) (rmN l Z a0 hw [] rm sa4 h4 n0 z13 ) hZ (hw _ (List.mem_of_getElem? (i := 21) rfl)) (hw _ (List.mem_of_getElem? (i := 20) rfl)) (by decide) (by decide)) (g := (mkF m 8 #[.val (.ref ra), .val (.ref rm), .val (.long q0), .second, .val (.long q1), .second, .val (.long q2), .second, .val (.int rn), .val .null] [(.ref sa4), (.ref rm), (.ref ra)])) rfl (by rw [hml]; rfl) (argsL := [(.ref rm), (.ref sa4)]) (rest := [(.ref ra)]) (lenOf pd_1 rfl) rfl (by show 2 * 0 + _ ≤ _; exact Nat.le_of_eq rfl) (hb hby d4_8) (fun _ _ => ⟨rfl, e4, (by decide : 2 + 0 ≤ _), (by decide : 32 + 0 ≤ _)⟩)
  dsimp only [Pt.U, Pt.locs, Pt.cells, Pt.slots] at X15 l15 y15 z15 st15 hQ15
  subst l15 y15 z15
  obtain ⟨rfl, N15q, e15⟩ := hQ15
  have N15 := Fr.app N0 N15q
  obtain ⟨T16, X16, e16, st16⟩ := castY X15 hx hZ hown (hw _ (List.mem_of_getElem? (i := 37) rfl)) e15 (Ins.self f12) (g := (mkF m 11 #[.val (.ref ra), .val (.ref rm), .val (.long q0), .second, .val (.long q1), .second, .val (.long q2), .second, .val (.int rn), .val .null] [(.ref rm), (.ref ra)])) rfl rfl (hb hby d4_11)
  obtain ⟨T17, h17, X17, e17, W17, st17⟩ := putF X16 hx hZ hown (host := "") (Or.inl (hw _ (List.mem_of_getElem? (i := 39) rfl))) Via.refl e16 f6 f5 (Or.inr ⟨(hw _ (List.mem_of_getElem? (i := 40) rfl)), rfl, hnm⟩) (hw _ (List.mem_of_getElem? (i := 29) rfl)) (ty := (.object "com/example/pochta/pochta/entity/Message")) (by decide) rfl rfl (g := (mkF m 14 #[.val (.ref ra), .val (.ref rm), .val (.long q0), .second, .val (.long q1), .second, .val (.long q2), .second, .val (.int rn), .val .null] [(.ref rm), (.ref ra)])) rfl rfl (hb hby d4_14)
  have N17 := Fr.snoc X17 N15 g_ra
  have f18 : Exa Z h17 ra "com/example/pochta/pochta/entity/QueuedMessage" := f5.wr W17
  have f19 : Fld Z h17 ra "com/example/pochta/pochta/entity/QueuedMessage" "sequenceNumber" "J" (.long (0 : Int64)) := f7.other W17 (Or.inr (slot_ne (Or.inr (hw _ (List.mem_of_getElem? (i := 42) rfl))) (Or.inr (hw _ (List.mem_of_getElem? (i := 40) rfl))) (by decide) (t := .long) (t' := (.object "com/example/pochta/pochta/entity/Message")) (by decide) (by decide)))
  have f20 : Fld Z h17 ra "com/example/pochta/pochta/entity/QueuedMessage" "enqueuedTime" "J" (.long (0 : Int64)) := f8.other W17 (Or.inr (slot_ne (Or.inr (hw _ (List.mem_of_getElem? (i := 44) rfl))) (Or.inr (hw _ (List.mem_of_getElem? (i := 40) rfl))) (by decide) (t := .long) (t' := (.object "com/example/pochta/pochta/entity/Message")) (by decide) (by decide)))
  have f21 : Fld Z h17 ra "com/example/pochta/pochta/entity/QueuedMessage" "timeToLive" "J" (.long (0 : Int64)) := f9.other W17 (Or.inr (slot_ne (Or.inr (hw _ (List.mem_of_getElem? (i := 46) rfl))) (Or.inr (hw _ (List.mem_of_getElem? (i := 40) rfl))) (by decide) (t := .long) (t' := (.object "com/example/pochta/pochta/entity/Message")) (by decide) (by decide)))
  have f22 : Fld Z h17 ra "com/example/pochta/pochta/entity/QueuedMessage" "deliveryCount" "I" (.int (0 : Int32)) := f10.other W17 (Or.inr (slot_ne (Or.inl (hw _ (List.mem_of_getElem? (i := 48) rfl))) (Or.inr (hw _ (List.mem_of_getElem? (i := 40) rfl))) (by decide) (t := .int) (t' := (.object "com/example/pochta/pochta/entity/Message")) (by decide) (by decide)))
  have f23 : Fld Z h17 ra "com/example/pochta/pochta/entity/QueuedMessage" "deadLettering" "Lcom/example/pochta/pochta/entity/DeadLettering;" .null := f11.other W17 (Or.inr (slot_ne (Or.inr (hw _ (List.mem_of_getElem? (i := 50) rfl))) (Or.inr (hw _ (List.mem_of_getElem? (i := 40) rfl))) (by decide) (t := (.object "com/example/pochta/pochta/entity/DeadLettering")) (t' := (.object "com/example/pochta/pochta/entity/Message")) (by decide) (by decide)))
  have f24 : Exa Z h17 rm "com/example/pochta/pochta/entity/Message" := f12.wr W17
  have z25 : n0 ≤ h17.size := Nat.le_trans z13 (Keep.of_wr W17).1
  have K26 : Keep h0 h17 [ra] := K14.wr W17 (Or.inl (List.mem_of_getElem? (i := 0) rfl))
  have hk27 : kk4 ≤ h17.size := Nat.le_trans hk4 (Keep.of_wr W17).1
  have f28 : Fld Z h17 ra "com/example/pochta/pochta/entity/QueuedMessage" "message" "Lcom/example/pochta/pochta/entity/Message;" (.ref rm) := f6.same W17
  have sg29 : ∀ t, Steps p.tables e below (T17.setTop (mkF m 19 #[.val (.ref ra), .val (.ref rm), .val (.long q0), .second, .val (.long q1), .second, .val (.long q2), .second, .val (.int rn), .val .null] [(.long q0), (.ref ra)])) t → Steps p.tables e below (T17.setTop (mkF m 17 #[.val (.ref ra), .val (.ref rm), .val (.long q0), .second, .val (.long q1), .second, .val (.long q2), .second, .val (.int rn), .val .null] [])) t := by
    intro t k
    show Steps p.tables e below (T17.setTop (mkF m 17 #[.val (.ref ra), .val (.ref rm), .val (.long q0), .second, .val (.long q1), .second, .val (.long q2), .second, .val (.int rn), .val .null] [])) _
    refine XS.aloadN X17.here hx rfl (hb hby d4_17) rfl rfl ?_
    show Steps p.tables e below (T17.setTop (mkF m 18 #[.val (.ref ra), .val (.ref rm), .val (.long q0), .second, .val (.long q1), .second, .val (.long q2), .second, .val (.int rn), .val .null] [(.ref ra)])) _
    refine XS.lloadN X17.here hx rfl (hb hby d4_18) rfl ?_
    exact k
  obtain ⟨T30, h30, X30, e30, W30, st30⟩ := putF X17 hx hZ hown (host := "") (Or.inl (hw _ (List.mem_of_getElem? (i := 41) rfl))) Via.refl e17 f19 f18 (Or.inr ⟨(hw _ (List.mem_of_getElem? (i := 42) rfl)), rfl, hnm⟩) (hw _ (List.mem_of_getElem? (i := 29) rfl)) (ty := .long) (by decide) rfl rfl (g := (mkF m 19 #[.val (.ref ra), .val (.ref rm), .val (.long q0), .second, .val (.long q1), .second, .val (.long q2), .second, .val (.int rn), .val .null] [(.long q0), (.ref ra)])) rfl rfl (hb hby d4_19)
  have N30 := Fr.snoc X30 N17 g_ra
  have f31 : Exa Z h30 ra "com/example/pochta/pochta/entity/QueuedMessage" := f18.wr W30
  have f32 : Fld Z h30 ra "com/example/pochta/pochta/entity/QueuedMessage" "enqueuedTime" "J" (.long (0 : Int64)) := f20.other W30 (Or.inr (slot_ne (Or.inr (hw _ (List.mem_of_getElem? (i := 44) rfl))) (Or.inr (hw _ (List.mem_of_getElem? (i := 42) rfl))) (by decide) (t := .long) (t' := .long) (by decide) (by decide)))
  have f33 : Fld Z h30 ra "com/example/pochta/pochta/entity/QueuedMessage" "timeToLive" "J" (.long (0 : Int64)) := f21.other W30 (Or.inr (slot_ne (Or.inr (hw _ (List.mem_of_getElem? (i := 46) rfl))) (Or.inr (hw _ (List.mem_of_getElem? (i := 42) rfl))) (by decide) (t := .long) (t' := .long) (by decide) (by decide)))
  have f34 : Fld Z h30 ra "com/example/pochta/pochta/entity/QueuedMessage" "deliveryCount" "I" (.int (0 : Int32)) := f22.other W30 (Or.inr (slot_ne (Or.inl (hw _ (List.mem_of_getElem? (i := 48) rfl))) (Or.inr (hw _ (List.mem_of_getElem? (i := 42) rfl))) (by decide) (t := .int) (t' := .long) (by decide) (by decide)))
  have f35 : Fld Z h30 ra "com/example/pochta/pochta/entity/QueuedMessage" "deadLettering" "Lcom/example/pochta/pochta/entity/DeadLettering;" .null := f23.other W30 (Or.inr (slot_ne (Or.inr (hw _ (List.mem_of_getElem? (i := 50) rfl))) (Or.inr (hw _ (List.mem_of_getElem? (i := 42) rfl))) (by decide) (t := (.object "com/example/pochta/pochta/entity/DeadLettering")) (t' := .long) (by decide) (by decide)))
  have f36 : Exa Z h30 rm "com/example/pochta/pochta/entity/Message" := f24.wr W30
  have f37 : Fld Z h30 ra "com/example/pochta/pochta/entity/QueuedMessage" "message" "Lcom/example/pochta/pochta/entity/Message;" (.ref rm) := f28.other W30 (Or.inr (slot_ne (Or.inr (hw _ (List.mem_of_getElem? (i := 40) rfl))) (Or.inr (hw _ (List.mem_of_getElem? (i := 42) rfl))) (by decide) (t := (.object "com/example/pochta/pochta/entity/Message")) (t' := .long) (by decide) (by decide)))
  have z38 : n0 ≤ h30.size := Nat.le_trans z25 (Keep.of_wr W30).1
  have K39 : Keep h0 h30 [ra] := K26.wr W30 (Or.inl (List.mem_of_getElem? (i := 0) rfl))
  have hk40 : kk4 ≤ h30.size := Nat.le_trans hk27 (Keep.of_wr W30).1
  have f41 : Fld Z h30 ra "com/example/pochta/pochta/entity/QueuedMessage" "sequenceNumber" "J" (.long q0) := f19.same W30
  have sg42 : ∀ t, Steps p.tables e below (T30.setTop (mkF m 25 #[.val (.ref ra), .val (.ref rm), .val (.long q0), .second, .val (.long q1), .second, .val (.long q2), .second, .val (.int rn), .val .null] [(.long q1), (.ref ra)])) t → Steps p.tables e below (T30.setTop (mkF m 22 #[.val (.ref ra), .val (.ref rm), .val (.long q0), .second, .val (.long q1), .second, .val (.long q2), .second, .val (.int rn), .val .null] [])) t := by
    intro t k
    show Steps p.tables e below (T30.setTop (mkF m 22 #[.val (.ref ra), .val (.ref rm), .val (.long q0), .second, .val (.long q1), .second, .val (.long q2), .second, .val (.int rn), .val .null] [])) _
    refine XS.aloadN X30.here hx rfl (hb hby d4_22) rfl rfl ?_
    show Steps p.tables e below (T30.setTop (mkF m 23 #[.val (.ref ra), .val (.ref rm), .val (.long q0), .second, .val (.long q1), .second, .val (.long q2), .second, .val (.int rn), .val .null] [(.ref ra)])) _
    refine XS.lload X30.here hx rfl (hb hby d4_23) rfl ?_
    exact k
  obtain ⟨T43, h43, X43, e43, W43, st43⟩ := putF X30 hx hZ hown (host := "") (Or.inl (hw _ (List.mem_of_getElem? (i := 43) rfl))) Via.refl e30 f32 f31 (Or.inr ⟨(hw _ (List.mem_of_getElem? (i := 44) rfl)), rfl, hnm⟩) (hw _ (List.mem_of_getElem? (i := 29) rfl)) (ty := .long) (by decide) rfl rfl (g := (mkF m 25 #[.val (.ref ra), .val (.ref rm), .val (.long q0), .second, .val (.long q1), .second, .val (.long q2), .second, .val (.int rn), .val .null] [(.long q1), (.ref ra)])) rfl rfl (hb hby d4_25)
  have N43 := Fr.snoc X43 N30 g_ra
  have f44 : Exa Z h43 ra "com/example/pochta/pochta/entity/QueuedMessage" := f31.wr W43
  have f45 : Fld Z h43 ra "com/example/pochta/pochta/entity/QueuedMessage" "timeToLive" "J" (.long (0 : Int64)) := f33.other W43 (Or.inr (slot_ne (Or.inr (hw _ (List.mem_of_getElem? (i := 46) rfl))) (Or.inr (hw _ (List.mem_of_getElem? (i := 44) rfl))) (by decide) (t := .long) (t' := .long) (by decide) (by decide)))
  have f46 : Fld Z h43 ra "com/example/pochta/pochta/entity/QueuedMessage" "deliveryCount" "I" (.int (0 : Int32)) := f34.other W43 (Or.inr (slot_ne (Or.inl (hw _ (List.mem_of_getElem? (i := 48) rfl))) (Or.inr (hw _ (List.mem_of_getElem? (i := 44) rfl))) (by decide) (t := .int) (t' := .long) (by decide) (by decide)))
  have f47 : Fld Z h43 ra "com/example/pochta/pochta/entity/QueuedMessage" "deadLettering" "Lcom/example/pochta/pochta/entity/DeadLettering;" .null := f35.other W43 (Or.inr (slot_ne (Or.inr (hw _ (List.mem_of_getElem? (i := 50) rfl))) (Or.inr (hw _ (List.mem_of_getElem? (i := 44) rfl))) (by decide) (t := (.object "com/example/pochta/pochta/entity/DeadLettering")) (t' := .long) (by decide) (by decide)))
  have f48 : Exa Z h43 rm "com/example/pochta/pochta/entity/Message" := f36.wr W43
  have f49 : Fld Z h43 ra "com/example/pochta/pochta/entity/QueuedMessage" "message" "Lcom/example/pochta/pochta/entity/Message;" (.ref rm) := f37.other W43 (Or.inr (slot_ne (Or.inr (hw _ (List.mem_of_getElem? (i := 40) rfl))) (Or.inr (hw _ (List.mem_of_getElem? (i := 44) rfl))) (by decide) (t := (.object "com/example/pochta/pochta/entity/Message")) (t' := .long) (by decide) (by decide)))
  have f50 : Fld Z h43 ra "com/example/pochta/pochta/entity/QueuedMessage" "sequenceNumber" "J" (.long q0) := f41.other W43 (Or.inr (slot_ne (Or.inr (hw _ (List.mem_of_getElem? (i := 42) rfl))) (Or.inr (hw _ (List.mem_of_getElem? (i := 44) rfl))) (by decide) (t := .long) (t' := .long) (by decide) (by decide)))
  have z51 : n0 ≤ h43.size := Nat.le_trans z38 (Keep.of_wr W43).1
  have K52 : Keep h0 h43 [ra] := K39.wr W43 (Or.inl (List.mem_of_getElem? (i := 0) rfl))
  have hk53 : kk4 ≤ h43.size := Nat.le_trans hk40 (Keep.of_wr W43).1
  have f54 : Fld Z h43 ra "com/example/pochta/pochta/entity/QueuedMessage" "enqueuedTime" "J" (.long q1) := f32.same W43
  have sg55 : ∀ t, Steps p.tables e below (T43.setTop (mkF m 31 #[.val (.ref ra), .val (.ref rm), .val (.long q0), .second, .val (.long q1), .second, .val (.long q2), .second, .val (.int rn), .val .null] [(.long q2), (.ref ra)])) t → Steps p.tables e below (T43.setTop (mkF m 28 #[.val (.ref ra), .val (.ref rm), .val (.long q0), .second, .val (.long q1), .second, .val (.long q2), .second, .val (.int rn), .val .null] [])) t := by
    intro t k
    show Steps p.tables e below (T43.setTop (mkF m 28 #[.val (.ref ra), .val (.ref rm), .val (.long q0), .second, .val (.long q1), .second, .val (.long q2), .second, .val (.int rn), .val .null] [])) _
    refine XS.aloadN X43.here hx rfl (hb hby d4_28) rfl rfl ?_
    show Steps p.tables e below (T43.setTop (mkF m 29 #[.val (.ref ra), .val (.ref rm), .val (.long q0), .second, .val (.long q1), .second, .val (.long q2), .second, .val (.int rn), .val .null] [(.ref ra)])) _
    refine XS.lload X43.here hx rfl (hb hby d4_29) rfl ?_
    exact k
  obtain ⟨T56, h56, X56, e56, W56, st56⟩ := putF X43 hx hZ hown (host := "") (Or.inl (hw _ (List.mem_of_getElem? (i := 45) rfl))) Via.refl e43 f45 f44 (Or.inr ⟨(hw _ (List.mem_of_getElem? (i := 46) rfl)), rfl, hnm⟩) (hw _ (List.mem_of_getElem? (i := 29) rfl)) (ty := .long) (by decide) rfl rfl (g := (mkF m 31 #[.val (.ref ra), .val (.ref rm), .val (.long q0), .second, .val (.long q1), .second, .val (.long q2), .second, .val (.int rn), .val .null] [(.long q2), (.ref ra)])) rfl rfl (hb hby d4_31)
  have N56 := Fr.snoc X56 N43 g_ra
  have f57 : Exa Z h56 ra "com/example/pochta/pochta/entity/QueuedMessage" := f44.wr W56
  have f58 : Fld Z h56 ra "com/example/pochta/pochta/entity/QueuedMessage" "deliveryCount" "I" (.int (0 : Int32)) := f46.other W56 (Or.inr (slot_ne (Or.inl (hw _ (List.mem_of_getElem? (i := 48) rfl))) (Or.inr (hw _ (List.mem_of_getElem? (i := 46) rfl))) (by decide) (t := .int) (t' := .long) (by decide) (by decide)))
  have f59 : Fld Z h56 ra "com/example/pochta/pochta/entity/QueuedMessage" "deadLettering" "Lcom/example/pochta/pochta/entity/DeadLettering;" .null := f47.other W56 (Or.inr (slot_ne (Or.inr (hw _ (List.mem_of_getElem? (i := 50) rfl))) (Or.inr (hw _ (List.mem_of_getElem? (i := 46) rfl))) (by decide) (t := (.object "com/example/pochta/pochta/entity/DeadLettering")) (t' := .long) (by decide) (by decide)))
  have f60 : Exa Z h56 rm "com/example/pochta/pochta/entity/Message" := f48.wr W56
  have f61 : Fld Z h56 ra "com/example/pochta/pochta/entity/QueuedMessage" "message" "Lcom/example/pochta/pochta/entity/Message;" (.ref rm) := f49.other W56 (Or.inr (slot_ne (Or.inr (hw _ (List.mem_of_getElem? (i := 40) rfl))) (Or.inr (hw _ (List.mem_of_getElem? (i := 46) rfl))) (by decide) (t := (.object "com/example/pochta/pochta/entity/Message")) (t' := .long) (by decide) (by decide)))
  have f62 : Fld Z h56 ra "com/example/pochta/pochta/entity/QueuedMessage" "sequenceNumber" "J" (.long q0) := f50.other W56 (Or.inr (slot_ne (Or.inr (hw _ (List.mem_of_getElem? (i := 42) rfl))) (Or.inr (hw _ (List.mem_of_getElem? (i := 46) rfl))) (by decide) (t := .long) (t' := .long) (by decide) (by decide)))
  have f63 : Fld Z h56 ra "com/example/pochta/pochta/entity/QueuedMessage" "enqueuedTime" "J" (.long q1) := f54.other W56 (Or.inr (slot_ne (Or.inr (hw _ (List.mem_of_getElem? (i := 44) rfl))) (Or.inr (hw _ (List.mem_of_getElem? (i := 46) rfl))) (by decide) (t := .long) (t' := .long) (by decide) (by decide)))
  have z64 : n0 ≤ h56.size := Nat.le_trans z51 (Keep.of_wr W56).1
  have K65 : Keep h0 h56 [ra] := K52.wr W56 (Or.inl (List.mem_of_getElem? (i := 0) rfl))
  have hk66 : kk4 ≤ h56.size := Nat.le_trans hk53 (Keep.of_wr W56).1
  have f67 : Fld Z h56 ra "com/example/pochta/pochta/entity/QueuedMessage" "timeToLive" "J" (.long q2) := f45.same W56
  have sg68 : ∀ t, Steps p.tables e below (T56.setTop (mkF m 37 #[.val (.ref ra), .val (.ref rm), .val (.long q0), .second, .val (.long q1), .second, .val (.long q2), .second, .val (.int rn), .val .null] [(.int rn), (.ref ra)])) t → Steps p.tables e below (T56.setTop (mkF m 34 #[.val (.ref ra), .val (.ref rm), .val (.long q0), .second, .val (.long q1), .second, .val (.long q2), .second, .val (.int rn), .val .null] [])) t := by
    intro t k
    show Steps p.tables e below (T56.setTop (mkF m 34 #[.val (.ref ra), .val (.ref rm), .val (.long q0), .second, .val (.long q1), .second, .val (.long q2), .second, .val (.int rn), .val .null] [])) _
    refine XS.aloadN X56.here hx rfl (hb hby d4_34) rfl rfl ?_
    show Steps p.tables e below (T56.setTop (mkF m 35 #[.val (.ref ra), .val (.ref rm), .val (.long q0), .second, .val (.long q1), .second, .val (.long q2), .second, .val (.int rn), .val .null] [(.ref ra)])) _
    refine XS.iload X56.here hx rfl (hb hby d4_35) rfl ?_
    exact k
  obtain ⟨T69, h69, X69, e69, W69, st69⟩ := putF X56 hx hZ hown (host := "") (Or.inl (hw _ (List.mem_of_getElem? (i := 47) rfl))) Via.refl e56 f58 f57 (Or.inl (hw _ (List.mem_of_getElem? (i := 48) rfl))) (hw _ (List.mem_of_getElem? (i := 29) rfl)) (ty := .int) (by decide) rfl rfl (g := (mkF m 37 #[.val (.ref ra), .val (.ref rm), .val (.long q0), .second, .val (.long q1), .second, .val (.long q2), .second, .val (.int rn), .val .null] [(.int rn), (.ref ra)])) rfl rfl (hb hby d4_37)
  have N69 := Fr.snoc X69 N56 g_ra
  have f70 : Exa Z h69 ra "com/example/pochta/pochta/entity/QueuedMessage" := f57.wr W69
  have f71 : Fld Z h69 ra "com/example/pochta/pochta/entity/QueuedMessage" "deadLettering" "Lcom/example/pochta/pochta/entity/DeadLettering;" .null := f59.other W69 (Or.inr (slot_ne (Or.inr (hw _ (List.mem_of_getElem? (i := 50) rfl))) (Or.inl (hw _ (List.mem_of_getElem? (i := 48) rfl))) (by decide) (t := (.object "com/example/pochta/pochta/entity/DeadLettering")) (t' := .int) (by decide) (by decide)))
  have f72 : Exa Z h69 rm "com/example/pochta/pochta/entity/Message" := f60.wr W69
  have f73 : Fld Z h69 ra "com/example/pochta/pochta/entity/QueuedMessage" "message" "Lcom/example/pochta/pochta/entity/Message;" (.ref rm) := f61.other W69 (Or.inr (slot_ne (Or.inr (hw _ (List.mem_of_getElem? (i := 40) rfl))) (Or.inl (hw _ (List.mem_of_getElem? (i := 48) rfl))) (by decide) (t := (.object "com/example/pochta/pochta/entity/Message")) (t' := .int) (by decide) (by decide)))
  have f74 : Fld Z h69 ra "com/example/pochta/pochta/entity/QueuedMessage" "sequenceNumber" "J" (.long q0) := f62.other W69 (Or.inr (slot_ne (Or.inr (hw _ (List.mem_of_getElem? (i := 42) rfl))) (Or.inl (hw _ (List.mem_of_getElem? (i := 48) rfl))) (by decide) (t := .long) (t' := .int) (by decide) (by decide)))
  have f75 : Fld Z h69 ra "com/example/pochta/pochta/entity/QueuedMessage" "enqueuedTime" "J" (.long q1) := f63.other W69 (Or.inr (slot_ne (Or.inr (hw _ (List.mem_of_getElem? (i := 44) rfl))) (Or.inl (hw _ (List.mem_of_getElem? (i := 48) rfl))) (by decide) (t := .long) (t' := .int) (by decide) (by decide)))
  have f76 : Fld Z h69 ra "com/example/pochta/pochta/entity/QueuedMessage" "timeToLive" "J" (.long q2) := f67.other W69 (Or.inr (slot_ne (Or.inr (hw _ (List.mem_of_getElem? (i := 46) rfl))) (Or.inl (hw _ (List.mem_of_getElem? (i := 48) rfl))) (by decide) (t := .long) (t' := .int) (by decide) (by decide)))
  have z77 : n0 ≤ h69.size := Nat.le_trans z64 (Keep.of_wr W69).1
  have K78 : Keep h0 h69 [ra] := K65.wr W69 (Or.inl (List.mem_of_getElem? (i := 0) rfl))
  have hk79 : kk4 ≤ h69.size := Nat.le_trans hk66 (Keep.of_wr W69).1
  have f80 : Fld Z h69 ra "com/example/pochta/pochta/entity/QueuedMessage" "deliveryCount" "I" (.int rn) := f58.same W69
  obtain ⟨lo81, X69, N69⟩ := own_abs X69 N69
  have sg82 : ∀ t, Steps p.tables e below (T69.setTop (mkF m 43 #[.val (.ref ra), .val (.ref rm), .val (.long q0), .second, .val (.long q1), .second, .val (.long q2), .second, .val (.int rn), .val .null] [.null, (.ref ra)])) t → Steps p.tables e below (T69.setTop (mkF m 40 #[.val (.ref ra), .val (.ref rm), .val (.long q0), .second, .val (.long q1), .second, .val (.long q2), .second, .val (.int rn), .val .null] [])) t := by
    intro t k
    show Steps p.tables e below (T69.setTop (mkF m 40 #[.val (.ref ra), .val (.ref rm), .val (.long q0), .second, .val (.long q1), .second, .val (.long q2), .second, .val (.int rn), .val .null] [])) _
    refine XS.aloadN X69.here hx rfl (hb hby d4_40) rfl rfl ?_
    show Steps p.tables e below (T69.setTop (mkF m 41 #[.val (.ref ra), .val (.ref rm), .val (.long q0), .second, .val (.long q1), .second, .val (.long q2), .second, .val (.int rn), .val .null] [(.ref ra)])) _
    refine XS.aload X69.here hx rfl (hb hby d4_41) rfl rfl ?_
    exact k
  obtain ⟨T83, h83, X83, e83, W83, st83⟩ := putF X69 hx hZ hown (host := "") (Or.inl (hw _ (List.mem_of_getElem? (i := 49) rfl))) Via.refl e69 f71 f70 (Or.inr ⟨(hw _ (List.mem_of_getElem? (i := 50) rfl)), rfl, hnm⟩) (hw _ (List.mem_of_getElem? (i := 29) rfl)) (ty := (.object "com/example/pochta/pochta/entity/DeadLettering")) (by decide) rfl rfl (g := (mkF m 43 #[.val (.ref ra), .val (.ref rm), .val (.long q0), .second, .val (.long q1), .second, .val (.long q2), .second, .val (.int rn), .val .null] [.null, (.ref ra)])) rfl rfl (hb hby d4_43)
  have N83 := Fr.snoc X83 N69 g_ra
  have f84 : Exa Z h83 ra "com/example/pochta/pochta/entity/QueuedMessage" := f70.wr W83
  have f85 : Exa Z h83 rm "com/example/pochta/pochta/entity/Message" := f72.wr W83
  have f86 : Fld Z h83 ra "com/example/pochta/pochta/entity/QueuedMessage" "message" "Lcom/example/pochta/pochta/entity/Message;" (.ref rm) := f73.other W83 (Or.inr (slot_ne (Or.inr (hw _ (List.mem_of_getElem? (i := 40) rfl))) (Or.inr (hw _ (List.mem_of_getElem? (i := 50) rfl))) (by decide) (t := (.object "com/example/pochta/pochta/entity/Message")) (t' := (.object "com/example/pochta/pochta/entity/DeadLettering")) (by decide) (by decide)))
  have f87 : Fld Z h83 ra "com/example/pochta/pochta/entity/QueuedMessage" "sequenceNumber" "J" (.long q0) := f74.other W83 (Or.inr (slot_ne (Or.inr (hw _ (List.mem_of_getElem? (i := 42) rfl))) (Or.inr (hw _ (List.mem_of_getElem? (i := 50) rfl))) (by decide) (t := .long) (t' := (.object "com/example/pochta/pochta/entity/DeadLettering")) (by decide) (by decide)))
  have f88 : Fld Z h83 ra "com/example/pochta/pochta/entity/QueuedMessage" "enqueuedTime" "J" (.long q1) := f75.other W83 (Or.inr (slot_ne (Or.inr (hw _ (List.mem_of_getElem? (i := 44) rfl))) (Or.inr (hw _ (List.mem_of_getElem? (i := 50) rfl))) (by decide) (t := .long) (t' := (.object "com/example/pochta/pochta/entity/DeadLettering")) (by decide) (by decide)))
  have f89 : Fld Z h83 ra "com/example/pochta/pochta/entity/QueuedMessage" "timeToLive" "J" (.long q2) := f76.other W83 (Or.inr (slot_ne (Or.inr (hw _ (List.mem_of_getElem? (i := 46) rfl))) (Or.inr (hw _ (List.mem_of_getElem? (i := 50) rfl))) (by decide) (t := .long) (t' := (.object "com/example/pochta/pochta/entity/DeadLettering")) (by decide) (by decide)))
  have f90 : Fld Z h83 ra "com/example/pochta/pochta/entity/QueuedMessage" "deliveryCount" "I" (.int rn) := f80.other W83 (Or.inr (slot_ne (Or.inl (hw _ (List.mem_of_getElem? (i := 48) rfl))) (Or.inr (hw _ (List.mem_of_getElem? (i := 50) rfl))) (by decide) (t := .int) (t' := (.object "com/example/pochta/pochta/entity/DeadLettering")) (by decide) (by decide)))
  have z91 : n0 ≤ h83.size := Nat.le_trans z77 (Keep.of_wr W83).1
  have K92 : Keep h0 h83 [ra] := K78.wr W83 (Or.inl (List.mem_of_getElem? (i := 0) rfl))
  have hk93 : kk4 ≤ h83.size := Nat.le_trans hk79 (Keep.of_wr W83).1
  have f94 : Fld Z h83 ra "com/example/pochta/pochta/entity/QueuedMessage" "deadLettering" "Lcom/example/pochta/pochta/entity/DeadLettering;" .null := f71.same W83
  obtain ⟨fs, hr, hrun, hended, hEnd⟩ := Jvm.Stand.leaveW (s := s) (vm₁ := T4.vm) X83 hS4 (by rw [e83]; exact hk93) (v := none) (fun _ => rfl) (hlocks := hlk)
  refine ⟨_, _, pre0 _ ?_, hrun, hended, _, _, rfl, ?_, hEnd.1, hEnd.2.1, hEnd.2.2.1, hEnd.2.2.2.mono (by decide) (by decide)⟩
  · show Steps p.tables e below (s₁.setTop (mkF m 0 #[.val (.ref ra), .val (.ref rm), .val (.long q0), .second, .val (.long q1), .second, .val (.long q2), .second, .val (.int rn), .val .null] [])) _
    refine sg1 _ ?_
    show Steps p.tables e below (s₁.setTop (mkF m 1 #[.val (.ref ra), .val (.ref rm), .val (.long q0), .second, .val (.long q1), .second, .val (.long q2), .second, .val (.int rn), .val .null] [(.ref ra)])) _
    refine st2 _ ?_
    show Steps p.tables e below (T2.setTop (mkF m 4 #[.val (.ref ra), .val (.ref rm), .val (.long q0), .second, .val (.long q1), .second, .val (.long q2), .second, .val (.int rn), .val .null] [])) _
    refine sg3 _ ?_
    show Steps p.tables e below (T2.setTop (mkF m 6 #[.val (.ref ra), .val (.ref rm), .val (.long q0), .second, .val (.long q1), .second, .val (.long q2), .second, .val (.int rn), .val .null] [(.ref rm), (.ref ra)])) _
    refine st4 _ ?_
    show Steps p.tables e below (T4.setTop (mkF m 8 #[.val (.ref ra), .val (.ref rm), .val (.long q0), .second, .val (.long q1), .second, .val (.long q2), .second, .val (.int rn), .val .null] [(.ref sa4), (.ref rm), (.ref ra)])) _
    refine st15 _ ?_
    show Steps p.tables e below (T15.setTop (mkF m 11 #[.val (.ref ra), .val (.ref rm), .val (.long q0), .second, .val (.long q1), .second, .val (.long q2), .second, .val (.int rn), .val .null] [(.ref rm), (.ref ra)])) _
    refine st16 _ ?_
    show Steps p.tables e below (T16.setTop (mkF m 14 #[.val (.ref ra), .val (.ref rm), .val (.long q0), .second, .val (.long q1), .second, .val (.long q2), .second, .val (.int rn), .val .null] [(.ref rm), (.ref ra)])) _
    refine st17 _ ?_
    show Steps p.tables e below (T17.setTop (mkF m 17 #[.val (.ref ra), .val (.ref rm), .val (.long q0), .second, .val (.long q1), .second, .val (.long q2), .second, .val (.int rn), .val .null] [])) _
    refine sg29 _ ?_
    show Steps p.tables e below (T17.setTop (mkF m 19 #[.val (.ref ra), .val (.ref rm), .val (.long q0), .second, .val (.long q1), .second, .val (.long q2), .second, .val (.int rn), .val .null] [(.long q0), (.ref ra)])) _
    refine st30 _ ?_
    show Steps p.tables e below (T30.setTop (mkF m 22 #[.val (.ref ra), .val (.ref rm), .val (.long q0), .second, .val (.long q1), .second, .val (.long q2), .second, .val (.int rn), .val .null] [])) _
    refine sg42 _ ?_
    show Steps p.tables e below (T30.setTop (mkF m 25 #[.val (.ref ra), .val (.ref rm), .val (.long q0), .second, .val (.long q1), .second, .val (.long q2), .second, .val (.int rn), .val .null] [(.long q1), (.ref ra)])) _
    refine st43 _ ?_
    show Steps p.tables e below (T43.setTop (mkF m 28 #[.val (.ref ra), .val (.ref rm), .val (.long q0), .second, .val (.long q1), .second, .val (.long q2), .second, .val (.int rn), .val .null] [])) _
    refine sg55 _ ?_
    show Steps p.tables e below (T43.setTop (mkF m 31 #[.val (.ref ra), .val (.ref rm), .val (.long q0), .second, .val (.long q1), .second, .val (.long q2), .second, .val (.int rn), .val .null] [(.long q2), (.ref ra)])) _
    refine st56 _ ?_
    show Steps p.tables e below (T56.setTop (mkF m 34 #[.val (.ref ra), .val (.ref rm), .val (.long q0), .second, .val (.long q1), .second, .val (.long q2), .second, .val (.int rn), .val .null] [])) _
    refine sg68 _ ?_
    show Steps p.tables e below (T56.setTop (mkF m 37 #[.val (.ref ra), .val (.ref rm), .val (.long q0), .second, .val (.long q1), .second, .val (.long q2), .second, .val (.int rn), .val .null] [(.int rn), (.ref ra)])) _
    refine st69 _ ?_
    show Steps p.tables e below (T69.setTop (mkF m 40 #[.val (.ref ra), .val (.ref rm), .val (.long q0), .second, .val (.long q1), .second, .val (.long q2), .second, .val (.int rn), .val .null] [])) _
    refine sg82 _ ?_
    show Steps p.tables e below (T69.setTop (mkF m 43 #[.val (.ref ra), .val (.ref rm), .val (.long q0), .second, .val (.long q1), .second, .val (.long q2), .second, .val (.int rn), .val .null] [.null, (.ref ra)])) _
    refine st83 _ ?_
    show Steps p.tables e below (T83.setTop (mkF m 46 #[.val (.ref ra), .val (.ref rm), .val (.long q0), .second, .val (.long q1), .second, .val (.long q2), .second, .val (.int rn), .val .null] [])) _
    exact X83.returnOut hx Bd.returns (hb hby d4_46) hr
  · show Q_rmQ Z ra rm q0 q1 q2 rn h0 n0 _ T83.heap _
    rw [e83]
    exact ⟨rfl, N83, K92, f88, f89⟩
def Q_rmE (Z : State) (ra : Addr) (q1 : Int64) (q2 : Int64) (h0 : Heap) (n0 : Nat) (v : Option Value) (h : Heap) (L : List Loc) : Prop := v = some (.long (if q2 < ((9223372036854775807 : Int64) - q1) then (q1 + q2) else (9223372036854775807 : Int64))) ∧ Fr n0 L ∧ h = h0
theorem ef_rmE (m : MethodId) (x0 : Addr) : entryFrame m #[(.ref x0)] 1 = mkF m 0 #[.val (.ref x0)] [] := by first | (simp [entryFrame, mkF, argsToLocals, Value.category]; done) | rfl
theorem d5_0 : decode prog_14_method_6_code 0 = .ok (.aload_n 0, 1) := by decide +kernel
theorem d5_1 : decode prog_14_method_6_code 1 = .ok (.getfield 31, 3) := by decide +kernel
theorem d5_4 : decode prog_14_method_6_code 4 = .ok (.ldc2_w 42, 3) := by decide +kernel
theorem d5_7 : decode prog_14_method_6_code 7 = .ok (.aload_n 0, 1) := by decide +kernel
theorem d5_8 : decode prog_14_method_6_code 8 = .ok (.getfield 28, 3) := by decide +kernel
theorem d5_11 : decode prog_14_method_6_code 11 = .ok (.lsub, 1) := by decide +kernel
theorem d5_12 : decode prog_14_method_6_code 12 = .ok (.lcmp, 1) := by decide +kernel
theorem d5_13 : decode prog_14_method_6_code 13 = .ok (.ifCond .ge 15, 3) := by decide +kernel
theorem d5_16 : decode prog_14_method_6_code 16 = .ok (.aload_n 0, 1) := by decide +kernel
theorem d5_17 : decode prog_14_method_6_code 17 = .ok (.getfield 28, 3) := by decide +kernel
theorem d5_20 : decode prog_14_method_6_code 20 = .ok (.aload_n 0, 1) := by decide +kernel
theorem d5_21 : decode prog_14_method_6_code 21 = .ok (.getfield 31, 3) := by decide +kernel
theorem d5_24 : decode prog_14_method_6_code 24 = .ok (.ladd, 1) := by decide +kernel
theorem d5_25 : decode prog_14_method_6_code 25 = .ok (.goto 6, 3) := by decide +kernel
theorem d5_28 : decode prog_14_method_6_code 28 = .ok (.ldc2_w 42, 3) := by decide +kernel
theorem d5_31 : decode prog_14_method_6_code 31 = .ok (.lreturn, 1) := by decide +kernel
set_option maxRecDepth 65536 in
set_option maxHeartbeats 40000000 in
theorem rmE (l : Launch) (Z : State) (a0 : Array Value) (hw : ∀ d ∈ tables_1, d.before a0 Z = true) (ws : List Jvm.Cond) (ra : Addr) (q1 : Int64) (q2 : Int64) (h0 : Heap) (n0 : Nat) (Z0 : n0 ≤ h0.size) (P0 : Fld Z h0 ra "com/example/pochta/pochta/entity/QueuedMessage" "enqueuedTime" "J" (.long q1)) (P1 : Fld Z h0 ra "com/example/pochta/pochta/entity/QueuedMessage" "timeToLive" "J" (.long q2)) :
    MetFree l (⟨"com/example/pochta/pochta/entity/QueuedMessage", "expiresAt", "()J"⟩ : MethodName) (head1 (Jvm.Cond.code (⟨"com/example/pochta/pochta/entity/QueuedMessage", "expiresAt", "()J"⟩ : MethodName) prog_14_method_6_code 1 (some .long) :: ws) ({ frames := 0, cells := 0, slots := 0, locals := 0 } : Room)) (fun a U => a = #[(.ref ra)] ∧ Z.Warmed39 U.vm ∧ U.heap = h0) (fun _ _ _ _ _ => True) (fun _ U o U' => ∃ v L, o = .returned v ∧ Q_rmE Z ra q1 q2 h0 n0 v U'.heap L ∧ FrameEnd U o U' L ({ frames := 0, cells := 0, slots := 0, locals := 0 } : Room).cells ({ frames := 0, cells := 0, slots := 0, locals := 0 } : Room).slots) := by
  refine MetFree.of_bodySF (plainFor_of_name pn_2) hisR ?_
  intro p e s m args below meth c s₁ Bd hml0 hP hK
  obtain ⟨rfl, hZ, hh⟩ := hP
  have hx := Bd.exec
  have hby := Bd.bytes
  have hml : c.maxLocals = 1 := hml0
  have hown : s.vm.findClass "com/example/pochta/pochta/entity/QueuedMessage" = some m.cls := findClass_of_methodNamed Bd.named
  have hnm := (name_of_methodNamed Bd.named Bd.method).1
  have hlk : meth.locks = false := by first | exact BodyLoose.notSynchronized Bd | exact Body.notSynchronized Bd
  have X0 : Stand p l e ({ frames := 0, cells := 0, slots := 0, locals := 0 } : Room) s m #[(.ref ra)] below meth c s₁ [] 0 0 := Stand.of_body Bd
  have e0 : s₁.heap = h0 := by rw [← hh, Bd.state]; rfl
  have N0 := Fr.nil n0
  have pre0 : ∀ t, Steps p.tables e below (s₁.setTop (mkF m 0 #[.val (.ref ra)] [])) t → Steps p.tables e below (s₁.setTop (entryFrame m #[(.ref ra)] 1)) t := fun t k => castTop (ef_rmE m ra) k
  have sg1 : ∀ t, Steps p.tables e below (s₁.setTop (mkF m 1 #[.val (.ref ra)] [(.ref ra)])) t → Steps p.tables e below (s₁.setTop (mkF m 0 #[.val (.ref ra)] [])) t := by
    intro t k
    show Steps p.tables e below (s₁.setTop (mkF m 0 #[.val (.ref ra)] [])) _
    refine XS.aloadN X0.here hx rfl (hb hby d5_0) rfl rfl ?_
    exact k
  obtain ⟨T2, X2, e2, st2⟩ := getF X0 hx hZ hown (host := "") (Or.inl (hw _ (List.mem_of_getElem? (i := 45) rfl))) Via.refl e0 P1 (g := (mkF m 1 #[.val (.ref ra)] [(.ref ra)])) rfl rfl (hb hby d5_1)
  have sg3 : ∀ t, Steps p.tables e below (T2.setTop (mkF m 8 #[.val (.ref ra)] [(.ref ra), (.long (9223372036854775807 : Int64)), (.long q2)])) t → Steps p.tables e below (T2.setTop (mkF m 4 #[.val (.ref ra)] [(.long q2)])) t := by
    intro t k
    show Steps p.tables e below (T2.setTop (mkF m 4 #[.val (.ref ra)] [(.long q2)])) _
    refine X2.ldc2Long hx hown (mvT hZ (hw _ (List.mem_of_getElem? (i := 56) rfl))) (g := (mkF m 4 #[.val (.ref ra)] [(.long q2)])) rfl (hb hby d5_4) _ ?_
    show Steps p.tables e below (T2.setTop (mkF m 7 #[.val (.ref ra)] [(.long (9223372036854775807 : Int64)), (.long q2)])) _
    refine XS.aloadN X2.here hx rfl (hb hby d5_7) rfl rfl ?_
    exact k
  obtain ⟨T4, X4, e4, st4⟩ := getF X2 hx hZ hown (host := "") (Or.inl (hw _ (List.mem_of_getElem? (i := 43) rfl))) Via.refl e2 P0 (g := (mkF m 8 #[.val (.ref ra)] [(.ref ra), (.long (9223372036854775807 : Int64)), (.long q2)])) rfl rfl (hb hby d5_8)
  have sg5 : ∀ t, Steps p.tables e below (T4.setTop (mkF m 13 #[.val (.ref ra)] [(.int (lcmpW q2 ((9223372036854775807 : Int64) - q1)))])) t → Steps p.tables e below (T4.setTop (mkF m 11 #[.val (.ref ra)] [(.long q1), (.long (9223372036854775807 : Int64)), (.long q2)])) t := by
    intro t k
    show Steps p.tables e below (T4.setTop (mkF m 11 #[.val (.ref ra)] [(.long q1), (.long (9223372036854775807 : Int64)), (.long q2)])) _
    refine XS.lsub X4.here hx rfl (hb hby d5_11) rfl ?_
    show Steps p.tables e below (T4.setTop (mkF m 12 #[.val (.ref ra)] [(.long ((9223372036854775807 : Int64) - q1)), (.long q2)])) _
    refine XS.lcmp X4.here hx rfl (hb hby d5_12) rfl ?_
    exact k
  have ch6 : ∀ t, Steps p.tables e below (T4.setTop (mkF m 13 #[.val (.ref ra)] [(.int (lcmpW q2 ((9223372036854775807 : Int64) - q1)))])) t → Steps p.tables e below (s₁.setTop (mkF m 0 #[.val (.ref ra)] [])) t := by
    intro t k
    refine sg1 _ ?_
    show Steps p.tables e below (s₁.setTop (mkF m 1 #[.val (.ref ra)] [(.ref ra)])) _
    refine st2 _ ?_
    show Steps p.tables e below (T2.setTop (mkF m 4 #[.val (.ref ra)] [(.long q2)])) _
    refine sg3 _ ?_
    show Steps p.tables e below (T2.setTop (mkF m 8 #[.val (.ref ra)] [(.ref ra), (.long (9223372036854775807 : Int64)), (.long q2)])) _
    refine st4 _ ?_
    show Steps p.tables e below (T4.setTop (mkF m 11 #[.val (.ref ra)] [(.long q1), (.long (9223372036854775807 : Int64)), (.long q2)])) _
    refine sg5 _ ?_
    show Steps p.tables e below (T4.setTop (mkF m 13 #[.val (.ref ra)] [(.int (lcmpW q2 ((9223372036854775807 : Int64) - q1)))])) _
    exact k
  by_cases hc13 : q2 < ((9223372036854775807 : Int64) - q1)
  · have sgf13 : ∀ t, Steps p.tables e below (T4.setTop (mkF m 16 #[.val (.ref ra)] [])) t → Steps p.tables e below (T4.setTop (mkF m 13 #[.val (.ref ra)] [(.int (lcmpW q2 ((9223372036854775807 : Int64) - q1)))])) t := fun t k => by
      refine XS.ifNo X4.here hx rfl (hb hby d5_13) rfl ((if0 _ _).trans (tlt ((lw_lt _ _).mpr hc13)).2.1) ?_
      exact k
    have sg7 : ∀ t, Steps p.tables e below (T4.setTop (mkF m 17 #[.val (.ref ra)] [(.ref ra)])) t → Steps p.tables e below (T4.setTop (mkF m 16 #[.val (.ref ra)] [])) t := by
      intro t k
      show Steps p.tables e below (T4.setTop (mkF m 16 #[.val (.ref ra)] [])) _
      refine XS.aloadN X4.here hx rfl (hb hby d5_16) rfl rfl ?_
      exact k
    obtain ⟨T8, X8, e8, st8⟩ := getF X4 hx hZ hown (host := "") (Or.inl (hw _ (List.mem_of_getElem? (i := 43) rfl))) Via.refl e4 P0 (g := (mkF m 17 #[.val (.ref ra)] [(.ref ra)])) rfl rfl (hb hby d5_17)
    have sg9 : ∀ t, Steps p.tables e below (T8.setTop (mkF m 21 #[.val (.ref ra)] [(.ref ra), (.long q1)])) t → Steps p.tables e below (T8.setTop (mkF m 20 #[.val (.ref ra)] [(.long q1)])) t := by
      intro t k
      show Steps p.tables e below (T8.setTop (mkF m 20 #[.val (.ref ra)] [(.long q1)])) _
      refine XS.aloadN X8.here hx rfl (hb hby d5_20) rfl rfl ?_
      exact k
    obtain ⟨T10, X10, e10, st10⟩ := getF X8 hx hZ hown (host := "") (Or.inl (hw _ (List.mem_of_getElem? (i := 45) rfl))) Via.refl e8 P1 (g := (mkF m 21 #[.val (.ref ra)] [(.ref ra), (.long q1)])) rfl rfl (hb hby d5_21)
    have sg11 : ∀ t, Steps p.tables e below (T10.setTop (mkF m 31 #[.val (.ref ra)] [(.long (q1 + q2))])) t → Steps p.tables e below (T10.setTop (mkF m 24 #[.val (.ref ra)] [(.long q2), (.long q1)])) t := by
      intro t k
      show Steps p.tables e below (T10.setTop (mkF m 24 #[.val (.ref ra)] [(.long q2), (.long q1)])) _
      refine XS.ladd X10.here hx rfl (hb hby d5_24) rfl ?_
      show Steps p.tables e below (T10.setTop (mkF m 25 #[.val (.ref ra)] [(.long (q1 + q2))])) _
      refine XS.goto X10.here hx rfl (pc0 := 25) (pc' := 31) rfl (hb hby d5_25) (by decide) (by decide) ?_
      exact k
    obtain ⟨fs, hr, hrun, hended, hW, hsame⟩ := X10.leave (v := some (.long (q1 + q2))) (fun h => by rw [Bd.returns] at h; cases h) (hlocks := hlk)
    refine ⟨_, _, pre0 _ ?_, hrun, hended, _, _, rfl, ?_, ⟨_, rfl⟩, hW, hsame.mono (by decide) (by decide)⟩
    · show Steps p.tables e below (s₁.setTop (mkF m 0 #[.val (.ref ra)] [])) _
      refine ch6 _ ?_
      show Steps p.tables e below (T4.setTop (mkF m 13 #[.val (.ref ra)] [(.int (lcmpW q2 ((9223372036854775807 : Int64) - q1)))])) _
      refine sgf13 _ ?_
      show Steps p.tables e below (T4.setTop (mkF m 16 #[.val (.ref ra)] [])) _
      refine sg7 _ ?_
      show Steps p.tables e below (T4.setTop (mkF m 17 #[.val (.ref ra)] [(.ref ra)])) _
      refine st8 _ ?_
      show Steps p.tables e below (T8.setTop (mkF m 20 #[.val (.ref ra)] [(.long q1)])) _
      refine sg9 _ ?_
      show Steps p.tables e below (T8.setTop (mkF m 21 #[.val (.ref ra)] [(.ref ra), (.long q1)])) _
      refine st10 _ ?_
      show Steps p.tables e below (T10.setTop (mkF m 24 #[.val (.ref ra)] [(.long q2), (.long q1)])) _
      refine sg11 _ ?_
      show Steps p.tables e below (T10.setTop (mkF m 31 #[.val (.ref ra)] [(.long (q1 + q2))])) _
      jvm_step X10.here [X10.here.top, hx, (hb hby d5_31), X10.method', Bd.returns, narrow]
      first | (intro acts; rw [hr _ acts rfl rfl rfl]) | rw [hr _ _ rfl rfl rfl]
      exact Steps.refl _
    · show Q_rmE Z ra q1 q2 h0 n0 _ T10.heap _
      rw [e10]
      exact ⟨(by rw [if_pos hc13]), N0, rfl⟩
  · have sgf13 : ∀ t, Steps p.tables e below (T4.setTop (mkF m 28 #[.val (.ref ra)] [])) t → Steps p.tables e below (T4.setTop (mkF m 13 #[.val (.ref ra)] [(.int (lcmpW q2 ((9223372036854775807 : Int64) - q1)))])) t := fun t k => by
      refine XS.ifYes X4.here hx rfl (pc0 := 13) (pc' := 28) rfl (hb hby d5_13) rfl ((if0 _ _).trans (flt (mt (lw_lt _ _).mp hc13)).2.1) (by decide) (by decide) ?_
      exact k
    have sg12 : ∀ t, Steps p.tables e below (T4.setTop (mkF m 31 #[.val (.ref ra)] [(.long (9223372036854775807 : Int64))])) t → Steps p.tables e below (T4.setTop (mkF m 28 #[.val (.ref ra)] [])) t := by
      intro t k
      show Steps p.tables e below (T4.setTop (mkF m 28 #[.val (.ref ra)] [])) _
      refine X4.ldc2Long hx hown (mvT hZ (hw _ (List.mem_of_getElem? (i := 56) rfl))) (g := (mkF m 28 #[.val (.ref ra)] [])) rfl (hb hby d5_28) _ ?_
      exact k
    obtain ⟨fs, hr, hrun, hended, hW, hsame⟩ := X4.leave (v := some (.long (9223372036854775807 : Int64))) (fun h => by rw [Bd.returns] at h; cases h) (hlocks := hlk)
    refine ⟨_, _, pre0 _ ?_, hrun, hended, _, _, rfl, ?_, ⟨_, rfl⟩, hW, hsame.mono (by decide) (by decide)⟩
    · show Steps p.tables e below (s₁.setTop (mkF m 0 #[.val (.ref ra)] [])) _
      refine ch6 _ ?_
      show Steps p.tables e below (T4.setTop (mkF m 13 #[.val (.ref ra)] [(.int (lcmpW q2 ((9223372036854775807 : Int64) - q1)))])) _
      refine sgf13 _ ?_
      show Steps p.tables e below (T4.setTop (mkF m 28 #[.val (.ref ra)] [])) _
      refine sg12 _ ?_
      show Steps p.tables e below (T4.setTop (mkF m 31 #[.val (.ref ra)] [(.long (9223372036854775807 : Int64))])) _
      jvm_step X4.here [X4.here.top, hx, (hb hby d5_31), X4.method', Bd.returns, narrow]
      first | (intro acts; rw [hr _ acts rfl rfl rfl]) | rw [hr _ _ rfl rfl rfl]
      exact Steps.refl _
    · show Q_rmE Z ra q1 q2 h0 n0 _ T4.heap _
      rw [e4]
      exact ⟨(by rw [if_neg hc13]), N0, rfl⟩
section Own
open Jvm.Kit
theorem own_mask (x : Int64) : 0 ≤ (x &&& (9223372036854775807 : Int64)).toInt := by
  have e := i64_mask x 9223372036854775807 (k := 63) (by decide) (by decide)
  omega
theorem own_fX (x : Int64) : 0 ≤ (fX (0 : Int64) x).toInt := by
  have l0 : (0 : Int64).toInt = 0 := rfl
  simp only [fX]
  split
  · rename_i h
    rw [Int64.lt_iff_toInt_lt, l0] at h
    omega
  · rw [l0]; omega
theorem own_fin (q1 q2 : Int64) (h1 : 0 ≤ q1.toInt) (h2 : 0 ≤ q2.toInt) : (if q2 < ((9223372036854775807 : Int64) - q1) then (q1 + q2) else (9223372036854775807 : Int64)) = (if (q1 + q2) < (0 : Int64) then (9223372036854775807 : Int64) else (q1 + q2)) := by
  have b1 := q1.toInt_lt; have b2 := q2.toInt_lt
  have l0 : (0 : Int64).toInt = 0 := rfl
  have lm : (9223372036854775807 : Int64).toInt = 9223372036854775807 := rfl
  have e1 : ((9223372036854775807 : Int64) - q1).toInt = 9223372036854775807 - q1.toInt := by rw [i64_sub (by rw [lm]; omega) (by rw [lm]; omega), lm]
  by_cases c : q2 < ((9223372036854775807 : Int64) - q1)
  · rw [if_pos c]
    rw [Int64.lt_iff_toInt_lt, e1] at c
    have e2 := i64_add (x := q1) (y := q2) (by omega) (by omega)
    rw [if_neg]
    rw [Int64.lt_iff_toInt_lt, e2, l0]; omega
  · rw [if_neg c]
    rw [Int64.lt_iff_toInt_lt, e1] at c
    by_cases d : q1.toInt + q2.toInt < 2 ^ 63
    · have e2 := i64_add (x := q1) (y := q2) (by omega) d
      rw [if_neg (by rw [Int64.lt_iff_toInt_lt, e2, l0]; omega)]
      apply Int64.toInt_inj.mp
      rw [lm, e2]; omega
    · have e2 : (q1 + q2).toInt = q1.toInt + q2.toInt - 2 ^ 64 := by
        rw [Int64.toInt_add, Int.bmod_def]
        split <;> omega
      rw [if_pos (by rw [Int64.lt_iff_toInt_lt, e2, l0]; omega)]
end Own
def Q0 (Z : State) (p1 p2 : Int64) (p3 : Int32) (h0 : Heap) (n0 : Nat) (v : Option Value) (h : Heap) (L : List Loc) : Prop := v = some (.int 1) ∧ Fr n0 L
theorem pd_2 : parseMethodDescriptor "(JJ)J" = some ⟨[.long, .long], some .long⟩ := by decide +kernel
theorem pd_3 : parseMethodDescriptor "([BI)V" = some ⟨[(.array .byte), .int], none⟩ := by decide +kernel
theorem pd_4 : parseMethodDescriptor "(Lcom/example/pochta/pochta/entity/Message;JJJILcom/example/pochta/pochta/entity/DeadLettering;)V" = some ⟨[(.object "com/example/pochta/pochta/entity/Message"), .long, .long, .long, .int, (.object "com/example/pochta/pochta/entity/DeadLettering")], none⟩ := by decide +kernel
theorem pd_5 : parseMethodDescriptor "()J" = some ⟨[], some .long⟩ := by decide +kernel
theorem pn_3 : plainName "com/example/pochta/pochta/entity/QueuedMessageExpiresAtPinLaw" = true := by first | (simp [plainName, overriddenIn]; done) | decide +kernel
theorem ef_rm0 (m : MethodId) (x0 : Int64) (x1 : Int64) (x2 : Int32) : entryFrame m #[(.long x0), (.long x1), (.int x2)] maxLocals = mkF m 0 #[.val (.long x0), .second, .val (.long x1), .second, .val (.int x2), .unset, .unset, .unset, .unset, .unset, .unset, .unset, .unset, .unset, .unset, .unset, .unset, .unset] [] := by first | (simp [entryFrame, mkF, argsToLocals, Value.category, maxLocals]; done) | rfl
set_option maxRecDepth 65536 in
set_option maxHeartbeats 40000000 in
theorem rm0 (l : Launch) (Z : State) (a0 : Array Value) (hw : ∀ d ∈ tables_1, d.before a0 Z = true) (ws : List Jvm.Cond) (p1 : Int64) (p2 : Int64) (p3 : Int32)  (h0 : Heap) (n0 : Nat) (Z0 : n0 ≤ h0.size)  :
    MetFree l x (head1 (Jvm.Cond.code x code maxLocals ret :: ws) room_1) (fun a U => a = #[(.long p1), (.long p2), (.int p3)] ∧ Z.Warmed39 U.vm ∧ U.heap = h0) (fun _ _ _ _ _ => True) (fun _ U o U' => ∃ v L, o = .returned v ∧ Q0 Z p1 p2 p3 h0 n0 v U'.heap L ∧ ReturnedEndW U o U' L 24 2176) := by
  refine MetFree.of_bodySF (plainFor_of_name pn_3) hisR ?_
  intro p e s m args below meth c s₁ Bd hml0 hP hK
  obtain ⟨rfl, hZ, hh⟩ := hP
  have hx := Bd.exec
  have hby := Bd.bytes
  have hml : c.maxLocals = 18 := hml0
  have hown : s.vm.findClass "com/example/pochta/pochta/entity/QueuedMessageExpiresAtPinLaw" = some m.cls := findClass_of_methodNamed Bd.named
  have hnm := (name_of_methodNamed Bd.named Bd.method).1
  have hlk : meth.locks = false := by first | exact BodyLoose.notSynchronized Bd | exact Body.notSynchronized Bd
  have X0 : Stand p l e room_1 s m #[(.long p1), (.long p2), (.int p3)] below meth c s₁ [] 0 0 := Stand.of_body Bd
  have e0 : s₁.heap = h0 := by rw [← hh, Bd.state]; rfl
  have N0 := Fr.nil n0
  have pre0 : ∀ t, Steps p.tables e below (s₁.setTop (mkF m 0 #[.val (.long p1), .second, .val (.long p2), .second, .val (.int p3), .unset, .unset, .unset, .unset, .unset, .unset, .unset, .unset, .unset, .unset, .unset, .unset, .unset] [])) t → Steps p.tables e below (s₁.setTop (entryFrame m #[(.long p1), (.long p2), (.int p3)] maxLocals)) t := fun t k => castTop (ef_rm0 m p1 p2 p3) k
  have sg1 : ∀ t, Steps p.tables e below (s₁.setTop (mkF m 22 #[.val (.long p1), .second, .val (.long p2), .second, .val (.int p3), .val (.long (p1 &&& (9223372036854775807 : Int64))), .second, .val (.long (p2 &&& (9223372036854775807 : Int64))), .second, .val (.int (p3 &&& (3 : Int32))), .unset, .unset, .unset, .unset, .unset, .unset, .unset, .unset] [(.int (p3 &&& (3 : Int32)))])) t → Steps p.tables e below (s₁.setTop (mkF m 0 #[.val (.long p1), .second, .val (.long p2), .second, .val (.int p3), .unset, .unset, .unset, .unset, .unset, .unset, .unset, .unset, .unset, .unset, .unset, .unset, .unset] [])) t := by
    intro t k
    show Steps p.tables e below (s₁.setTop (mkF m 0 #[.val (.long p1), .second, .val (.long p2), .second, .val (.int p3), .unset, .unset, .unset, .unset, .unset, .unset, .unset, .unset, .unset, .unset, .unset, .unset, .unset] [])) _
    refine XS.lloadN X0.here hx rfl (hb hby at_0) rfl ?_
    show Steps p.tables e below (s₁.setTop (mkF m 1 #[.val (.long p1), .second, .val (.long p2), .second, .val (.int p3), .unset, .unset, .unset, .unset, .unset, .unset, .unset, .unset, .unset, .unset, .unset, .unset, .unset] [(.long p1)])) _
    refine X0.ldc2Long hx hown (mvT hZ (hw _ (List.mem_of_getElem? (i := 0) rfl))) (g := (mkF m 1 #[.val (.long p1), .second, .val (.long p2), .second, .val (.int p3), .unset, .unset, .unset, .unset, .unset, .unset, .unset, .unset, .unset, .unset, .unset, .unset, .unset] [(.long p1)])) rfl (hb hby at_1) _ ?_
    show Steps p.tables e below (s₁.setTop (mkF m 4 #[.val (.long p1), .second, .val (.long p2), .second, .val (.int p3), .unset, .unset, .unset, .unset, .unset, .unset, .unset, .unset, .unset, .unset, .unset, .unset, .unset] [(.long (9223372036854775807 : Int64)), (.long p1)])) _
    refine XS.land X0.here hx rfl (hb hby at_4) rfl ?_
    show Steps p.tables e below (s₁.setTop (mkF m 5 #[.val (.long p1), .second, .val (.long p2), .second, .val (.int p3), .unset, .unset, .unset, .unset, .unset, .unset, .unset, .unset, .unset, .unset, .unset, .unset, .unset] [(.long (p1 &&& (9223372036854775807 : Int64)))])) _
    refine XS.lstore X0.here hx rfl (hb hby at_5) rfl (l' := #[.val (.long p1), .second, .val (.long p2), .second, .val (.int p3), .val (.long (p1 &&& (9223372036854775807 : Int64))), .second, .unset, .unset, .unset, .unset, .unset, .unset, .unset, .unset, .unset, .unset, .unset]) rfl ?_
    show Steps p.tables e below (s₁.setTop (mkF m 7 #[.val (.long p1), .second, .val (.long p2), .second, .val (.int p3), .val (.long (p1 &&& (9223372036854775807 : Int64))), .second, .unset, .unset, .unset, .unset, .unset, .unset, .unset, .unset, .unset, .unset, .unset] [])) _
    refine XS.lloadN X0.here hx rfl (hb hby at_7) rfl ?_
    show Steps p.tables e below (s₁.setTop (mkF m 8 #[.val (.long p1), .second, .val (.long p2), .second, .val (.int p3), .val (.long (p1 &&& (9223372036854775807 : Int64))), .second, .unset, .unset, .unset, .unset, .unset, .unset, .unset, .unset, .unset, .unset, .unset] [(.long p2)])) _
    refine X0.ldc2Long hx hown (mvT hZ (hw _ (List.mem_of_getElem? (i := 0) rfl))) (g := (mkF m 8 #[.val (.long p1), .second, .val (.long p2), .second, .val (.int p3), .val (.long (p1 &&& (9223372036854775807 : Int64))), .second, .unset, .unset, .unset, .unset, .unset, .unset, .unset, .unset, .unset, .unset, .unset] [(.long p2)])) rfl (hb hby at_8) _ ?_
    show Steps p.tables e below (s₁.setTop (mkF m 11 #[.val (.long p1), .second, .val (.long p2), .second, .val (.int p3), .val (.long (p1 &&& (9223372036854775807 : Int64))), .second, .unset, .unset, .unset, .unset, .unset, .unset, .unset, .unset, .unset, .unset, .unset] [(.long (9223372036854775807 : Int64)), (.long p2)])) _
    refine XS.land X0.here hx rfl (hb hby at_11) rfl ?_
    show Steps p.tables e below (s₁.setTop (mkF m 12 #[.val (.long p1), .second, .val (.long p2), .second, .val (.int p3), .val (.long (p1 &&& (9223372036854775807 : Int64))), .second, .unset, .unset, .unset, .unset, .unset, .unset, .unset, .unset, .unset, .unset, .unset] [(.long (p2 &&& (9223372036854775807 : Int64)))])) _
    refine XS.lstore X0.here hx rfl (hb hby at_12) rfl (l' := #[.val (.long p1), .second, .val (.long p2), .second, .val (.int p3), .val (.long (p1 &&& (9223372036854775807 : Int64))), .second, .val (.long (p2 &&& (9223372036854775807 : Int64))), .second, .unset, .unset, .unset, .unset, .unset, .unset, .unset, .unset, .unset]) rfl ?_
    show Steps p.tables e below (s₁.setTop (mkF m 14 #[.val (.long p1), .second, .val (.long p2), .second, .val (.int p3), .val (.long (p1 &&& (9223372036854775807 : Int64))), .second, .val (.long (p2 &&& (9223372036854775807 : Int64))), .second, .unset, .unset, .unset, .unset, .unset, .unset, .unset, .unset, .unset] [])) _
    refine XS.iload X0.here hx rfl (hb hby at_14) rfl ?_
    show Steps p.tables e below (s₁.setTop (mkF m 16 #[.val (.long p1), .second, .val (.long p2), .second, .val (.int p3), .val (.long (p1 &&& (9223372036854775807 : Int64))), .second, .val (.long (p2 &&& (9223372036854775807 : Int64))), .second, .unset, .unset, .unset, .unset, .unset, .unset, .unset, .unset, .unset] [(.int p3)])) _
    refine XS.iconst X0.here hx rfl (hb hby at_16) ?_
    show Steps p.tables e below (s₁.setTop (mkF m 17 #[.val (.long p1), .second, .val (.long p2), .second, .val (.int p3), .val (.long (p1 &&& (9223372036854775807 : Int64))), .second, .val (.long (p2 &&& (9223372036854775807 : Int64))), .second, .unset, .unset, .unset, .unset, .unset, .unset, .unset, .unset, .unset] [(.int (3 : Int32)), (.int p3)])) _
    refine XS.iand X0.here hx rfl (hb hby at_17) rfl ?_
    show Steps p.tables e below (s₁.setTop (mkF m 18 #[.val (.long p1), .second, .val (.long p2), .second, .val (.int p3), .val (.long (p1 &&& (9223372036854775807 : Int64))), .second, .val (.long (p2 &&& (9223372036854775807 : Int64))), .second, .unset, .unset, .unset, .unset, .unset, .unset, .unset, .unset, .unset] [(.int (p3 &&& (3 : Int32)))])) _
    refine XS.istore X0.here hx rfl (hb hby at_18) rfl (l' := #[.val (.long p1), .second, .val (.long p2), .second, .val (.int p3), .val (.long (p1 &&& (9223372036854775807 : Int64))), .second, .val (.long (p2 &&& (9223372036854775807 : Int64))), .second, .val (.int (p3 &&& (3 : Int32))), .unset, .unset, .unset, .unset, .unset, .unset, .unset, .unset]) rfl ?_
    show Steps p.tables e below (s₁.setTop (mkF m 20 #[.val (.long p1), .second, .val (.long p2), .second, .val (.int p3), .val (.long (p1 &&& (9223372036854775807 : Int64))), .second, .val (.long (p2 &&& (9223372036854775807 : Int64))), .second, .val (.int (p3 &&& (3 : Int32))), .unset, .unset, .unset, .unset, .unset, .unset, .unset, .unset] [])) _
    refine XS.iload X0.here hx rfl (hb hby at_20) rfl ?_
    exact k
  obtain ⟨T93, tt, lo93, X93, e93, ht, N93, ch93⟩ : ∃ (T93 : State) (tt : Int64) (lo93 : List Loc), Stand p l e room_1 s m #[(.long p1), (.long p2), (.int p3)] below meth c T93 lo93 0 0 ∧ T93.heap = h0 ∧ 0 ≤ tt.toInt ∧ Fr n0 lo93 ∧ ∀ t, Steps p.tables e below (T93.setTop (mkF m 93 #[.val (.long p1), .second, .val (.long p2), .second, .val (.int p3), .val (.long (p1 &&& (9223372036854775807 : Int64))), .second, .val (.long (p2 &&& (9223372036854775807 : Int64))), .second, .val (.int (p3 &&& (3 : Int32))), .val (.long tt), .second, .unset, .unset, .unset, .unset, .unset, .unset] [])) t → Steps p.tables e below (s₁.setTop (mkF m 0 #[.val (.long p1), .second, .val (.long p2), .second, .val (.int p3), .unset, .unset, .unset, .unset, .unset, .unset, .unset, .unset, .unset, .unset, .unset, .unset, .unset] [])) t := by
    by_cases hc22 : (p3 &&& (3 : Int32)) = (0 : Int32)
    · have sgf22 : ∀ t, Steps p.tables e below (s₁.setTop (mkF m 25 #[.val (.long p1), .second, .val (.long p2), .second, .val (.int p3), .val (.long (p1 &&& (9223372036854775807 : Int64))), .second, .val (.long (p2 &&& (9223372036854775807 : Int64))), .second, .val (.int (p3 &&& (3 : Int32))), .unset, .unset, .unset, .unset, .unset, .unset, .unset, .unset] [])) t → Steps p.tables e below (s₁.setTop (mkF m 22 #[.val (.long p1), .second, .val (.long p2), .second, .val (.int p3), .val (.long (p1 &&& (9223372036854775807 : Int64))), .second, .val (.long (p2 &&& (9223372036854775807 : Int64))), .second, .val (.int (p3 &&& (3 : Int32))), .unset, .unset, .unset, .unset, .unset, .unset, .unset, .unset] [(.int (p3 &&& (3 : Int32)))])) t := fun t k => by
        refine XS.ifNo X0.here hx rfl (hb hby at_22) rfl ((if0 _ _).trans (teq hc22).2) ?_
        exact k
      have sg2 : ∀ t, Steps p.tables e below (s₁.setTop (mkF m 93 #[.val (.long p1), .second, .val (.long p2), .second, .val (.int p3), .val (.long (p1 &&& (9223372036854775807 : Int64))), .second, .val (.long (p2 &&& (9223372036854775807 : Int64))), .second, .val (.int (p3 &&& (3 : Int32))), .val (.long (p2 &&& (9223372036854775807 : Int64))), .second, .unset, .unset, .unset, .unset, .unset, .unset] [])) t → Steps p.tables e below (s₁.setTop (mkF m 25 #[.val (.long p1), .second, .val (.long p2), .second, .val (.int p3), .val (.long (p1 &&& (9223372036854775807 : Int64))), .second, .val (.long (p2 &&& (9223372036854775807 : Int64))), .second, .val (.int (p3 &&& (3 : Int32))), .unset, .unset, .unset, .unset, .unset, .unset, .unset, .unset] [])) t := by
        intro t k
        show Steps p.tables e below (s₁.setTop (mkF m 25 #[.val (.long p1), .second, .val (.long p2), .second, .val (.int p3), .val (.long (p1 &&& (9223372036854775807 : Int64))), .second, .val (.long (p2 &&& (9223372036854775807 : Int64))), .second, .val (.int (p3 &&& (3 : Int32))), .unset, .unset, .unset, .unset, .unset, .unset, .unset, .unset] [])) _
        refine XS.lload X0.here hx rfl (hb hby at_25) rfl ?_
        show Steps p.tables e below (s₁.setTop (mkF m 27 #[.val (.long p1), .second, .val (.long p2), .second, .val (.int p3), .val (.long (p1 &&& (9223372036854775807 : Int64))), .second, .val (.long (p2 &&& (9223372036854775807 : Int64))), .second, .val (.int (p3 &&& (3 : Int32))), .unset, .unset, .unset, .unset, .unset, .unset, .unset, .unset] [(.long (p2 &&& (9223372036854775807 : Int64)))])) _
        refine XS.lstore X0.here hx rfl (hb hby at_27) rfl (l' := #[.val (.long p1), .second, .val (.long p2), .second, .val (.int p3), .val (.long (p1 &&& (9223372036854775807 : Int64))), .second, .val (.long (p2 &&& (9223372036854775807 : Int64))), .second, .val (.int (p3 &&& (3 : Int32))), .val (.long (p2 &&& (9223372036854775807 : Int64))), .second, .unset, .unset, .unset, .unset, .unset, .unset]) rfl ?_
        show Steps p.tables e below (s₁.setTop (mkF m 29 #[.val (.long p1), .second, .val (.long p2), .second, .val (.int p3), .val (.long (p1 &&& (9223372036854775807 : Int64))), .second, .val (.long (p2 &&& (9223372036854775807 : Int64))), .second, .val (.int (p3 &&& (3 : Int32))), .val (.long (p2 &&& (9223372036854775807 : Int64))), .second, .unset, .unset, .unset, .unset, .unset, .unset] [])) _
        refine XS.goto X0.here hx rfl (pc0 := 29) (pc' := 93) rfl (hb hby at_29) (by decide) (by decide) ?_
        exact k
      have ch3 : ∀ t, Steps p.tables e below (s₁.setTop (mkF m 93 #[.val (.long p1), .second, .val (.long p2), .second, .val (.int p3), .val (.long (p1 &&& (9223372036854775807 : Int64))), .second, .val (.long (p2 &&& (9223372036854775807 : Int64))), .second, .val (.int (p3 &&& (3 : Int32))), .val (.long (p2 &&& (9223372036854775807 : Int64))), .second, .unset, .unset, .unset, .unset, .unset, .unset] [])) t → Steps p.tables e below (s₁.setTop (mkF m 0 #[.val (.long p1), .second, .val (.long p2), .second, .val (.int p3), .unset, .unset, .unset, .unset, .unset, .unset, .unset, .unset, .unset, .unset, .unset, .unset, .unset] [])) t := by
        intro t k
        refine sg1 _ ?_
        show Steps p.tables e below (s₁.setTop (mkF m 22 #[.val (.long p1), .second, .val (.long p2), .second, .val (.int p3), .val (.long (p1 &&& (9223372036854775807 : Int64))), .second, .val (.long (p2 &&& (9223372036854775807 : Int64))), .second, .val (.int (p3 &&& (3 : Int32))), .unset, .unset, .unset, .unset, .unset, .unset, .unset, .unset] [(.int (p3 &&& (3 : Int32)))])) _
        refine sgf22 _ ?_
        show Steps p.tables e below (s₁.setTop (mkF m 25 #[.val (.long p1), .second, .val (.long p2), .second, .val (.int p3), .val (.long (p1 &&& (9223372036854775807 : Int64))), .second, .val (.long (p2 &&& (9223372036854775807 : Int64))), .second, .val (.int (p3 &&& (3 : Int32))), .unset, .unset, .unset, .unset, .unset, .unset, .unset, .unset] [])) _
        refine sg2 _ ?_
        show Steps p.tables e below (s₁.setTop (mkF m 93 #[.val (.long p1), .second, .val (.long p2), .second, .val (.int p3), .val (.long (p1 &&& (9223372036854775807 : Int64))), .second, .val (.long (p2 &&& (9223372036854775807 : Int64))), .second, .val (.int (p3 &&& (3 : Int32))), .val (.long (p2 &&& (9223372036854775807 : Int64))), .second, .unset, .unset, .unset, .unset, .unset, .unset] [])) _
        exact k
      exact ⟨_, _, _, X0, e0, ((own_mask _) : 0 ≤ ((p2 &&& (9223372036854775807 : Int64))).toInt), N0, ch3⟩
    · have sgf22 : ∀ t, Steps p.tables e below (s₁.setTop (mkF m 32 #[.val (.long p1), .second, .val (.long p2), .second, .val (.int p3), .val (.long (p1 &&& (9223372036854775807 : Int64))), .second, .val (.long (p2 &&& (9223372036854775807 : Int64))), .second, .val (.int (p3 &&& (3 : Int32))), .unset, .unset, .unset, .unset, .unset, .unset, .unset, .unset] [])) t → Steps p.tables e below (s₁.setTop (mkF m 22 #[.val (.long p1), .second, .val (.long p2), .second, .val (.int p3), .val (.long (p1 &&& (9223372036854775807 : Int64))), .second, .val (.long (p2 &&& (9223372036854775807 : Int64))), .second, .val (.int (p3 &&& (3 : Int32))), .unset, .unset, .unset, .unset, .unset, .unset, .unset, .unset] [(.int (p3 &&& (3 : Int32)))])) t := fun t k => by
        refine XS.ifYes X0.here hx rfl (pc0 := 22) (pc' := 32) rfl (hb hby at_22) rfl ((if0 _ _).trans (feq hc22).2) (by decide) (by decide) ?_
        exact k
      have sg4 : ∀ t, Steps p.tables e below (s₁.setTop (mkF m 35 #[.val (.long p1), .second, .val (.long p2), .second, .val (.int p3), .val (.long (p1 &&& (9223372036854775807 : Int64))), .second, .val (.long (p2 &&& (9223372036854775807 : Int64))), .second, .val (.int (p3 &&& (3 : Int32))), .unset, .unset, .unset, .unset, .unset, .unset, .unset, .unset] [(.int (1 : Int32)), (.int (p3 &&& (3 : Int32)))])) t → Steps p.tables e below (s₁.setTop (mkF m 32 #[.val (.long p1), .second, .val (.long p2), .second, .val (.int p3), .val (.long (p1 &&& (9223372036854775807 : Int64))), .second, .val (.long (p2 &&& (9223372036854775807 : Int64))), .second, .val (.int (p3 &&& (3 : Int32))), .unset, .unset, .unset, .unset, .unset, .unset, .unset, .unset] [])) t := by
        intro t k
        show Steps p.tables e below (s₁.setTop (mkF m 32 #[.val (.long p1), .second, .val (.long p2), .second, .val (.int p3), .val (.long (p1 &&& (9223372036854775807 : Int64))), .second, .val (.long (p2 &&& (9223372036854775807 : Int64))), .second, .val (.int (p3 &&& (3 : Int32))), .unset, .unset, .unset, .unset, .unset, .unset, .unset, .unset] [])) _
        refine XS.iload X0.here hx rfl (hb hby at_32) rfl ?_
        show Steps p.tables e below (s₁.setTop (mkF m 34 #[.val (.long p1), .second, .val (.long p2), .second, .val (.int p3), .val (.long (p1 &&& (9223372036854775807 : Int64))), .second, .val (.long (p2 &&& (9223372036854775807 : Int64))), .second, .val (.int (p3 &&& (3 : Int32))), .unset, .unset, .unset, .unset, .unset, .unset, .unset, .unset] [(.int (p3 &&& (3 : Int32)))])) _
        refine XS.iconst X0.here hx rfl (hb hby at_34) ?_
        exact k
      have ch5 : ∀ t, Steps p.tables e below (s₁.setTop (mkF m 35 #[.val (.long p1), .second, .val (.long p2), .second, .val (.int p3), .val (.long (p1 &&& (9223372036854775807 : Int64))), .second, .val (.long (p2 &&& (9223372036854775807 : Int64))), .second, .val (.int (p3 &&& (3 : Int32))), .unset, .unset, .unset, .unset, .unset, .unset, .unset, .unset] [(.int (1 : Int32)), (.int (p3 &&& (3 : Int32)))])) t → Steps p.tables e below (s₁.setTop (mkF m 0 #[.val (.long p1), .second, .val (.long p2), .second, .val (.int p3), .unset, .unset, .unset, .unset, .unset, .unset, .unset, .unset, .unset, .unset, .unset, .unset, .unset] [])) t := by
        intro t k
        refine sg1 _ ?_
        show Steps p.tables e below (s₁.setTop (mkF m 22 #[.val (.long p1), .second, .val (.long p2), .second, .val (.int p3), .val (.long (p1 &&& (9223372036854775807 : Int64))), .second, .val (.long (p2 &&& (9223372036854775807 : Int64))), .second, .val (.int (p3 &&& (3 : Int32))), .unset, .unset, .unset, .unset, .unset, .unset, .unset, .unset] [(.int (p3 &&& (3 : Int32)))])) _
        refine sgf22 _ ?_
        show Steps p.tables e below (s₁.setTop (mkF m 32 #[.val (.long p1), .second, .val (.long p2), .second, .val (.int p3), .val (.long (p1 &&& (9223372036854775807 : Int64))), .second, .val (.long (p2 &&& (9223372036854775807 : Int64))), .second, .val (.int (p3 &&& (3 : Int32))), .unset, .unset, .unset, .unset, .unset, .unset, .unset, .unset] [])) _
        refine sg4 _ ?_
        show Steps p.tables e below (s₁.setTop (mkF m 35 #[.val (.long p1), .second, .val (.long p2), .second, .val (.int p3), .val (.long (p1 &&& (9223372036854775807 : Int64))), .second, .val (.long (p2 &&& (9223372036854775807 : Int64))), .second, .val (.int (p3 &&& (3 : Int32))), .unset, .unset, .unset, .unset, .unset, .unset, .unset, .unset] [(.int (1 : Int32)), (.int (p3 &&& (3 : Int32)))])) _
        exact k
      by_cases hc35 : (p3 &&& (3 : Int32)) = (1 : Int32)
      · have sgf35 : ∀ t, Steps p.tables e below (s₁.setTop (mkF m 38 #[.val (.long p1), .second, .val (.long p2), .second, .val (.int p3), .val (.long (p1 &&& (9223372036854775807 : Int64))), .second, .val (.long (p2 &&& (9223372036854775807 : Int64))), .second, .val (.int (p3 &&& (3 : Int32))), .unset, .unset, .unset, .unset, .unset, .unset, .unset, .unset] [])) t → Steps p.tables e below (s₁.setTop (mkF m 35 #[.val (.long p1), .second, .val (.long p2), .second, .val (.int p3), .val (.long (p1 &&& (9223372036854775807 : Int64))), .second, .val (.long (p2 &&& (9223372036854775807 : Int64))), .second, .val (.int (p3 &&& (3 : Int32))), .unset, .unset, .unset, .unset, .unset, .unset, .unset, .unset] [(.int (1 : Int32)), (.int (p3 &&& (3 : Int32)))])) t := fun t k => by
          refine XS.icmpNo X0.here hx rfl (hb hby at_35) rfl (teq hc35).2 ?_
          exact k
        have sg6 : ∀ t, Steps p.tables e below (s₁.setTop (mkF m 93 #[.val (.long p1), .second, .val (.long p2), .second, .val (.int p3), .val (.long (p1 &&& (9223372036854775807 : Int64))), .second, .val (.long (p2 &&& (9223372036854775807 : Int64))), .second, .val (.int (p3 &&& (3 : Int32))), .val (.long (9223372036854775807 : Int64)), .second, .unset, .unset, .unset, .unset, .unset, .unset] [])) t → Steps p.tables e below (s₁.setTop (mkF m 38 #[.val (.long p1), .second, .val (.long p2), .second, .val (.int p3), .val (.long (p1 &&& (9223372036854775807 : Int64))), .second, .val (.long (p2 &&& (9223372036854775807 : Int64))), .second, .val (.int (p3 &&& (3 : Int32))), .unset, .unset, .unset, .unset, .unset, .unset, .unset, .unset] [])) t := by
          intro t k
          show Steps p.tables e below (s₁.setTop (mkF m 38 #[.val (.long p1), .second, .val (.long p2), .second, .val (.int p3), .val (.long (p1 &&& (9223372036854775807 : Int64))), .second, .val (.long (p2 &&& (9223372036854775807 : Int64))), .second, .val (.int (p3 &&& (3 : Int32))), .unset, .unset, .unset, .unset, .unset, .unset, .unset, .unset] [])) _
          refine X0.ldc2Long hx hown (mvT hZ (hw _ (List.mem_of_getElem? (i := 0) rfl))) (g := (mkF m 38 #[.val (.long p1), .second, .val (.long p2), .second, .val (.int p3), .val (.long (p1 &&& (9223372036854775807 : Int64))), .second, .val (.long (p2 &&& (9223372036854775807 : Int64))), .second, .val (.int (p3 &&& (3 : Int32))), .unset, .unset, .unset, .unset, .unset, .unset, .unset, .unset] [])) rfl (hb hby at_38) _ ?_
          show Steps p.tables e below (s₁.setTop (mkF m 41 #[.val (.long p1), .second, .val (.long p2), .second, .val (.int p3), .val (.long (p1 &&& (9223372036854775807 : Int64))), .second, .val (.long (p2 &&& (9223372036854775807 : Int64))), .second, .val (.int (p3 &&& (3 : Int32))), .unset, .unset, .unset, .unset, .unset, .unset, .unset, .unset] [(.long (9223372036854775807 : Int64))])) _
          refine XS.lstore X0.here hx rfl (hb hby at_41) rfl (l' := #[.val (.long p1), .second, .val (.long p2), .second, .val (.int p3), .val (.long (p1 &&& (9223372036854775807 : Int64))), .second, .val (.long (p2 &&& (9223372036854775807 : Int64))), .second, .val (.int (p3 &&& (3 : Int32))), .val (.long (9223372036854775807 : Int64)), .second, .unset, .unset, .unset, .unset, .unset, .unset]) rfl ?_
          show Steps p.tables e below (s₁.setTop (mkF m 43 #[.val (.long p1), .second, .val (.long p2), .second, .val (.int p3), .val (.long (p1 &&& (9223372036854775807 : Int64))), .second, .val (.long (p2 &&& (9223372036854775807 : Int64))), .second, .val (.int (p3 &&& (3 : Int32))), .val (.long (9223372036854775807 : Int64)), .second, .unset, .unset, .unset, .unset, .unset, .unset] [])) _
          refine XS.goto X0.here hx rfl (pc0 := 43) (pc' := 93) rfl (hb hby at_43) (by decide) (by decide) ?_
          exact k
        have ch7 : ∀ t, Steps p.tables e below (s₁.setTop (mkF m 93 #[.val (.long p1), .second, .val (.long p2), .second, .val (.int p3), .val (.long (p1 &&& (9223372036854775807 : Int64))), .second, .val (.long (p2 &&& (9223372036854775807 : Int64))), .second, .val (.int (p3 &&& (3 : Int32))), .val (.long (9223372036854775807 : Int64)), .second, .unset, .unset, .unset, .unset, .unset, .unset] [])) t → Steps p.tables e below (s₁.setTop (mkF m 0 #[.val (.long p1), .second, .val (.long p2), .second, .val (.int p3), .unset, .unset, .unset, .unset, .unset, .unset, .unset, .unset, .unset, .unset, .unset, .unset, .unset] [])) t := by
          intro t k
          refine ch5 _ ?_
          show Steps p.tables e below (s₁.setTop (mkF m 35 #[.val (.long p1), .second, .val (.long p2), .second, .val (.int p3), .val (.long (p1 &&& (9223372036854775807 : Int64))), .second, .val (.long (p2 &&& (9223372036854775807 : Int64))), .second, .val (.int (p3 &&& (3 : Int32))), .unset, .unset, .unset, .unset, .unset, .unset, .unset, .unset] [(.int (1 : Int32)), (.int (p3 &&& (3 : Int32)))])) _
          refine sgf35 _ ?_
          show Steps p.tables e below (s₁.setTop (mkF m 38 #[.val (.long p1), .second, .val (.long p2), .second, .val (.int p3), .val (.long (p1 &&& (9223372036854775807 : Int64))), .second, .val (.long (p2 &&& (9223372036854775807 : Int64))), .second, .val (.int (p3 &&& (3 : Int32))), .unset, .unset, .unset, .unset, .unset, .unset, .unset, .unset] [])) _
          refine sg6 _ ?_
          show Steps p.tables e below (s₁.setTop (mkF m 93 #[.val (.long p1), .second, .val (.long p2), .second, .val (.int p3), .val (.long (p1 &&& (9223372036854775807 : Int64))), .second, .val (.long (p2 &&& (9223372036854775807 : Int64))), .second, .val (.int (p3 &&& (3 : Int32))), .val (.long (9223372036854775807 : Int64)), .second, .unset, .unset, .unset, .unset, .unset, .unset] [])) _
          exact k
        exact ⟨_, _, _, X0, e0, ((by decide) : 0 ≤ ((9223372036854775807 : Int64)).toInt), N0, ch7⟩
      · have sgf35 : ∀ t, Steps p.tables e below (s₁.setTop (mkF m 46 #[.val (.long p1), .second, .val (.long p2), .second, .val (.int p3), .val (.long (p1 &&& (9223372036854775807 : Int64))), .second, .val (.long (p2 &&& (9223372036854775807 : Int64))), .second, .val (.int (p3 &&& (3 : Int32))), .unset, .unset, .unset, .unset, .unset, .unset, .unset, .unset] [])) t → Steps p.tables e below (s₁.setTop (mkF m 35 #[.val (.long p1), .second, .val (.long p2), .second, .val (.int p3), .val (.long (p1 &&& (9223372036854775807 : Int64))), .second, .val (.long (p2 &&& (9223372036854775807 : Int64))), .second, .val (.int (p3 &&& (3 : Int32))), .unset, .unset, .unset, .unset, .unset, .unset, .unset, .unset] [(.int (1 : Int32)), (.int (p3 &&& (3 : Int32)))])) t := fun t k => by
          refine XS.icmpYes X0.here hx rfl (pc0 := 35) (pc' := 46) rfl (hb hby at_35) rfl (feq hc35).2 (by decide) (by decide) ?_
          exact k
        have sg8 : ∀ t, Steps p.tables e below (s₁.setTop (mkF m 49 #[.val (.long p1), .second, .val (.long p2), .second, .val (.int p3), .val (.long (p1 &&& (9223372036854775807 : Int64))), .second, .val (.long (p2 &&& (9223372036854775807 : Int64))), .second, .val (.int (p3 &&& (3 : Int32))), .unset, .unset, .unset, .unset, .unset, .unset, .unset, .unset] [(.int (2 : Int32)), (.int (p3 &&& (3 : Int32)))])) t → Steps p.tables e below (s₁.setTop (mkF m 46 #[.val (.long p1), .second, .val (.long p2), .second, .val (.int p3), .val (.long (p1 &&& (9223372036854775807 : Int64))), .second, .val (.long (p2 &&& (9223372036854775807 : Int64))), .second, .val (.int (p3 &&& (3 : Int32))), .unset, .unset, .unset, .unset, .unset, .unset, .unset, .unset] [])) t := by
          intro t k
          show Steps p.tables e below (s₁.setTop (mkF m 46 #[.val (.long p1), .second, .val (.long p2), .second, .val (.int p3), .val (.long (p1 &&& (9223372036854775807 : Int64))), .second, .val (.long (p2 &&& (9223372036854775807 : Int64))), .second, .val (.int (p3 &&& (3 : Int32))), .unset, .unset, .unset, .unset, .unset, .unset, .unset, .unset] [])) _
          refine XS.iload X0.here hx rfl (hb hby at_46) rfl ?_
          show Steps p.tables e below (s₁.setTop (mkF m 48 #[.val (.long p1), .second, .val (.long p2), .second, .val (.int p3), .val (.long (p1 &&& (9223372036854775807 : Int64))), .second, .val (.long (p2 &&& (9223372036854775807 : Int64))), .second, .val (.int (p3 &&& (3 : Int32))), .unset, .unset, .unset, .unset, .unset, .unset, .unset, .unset] [(.int (p3 &&& (3 : Int32)))])) _
          refine XS.iconst X0.here hx rfl (hb hby at_48) ?_
          exact k
        have ch9 : ∀ t, Steps p.tables e below (s₁.setTop (mkF m 49 #[.val (.long p1), .second, .val (.long p2), .second, .val (.int p3), .val (.long (p1 &&& (9223372036854775807 : Int64))), .second, .val (.long (p2 &&& (9223372036854775807 : Int64))), .second, .val (.int (p3 &&& (3 : Int32))), .unset, .unset, .unset, .unset, .unset, .unset, .unset, .unset] [(.int (2 : Int32)), (.int (p3 &&& (3 : Int32)))])) t → Steps p.tables e below (s₁.setTop (mkF m 0 #[.val (.long p1), .second, .val (.long p2), .second, .val (.int p3), .unset, .unset, .unset, .unset, .unset, .unset, .unset, .unset, .unset, .unset, .unset, .unset, .unset] [])) t := by
          intro t k
          refine ch5 _ ?_
          show Steps p.tables e below (s₁.setTop (mkF m 35 #[.val (.long p1), .second, .val (.long p2), .second, .val (.int p3), .val (.long (p1 &&& (9223372036854775807 : Int64))), .second, .val (.long (p2 &&& (9223372036854775807 : Int64))), .second, .val (.int (p3 &&& (3 : Int32))), .unset, .unset, .unset, .unset, .unset, .unset, .unset, .unset] [(.int (1 : Int32)), (.int (p3 &&& (3 : Int32)))])) _
          refine sgf35 _ ?_
          show Steps p.tables e below (s₁.setTop (mkF m 46 #[.val (.long p1), .second, .val (.long p2), .second, .val (.int p3), .val (.long (p1 &&& (9223372036854775807 : Int64))), .second, .val (.long (p2 &&& (9223372036854775807 : Int64))), .second, .val (.int (p3 &&& (3 : Int32))), .unset, .unset, .unset, .unset, .unset, .unset, .unset, .unset] [])) _
          refine sg8 _ ?_
          show Steps p.tables e below (s₁.setTop (mkF m 49 #[.val (.long p1), .second, .val (.long p2), .second, .val (.int p3), .val (.long (p1 &&& (9223372036854775807 : Int64))), .second, .val (.long (p2 &&& (9223372036854775807 : Int64))), .second, .val (.int (p3 &&& (3 : Int32))), .unset, .unset, .unset, .unset, .unset, .unset, .unset, .unset] [(.int (2 : Int32)), (.int (p3 &&& (3 : Int32)))])) _
          exact k
        by_cases hc49 : (p3 &&& (3 : Int32)) = (2 : Int32)
        · have sgf49 : ∀ t, Steps p.tables e below (s₁.setTop (mkF m 52 #[.val (.long p1), .second, .val (.long p2), .second, .val (.int p3), .val (.long (p1 &&& (9223372036854775807 : Int64))), .second, .val (.long (p2 &&& (9223372036854775807 : Int64))), .second, .val (.int (p3 &&& (3 : Int32))), .unset, .unset, .unset, .unset, .unset, .unset, .unset, .unset] [])) t → Steps p.tables e below (s₁.setTop (mkF m 49 #[.val (.long p1), .second, .val (.long p2), .second, .val (.int p3), .val (.long (p1 &&& (9223372036854775807 : Int64))), .second, .val (.long (p2 &&& (9223372036854775807 : Int64))), .second, .val (.int (p3 &&& (3 : Int32))), .unset, .unset, .unset, .unset, .unset, .unset, .unset, .unset] [(.int (2 : Int32)), (.int (p3 &&& (3 : Int32)))])) t := fun t k => by
            refine XS.icmpNo X0.here hx rfl (hb hby at_49) rfl (teq hc49).2 ?_
            exact k
          have sg10 : ∀ t, Steps p.tables e below (s₁.setTop (mkF m 65 #[.val (.long p1), .second, .val (.long p2), .second, .val (.int p3), .val (.long (p1 &&& (9223372036854775807 : Int64))), .second, .val (.long (p2 &&& (9223372036854775807 : Int64))), .second, .val (.int (p3 &&& (3 : Int32))), .unset, .unset, .unset, .unset, .unset, .unset, .unset, .unset] [(.long (((9223372036854775807 : Int64) - (p1 &&& (9223372036854775807 : Int64))) - (p2 &&& (3 : Int64)))), (.long (0 : Int64))])) t → Steps p.tables e below (s₁.setTop (mkF m 52 #[.val (.long p1), .second, .val (.long p2), .second, .val (.int p3), .val (.long (p1 &&& (9223372036854775807 : Int64))), .second, .val (.long (p2 &&& (9223372036854775807 : Int64))), .second, .val (.int (p3 &&& (3 : Int32))), .unset, .unset, .unset, .unset, .unset, .unset, .unset, .unset] [])) t := by
            intro t k
            show Steps p.tables e below (s₁.setTop (mkF m 52 #[.val (.long p1), .second, .val (.long p2), .second, .val (.int p3), .val (.long (p1 &&& (9223372036854775807 : Int64))), .second, .val (.long (p2 &&& (9223372036854775807 : Int64))), .second, .val (.int (p3 &&& (3 : Int32))), .unset, .unset, .unset, .unset, .unset, .unset, .unset, .unset] [])) _
            refine XS.lconst X0.here hx rfl (hb hby at_52) ?_
            show Steps p.tables e below (s₁.setTop (mkF m 53 #[.val (.long p1), .second, .val (.long p2), .second, .val (.int p3), .val (.long (p1 &&& (9223372036854775807 : Int64))), .second, .val (.long (p2 &&& (9223372036854775807 : Int64))), .second, .val (.int (p3 &&& (3 : Int32))), .unset, .unset, .unset, .unset, .unset, .unset, .unset, .unset] [(.long (0 : Int64))])) _
            refine X0.ldc2Long hx hown (mvT hZ (hw _ (List.mem_of_getElem? (i := 0) rfl))) (g := (mkF m 53 #[.val (.long p1), .second, .val (.long p2), .second, .val (.int p3), .val (.long (p1 &&& (9223372036854775807 : Int64))), .second, .val (.long (p2 &&& (9223372036854775807 : Int64))), .second, .val (.int (p3 &&& (3 : Int32))), .unset, .unset, .unset, .unset, .unset, .unset, .unset, .unset] [(.long (0 : Int64))])) rfl (hb hby at_53) _ ?_
            show Steps p.tables e below (s₁.setTop (mkF m 56 #[.val (.long p1), .second, .val (.long p2), .second, .val (.int p3), .val (.long (p1 &&& (9223372036854775807 : Int64))), .second, .val (.long (p2 &&& (9223372036854775807 : Int64))), .second, .val (.int (p3 &&& (3 : Int32))), .unset, .unset, .unset, .unset, .unset, .unset, .unset, .unset] [(.long (9223372036854775807 : Int64)), (.long (0 : Int64))])) _
            refine XS.lload X0.here hx rfl (hb hby at_56) rfl ?_
            show Steps p.tables e below (s₁.setTop (mkF m 58 #[.val (.long p1), .second, .val (.long p2), .second, .val (.int p3), .val (.long (p1 &&& (9223372036854775807 : Int64))), .second, .val (.long (p2 &&& (9223372036854775807 : Int64))), .second, .val (.int (p3 &&& (3 : Int32))), .unset, .unset, .unset, .unset, .unset, .unset, .unset, .unset] [(.long (p1 &&& (9223372036854775807 : Int64))), (.long (9223372036854775807 : Int64)), (.long (0 : Int64))])) _
            refine XS.lsub X0.here hx rfl (hb hby at_58) rfl ?_
            show Steps p.tables e below (s₁.setTop (mkF m 59 #[.val (.long p1), .second, .val (.long p2), .second, .val (.int p3), .val (.long (p1 &&& (9223372036854775807 : Int64))), .second, .val (.long (p2 &&& (9223372036854775807 : Int64))), .second, .val (.int (p3 &&& (3 : Int32))), .unset, .unset, .unset, .unset, .unset, .unset, .unset, .unset] [(.long ((9223372036854775807 : Int64) - (p1 &&& (9223372036854775807 : Int64)))), (.long (0 : Int64))])) _
            refine XS.lloadN X0.here hx rfl (hb hby at_59) rfl ?_
            show Steps p.tables e below (s₁.setTop (mkF m 60 #[.val (.long p1), .second, .val (.long p2), .second, .val (.int p3), .val (.long (p1 &&& (9223372036854775807 : Int64))), .second, .val (.long (p2 &&& (9223372036854775807 : Int64))), .second, .val (.int (p3 &&& (3 : Int32))), .unset, .unset, .unset, .unset, .unset, .unset, .unset, .unset] [(.long p2), (.long ((9223372036854775807 : Int64) - (p1 &&& (9223372036854775807 : Int64)))), (.long (0 : Int64))])) _
            refine X0.ldc2Long hx hown (mvT hZ (hw _ (List.mem_of_getElem? (i := 57) rfl))) (g := (mkF m 60 #[.val (.long p1), .second, .val (.long p2), .second, .val (.int p3), .val (.long (p1 &&& (9223372036854775807 : Int64))), .second, .val (.long (p2 &&& (9223372036854775807 : Int64))), .second, .val (.int (p3 &&& (3 : Int32))), .unset, .unset, .unset, .unset, .unset, .unset, .unset, .unset] [(.long p2), (.long ((9223372036854775807 : Int64) - (p1 &&& (9223372036854775807 : Int64)))), (.long (0 : Int64))])) rfl (hb hby at_60) _ ?_
            show Steps p.tables e below (s₁.setTop (mkF m 63 #[.val (.long p1), .second, .val (.long p2), .second, .val (.int p3), .val (.long (p1 &&& (9223372036854775807 : Int64))), .second, .val (.long (p2 &&& (9223372036854775807 : Int64))), .second, .val (.int (p3 &&& (3 : Int32))), .unset, .unset, .unset, .unset, .unset, .unset, .unset, .unset] [(.long (3 : Int64)), (.long p2), (.long ((9223372036854775807 : Int64) - (p1 &&& (9223372036854775807 : Int64)))), (.long (0 : Int64))])) _
            refine XS.land X0.here hx rfl (hb hby at_63) rfl ?_
            show Steps p.tables e below (s₁.setTop (mkF m 64 #[.val (.long p1), .second, .val (.long p2), .second, .val (.int p3), .val (.long (p1 &&& (9223372036854775807 : Int64))), .second, .val (.long (p2 &&& (9223372036854775807 : Int64))), .second, .val (.int (p3 &&& (3 : Int32))), .unset, .unset, .unset, .unset, .unset, .unset, .unset, .unset] [(.long (p2 &&& (3 : Int64))), (.long ((9223372036854775807 : Int64) - (p1 &&& (9223372036854775807 : Int64)))), (.long (0 : Int64))])) _
            refine XS.lsub X0.here hx rfl (hb hby at_64) rfl ?_
            exact k
          obtain ⟨_, _, ⟨T11, L11, k11, n11⟩, -, X11, ⟨Lc11, hQ11, l11, y11, z11⟩, st11⟩ := Jvm.LawKit.callS X0 hx (y := (⟨"java/lang/Math", "max", "(JJ)J"⟩ : MethodName)) hown (mvT hZ (hw _ (List.mem_of_getElem? (i := 58) rfl))) (mvT hZ (hw _ (List.mem_of_getElem? (i := 59) rfl))) (mvT hZ (hw _ (List.mem_of_getElem? (i := 60) rfl))) (mvT hZ (hw _ (List.mem_of_getElem? (i := 61) rfl))) (by decide) (backOf (W := 0) (rmX l Z a0 hw [] (0 : Int64) (((9223372036854775807 : Int64) - (p1 &&& (9223372036854775807 : Int64))) - (p2 &&& (3 : Int64))) h0 n0 Z0) hZ (hw _ (List.mem_of_getElem? (i := 61) rfl)) (hw _ (List.mem_of_getElem? (i := 60) rfl)) (by decide) (by decide)) (g := (mkF m 65 #[.val (.long p1), .second, .val (.long p2), .second, .val (.int p3), .val (.long (p1 &&& (9223372036854775807 : Int64))), .second, .val (.long (p2 &&& (9223372036854775807 : Int64))), .second, .val (.int (p3 &&& (3 : Int32))), .unset, .unset, .unset, .unset, .unset, .unset, .unset, .unset] [(.long (((9223372036854775807 : Int64) - (p1 &&& (9223372036854775807 : Int64))) - (p2 &&& (3 : Int64)))), (.long (0 : Int64))])) rfl (by rw [hml]; rfl) (argsL := [(.long (0 : Int64)), (.long (((9223372036854775807 : Int64) - (p1 &&& (9223372036854775807 : Int64))) - (p2 &&& (3 : Int64))))]) (rest := []) (lenOf pd_2 rfl) rfl (by show 2 * 0 + _ ≤ _; exact Nat.le_of_eq rfl) (hb hby at_65) (fun _ _ => ⟨rfl, e0, (by decide : 0 + 0 ≤ _), (by decide : 0 + 0 ≤ _)⟩)
          dsimp only [Pt.U, Pt.locs, Pt.cells, Pt.slots] at X11 l11 y11 z11 st11 hQ11
          subst l11 y11 z11
          obtain ⟨rfl, N11q, e11⟩ := hQ11
          have N11 := Fr.app N0 N11q
          have sg12 : ∀ t, Steps p.tables e below (T11.setTop (mkF m 93 #[.val (.long p1), .second, .val (.long p2), .second, .val (.int p3), .val (.long (p1 &&& (9223372036854775807 : Int64))), .second, .val (.long (p2 &&& (9223372036854775807 : Int64))), .second, .val (.int (p3 &&& (3 : Int32))), .val (.long (fX (0 : Int64) (((9223372036854775807 : Int64) - (p1 &&& (9223372036854775807 : Int64))) - (p2 &&& (3 : Int64))))), .second, .unset, .unset, .unset, .unset, .unset, .unset] [])) t → Steps p.tables e below (T11.setTop (mkF m 68 #[.val (.long p1), .second, .val (.long p2), .second, .val (.int p3), .val (.long (p1 &&& (9223372036854775807 : Int64))), .second, .val (.long (p2 &&& (9223372036854775807 : Int64))), .second, .val (.int (p3 &&& (3 : Int32))), .unset, .unset, .unset, .unset, .unset, .unset, .unset, .unset] [(.long (fX (0 : Int64) (((9223372036854775807 : Int64) - (p1 &&& (9223372036854775807 : Int64))) - (p2 &&& (3 : Int64)))))])) t := by
            intro t k
            show Steps p.tables e below (T11.setTop (mkF m 68 #[.val (.long p1), .second, .val (.long p2), .second, .val (.int p3), .val (.long (p1 &&& (9223372036854775807 : Int64))), .second, .val (.long (p2 &&& (9223372036854775807 : Int64))), .second, .val (.int (p3 &&& (3 : Int32))), .unset, .unset, .unset, .unset, .unset, .unset, .unset, .unset] [(.long (fX (0 : Int64) (((9223372036854775807 : Int64) - (p1 &&& (9223372036854775807 : Int64))) - (p2 &&& (3 : Int64)))))])) _
            refine XS.lstore X11.here hx rfl (hb hby at_68) rfl (l' := #[.val (.long p1), .second, .val (.long p2), .second, .val (.int p3), .val (.long (p1 &&& (9223372036854775807 : Int64))), .second, .val (.long (p2 &&& (9223372036854775807 : Int64))), .second, .val (.int (p3 &&& (3 : Int32))), .val (.long (fX (0 : Int64) (((9223372036854775807 : Int64) - (p1 &&& (9223372036854775807 : Int64))) - (p2 &&& (3 : Int64))))), .second, .unset, .unset, .unset, .unset, .unset, .unset]) rfl ?_
            show Steps p.tables e below (T11.setTop (mkF m 70 #[.val (.long p1), .second, .val (.long p2), .second, .val (.int p3), .val (.long (p1 &&& (9223372036854775807 : Int64))), .second, .val (.long (p2 &&& (9223372036854775807 : Int64))), .second, .val (.int (p3 &&& (3 : Int32))), .val (.long (fX (0 : Int64) (((9223372036854775807 : Int64) - (p1 &&& (9223372036854775807 : Int64))) - (p2 &&& (3 : Int64))))), .second, .unset, .unset, .unset, .unset, .unset, .unset] [])) _
            refine XS.goto X11.here hx rfl (pc0 := 70) (pc' := 93) rfl (hb hby at_70) (by decide) (by decide) ?_
            exact k
          have ch13 : ∀ t, Steps p.tables e below (T11.setTop (mkF m 93 #[.val (.long p1), .second, .val (.long p2), .second, .val (.int p3), .val (.long (p1 &&& (9223372036854775807 : Int64))), .second, .val (.long (p2 &&& (9223372036854775807 : Int64))), .second, .val (.int (p3 &&& (3 : Int32))), .val (.long (fX (0 : Int64) (((9223372036854775807 : Int64) - (p1 &&& (9223372036854775807 : Int64))) - (p2 &&& (3 : Int64))))), .second, .unset, .unset, .unset, .unset, .unset, .unset] [])) t → Steps p.tables e below (s₁.setTop (mkF m 0 #[.val (.long p1), .second, .val (.long p2), .second, .val (.int p3), .unset, .unset, .unset, .unset, .unset, .unset, .unset, .unset, .unset, .unset, .unset, .unset, .unset] [])) t := by
            intro t k
            refine ch9 _ ?_
            show Steps p.tables e below (s₁.setTop (mkF m 49 #[.val (.long p1), .second, .val (.long p2), .second, .val (.int p3), .val (.long (p1 &&& (9223372036854775807 : Int64))), .second, .val (.long (p2 &&& (9223372036854775807 : Int64))), .second, .val (.int (p3 &&& (3 : Int32))), .unset, .unset, .unset, .unset, .unset, .unset, .unset, .unset] [(.int (2 : Int32)), (.int (p3 &&& (3 : Int32)))])) _
            refine sgf49 _ ?_
            show Steps p.tables e below (s₁.setTop (mkF m 52 #[.val (.long p1), .second, .val (.long p2), .second, .val (.int p3), .val (.long (p1 &&& (9223372036854775807 : Int64))), .second, .val (.long (p2 &&& (9223372036854775807 : Int64))), .second, .val (.int (p3 &&& (3 : Int32))), .unset, .unset, .unset, .unset, .unset, .unset, .unset, .unset] [])) _
            refine sg10 _ ?_
            show Steps p.tables e below (s₁.setTop (mkF m 65 #[.val (.long p1), .second, .val (.long p2), .second, .val (.int p3), .val (.long (p1 &&& (9223372036854775807 : Int64))), .second, .val (.long (p2 &&& (9223372036854775807 : Int64))), .second, .val (.int (p3 &&& (3 : Int32))), .unset, .unset, .unset, .unset, .unset, .unset, .unset, .unset] [(.long (((9223372036854775807 : Int64) - (p1 &&& (9223372036854775807 : Int64))) - (p2 &&& (3 : Int64)))), (.long (0 : Int64))])) _
            refine st11 _ ?_
            show Steps p.tables e below (T11.setTop (mkF m 68 #[.val (.long p1), .second, .val (.long p2), .second, .val (.int p3), .val (.long (p1 &&& (9223372036854775807 : Int64))), .second, .val (.long (p2 &&& (9223372036854775807 : Int64))), .second, .val (.int (p3 &&& (3 : Int32))), .unset, .unset, .unset, .unset, .unset, .unset, .unset, .unset] [(.long (fX (0 : Int64) (((9223372036854775807 : Int64) - (p1 &&& (9223372036854775807 : Int64))) - (p2 &&& (3 : Int64)))))])) _
            refine sg12 _ ?_
            show Steps p.tables e below (T11.setTop (mkF m 93 #[.val (.long p1), .second, .val (.long p2), .second, .val (.int p3), .val (.long (p1 &&& (9223372036854775807 : Int64))), .second, .val (.long (p2 &&& (9223372036854775807 : Int64))), .second, .val (.int (p3 &&& (3 : Int32))), .val (.long (fX (0 : Int64) (((9223372036854775807 : Int64) - (p1 &&& (9223372036854775807 : Int64))) - (p2 &&& (3 : Int64))))), .second, .unset, .unset, .unset, .unset, .unset, .unset] [])) _
            exact k
          exact ⟨_, _, _, X11, e11, ((own_fX _) : 0 ≤ ((fX (0 : Int64) (((9223372036854775807 : Int64) - (p1 &&& (9223372036854775807 : Int64))) - (p2 &&& (3 : Int64))))).toInt), N11, ch13⟩
        · have sgf49 : ∀ t, Steps p.tables e below (s₁.setTop (mkF m 73 #[.val (.long p1), .second, .val (.long p2), .second, .val (.int p3), .val (.long (p1 &&& (9223372036854775807 : Int64))), .second, .val (.long (p2 &&& (9223372036854775807 : Int64))), .second, .val (.int (p3 &&& (3 : Int32))), .unset, .unset, .unset, .unset, .unset, .unset, .unset, .unset] [])) t → Steps p.tables e below (s₁.setTop (mkF m 49 #[.val (.long p1), .second, .val (.long p2), .second, .val (.int p3), .val (.long (p1 &&& (9223372036854775807 : Int64))), .second, .val (.long (p2 &&& (9223372036854775807 : Int64))), .second, .val (.int (p3 &&& (3 : Int32))), .unset, .unset, .unset, .unset, .unset, .unset, .unset, .unset] [(.int (2 : Int32)), (.int (p3 &&& (3 : Int32)))])) t := fun t k => by
            refine XS.icmpYes X0.here hx rfl (pc0 := 49) (pc' := 73) rfl (hb hby at_49) rfl (feq hc49).2 (by decide) (by decide) ?_
            exact k
          have sg14 : ∀ t, Steps p.tables e below (s₁.setTop (mkF m 93 #[.val (.long p1), .second, .val (.long p2), .second, .val (.int p3), .val (.long (p1 &&& (9223372036854775807 : Int64))), .second, .val (.long (p2 &&& (9223372036854775807 : Int64))), .second, .val (.int (p3 &&& (3 : Int32))), .val (.long (((((9223372036854775807 : Int64) - (p1 &&& (9223372036854775807 : Int64))) + (1 : Int64)) + (p2 &&& (3 : Int64))) &&& (9223372036854775807 : Int64))), .second, .unset, .unset, .unset, .unset, .unset, .unset] [])) t → Steps p.tables e below (s₁.setTop (mkF m 73 #[.val (.long p1), .second, .val (.long p2), .second, .val (.int p3), .val (.long (p1 &&& (9223372036854775807 : Int64))), .second, .val (.long (p2 &&& (9223372036854775807 : Int64))), .second, .val (.int (p3 &&& (3 : Int32))), .unset, .unset, .unset, .unset, .unset, .unset, .unset, .unset] [])) t := by
            intro t k
            show Steps p.tables e below (s₁.setTop (mkF m 73 #[.val (.long p1), .second, .val (.long p2), .second, .val (.int p3), .val (.long (p1 &&& (9223372036854775807 : Int64))), .second, .val (.long (p2 &&& (9223372036854775807 : Int64))), .second, .val (.int (p3 &&& (3 : Int32))), .unset, .unset, .unset, .unset, .unset, .unset, .unset, .unset] [])) _
            refine X0.ldc2Long hx hown (mvT hZ (hw _ (List.mem_of_getElem? (i := 0) rfl))) (g := (mkF m 73 #[.val (.long p1), .second, .val (.long p2), .second, .val (.int p3), .val (.long (p1 &&& (9223372036854775807 : Int64))), .second, .val (.long (p2 &&& (9223372036854775807 : Int64))), .second, .val (.int (p3 &&& (3 : Int32))), .unset, .unset, .unset, .unset, .unset, .unset, .unset, .unset] [])) rfl (hb hby at_73) _ ?_
            show Steps p.tables e below (s₁.setTop (mkF m 76 #[.val (.long p1), .second, .val (.long p2), .second, .val (.int p3), .val (.long (p1 &&& (9223372036854775807 : Int64))), .second, .val (.long (p2 &&& (9223372036854775807 : Int64))), .second, .val (.int (p3 &&& (3 : Int32))), .unset, .unset, .unset, .unset, .unset, .unset, .unset, .unset] [(.long (9223372036854775807 : Int64))])) _
            refine XS.lload X0.here hx rfl (hb hby at_76) rfl ?_
            show Steps p.tables e below (s₁.setTop (mkF m 78 #[.val (.long p1), .second, .val (.long p2), .second, .val (.int p3), .val (.long (p1 &&& (9223372036854775807 : Int64))), .second, .val (.long (p2 &&& (9223372036854775807 : Int64))), .second, .val (.int (p3 &&& (3 : Int32))), .unset, .unset, .unset, .unset, .unset, .unset, .unset, .unset] [(.long (p1 &&& (9223372036854775807 : Int64))), (.long (9223372036854775807 : Int64))])) _
            refine XS.lsub X0.here hx rfl (hb hby at_78) rfl ?_
            show Steps p.tables e below (s₁.setTop (mkF m 79 #[.val (.long p1), .second, .val (.long p2), .second, .val (.int p3), .val (.long (p1 &&& (9223372036854775807 : Int64))), .second, .val (.long (p2 &&& (9223372036854775807 : Int64))), .second, .val (.int (p3 &&& (3 : Int32))), .unset, .unset, .unset, .unset, .unset, .unset, .unset, .unset] [(.long ((9223372036854775807 : Int64) - (p1 &&& (9223372036854775807 : Int64))))])) _
            refine XS.lconst X0.here hx rfl (hb hby at_79) ?_
            show Steps p.tables e below (s₁.setTop (mkF m 80 #[.val (.long p1), .second, .val (.long p2), .second, .val (.int p3), .val (.long (p1 &&& (9223372036854775807 : Int64))), .second, .val (.long (p2 &&& (9223372036854775807 : Int64))), .second, .val (.int (p3 &&& (3 : Int32))), .unset, .unset, .unset, .unset, .unset, .unset, .unset, .unset] [(.long (1 : Int64)), (.long ((9223372036854775807 : Int64) - (p1 &&& (9223372036854775807 : Int64))))])) _
            refine XS.ladd X0.here hx rfl (hb hby at_80) rfl ?_
            show Steps p.tables e below (s₁.setTop (mkF m 81 #[.val (.long p1), .second, .val (.long p2), .second, .val (.int p3), .val (.long (p1 &&& (9223372036854775807 : Int64))), .second, .val (.long (p2 &&& (9223372036854775807 : Int64))), .second, .val (.int (p3 &&& (3 : Int32))), .unset, .unset, .unset, .unset, .unset, .unset, .unset, .unset] [(.long (((9223372036854775807 : Int64) - (p1 &&& (9223372036854775807 : Int64))) + (1 : Int64)))])) _
            refine XS.lloadN X0.here hx rfl (hb hby at_81) rfl ?_
            show Steps p.tables e below (s₁.setTop (mkF m 82 #[.val (.long p1), .second, .val (.long p2), .second, .val (.int p3), .val (.long (p1 &&& (9223372036854775807 : Int64))), .second, .val (.long (p2 &&& (9223372036854775807 : Int64))), .second, .val (.int (p3 &&& (3 : Int32))), .unset, .unset, .unset, .unset, .unset, .unset, .unset, .unset] [(.long p2), (.long (((9223372036854775807 : Int64) - (p1 &&& (9223372036854775807 : Int64))) + (1 : Int64)))])) _
            refine X0.ldc2Long hx hown (mvT hZ (hw _ (List.mem_of_getElem? (i := 57) rfl))) (g := (mkF m 82 #[.val (.long p1), .second, .val (.long p2), .second, .val (.int p3), .val (.long (p1 &&& (9223372036854775807 : Int64))), .second, .val (.long (p2 &&& (9223372036854775807 : Int64))), .second, .val (.int (p3 &&& (3 : Int32))), .unset, .unset, .unset, .unset, .unset, .unset, .unset, .unset] [(.long p2), (.long (((9223372036854775807 : Int64) - (p1 &&& (9223372036854775807 : Int64))) + (1 : Int64)))])) rfl (hb hby at_82) _ ?_
            show Steps p.tables e below (s₁.setTop (mkF m 85 #[.val (.long p1), .second, .val (.long p2), .second, .val (.int p3), .val (.long (p1 &&& (9223372036854775807 : Int64))), .second, .val (.long (p2 &&& (9223372036854775807 : Int64))), .second, .val (.int (p3 &&& (3 : Int32))), .unset, .unset, .unset, .unset, .unset, .unset, .unset, .unset] [(.long (3 : Int64)), (.long p2), (.long (((9223372036854775807 : Int64) - (p1 &&& (9223372036854775807 : Int64))) + (1 : Int64)))])) _
            refine XS.land X0.here hx rfl (hb hby at_85) rfl ?_
            show Steps p.tables e below (s₁.setTop (mkF m 86 #[.val (.long p1), .second, .val (.long p2), .second, .val (.int p3), .val (.long (p1 &&& (9223372036854775807 : Int64))), .second, .val (.long (p2 &&& (9223372036854775807 : Int64))), .second, .val (.int (p3 &&& (3 : Int32))), .unset, .unset, .unset, .unset, .unset, .unset, .unset, .unset] [(.long (p2 &&& (3 : Int64))), (.long (((9223372036854775807 : Int64) - (p1 &&& (9223372036854775807 : Int64))) + (1 : Int64)))])) _
            refine XS.ladd X0.here hx rfl (hb hby at_86) rfl ?_
            show Steps p.tables e below (s₁.setTop (mkF m 87 #[.val (.long p1), .second, .val (.long p2), .second, .val (.int p3), .val (.long (p1 &&& (9223372036854775807 : Int64))), .second, .val (.long (p2 &&& (9223372036854775807 : Int64))), .second, .val (.int (p3 &&& (3 : Int32))), .unset, .unset, .unset, .unset, .unset, .unset, .unset, .unset] [(.long ((((9223372036854775807 : Int64) - (p1 &&& (9223372036854775807 : Int64))) + (1 : Int64)) + (p2 &&& (3 : Int64))))])) _
            refine X0.ldc2Long hx hown (mvT hZ (hw _ (List.mem_of_getElem? (i := 0) rfl))) (g := (mkF m 87 #[.val (.long p1), .second, .val (.long p2), .second, .val (.int p3), .val (.long (p1 &&& (9223372036854775807 : Int64))), .second, .val (.long (p2 &&& (9223372036854775807 : Int64))), .second, .val (.int (p3 &&& (3 : Int32))), .unset, .unset, .unset, .unset, .unset, .unset, .unset, .unset] [(.long ((((9223372036854775807 : Int64) - (p1 &&& (9223372036854775807 : Int64))) + (1 : Int64)) + (p2 &&& (3 : Int64))))])) rfl (hb hby at_87) _ ?_
            show Steps p.tables e below (s₁.setTop (mkF m 90 #[.val (.long p1), .second, .val (.long p2), .second, .val (.int p3), .val (.long (p1 &&& (9223372036854775807 : Int64))), .second, .val (.long (p2 &&& (9223372036854775807 : Int64))), .second, .val (.int (p3 &&& (3 : Int32))), .unset, .unset, .unset, .unset, .unset, .unset, .unset, .unset] [(.long (9223372036854775807 : Int64)), (.long ((((9223372036854775807 : Int64) - (p1 &&& (9223372036854775807 : Int64))) + (1 : Int64)) + (p2 &&& (3 : Int64))))])) _
            refine XS.land X0.here hx rfl (hb hby at_90) rfl ?_
            show Steps p.tables e below (s₁.setTop (mkF m 91 #[.val (.long p1), .second, .val (.long p2), .second, .val (.int p3), .val (.long (p1 &&& (9223372036854775807 : Int64))), .second, .val (.long (p2 &&& (9223372036854775807 : Int64))), .second, .val (.int (p3 &&& (3 : Int32))), .unset, .unset, .unset, .unset, .unset, .unset, .unset, .unset] [(.long (((((9223372036854775807 : Int64) - (p1 &&& (9223372036854775807 : Int64))) + (1 : Int64)) + (p2 &&& (3 : Int64))) &&& (9223372036854775807 : Int64)))])) _
            refine XS.lstore X0.here hx rfl (hb hby at_91) rfl (l' := #[.val (.long p1), .second, .val (.long p2), .second, .val (.int p3), .val (.long (p1 &&& (9223372036854775807 : Int64))), .second, .val (.long (p2 &&& (9223372036854775807 : Int64))), .second, .val (.int (p3 &&& (3 : Int32))), .val (.long (((((9223372036854775807 : Int64) - (p1 &&& (9223372036854775807 : Int64))) + (1 : Int64)) + (p2 &&& (3 : Int64))) &&& (9223372036854775807 : Int64))), .second, .unset, .unset, .unset, .unset, .unset, .unset]) rfl ?_
            exact k
          have ch15 : ∀ t, Steps p.tables e below (s₁.setTop (mkF m 93 #[.val (.long p1), .second, .val (.long p2), .second, .val (.int p3), .val (.long (p1 &&& (9223372036854775807 : Int64))), .second, .val (.long (p2 &&& (9223372036854775807 : Int64))), .second, .val (.int (p3 &&& (3 : Int32))), .val (.long (((((9223372036854775807 : Int64) - (p1 &&& (9223372036854775807 : Int64))) + (1 : Int64)) + (p2 &&& (3 : Int64))) &&& (9223372036854775807 : Int64))), .second, .unset, .unset, .unset, .unset, .unset, .unset] [])) t → Steps p.tables e below (s₁.setTop (mkF m 0 #[.val (.long p1), .second, .val (.long p2), .second, .val (.int p3), .unset, .unset, .unset, .unset, .unset, .unset, .unset, .unset, .unset, .unset, .unset, .unset, .unset] [])) t := by
            intro t k
            refine ch9 _ ?_
            show Steps p.tables e below (s₁.setTop (mkF m 49 #[.val (.long p1), .second, .val (.long p2), .second, .val (.int p3), .val (.long (p1 &&& (9223372036854775807 : Int64))), .second, .val (.long (p2 &&& (9223372036854775807 : Int64))), .second, .val (.int (p3 &&& (3 : Int32))), .unset, .unset, .unset, .unset, .unset, .unset, .unset, .unset] [(.int (2 : Int32)), (.int (p3 &&& (3 : Int32)))])) _
            refine sgf49 _ ?_
            show Steps p.tables e below (s₁.setTop (mkF m 73 #[.val (.long p1), .second, .val (.long p2), .second, .val (.int p3), .val (.long (p1 &&& (9223372036854775807 : Int64))), .second, .val (.long (p2 &&& (9223372036854775807 : Int64))), .second, .val (.int (p3 &&& (3 : Int32))), .unset, .unset, .unset, .unset, .unset, .unset, .unset, .unset] [])) _
            refine sg14 _ ?_
            show Steps p.tables e below (s₁.setTop (mkF m 93 #[.val (.long p1), .second, .val (.long p2), .second, .val (.int p3), .val (.long (p1 &&& (9223372036854775807 : Int64))), .second, .val (.long (p2 &&& (9223372036854775807 : Int64))), .second, .val (.int (p3 &&& (3 : Int32))), .val (.long (((((9223372036854775807 : Int64) - (p1 &&& (9223372036854775807 : Int64))) + (1 : Int64)) + (p2 &&& (3 : Int64))) &&& (9223372036854775807 : Int64))), .second, .unset, .unset, .unset, .unset, .unset, .unset] [])) _
            exact k
          exact ⟨_, _, _, X0, e0, ((own_mask _) : 0 ≤ ((((((9223372036854775807 : Int64) - (p1 &&& (9223372036854775807 : Int64))) + (1 : Int64)) + (p2 &&& (3 : Int64))) &&& (9223372036854775807 : Int64))).toInt), N0, ch15⟩
  obtain ⟨T16, h16, X16, e16, E16, A16, D16, -, st16⟩ := newO X93 hx hZ hown (hw _ (List.mem_of_getElem? (i := 1) rfl)) (hw _ (List.mem_of_getElem? (i := 2) rfl)) (hw _ (List.mem_of_getElem? (i := 3) rfl)) e93 (g := (mkF m 93 #[.val (.long p1), .second, .val (.long p2), .second, .val (.int p3), .val (.long (p1 &&& (9223372036854775807 : Int64))), .second, .val (.long (p2 &&& (9223372036854775807 : Int64))), .second, .val (.int (p3 &&& (3 : Int32))), .val (.long tt), .second, .unset, .unset, .unset, .unset, .unset, .unset] [])) rfl (hb hby at_93) (by decide) (by decide)
  obtain ⟨b16, g16⟩ : ∃ z, z = h0.size := ⟨_, rfl⟩
  rw [← g16] at A16 D16 st16
  have gn_b16 : n0 ≤ b16 := Nat.le_trans Z0 (Nat.le_of_eq g16.symm)
  have z17 : n0 ≤ h16.size := Nat.le_trans Z0 E16.1
  have f18 : Fld Z h16 b16 "com/example/pochta/pochta/entity/Message" "encoded" "[B" .null := D16 (Or.inr (hw _ (List.mem_of_getElem? (i := 25) rfl))) (ty := (.array .byte)) (by decide)
  have f19 : Fld Z h16 b16 "com/example/pochta/pochta/entity/Message" "format" "I" (.int (0 : Int32)) := D16 (Or.inr (hw _ (List.mem_of_getElem? (i := 27) rfl))) (ty := .int) (by decide)
  have sg20 : ∀ t, Steps p.tables e below (T16.setTop (mkF m 98 #[.val (.long p1), .second, .val (.long p2), .second, .val (.int p3), .val (.long (p1 &&& (9223372036854775807 : Int64))), .second, .val (.long (p2 &&& (9223372036854775807 : Int64))), .second, .val (.int (p3 &&& (3 : Int32))), .val (.long tt), .second, .unset, .unset, .unset, .unset, .unset, .unset] [(.int (0 : Int32)), (.ref b16), (.ref b16)])) t → Steps p.tables e below (T16.setTop (mkF m 96 #[.val (.long p1), .second, .val (.long p2), .second, .val (.int p3), .val (.long (p1 &&& (9223372036854775807 : Int64))), .second, .val (.long (p2 &&& (9223372036854775807 : Int64))), .second, .val (.int (p3 &&& (3 : Int32))), .val (.long tt), .second, .unset, .unset, .unset, .unset, .unset, .unset] [(.ref b16)])) t := by
    intro t k
    show Steps p.tables e below (T16.setTop (mkF m 96 #[.val (.long p1), .second, .val (.long p2), .second, .val (.int p3), .val (.long (p1 &&& (9223372036854775807 : Int64))), .second, .val (.long (p2 &&& (9223372036854775807 : Int64))), .second, .val (.int (p3 &&& (3 : Int32))), .val (.long tt), .second, .unset, .unset, .unset, .unset, .unset, .unset] [(.ref b16)])) _
    refine XS.dup X16.here hx rfl (hb hby at_96) rfl rfl ?_
    show Steps p.tables e below (T16.setTop (mkF m 97 #[.val (.long p1), .second, .val (.long p2), .second, .val (.int p3), .val (.long (p1 &&& (9223372036854775807 : Int64))), .second, .val (.long (p2 &&& (9223372036854775807 : Int64))), .second, .val (.int (p3 &&& (3 : Int32))), .val (.long tt), .second, .unset, .unset, .unset, .unset, .unset, .unset] [(.ref b16), (.ref b16)])) _
    refine XS.iconst X16.here hx rfl (hb hby at_97) ?_
    exact k
  obtain ⟨T21, h21, k21, X21, e21, E21, A21, EA21, st21⟩ := newPE X16 hx hZ (hw _ (List.mem_of_getElem? (i := 4) rfl)) e16 (g := (mkF m 98 #[.val (.long p1), .second, .val (.long p2), .second, .val (.int p3), .val (.long (p1 &&& (9223372036854775807 : Int64))), .second, .val (.long (p2 &&& (9223372036854775807 : Int64))), .second, .val (.int (p3 &&& (3 : Int32))), .val (.long tt), .second, .unset, .unset, .unset, .unset, .unset, .unset] [(.int (0 : Int32)), (.ref b16), (.ref b16)])) rfl (hb hby at_98) rfl (by decide) (cap := 0) (by decide) (by decide) (by decide) (by decide) (ad := "[B") (by decide)
  obtain ⟨b21, g21⟩ : ∃ z, z = h16.size := ⟨_, rfl⟩
  rw [← g21] at A21 EA21 st21
  have ne22 : b16 ≠ b21 := Nat.ne_of_lt (Nat.lt_of_lt_of_le A16.lt (Nat.le_of_eq g21.symm))
  have gn_b21 : n0 ≤ b21 := Nat.le_trans z17 (Nat.le_of_eq g21.symm)
  have f23 : Exa Z h21 b16 "com/example/pochta/pochta/entity/Message" := A16.ext E21
  have f24 : Fld Z h21 b16 "com/example/pochta/pochta/entity/Message" "encoded" "[B" .null := f18.ext E21
  have f25 : Fld Z h21 b16 "com/example/pochta/pochta/entity/Message" "format" "I" (.int (0 : Int32)) := f19.ext E21
  have z26 : n0 ≤ h21.size := Nat.le_trans z17 E21.1
  have sg27 : ∀ t, Steps p.tables e below (T21.setTop (mkF m 101 #[.val (.long p1), .second, .val (.long p2), .second, .val (.int p3), .val (.long (p1 &&& (9223372036854775807 : Int64))), .second, .val (.long (p2 &&& (9223372036854775807 : Int64))), .second, .val (.int (p3 &&& (3 : Int32))), .val (.long tt), .second, .unset, .unset, .unset, .unset, .unset, .unset] [(.int (0 : Int32)), (.ref b21), (.ref b16), (.ref b16)])) t → Steps p.tables e below (T21.setTop (mkF m 100 #[.val (.long p1), .second, .val (.long p2), .second, .val (.int p3), .val (.long (p1 &&& (9223372036854775807 : Int64))), .second, .val (.long (p2 &&& (9223372036854775807 : Int64))), .second, .val (.int (p3 &&& (3 : Int32))), .val (.long tt), .second, .unset, .unset, .unset, .unset, .unset, .unset] [(.ref b21), (.ref b16), (.ref b16)])) t := by
    intro t k
    show Steps p.tables e below (T21.setTop (mkF m 100 #[.val (.long p1), .second, .val (.long p2), .second, .val (.int p3), .val (.long (p1 &&& (9223372036854775807 : Int64))), .second, .val (.long (p2 &&& (9223372036854775807 : Int64))), .second, .val (.int (p3 &&& (3 : Int32))), .val (.long tt), .second, .unset, .unset, .unset, .unset, .unset, .unset] [(.ref b21), (.ref b16), (.ref b16)])) _
    refine XS.iconst X21.here hx rfl (hb hby at_100) ?_
    exact k
  obtain ⟨_, _, ⟨T28, L28, k28, n28⟩, -, X28, hS28q, hg28, ⟨Lc28, hQ28, l28, y28, z28⟩, st28⟩ := X21.specialBackS hx (y := (⟨"com/example/pochta/pochta/entity/Message", "<init>", "([BI)V"⟩ : MethodName)) rfl hown (mvT hZ (hw _ (List.mem_of_getElem? (i := 5) rfl))) (mvT hZ (hw _ (List.mem_of_getElem? (i := 6) rfl))) (mvT hZ (hw _ (List.mem_of_getElem? (i := 7) rfl))) (by decide) (backOfS (W := 1) (rmM l Z a0 hw [] b16 b21 (0 : Int32) h21 n0 z26 f23 f24 f25 EA21 gn_b16 ne22) hZ (hw _ (List.mem_of_getElem? (i := 7) rfl)) (hw _ (List.mem_of_getElem? (i := 3) rfl)) (by decide) (by decide)) (g := (mkF m 101 #[.val (.long p1), .second, .val (.long p2), .second, .val (.int p3), .val (.long (p1 &&& (9223372036854775807 : Int64))), .second, .val (.long (p2 &&& (9223372036854775807 : Int64))), .second, .val (.int (p3 &&& (3 : Int32))), .val (.long tt), .second, .unset, .unset, .unset, .unset, .unset, .unset] [(.int (0 : Int32)), (.ref b21), (.ref b16), (.ref b16)])) rfl (by rw [hml]; rfl) (Steps.refl _) (a := b16) (argsL := [(.ref b21), (.int (0 : Int32))]) (rest := [(.ref b16)]) (lenOf pd_3 rfl) rfl (by show 2 * 0 + _ ≤ _; exact Nat.le_of_eq rfl) (hb hby at_101) (fun _ _ => ⟨rfl, e21, (by decide : 2 + 2 ≤ _), (by decide : 2 + 32 ≤ _)⟩)
  dsimp only [Pt.U, Pt.locs, Pt.cells, Pt.slots] at X28 l28 y28 z28 st28 hQ28 hS28q hg28
  subst l28 y28 z28
  have hS28 : s.Since T28.vm T28.heap.size := hS28q
  have hZ : Z.Warmed39 (s.setVm T28.vm).vm := State.Warmed39.trans (t := s) hZ hS28q.1
  have hown : (s.setVm T28.vm).vm.findClass "com/example/pochta/pochta/entity/QueuedMessageExpiresAtPinLaw" = some m.cls := by rw [show (s.setVm T28.vm).vm = T28.vm from rfl, hS28q.1.alike.findClass]; exact hown
  obtain ⟨rfl, N28q, KQ28⟩ := hQ28
  have N28 := Fr.app N93 N28q
  have f29 : Exa Z T28.heap b16 "com/example/pochta/pochta/entity/Message" := f23.keep KQ28
  have f30 : Exa Z T28.heap b21 "[B" := EA21.keep KQ28
  have z31 : n0 ≤ T28.heap.size := Nat.le_trans z26 KQ28.1
  have sg32 : ∀ t, Steps p.tables e below (T28.setTop (mkF m 106 #[.val (.long p1), .second, .val (.long p2), .second, .val (.int p3), .val (.long (p1 &&& (9223372036854775807 : Int64))), .second, .val (.long (p2 &&& (9223372036854775807 : Int64))), .second, .val (.int (p3 &&& (3 : Int32))), .val (.long tt), .second, .val (.ref b16), .unset, .unset, .unset, .unset, .unset] [])) t → Steps p.tables e below (T28.setTop (mkF m 104 #[.val (.long p1), .second, .val (.long p2), .second, .val (.int p3), .val (.long (p1 &&& (9223372036854775807 : Int64))), .second, .val (.long (p2 &&& (9223372036854775807 : Int64))), .second, .val (.int (p3 &&& (3 : Int32))), .val (.long tt), .second, .unset, .unset, .unset, .unset, .unset, .unset] [(.ref b16)])) t := by
    intro t k
    show Steps p.tables e below (T28.setTop (mkF m 104 #[.val (.long p1), .second, .val (.long p2), .second, .val (.int p3), .val (.long (p1 &&& (9223372036854775807 : Int64))), .second, .val (.long (p2 &&& (9223372036854775807 : Int64))), .second, .val (.int (p3 &&& (3 : Int32))), .val (.long tt), .second, .unset, .unset, .unset, .unset, .unset, .unset] [(.ref b16)])) _
    refine XS.astore X28.here hx rfl (hb hby at_104) rfl rfl (l' := #[.val (.long p1), .second, .val (.long p2), .second, .val (.int p3), .val (.long (p1 &&& (9223372036854775807 : Int64))), .second, .val (.long (p2 &&& (9223372036854775807 : Int64))), .second, .val (.int (p3 &&& (3 : Int32))), .val (.long tt), .second, .val (.ref b16), .unset, .unset, .unset, .unset, .unset]) rfl ?_
    exact k
  obtain ⟨T33, h33, X33, e33, E33, A33, D33, -, st33⟩ := newO X28 hx hZ hown (hw _ (List.mem_of_getElem? (i := 28) rfl)) (hw _ (List.mem_of_getElem? (i := 29) rfl)) (hw _ (List.mem_of_getElem? (i := 30) rfl)) rfl (g := (mkF m 106 #[.val (.long p1), .second, .val (.long p2), .second, .val (.int p3), .val (.long (p1 &&& (9223372036854775807 : Int64))), .second, .val (.long (p2 &&& (9223372036854775807 : Int64))), .second, .val (.int (p3 &&& (3 : Int32))), .val (.long tt), .second, .val (.ref b16), .unset, .unset, .unset, .unset, .unset] [])) rfl (hb hby at_106) (by decide) (by decide)
  obtain ⟨b33, g33⟩ : ∃ z, z = T28.heap.size := ⟨_, rfl⟩
  rw [← g33] at A33 D33 st33
  have ne34 : b16 ≠ b33 := Nat.ne_of_lt (Nat.lt_of_lt_of_le f29.lt (Nat.le_of_eq g33.symm))
  have ne35 : b21 ≠ b33 := Nat.ne_of_lt (Nat.lt_of_lt_of_le f30.lt (Nat.le_of_eq g33.symm))
  have gn_b33 : n0 ≤ b33 := Nat.le_trans z31 (Nat.le_of_eq g33.symm)
  have f36 : Exa Z h33 b16 "com/example/pochta/pochta/entity/Message" := f29.ext E33
  have f37 : Exa Z h33 b21 "[B" := f30.ext E33
  have z38 : n0 ≤ h33.size := Nat.le_trans z31 E33.1
  have hk39 : T28.heap.size ≤ h33.size := Nat.le_trans (Nat.le_refl _) E33.1
  have f40 : Fld Z h33 b33 "com/example/pochta/pochta/entity/QueuedMessage" "message" "Lcom/example/pochta/pochta/entity/Message;" .null := D33 (Or.inr (hw _ (List.mem_of_getElem? (i := 40) rfl))) (ty := (.object "com/example/pochta/pochta/entity/Message")) (by decide)
  have f41 : Fld Z h33 b33 "com/example/pochta/pochta/entity/QueuedMessage" "sequenceNumber" "J" (.long (0 : Int64)) := D33 (Or.inr (hw _ (List.mem_of_getElem? (i := 42) rfl))) (ty := .long) (by decide)
  have f42 : Fld Z h33 b33 "com/example/pochta/pochta/entity/QueuedMessage" "enqueuedTime" "J" (.long (0 : Int64)) := D33 (Or.inr (hw _ (List.mem_of_getElem? (i := 44) rfl))) (ty := .long) (by decide)
  have f43 : Fld Z h33 b33 "com/example/pochta/pochta/entity/QueuedMessage" "timeToLive" "J" (.long (0 : Int64)) := D33 (Or.inr (hw _ (List.mem_of_getElem? (i := 46) rfl))) (ty := .long) (by decide)
  have f44 : Fld Z h33 b33 "com/example/pochta/pochta/entity/QueuedMessage" "deliveryCount" "I" (.int (0 : Int32)) := D33 (Or.inl (hw _ (List.mem_of_getElem? (i := 48) rfl))) (ty := .int) (by decide)
  have f45 : Fld Z h33 b33 "com/example/pochta/pochta/entity/QueuedMessage" "deadLettering" "Lcom/example/pochta/pochta/entity/DeadLettering;" .null := D33 (Or.inr (hw _ (List.mem_of_getElem? (i := 50) rfl))) (ty := (.object "com/example/pochta/pochta/entity/DeadLettering")) (by decide)
  have sg46 : ∀ t, Steps p.tables e below (T33.setTop (mkF m 119 #[.val (.long p1), .second, .val (.long p2), .second, .val (.int p3), .val (.long (p1 &&& (9223372036854775807 : Int64))), .second, .val (.long (p2 &&& (9223372036854775807 : Int64))), .second, .val (.int (p3 &&& (3 : Int32))), .val (.long tt), .second, .val (.ref b16), .unset, .unset, .unset, .unset, .unset] [.null, (.int (0 : Int32)), (.long tt), (.long (p1 &&& (9223372036854775807 : Int64))), (.long (1 : Int64)), (.ref b16), (.ref b33), (.ref b33)])) t → Steps p.tables e below (T33.setTop (mkF m 109 #[.val (.long p1), .second, .val (.long p2), .second, .val (.int p3), .val (.long (p1 &&& (9223372036854775807 : Int64))), .second, .val (.long (p2 &&& (9223372036854775807 : Int64))), .second, .val (.int (p3 &&& (3 : Int32))), .val (.long tt), .second, .val (.ref b16), .unset, .unset, .unset, .unset, .unset] [(.ref b33)])) t := by
    intro t k
    show Steps p.tables e below (T33.setTop (mkF m 109 #[.val (.long p1), .second, .val (.long p2), .second, .val (.int p3), .val (.long (p1 &&& (9223372036854775807 : Int64))), .second, .val (.long (p2 &&& (9223372036854775807 : Int64))), .second, .val (.int (p3 &&& (3 : Int32))), .val (.long tt), .second, .val (.ref b16), .unset, .unset, .unset, .unset, .unset] [(.ref b33)])) _
    refine XS.dup X33.here hx rfl (hb hby at_109) rfl rfl ?_
    show Steps p.tables e below (T33.setTop (mkF m 110 #[.val (.long p1), .second, .val (.long p2), .second, .val (.int p3), .val (.long (p1 &&& (9223372036854775807 : Int64))), .second, .val (.long (p2 &&& (9223372036854775807 : Int64))), .second, .val (.int (p3 &&& (3 : Int32))), .val (.long tt), .second, .val (.ref b16), .unset, .unset, .unset, .unset, .unset] [(.ref b33), (.ref b33)])) _
    refine XS.aload X33.here hx rfl (hb hby at_110) rfl rfl ?_
    show Steps p.tables e below (T33.setTop (mkF m 112 #[.val (.long p1), .second, .val (.long p2), .second, .val (.int p3), .val (.long (p1 &&& (9223372036854775807 : Int64))), .second, .val (.long (p2 &&& (9223372036854775807 : Int64))), .second, .val (.int (p3 &&& (3 : Int32))), .val (.long tt), .second, .val (.ref b16), .unset, .unset, .unset, .unset, .unset] [(.ref b16), (.ref b33), (.ref b33)])) _
    refine XS.lconst X33.here hx rfl (hb hby at_112) ?_
    show Steps p.tables e below (T33.setTop (mkF m 113 #[.val (.long p1), .second, .val (.long p2), .second, .val (.int p3), .val (.long (p1 &&& (9223372036854775807 : Int64))), .second, .val (.long (p2 &&& (9223372036854775807 : Int64))), .second, .val (.int (p3 &&& (3 : Int32))), .val (.long tt), .second, .val (.ref b16), .unset, .unset, .unset, .unset, .unset] [(.long (1 : Int64)), (.ref b16), (.ref b33), (.ref b33)])) _
    refine XS.lload X33.here hx rfl (hb hby at_113) rfl ?_
    show Steps p.tables e below (T33.setTop (mkF m 115 #[.val (.long p1), .second, .val (.long p2), .second, .val (.int p3), .val (.long (p1 &&& (9223372036854775807 : Int64))), .second, .val (.long (p2 &&& (9223372036854775807 : Int64))), .second, .val (.int (p3 &&& (3 : Int32))), .val (.long tt), .second, .val (.ref b16), .unset, .unset, .unset, .unset, .unset] [(.long (p1 &&& (9223372036854775807 : Int64))), (.long (1 : Int64)), (.ref b16), (.ref b33), (.ref b33)])) _
    refine XS.lload X33.here hx rfl (hb hby at_115) rfl ?_
    show Steps p.tables e below (T33.setTop (mkF m 117 #[.val (.long p1), .second, .val (.long p2), .second, .val (.int p3), .val (.long (p1 &&& (9223372036854775807 : Int64))), .second, .val (.long (p2 &&& (9223372036854775807 : Int64))), .second, .val (.int (p3 &&& (3 : Int32))), .val (.long tt), .second, .val (.ref b16), .unset, .unset, .unset, .unset, .unset] [(.long tt), (.long (p1 &&& (9223372036854775807 : Int64))), (.long (1 : Int64)), (.ref b16), (.ref b33), (.ref b33)])) _
    refine XS.iconst X33.here hx rfl (hb hby at_117) ?_
    show Steps p.tables e below (T33.setTop (mkF m 118 #[.val (.long p1), .second, .val (.long p2), .second, .val (.int p3), .val (.long (p1 &&& (9223372036854775807 : Int64))), .second, .val (.long (p2 &&& (9223372036854775807 : Int64))), .second, .val (.int (p3 &&& (3 : Int32))), .val (.long tt), .second, .val (.ref b16), .unset, .unset, .unset, .unset, .unset] [(.int (0 : Int32)), (.long tt), (.long (p1 &&& (9223372036854775807 : Int64))), (.long (1 : Int64)), (.ref b16), (.ref b33), (.ref b33)])) _
    refine XS.aconstNull X33.here hx rfl (hb hby at_118) ?_
    exact k
  obtain ⟨_, _, ⟨T47, L47, k47, n47⟩, -, X47, hS47q, hg47, ⟨Lc47, hQ47, l47, y47, z47⟩, st47⟩ := X33.specialBackS hx (y := (⟨"com/example/pochta/pochta/entity/QueuedMessage", "<init>", "(Lcom/example/pochta/pochta/entity/Message;JJJILcom/example/pochta/pochta/entity/DeadLettering;)V"⟩ : MethodName)) rfl hown (mvT hZ (hw _ (List.mem_of_getElem? (i := 31) rfl))) (mvT hZ (hw _ (List.mem_of_getElem? (i := 32) rfl))) (mvT hZ (hw _ (List.mem_of_getElem? (i := 33) rfl))) (by decide) (backOfS (W := 1) (rmQ l Z a0 hw [] b33 b16 (1 : Int64) (p1 &&& (9223372036854775807 : Int64)) tt (0 : Int32) h33 n0 z38 A33 f40 f41 f42 f43 f44 f45 f36 gn_b33 (Ne.symm ne34)) hZ (hw _ (List.mem_of_getElem? (i := 33) rfl)) (hw _ (List.mem_of_getElem? (i := 30) rfl)) (by decide) (by decide)) (g := (mkF m 119 #[.val (.long p1), .second, .val (.long p2), .second, .val (.int p3), .val (.long (p1 &&& (9223372036854775807 : Int64))), .second, .val (.long (p2 &&& (9223372036854775807 : Int64))), .second, .val (.int (p3 &&& (3 : Int32))), .val (.long tt), .second, .val (.ref b16), .unset, .unset, .unset, .unset, .unset] [.null, (.int (0 : Int32)), (.long tt), (.long (p1 &&& (9223372036854775807 : Int64))), (.long (1 : Int64)), (.ref b16), (.ref b33), (.ref b33)])) rfl (by rw [hml]; rfl) (Steps.refl _) (a := b33) (argsL := [(.ref b16), (.long (1 : Int64)), (.long (p1 &&& (9223372036854775807 : Int64))), (.long tt), (.int (0 : Int32)), .null]) (rest := [(.ref b33)]) (lenOf pd_4 rfl) rfl (by show 2 * 0 + _ ≤ _; exact Nat.le_of_eq rfl) (hb hby at_119) (fun _ _ => ⟨rfl, e33, (by decide : 5 + 2 ≤ _), (by decide : 40 + 32 ≤ _)⟩)
  dsimp only [Pt.U, Pt.locs, Pt.cells, Pt.slots] at X47 l47 y47 z47 st47 hQ47 hS47q hg47
  subst l47 y47 z47
  have hS47 : s.Since T47.vm T47.heap.size := hS28.trans hS47q (Nat.le_trans (by rw [e33]; exact hk39) hg47)
  have hZ : Z.Warmed39 (s.setVm T47.vm).vm := State.Warmed39.trans (t := (s.setVm T28.vm)) hZ hS47q.1
  have hown : (s.setVm T47.vm).vm.findClass "com/example/pochta/pochta/entity/QueuedMessageExpiresAtPinLaw" = some m.cls := by rw [show (s.setVm T47.vm).vm = T47.vm from rfl, hS47q.1.alike.findClass]; exact hown
  obtain ⟨rfl, N47q, KQ47, Q47f0, Q47f1⟩ := hQ47
  have N47 := Fr.app N28 N47q
  have f48 : Exa Z T47.heap b16 "com/example/pochta/pochta/entity/Message" := f36.keep KQ47
  have f49 : Exa Z T47.heap b21 "[B" := f37.keep KQ47
  have f50 : Exa Z T47.heap b33 "com/example/pochta/pochta/entity/QueuedMessage" := A33.keep KQ47
  have z51 : n0 ≤ T47.heap.size := Nat.le_trans z38 KQ47.1
  have sg52 : ∀ t, Steps p.tables e below (T47.setTop (mkF m 135 #[.val (.long p1), .second, .val (.long p2), .second, .val (.int p3), .val (.long (p1 &&& (9223372036854775807 : Int64))), .second, .val (.long (p2 &&& (9223372036854775807 : Int64))), .second, .val (.int (p3 &&& (3 : Int32))), .val (.long tt), .second, .val (.ref b16), .val (.ref b33), .val (.long ((p1 &&& (9223372036854775807 : Int64)) + tt)), .second, .unset, .unset] [(.int (lcmpW ((p1 &&& (9223372036854775807 : Int64)) + tt) (0 : Int64)))])) t → Steps p.tables e below (T47.setTop (mkF m 122 #[.val (.long p1), .second, .val (.long p2), .second, .val (.int p3), .val (.long (p1 &&& (9223372036854775807 : Int64))), .second, .val (.long (p2 &&& (9223372036854775807 : Int64))), .second, .val (.int (p3 &&& (3 : Int32))), .val (.long tt), .second, .val (.ref b16), .unset, .unset, .unset, .unset, .unset] [(.ref b33)])) t := by
    intro t k
    show Steps p.tables e below (T47.setTop (mkF m 122 #[.val (.long p1), .second, .val (.long p2), .second, .val (.int p3), .val (.long (p1 &&& (9223372036854775807 : Int64))), .second, .val (.long (p2 &&& (9223372036854775807 : Int64))), .second, .val (.int (p3 &&& (3 : Int32))), .val (.long tt), .second, .val (.ref b16), .unset, .unset, .unset, .unset, .unset] [(.ref b33)])) _
    refine XS.astore X47.here hx rfl (hb hby at_122) rfl rfl (l' := #[.val (.long p1), .second, .val (.long p2), .second, .val (.int p3), .val (.long (p1 &&& (9223372036854775807 : Int64))), .second, .val (.long (p2 &&& (9223372036854775807 : Int64))), .second, .val (.int (p3 &&& (3 : Int32))), .val (.long tt), .second, .val (.ref b16), .val (.ref b33), .unset, .unset, .unset, .unset]) rfl ?_
    show Steps p.tables e below (T47.setTop (mkF m 124 #[.val (.long p1), .second, .val (.long p2), .second, .val (.int p3), .val (.long (p1 &&& (9223372036854775807 : Int64))), .second, .val (.long (p2 &&& (9223372036854775807 : Int64))), .second, .val (.int (p3 &&& (3 : Int32))), .val (.long tt), .second, .val (.ref b16), .val (.ref b33), .unset, .unset, .unset, .unset] [])) _
    refine XS.lload X47.here hx rfl (hb hby at_124) rfl ?_
    show Steps p.tables e below (T47.setTop (mkF m 126 #[.val (.long p1), .second, .val (.long p2), .second, .val (.int p3), .val (.long (p1 &&& (9223372036854775807 : Int64))), .second, .val (.long (p2 &&& (9223372036854775807 : Int64))), .second, .val (.int (p3 &&& (3 : Int32))), .val (.long tt), .second, .val (.ref b16), .val (.ref b33), .unset, .unset, .unset, .unset] [(.long (p1 &&& (9223372036854775807 : Int64)))])) _
    refine XS.lload X47.here hx rfl (hb hby at_126) rfl ?_
    show Steps p.tables e below (T47.setTop (mkF m 128 #[.val (.long p1), .second, .val (.long p2), .second, .val (.int p3), .val (.long (p1 &&& (9223372036854775807 : Int64))), .second, .val (.long (p2 &&& (9223372036854775807 : Int64))), .second, .val (.int (p3 &&& (3 : Int32))), .val (.long tt), .second, .val (.ref b16), .val (.ref b33), .unset, .unset, .unset, .unset] [(.long tt), (.long (p1 &&& (9223372036854775807 : Int64)))])) _
    refine XS.ladd X47.here hx rfl (hb hby at_128) rfl ?_
    show Steps p.tables e below (T47.setTop (mkF m 129 #[.val (.long p1), .second, .val (.long p2), .second, .val (.int p3), .val (.long (p1 &&& (9223372036854775807 : Int64))), .second, .val (.long (p2 &&& (9223372036854775807 : Int64))), .second, .val (.int (p3 &&& (3 : Int32))), .val (.long tt), .second, .val (.ref b16), .val (.ref b33), .unset, .unset, .unset, .unset] [(.long ((p1 &&& (9223372036854775807 : Int64)) + tt))])) _
    refine XS.lstore X47.here hx rfl (hb hby at_129) rfl (l' := #[.val (.long p1), .second, .val (.long p2), .second, .val (.int p3), .val (.long (p1 &&& (9223372036854775807 : Int64))), .second, .val (.long (p2 &&& (9223372036854775807 : Int64))), .second, .val (.int (p3 &&& (3 : Int32))), .val (.long tt), .second, .val (.ref b16), .val (.ref b33), .val (.long ((p1 &&& (9223372036854775807 : Int64)) + tt)), .second, .unset, .unset]) rfl ?_
    show Steps p.tables e below (T47.setTop (mkF m 131 #[.val (.long p1), .second, .val (.long p2), .second, .val (.int p3), .val (.long (p1 &&& (9223372036854775807 : Int64))), .second, .val (.long (p2 &&& (9223372036854775807 : Int64))), .second, .val (.int (p3 &&& (3 : Int32))), .val (.long tt), .second, .val (.ref b16), .val (.ref b33), .val (.long ((p1 &&& (9223372036854775807 : Int64)) + tt)), .second, .unset, .unset] [])) _
    refine XS.lload X47.here hx rfl (hb hby at_131) rfl ?_
    show Steps p.tables e below (T47.setTop (mkF m 133 #[.val (.long p1), .second, .val (.long p2), .second, .val (.int p3), .val (.long (p1 &&& (9223372036854775807 : Int64))), .second, .val (.long (p2 &&& (9223372036854775807 : Int64))), .second, .val (.int (p3 &&& (3 : Int32))), .val (.long tt), .second, .val (.ref b16), .val (.ref b33), .val (.long ((p1 &&& (9223372036854775807 : Int64)) + tt)), .second, .unset, .unset] [(.long ((p1 &&& (9223372036854775807 : Int64)) + tt))])) _
    refine XS.lconst X47.here hx rfl (hb hby at_133) ?_
    show Steps p.tables e below (T47.setTop (mkF m 134 #[.val (.long p1), .second, .val (.long p2), .second, .val (.int p3), .val (.long (p1 &&& (9223372036854775807 : Int64))), .second, .val (.long (p2 &&& (9223372036854775807 : Int64))), .second, .val (.int (p3 &&& (3 : Int32))), .val (.long tt), .second, .val (.ref b16), .val (.ref b33), .val (.long ((p1 &&& (9223372036854775807 : Int64)) + tt)), .second, .unset, .unset] [(.long (0 : Int64)), (.long ((p1 &&& (9223372036854775807 : Int64)) + tt))])) _
    refine XS.lcmp X47.here hx rfl (hb hby at_134) rfl ?_
    exact k
  obtain ⟨vE, hvE⟩ : ∃ v : Int64, v = (if ((p1 &&& (9223372036854775807 : Int64)) + tt) < (0 : Int64) then (9223372036854775807 : Int64) else ((p1 &&& (9223372036854775807 : Int64)) + tt)) := ⟨_, rfl⟩
  have sg53 : ∀ t, Steps p.tables e below (T47.setTop (mkF m 146 #[.val (.long p1), .second, .val (.long p2), .second, .val (.int p3), .val (.long (p1 &&& (9223372036854775807 : Int64))), .second, .val (.long (p2 &&& (9223372036854775807 : Int64))), .second, .val (.int (p3 &&& (3 : Int32))), .val (.long tt), .second, .val (.ref b16), .val (.ref b33), .val (.long ((p1 &&& (9223372036854775807 : Int64)) + tt)), .second, .unset, .unset] [(.long vE)])) t → Steps p.tables e below (T47.setTop (mkF m 135 #[.val (.long p1), .second, .val (.long p2), .second, .val (.int p3), .val (.long (p1 &&& (9223372036854775807 : Int64))), .second, .val (.long (p2 &&& (9223372036854775807 : Int64))), .second, .val (.int (p3 &&& (3 : Int32))), .val (.long tt), .second, .val (.ref b16), .val (.ref b33), .val (.long ((p1 &&& (9223372036854775807 : Int64)) + tt)), .second, .unset, .unset] [(.int (lcmpW ((p1 &&& (9223372036854775807 : Int64)) + tt) (0 : Int64)))])) t := by
    intro t k
    show Steps p.tables e below (T47.setTop (mkF m 135 #[.val (.long p1), .second, .val (.long p2), .second, .val (.int p3), .val (.long (p1 &&& (9223372036854775807 : Int64))), .second, .val (.long (p2 &&& (9223372036854775807 : Int64))), .second, .val (.int (p3 &&& (3 : Int32))), .val (.long tt), .second, .val (.ref b16), .val (.ref b33), .val (.long ((p1 &&& (9223372036854775807 : Int64)) + tt)), .second, .unset, .unset] [(.int (lcmpW ((p1 &&& (9223372036854775807 : Int64)) + tt) (0 : Int64)))])) _
    by_cases hc135 : ((p1 &&& (9223372036854775807 : Int64)) + tt) < (0 : Int64)
    · refine XS.ifNo X47.here hx rfl (hb hby at_135) rfl ((if0 _ _).trans (tlt ((lw_lt _ _).mpr hc135)).2.1) ?_
      show Steps p.tables e below (T47.setTop (mkF m 138 #[.val (.long p1), .second, .val (.long p2), .second, .val (.int p3), .val (.long (p1 &&& (9223372036854775807 : Int64))), .second, .val (.long (p2 &&& (9223372036854775807 : Int64))), .second, .val (.int (p3 &&& (3 : Int32))), .val (.long tt), .second, .val (.ref b16), .val (.ref b33), .val (.long ((p1 &&& (9223372036854775807 : Int64)) + tt)), .second, .unset, .unset] [])) _
      refine X47.ldc2Long hx hown (mvT hZ (hw _ (List.mem_of_getElem? (i := 0) rfl))) (g := (mkF m 138 #[.val (.long p1), .second, .val (.long p2), .second, .val (.int p3), .val (.long (p1 &&& (9223372036854775807 : Int64))), .second, .val (.long (p2 &&& (9223372036854775807 : Int64))), .second, .val (.int (p3 &&& (3 : Int32))), .val (.long tt), .second, .val (.ref b16), .val (.ref b33), .val (.long ((p1 &&& (9223372036854775807 : Int64)) + tt)), .second, .unset, .unset] [])) rfl (hb hby at_138) _ ?_
      show Steps p.tables e below (T47.setTop (mkF m 141 #[.val (.long p1), .second, .val (.long p2), .second, .val (.int p3), .val (.long (p1 &&& (9223372036854775807 : Int64))), .second, .val (.long (p2 &&& (9223372036854775807 : Int64))), .second, .val (.int (p3 &&& (3 : Int32))), .val (.long tt), .second, .val (.ref b16), .val (.ref b33), .val (.long ((p1 &&& (9223372036854775807 : Int64)) + tt)), .second, .unset, .unset] [(.long (9223372036854775807 : Int64))])) _
      refine XS.goto X47.here hx rfl (pc0 := 141) (pc' := 146) rfl (hb hby at_141) (by decide) (by decide) ?_
      rw [show vE = (9223372036854775807 : Int64) from by rw [hvE, if_pos hc135]] at k
      exact k
    · refine XS.ifYes X47.here hx rfl (pc0 := 135) (pc' := 144) rfl (hb hby at_135) rfl ((if0 _ _).trans (flt (mt (lw_lt _ _).mp hc135)).2.1) (by decide) (by decide) ?_
      show Steps p.tables e below (T47.setTop (mkF m 144 #[.val (.long p1), .second, .val (.long p2), .second, .val (.int p3), .val (.long (p1 &&& (9223372036854775807 : Int64))), .second, .val (.long (p2 &&& (9223372036854775807 : Int64))), .second, .val (.int (p3 &&& (3 : Int32))), .val (.long tt), .second, .val (.ref b16), .val (.ref b33), .val (.long ((p1 &&& (9223372036854775807 : Int64)) + tt)), .second, .unset, .unset] [])) _
      refine XS.lload X47.here hx rfl (hb hby at_144) rfl ?_
      rw [show vE = ((p1 &&& (9223372036854775807 : Int64)) + tt) from by rw [hvE, if_neg hc135]] at k
      exact k
  have sg54 : ∀ t, Steps p.tables e below (T47.setTop (mkF m 150 #[.val (.long p1), .second, .val (.long p2), .second, .val (.int p3), .val (.long (p1 &&& (9223372036854775807 : Int64))), .second, .val (.long (p2 &&& (9223372036854775807 : Int64))), .second, .val (.int (p3 &&& (3 : Int32))), .val (.long tt), .second, .val (.ref b16), .val (.ref b33), .val (.long ((p1 &&& (9223372036854775807 : Int64)) + tt)), .second, .val (.long vE), .second] [(.ref b33)])) t → Steps p.tables e below (T47.setTop (mkF m 146 #[.val (.long p1), .second, .val (.long p2), .second, .val (.int p3), .val (.long (p1 &&& (9223372036854775807 : Int64))), .second, .val (.long (p2 &&& (9223372036854775807 : Int64))), .second, .val (.int (p3 &&& (3 : Int32))), .val (.long tt), .second, .val (.ref b16), .val (.ref b33), .val (.long ((p1 &&& (9223372036854775807 : Int64)) + tt)), .second, .unset, .unset] [(.long vE)])) t := by
    intro t k
    show Steps p.tables e below (T47.setTop (mkF m 146 #[.val (.long p1), .second, .val (.long p2), .second, .val (.int p3), .val (.long (p1 &&& (9223372036854775807 : Int64))), .second, .val (.long (p2 &&& (9223372036854775807 : Int64))), .second, .val (.int (p3 &&& (3 : Int32))), .val (.long tt), .second, .val (.ref b16), .val (.ref b33), .val (.long ((p1 &&& (9223372036854775807 : Int64)) + tt)), .second, .unset, .unset] [(.long vE)])) _
    refine XS.lstore X47.here hx rfl (hb hby at_146) rfl (l' := #[.val (.long p1), .second, .val (.long p2), .second, .val (.int p3), .val (.long (p1 &&& (9223372036854775807 : Int64))), .second, .val (.long (p2 &&& (9223372036854775807 : Int64))), .second, .val (.int (p3 &&& (3 : Int32))), .val (.long tt), .second, .val (.ref b16), .val (.ref b33), .val (.long ((p1 &&& (9223372036854775807 : Int64)) + tt)), .second, .val (.long vE), .second]) rfl ?_
    show Steps p.tables e below (T47.setTop (mkF m 148 #[.val (.long p1), .second, .val (.long p2), .second, .val (.int p3), .val (.long (p1 &&& (9223372036854775807 : Int64))), .second, .val (.long (p2 &&& (9223372036854775807 : Int64))), .second, .val (.int (p3 &&& (3 : Int32))), .val (.long tt), .second, .val (.ref b16), .val (.ref b33), .val (.long ((p1 &&& (9223372036854775807 : Int64)) + tt)), .second, .val (.long vE), .second] [])) _
    refine XS.aload X47.here hx rfl (hb hby at_148) rfl rfl ?_
    exact k
  obtain ⟨cq55, kq55, q55a, q55b, q55c⟩ := isOf hZ rfl f50
  obtain ⟨_, _, ⟨T55, L55, k55, n55⟩, -, X55, ⟨Lc55, hQ55, l55, y55, z55⟩, st55⟩ := X47.virtualBack hx (y := (⟨"com/example/pochta/pochta/entity/QueuedMessage", "expiresAt", "()J"⟩ : MethodName)) (z := (⟨"com/example/pochta/pochta/entity/QueuedMessage", "expiresAt", "()J"⟩ : MethodName)) hown (mvT hZ (hw _ (List.mem_of_getElem? (i := 51) rfl))) (mvT hZ (hw _ (List.mem_of_getElem? (i := 52) rfl))) (notFace_of_selects (args := #[]) (mvT hZ (hw _ (List.mem_of_getElem? (i := 54) rfl)))) (mvT hZ (hw _ (List.mem_of_getElem? (i := 54) rfl))) (mvT hZ (hw _ (List.mem_of_getElem? (i := 53) rfl))) (by decide) (backOf (W := 0) (rmE l Z a0 hw [] b33 (p1 &&& (9223372036854775807 : Int64)) tt T47.heap n0 z51 Q47f0 Q47f1) hZ (hw _ (List.mem_of_getElem? (i := 55) rfl)) (hw _ (List.mem_of_getElem? (i := 30) rfl)) (by decide) (by decide)) q55a q55c (g := (mkF m 150 #[.val (.long p1), .second, .val (.long p2), .second, .val (.int p3), .val (.long (p1 &&& (9223372036854775807 : Int64))), .second, .val (.long (p2 &&& (9223372036854775807 : Int64))), .second, .val (.int (p3 &&& (3 : Int32))), .val (.long tt), .second, .val (.ref b16), .val (.ref b33), .val (.long ((p1 &&& (9223372036854775807 : Int64)) + tt)), .second, .val (.long vE), .second] [(.ref b33)])) rfl (by rw [hml]; rfl) (Steps.refl _) (argsL := []) (rest := []) (lenOf pd_5 rfl) rfl (by show 2 * 0 + _ ≤ _; exact Nat.le_of_eq rfl) (hb hby at_150) (fun _ _ => ⟨rfl, rfl, (by decide : 7 + 0 ≤ _), (by decide : 72 + 0 ≤ _)⟩)
  dsimp only [Pt.U, Pt.locs, Pt.cells, Pt.slots] at X55 l55 y55 z55 st55 hQ55
  subst l55 y55 z55
  obtain ⟨rfl, N55q, e55⟩ := hQ55
  have N55 := Fr.app N47 N55q
  have sg56 : ∀ t, Steps p.tables e below (T55.setTop (mkF m 164 #[.val (.long p1), .second, .val (.long p2), .second, .val (.int p3), .val (.long (p1 &&& (9223372036854775807 : Int64))), .second, .val (.long (p2 &&& (9223372036854775807 : Int64))), .second, .val (.int (p3 &&& (3 : Int32))), .val (.long tt), .second, .val (.ref b16), .val (.ref b33), .val (.long ((p1 &&& (9223372036854775807 : Int64)) + tt)), .second, .val (.long vE), .second] [(.int (1 : Int32))])) t → Steps p.tables e below (T55.setTop (mkF m 153 #[.val (.long p1), .second, .val (.long p2), .second, .val (.int p3), .val (.long (p1 &&& (9223372036854775807 : Int64))), .second, .val (.long (p2 &&& (9223372036854775807 : Int64))), .second, .val (.int (p3 &&& (3 : Int32))), .val (.long tt), .second, .val (.ref b16), .val (.ref b33), .val (.long ((p1 &&& (9223372036854775807 : Int64)) + tt)), .second, .val (.long vE), .second] [(.long (if tt < ((9223372036854775807 : Int64) - (p1 &&& (9223372036854775807 : Int64))) then ((p1 &&& (9223372036854775807 : Int64)) + tt) else (9223372036854775807 : Int64)))])) t := by
    intro t k
    show Steps p.tables e below (T55.setTop (mkF m 153 #[.val (.long p1), .second, .val (.long p2), .second, .val (.int p3), .val (.long (p1 &&& (9223372036854775807 : Int64))), .second, .val (.long (p2 &&& (9223372036854775807 : Int64))), .second, .val (.int (p3 &&& (3 : Int32))), .val (.long tt), .second, .val (.ref b16), .val (.ref b33), .val (.long ((p1 &&& (9223372036854775807 : Int64)) + tt)), .second, .val (.long vE), .second] [(.long (if tt < ((9223372036854775807 : Int64) - (p1 &&& (9223372036854775807 : Int64))) then ((p1 &&& (9223372036854775807 : Int64)) + tt) else (9223372036854775807 : Int64)))])) _
    refine XS.lload X55.here hx rfl (hb hby at_153) rfl ?_
    show Steps p.tables e below (T55.setTop (mkF m 155 #[.val (.long p1), .second, .val (.long p2), .second, .val (.int p3), .val (.long (p1 &&& (9223372036854775807 : Int64))), .second, .val (.long (p2 &&& (9223372036854775807 : Int64))), .second, .val (.int (p3 &&& (3 : Int32))), .val (.long tt), .second, .val (.ref b16), .val (.ref b33), .val (.long ((p1 &&& (9223372036854775807 : Int64)) + tt)), .second, .val (.long vE), .second] [(.long vE), (.long (if tt < ((9223372036854775807 : Int64) - (p1 &&& (9223372036854775807 : Int64))) then ((p1 &&& (9223372036854775807 : Int64)) + tt) else (9223372036854775807 : Int64)))])) _
    refine XS.lcmp X55.here hx rfl (hb hby at_155) rfl ?_
    show Steps p.tables e below (T55.setTop (mkF m 156 #[.val (.long p1), .second, .val (.long p2), .second, .val (.int p3), .val (.long (p1 &&& (9223372036854775807 : Int64))), .second, .val (.long (p2 &&& (9223372036854775807 : Int64))), .second, .val (.int (p3 &&& (3 : Int32))), .val (.long tt), .second, .val (.ref b16), .val (.ref b33), .val (.long ((p1 &&& (9223372036854775807 : Int64)) + tt)), .second, .val (.long vE), .second] [(.int (lcmpW (if tt < ((9223372036854775807 : Int64) - (p1 &&& (9223372036854775807 : Int64))) then ((p1 &&& (9223372036854775807 : Int64)) + tt) else (9223372036854775807 : Int64)) vE))])) _
    refine XS.ifNo X55.here hx rfl (hb hby at_156) rfl ((if0 _ _).trans (teq ((lw_eq _ _).mpr (((own_fin _ _ (own_mask p1) ht).trans hvE.symm) : (if tt < ((9223372036854775807 : Int64) - (p1 &&& (9223372036854775807 : Int64))) then ((p1 &&& (9223372036854775807 : Int64)) + tt) else (9223372036854775807 : Int64)) = vE))).2) ?_
    show Steps p.tables e below (T55.setTop (mkF m 159 #[.val (.long p1), .second, .val (.long p2), .second, .val (.int p3), .val (.long (p1 &&& (9223372036854775807 : Int64))), .second, .val (.long (p2 &&& (9223372036854775807 : Int64))), .second, .val (.int (p3 &&& (3 : Int32))), .val (.long tt), .second, .val (.ref b16), .val (.ref b33), .val (.long ((p1 &&& (9223372036854775807 : Int64)) + tt)), .second, .val (.long vE), .second] [])) _
    refine XS.iconst X55.here hx rfl (hb hby at_159) ?_
    show Steps p.tables e below (T55.setTop (mkF m 160 #[.val (.long p1), .second, .val (.long p2), .second, .val (.int p3), .val (.long (p1 &&& (9223372036854775807 : Int64))), .second, .val (.long (p2 &&& (9223372036854775807 : Int64))), .second, .val (.int (p3 &&& (3 : Int32))), .val (.long tt), .second, .val (.ref b16), .val (.ref b33), .val (.long ((p1 &&& (9223372036854775807 : Int64)) + tt)), .second, .val (.long vE), .second] [(.int (1 : Int32))])) _
    refine XS.goto X55.here hx rfl (pc0 := 160) (pc' := 164) rfl (hb hby at_160) (by decide) (by decide) ?_
    exact k
  obtain ⟨fs, hr, hrun, hended, hEnd⟩ := Jvm.Stand.leaveW (s := s) (vm₁ := T47.vm) X55 hS47 (by rw [e55]; exact (Nat.le_refl _)) (v := some (.int (1 : Int32))) (fun h => by rw [Bd.returns] at h; cases h) (hlocks := hlk)
  refine ⟨_, _, pre0 _ ?_, hrun, hended, _, _, rfl, ?_, hEnd.1, hEnd.2.1, hEnd.2.2.1, hEnd.2.2.2.mono (by decide) (by decide)⟩
  · show Steps p.tables e below (s₁.setTop (mkF m 0 #[.val (.long p1), .second, .val (.long p2), .second, .val (.int p3), .unset, .unset, .unset, .unset, .unset, .unset, .unset, .unset, .unset, .unset, .unset, .unset, .unset] [])) _
    refine ch93 _ ?_
    show Steps p.tables e below (T93.setTop (mkF m 93 #[.val (.long p1), .second, .val (.long p2), .second, .val (.int p3), .val (.long (p1 &&& (9223372036854775807 : Int64))), .second, .val (.long (p2 &&& (9223372036854775807 : Int64))), .second, .val (.int (p3 &&& (3 : Int32))), .val (.long tt), .second, .unset, .unset, .unset, .unset, .unset, .unset] [])) _
    refine st16 _ ?_
    show Steps p.tables e below (T16.setTop (mkF m 96 #[.val (.long p1), .second, .val (.long p2), .second, .val (.int p3), .val (.long (p1 &&& (9223372036854775807 : Int64))), .second, .val (.long (p2 &&& (9223372036854775807 : Int64))), .second, .val (.int (p3 &&& (3 : Int32))), .val (.long tt), .second, .unset, .unset, .unset, .unset, .unset, .unset] [(.ref b16)])) _
    refine sg20 _ ?_
    show Steps p.tables e below (T16.setTop (mkF m 98 #[.val (.long p1), .second, .val (.long p2), .second, .val (.int p3), .val (.long (p1 &&& (9223372036854775807 : Int64))), .second, .val (.long (p2 &&& (9223372036854775807 : Int64))), .second, .val (.int (p3 &&& (3 : Int32))), .val (.long tt), .second, .unset, .unset, .unset, .unset, .unset, .unset] [(.int (0 : Int32)), (.ref b16), (.ref b16)])) _
    refine st21 _ ?_
    show Steps p.tables e below (T21.setTop (mkF m 100 #[.val (.long p1), .second, .val (.long p2), .second, .val (.int p3), .val (.long (p1 &&& (9223372036854775807 : Int64))), .second, .val (.long (p2 &&& (9223372036854775807 : Int64))), .second, .val (.int (p3 &&& (3 : Int32))), .val (.long tt), .second, .unset, .unset, .unset, .unset, .unset, .unset] [(.ref b21), (.ref b16), (.ref b16)])) _
    refine sg27 _ ?_
    show Steps p.tables e below (T21.setTop (mkF m 101 #[.val (.long p1), .second, .val (.long p2), .second, .val (.int p3), .val (.long (p1 &&& (9223372036854775807 : Int64))), .second, .val (.long (p2 &&& (9223372036854775807 : Int64))), .second, .val (.int (p3 &&& (3 : Int32))), .val (.long tt), .second, .unset, .unset, .unset, .unset, .unset, .unset] [(.int (0 : Int32)), (.ref b21), (.ref b16), (.ref b16)])) _
    refine st28.trans ?_
    show Steps p.tables e below (T28.setTop (mkF m 104 #[.val (.long p1), .second, .val (.long p2), .second, .val (.int p3), .val (.long (p1 &&& (9223372036854775807 : Int64))), .second, .val (.long (p2 &&& (9223372036854775807 : Int64))), .second, .val (.int (p3 &&& (3 : Int32))), .val (.long tt), .second, .unset, .unset, .unset, .unset, .unset, .unset] [(.ref b16)])) _
    refine sg32 _ ?_
    show Steps p.tables e below (T28.setTop (mkF m 106 #[.val (.long p1), .second, .val (.long p2), .second, .val (.int p3), .val (.long (p1 &&& (9223372036854775807 : Int64))), .second, .val (.long (p2 &&& (9223372036854775807 : Int64))), .second, .val (.int (p3 &&& (3 : Int32))), .val (.long tt), .second, .val (.ref b16), .unset, .unset, .unset, .unset, .unset] [])) _
    refine st33 _ ?_
    show Steps p.tables e below (T33.setTop (mkF m 109 #[.val (.long p1), .second, .val (.long p2), .second, .val (.int p3), .val (.long (p1 &&& (9223372036854775807 : Int64))), .second, .val (.long (p2 &&& (9223372036854775807 : Int64))), .second, .val (.int (p3 &&& (3 : Int32))), .val (.long tt), .second, .val (.ref b16), .unset, .unset, .unset, .unset, .unset] [(.ref b33)])) _
    refine sg46 _ ?_
    show Steps p.tables e below (T33.setTop (mkF m 119 #[.val (.long p1), .second, .val (.long p2), .second, .val (.int p3), .val (.long (p1 &&& (9223372036854775807 : Int64))), .second, .val (.long (p2 &&& (9223372036854775807 : Int64))), .second, .val (.int (p3 &&& (3 : Int32))), .val (.long tt), .second, .val (.ref b16), .unset, .unset, .unset, .unset, .unset] [.null, (.int (0 : Int32)), (.long tt), (.long (p1 &&& (9223372036854775807 : Int64))), (.long (1 : Int64)), (.ref b16), (.ref b33), (.ref b33)])) _
    refine st47.trans ?_
    show Steps p.tables e below (T47.setTop (mkF m 122 #[.val (.long p1), .second, .val (.long p2), .second, .val (.int p3), .val (.long (p1 &&& (9223372036854775807 : Int64))), .second, .val (.long (p2 &&& (9223372036854775807 : Int64))), .second, .val (.int (p3 &&& (3 : Int32))), .val (.long tt), .second, .val (.ref b16), .unset, .unset, .unset, .unset, .unset] [(.ref b33)])) _
    refine sg52 _ ?_
    show Steps p.tables e below (T47.setTop (mkF m 135 #[.val (.long p1), .second, .val (.long p2), .second, .val (.int p3), .val (.long (p1 &&& (9223372036854775807 : Int64))), .second, .val (.long (p2 &&& (9223372036854775807 : Int64))), .second, .val (.int (p3 &&& (3 : Int32))), .val (.long tt), .second, .val (.ref b16), .val (.ref b33), .val (.long ((p1 &&& (9223372036854775807 : Int64)) + tt)), .second, .unset, .unset] [(.int (lcmpW ((p1 &&& (9223372036854775807 : Int64)) + tt) (0 : Int64)))])) _
    refine sg53 _ ?_
    show Steps p.tables e below (T47.setTop (mkF m 146 #[.val (.long p1), .second, .val (.long p2), .second, .val (.int p3), .val (.long (p1 &&& (9223372036854775807 : Int64))), .second, .val (.long (p2 &&& (9223372036854775807 : Int64))), .second, .val (.int (p3 &&& (3 : Int32))), .val (.long tt), .second, .val (.ref b16), .val (.ref b33), .val (.long ((p1 &&& (9223372036854775807 : Int64)) + tt)), .second, .unset, .unset] [(.long vE)])) _
    refine sg54 _ ?_
    show Steps p.tables e below (T47.setTop (mkF m 150 #[.val (.long p1), .second, .val (.long p2), .second, .val (.int p3), .val (.long (p1 &&& (9223372036854775807 : Int64))), .second, .val (.long (p2 &&& (9223372036854775807 : Int64))), .second, .val (.int (p3 &&& (3 : Int32))), .val (.long tt), .second, .val (.ref b16), .val (.ref b33), .val (.long ((p1 &&& (9223372036854775807 : Int64)) + tt)), .second, .val (.long vE), .second] [(.ref b33)])) _
    refine st55.trans ?_
    show Steps p.tables e below (T55.setTop (mkF m 153 #[.val (.long p1), .second, .val (.long p2), .second, .val (.int p3), .val (.long (p1 &&& (9223372036854775807 : Int64))), .second, .val (.long (p2 &&& (9223372036854775807 : Int64))), .second, .val (.int (p3 &&& (3 : Int32))), .val (.long tt), .second, .val (.ref b16), .val (.ref b33), .val (.long ((p1 &&& (9223372036854775807 : Int64)) + tt)), .second, .val (.long vE), .second] [(.long (if tt < ((9223372036854775807 : Int64) - (p1 &&& (9223372036854775807 : Int64))) then ((p1 &&& (9223372036854775807 : Int64)) + tt) else (9223372036854775807 : Int64)))])) _
    refine sg56 _ ?_
    show Steps p.tables e below (T55.setTop (mkF m 164 #[.val (.long p1), .second, .val (.long p2), .second, .val (.int p3), .val (.long (p1 &&& (9223372036854775807 : Int64))), .second, .val (.long (p2 &&& (9223372036854775807 : Int64))), .second, .val (.int (p3 &&& (3 : Int32))), .val (.long tt), .second, .val (.ref b16), .val (.ref b33), .val (.long ((p1 &&& (9223372036854775807 : Int64)) + tt)), .second, .val (.long vE), .second] [(.int (1 : Int32))])) _
    exact retN X55 hx (t := .boolean) Bd.returns (by simp) (hb hby at_164) hr
  · show Q0 Z p1 p2 p3 h0 n0 _ T55.heap _
    rw [e55]
    exact ⟨rfl, N55⟩
set_option maxRecDepth 65536 in
set_option maxHeartbeats 40000000 in
theorem comes_1 {Post : Tables → Env → Array Value → State → Outcome → State → Prop} (hpost : ∀ tb e args s v u, (limb_1_1.after args s (.returned v) u = true ∧ limb_1_2.after args s (.returned v) u = true ∧ True) → ReturnedEndW s (.returned v) u (Jvm.fieldLocs frame_1_writes args s ++ Jvm.arrayLocs frame_1_arrays args s ++ Jvm.staticLocs frame_1_statics s) 24 2176 → Post tb e args s (.returned v) u) :
    ArmFor flags0 classFile x code maxLocals ret World_1 tables_1 room_1 Calls_1 rest_1 Pre_1 Post := by
  intro l hfl _ _ p e ha hc hk s m args below hf hA hF happ hP
  obtain ⟨hcalls, hrest, hpre⟩ := hP
  obtain ⟨-, -, -, hnamed, -, -, -, hat⟩ := (Spec.applies_iff hf).mp happ
  obtain ⟨hg, hn⟩ := and_e (Cond.before_iff.mp (show (Jvm.Cond.and given_1 narrow_1).before args s = true from hpre))
  obtain ⟨gc, gr0⟩ := and_e hg
  obtain ⟨ga0, gr1⟩ := and_e gr0
  obtain ⟨ga1, gr2⟩ := and_e gr1
  have ga2 := gr2
  obtain ⟨w0, w1, w2, rfl⟩ : ∃ w0 w1 w2 : Value, args = #[w0, w1, w2] := by
    have hs : args.size = 3 := by simpa [Cond.value, given_1] using gc
    obtain ⟨L⟩ := args
    match L, hs with
    | [w0, w1, w2], _ => exact ⟨w0, w1, w2, rfl⟩
  have hw := fun d (hd : d ∈ tables_1) => atoms_spec (ws := Jvm.Cond.code x code maxLocals ret :: tables_1) hat d (List.mem_cons_of_mem _ hd)
  have hfit : Fit s := fun {y c} hc i hi => by
    obtain ⟨ha, rfl⟩ := Array.getElem?_eq_some_iff.mp hc
    have q := List.all_eq_true.mp ((Array.all_eq_true_iff_forall_mem.mp hF) _ (Array.getElem_mem ha)) i (List.mem_range.mpr hi)
    simpa [Array.getElem?_eq_getElem hi] using q
  obtain ⟨i0, ei0⟩ := isL_v ga0
  obtain rfl : w0 = (.long i0) := Option.some.inj ei0
  obtain ⟨i1, ei1⟩ := isL_v ga1
  obtain rfl : w1 = (.long i1) := Option.some.inj ei1
  obtain ⟨i2, ei2⟩ := is_v ga2
  obtain rfl : w2 = (.int i2) := Option.some.inj ei2
  obtain ⟨n, o, h1, h2, h3, _, L, rfl, ⟨rfl, N⟩, hq⟩ := rm0 l s _ hw tables_1 i0 i1 i2 s.heap s.heap.size (Nat.le_refl _)  p e ha hc hk s m _ below hf ((Spec.applies_iff_loose hf).mp happ).1 ⟨rfl, State.Warmed39.refl s, rfl⟩ trivial
  refine ⟨n, _, h1, h2, h3, hpost _ _ _ _ _ _ ⟨Cond.after_iff.mpr rfl, Cond.after_iff.mpr (eq_i res_at (Term.int_eval (1)) rfl), trivial⟩ ⟨hq.1, hq.2.1, hq.2.2.1, (hq.2.2.2.sift fun y hy => Or.inr (N y hy)).mono (by decide) (by decide)⟩⟩
theorem main_1_1 : Claimed_1_1 := comes_1 fun _ _ _ _ _ _ h hF => ⟨h.1, hF⟩
theorem main_1_2 : Claimed_1_2 := comes_1 fun _ _ _ _ _ _ h hF => ⟨h.2.1, hF⟩
end Jvm.Pilot.@@N@@
namespace Jvm.Pilot.@@N@@
open Jvm Jvm.ClassFile Sem Op Lib Jvm.Free Jvm.Stand Jvm.Pilot.@@N@@.Jvm.D
/-! MADE BY PROGRAM (witnessworld.py) out of the Statement's table words and the real class files: 17 classes; the members and pool entries that the words name. The judged class is class 1, her method 1. -/
namespace start1
open Jvm.ClassFile
def u (s : String) : CpInfo := .utf8 (stringToUtf16 s)
/-- a pool by its gaps: so many unusable entries, then the entry; so many at the end -/
def gap : Nat → List CpInfo → List CpInfo
  | 0, r => r
  | n + 1, r => .unusable :: gap n r
def poolList (es : List (Nat × CpInfo)) (last : Nat) : List CpInfo := es.foldr (fun e r => gap e.1 (e.2 :: r)) (gap last [])
def pool (es : List (Nat × CpInfo)) (last : Nat) : Array CpInfo := ⟨poolList es last⟩
def fileOf (pool : Array CpInfo) (this : Nat) (attrs : Array Attribute := #[]) (ms : Array MethodInfo := #[]) (fl : Nat := 33) (sup : Nat := 0) (ifs : Array Nat := #[]) (fds : Array FieldInfo := #[]) : ClassFile where
  minorVersion := 0
  majorVersion := 65
  constantPool := pool
  accessFlags := fl
  thisClass := this
  superClass := sup
  interfaces := ifs
  fields := fds
  methods := ms
  attributes := attrs
def plain (name : String) (sup : Option ClassId) : Class where
  name := name
  kind := .ordinary
  loader := none
  accessFlags := 33
  super := sup
  interfaces := #[]
  cf := none
  fields := #[]
  methods := #[]
  instanceTypes := #[]
  staticTypes := #[]
  resolved := #[]
  callSites := []
  init := .initialized
  statics := none
  mirror := none

def pool0 : Array CpInfo := pool [(5, u "<init>"), (0, u "()V"), (1, .class_ 10), (1, u "java/lang/Object")] 113

def k0c0 : Code := { maxStack := 0, maxLocals := 1, code := object_method_1_code, exceptionTable := #[], attributes := #[] }
def k0m0 : Method := { name := "<init>", desc := "()V", sig := { parameters := [], returnType := none }, accessFlags := 1, code := some k0c0 }
/-- java/lang/Object -/
def k0 : Class := { plain "java/lang/Object" none with
  accessFlags := 33
  interfaces := #[]
  cf := some (fileOf pool0 8 #[] #[{ accessFlags := 1, nameIndex := 5, descriptorIndex := 6, attributes := #[] }] 33 0 #[] #[])
  fields := #[]
  methods := #[k0m0]
  instanceTypes := #[]
  staticTypes := #[]
  resolved := Array.replicate 124 none
  statics := none }

def pool1 : Array CpInfo := pool [(2, .class_ 4), (1, u "java/lang/Object"), (0, u "<init>"), (0, u "()V"), (2, .long 9223372036854775807), (1, .class_ 12), (0, u "com/example/pochta/pochta/entity/QueuedMessage"), (0, .long 3), (1, .methodref 16 17), (0, .class_ 18), (0, .nameAndType 19 20), (0, u "java/lang/Math"), (0, u "max"), (0, u "(JJ)J"), (0, .class_ 22), (0, u "com/example/pochta/pochta/entity/Message"), (0, .methodref 21 24), (0, .nameAndType 5 25), (0, u "([BI)V"), (0, .methodref 11 27), (0, .nameAndType 5 28), (0, u "(Lcom/example/pochta/pochta/entity/Message;JJJILcom/example/pochta/pochta/entity/DeadLettering;)V"), (0, .methodref 11 30), (0, .nameAndType 31 32), (0, u "expiresAt"), (0, u "()J"), (0, .class_ 34), (0, u "com/example/pochta/pochta/entity/QueuedMessageExpiresAtPinLaw"), (2, u "law"), (0, u "(JJI)Z")] 3

def k1m0 : Method := { name := "<init>", desc := "()V", sig := { parameters := [], returnType := none }, accessFlags := 1, code := none }
def k1c1 : Code := { maxStack := 11, maxLocals := 18, code := code, exceptionTable := #[], attributes := #[] }
def k1m1 : Method := { name := "law", desc := "(JJI)Z", sig := { parameters := [.long, .long, .int], returnType := some .boolean }, accessFlags := 9, code := some k1c1 }
/-- com/example/pochta/pochta/entity/QueuedMessageExpiresAtPinLaw -/
def k1 : Class := { plain "com/example/pochta/pochta/entity/QueuedMessageExpiresAtPinLaw" (some 0) with
  accessFlags := 49
  interfaces := #[]
  cf := some (fileOf pool1 33 #[] #[{ accessFlags := 1, nameIndex := 5, descriptorIndex := 6, attributes := #[] }, { accessFlags := 9, nameIndex := 37, descriptorIndex := 38, attributes := #[] }] 49 2 #[] #[])
  fields := #[]
  methods := #[k1m0, k1m1]
  instanceTypes := #[]
  staticTypes := #[]
  resolved := Array.replicate 42 none
  statics := none }

def pool2 : Array CpInfo := pool [(1, .methodref 2 3), (0, .class_ 4), (0, .nameAndType 5 6), (0, u "java/lang/Object"), (0, u "<init>"), (0, u "()V"), (0, .string 8), (0, u "encoded"), (0, .methodref 10 11), (0, .class_ 12), (0, .nameAndType 13 14), (0, u "java/util/Objects"), (0, u "requireNonNull"), (0, u "(Ljava/lang/Object;Ljava/lang/String;)Ljava/lang/Object;"), (0, .class_ 16), (0, u "[B"), (0, .fieldref 18 19), (0, .class_ 20), (0, .nameAndType 8 16), (0, u "com/example/pochta/pochta/entity/Message"), (0, .fieldref 18 22), (0, .nameAndType 23 24), (0, u "format"), (0, u "I"), (0, u "([BI)V")] 6

def k2c0 : Code := { maxStack := 3, maxLocals := 3, code := prog_9_method_1_code, exceptionTable := #[], attributes := #[] }
def k2m0 : Method := { name := "<init>", desc := "([BI)V", sig := { parameters := [(.array .byte), .int], returnType := none }, accessFlags := 1, code := some k2c0 }
/-- com/example/pochta/pochta/entity/Message -/
def k2 : Class := { plain "com/example/pochta/pochta/entity/Message" (some 0) with
  accessFlags := 33
  interfaces := #[]
  cf := some (fileOf pool2 18 #[] #[{ accessFlags := 1, nameIndex := 5, descriptorIndex := 25, attributes := #[] }] 33 2 #[] #[{ accessFlags := 18, nameIndex := 8, descriptorIndex := 16, attributes := #[] }, { accessFlags := 18, nameIndex := 23, descriptorIndex := 24, attributes := #[] }])
  fields := #[{ name := "encoded", type := (.array .byte), accessFlags := 18, slot := 0, constantValue := 0 }, { name := "format", type := .int, accessFlags := 18, slot := 1, constantValue := 0 }]
  methods := #[k2m0]
  instanceTypes := #[(.array .byte), .int]
  staticTypes := #[]
  resolved := Array.replicate 32 none
  statics := none }

def pool3 : Array CpInfo := pool [(1, .class_ 2), (0, u "java/io/Serializable"), (0, .class_ 4), (0, u "java/lang/Object")] 2

/-- java/io/Serializable -/
def k3 : Class := { plain "java/io/Serializable" (some 0) with
  accessFlags := 1537
  interfaces := #[]
  cf := some (fileOf pool3 1 #[] #[] 1537 3 #[] #[])
  fields := #[]
  methods := #[]
  instanceTypes := #[]
  staticTypes := #[]
  resolved := Array.replicate 7 none
  statics := none }

def pool4 : Array CpInfo := pool [(1, .class_ 2), (0, u "java/lang/Comparable"), (0, .class_ 4), (0, u "java/lang/Object")] 7

/-- java/lang/Comparable -/
def k4 : Class := { plain "java/lang/Comparable" (some 0) with
  accessFlags := 1537
  interfaces := #[]
  cf := some (fileOf pool4 1 #[] #[] 1537 3 #[] #[])
  fields := #[]
  methods := #[]
  instanceTypes := #[]
  staticTypes := #[]
  resolved := Array.replicate 12 none
  statics := none }

def pool5 : Array CpInfo := pool [(2, .class_ 4), (1, u "java/lang/CharSequence"), (42, .class_ 48), (0, u "java/lang/CharSequence$1CodePointIterator"), (10, .class_ 60), (0, u "java/lang/CharSequence$1CharIterator"), (5, .class_ 67), (0, u "java/lang/Object")] 63

/-- java/lang/CharSequence -/
def k5 : Class := { plain "java/lang/CharSequence" (some 0) with
  accessFlags := 1537
  interfaces := #[]
  cf := some (fileOf pool5 2 #[.nestMembers #[47, 59]] #[] 1537 66 #[] #[])
  fields := #[]
  methods := #[]
  instanceTypes := #[]
  staticTypes := #[]
  resolved := Array.replicate 131 none
  statics := none }

def pool6 : Array CpInfo := pool [(1, .class_ 2), (0, u "java/lang/constant/Constable"), (0, .class_ 4), (0, u "java/lang/Object")] 6

/-- java/lang/constant/Constable -/
def k6 : Class := { plain "java/lang/constant/Constable" (some 0) with
  accessFlags := 1537
  interfaces := #[]
  cf := some (fileOf pool6 1 #[] #[] 1537 3 #[] #[])
  fields := #[]
  methods := #[]
  instanceTypes := #[]
  staticTypes := #[]
  resolved := Array.replicate 11 none
  statics := none }

def pool7 : Array CpInfo := pool [(1, .class_ 2), (0, u "java/lang/constant/ConstantDesc"), (0, .class_ 4), (0, u "java/lang/Object")] 32

/-- java/lang/constant/ConstantDesc -/
def k7 : Class := { plain "java/lang/constant/ConstantDesc" (some 0) with
  accessFlags := 1537
  interfaces := #[]
  cf := some (fileOf pool7 1 #[] #[] 1537 3 #[] #[])
  fields := #[]
  methods := #[]
  instanceTypes := #[]
  staticTypes := #[]
  resolved := Array.replicate 37 none
  statics := none }

def pool8 : Array CpInfo := pool [(2, .class_ 4), (1, u "java/lang/Object"), (0, u "<init>"), (0, u "()V"), (3, .class_ 12), (1, u "java/lang/String"), (0, u "value"), (0, u "[B"), (2, u "coder"), (0, u "B"), (2, u "hash"), (0, u "I"), (2, u "hashIsZero"), (0, u "Z"), (13, u "COMPACT_STRINGS"), (534, .class_ 576), (0, u "java/lang/CharSequence"), (22, u "CASE_INSENSITIVE_ORDER"), (0, u "Ljava/util/Comparator;"), (500, u "serialPersistentFields"), (0, u "[Ljava/io/ObjectStreamField;"), (0, .class_ 1104), (0, u "java/lang/String$CaseInsensitiveComparator"), (1, .class_ 1107), (0, u "java/io/Serializable"), (0, .class_ 1109), (0, u "java/lang/Comparable"), (0, .class_ 1111), (0, u "java/lang/constant/Constable"), (0, .class_ 1113), (0, u "java/lang/constant/ConstantDesc"), (2, u "serialVersionUID"), (0, u "J"), (3, u "REPL"), (0, u "C"), (2, u "LATIN1"), (1, u "UTF16")] 323

def k8m0 : Method := { name := "<init>", desc := "()V", sig := { parameters := [], returnType := none }, accessFlags := 1, code := none }
/-- java/lang/String -/
def k8 : Class := { plain "java/lang/String" (some 0) with
  accessFlags := 49
  interfaces := #[3, 4, 5, 6, 7]
  cf := some (fileOf pool8 10 #[.nestMembers #[1103]] #[{ accessFlags := 1, nameIndex := 5, descriptorIndex := 6, attributes := #[] }] 49 2 #[1106, 1108, 575, 1110, 1112] #[{ accessFlags := 18, nameIndex := 13, descriptorIndex := 14, attributes := #[] }, { accessFlags := 18, nameIndex := 17, descriptorIndex := 18, attributes := #[] }, { accessFlags := 2, nameIndex := 21, descriptorIndex := 22, attributes := #[] }, { accessFlags := 2, nameIndex := 25, descriptorIndex := 26, attributes := #[] }, { accessFlags := 26, nameIndex := 1116, descriptorIndex := 1117, attributes := #[] }, { accessFlags := 24, nameIndex := 40, descriptorIndex := 26, attributes := #[] }, { accessFlags := 26, nameIndex := 1101, descriptorIndex := 1102, attributes := #[] }, { accessFlags := 26, nameIndex := 1121, descriptorIndex := 1122, attributes := #[] }, { accessFlags := 25, nameIndex := 599, descriptorIndex := 600, attributes := #[] }, { accessFlags := 24, nameIndex := 1125, descriptorIndex := 18, attributes := #[] }, { accessFlags := 24, nameIndex := 1127, descriptorIndex := 18, attributes := #[] }])
  fields := #[{ name := "value", type := (.array .byte), accessFlags := 18, slot := 0, constantValue := 0 }, { name := "coder", type := .byte, accessFlags := 18, slot := 1, constantValue := 0 }, { name := "hash", type := .int, accessFlags := 2, slot := 2, constantValue := 0 }, { name := "hashIsZero", type := .boolean, accessFlags := 2, slot := 3, constantValue := 0 }, { name := "serialVersionUID", type := .long, accessFlags := 26, slot := 0, constantValue := 0 }, { name := "COMPACT_STRINGS", type := .boolean, accessFlags := 24, slot := 1, constantValue := 0 }, { name := "serialPersistentFields", type := (.array (.object "java/io/ObjectStreamField")), accessFlags := 26, slot := 2, constantValue := 0 }, { name := "REPL", type := .char, accessFlags := 26, slot := 3, constantValue := 0 }, { name := "CASE_INSENSITIVE_ORDER", type := (.object "java/util/Comparator"), accessFlags := 25, slot := 4, constantValue := 0 }, { name := "LATIN1", type := .byte, accessFlags := 24, slot := 5, constantValue := 0 }, { name := "UTF16", type := .byte, accessFlags := 24, slot := 6, constantValue := 0 }]
  methods := #[k8m0]
  instanceTypes := #[(.array .byte), .byte, .int, .boolean]
  staticTypes := #[.long, .boolean, (.array (.object "java/io/ObjectStreamField")), .char, (.object "java/util/Comparator"), .byte, .byte]
  resolved := Array.replicate 1451 none
  statics := none }

def pool9 : Array CpInfo := pool [(2, .class_ 4), (1, u "java/lang/Object"), (0, u "<init>"), (0, u "()V"), (35, .class_ 44), (1, u "java/util/Objects"), (0, u "requireNonNull"), (48, u "(Ljava/lang/Object;Ljava/lang/String;)Ljava/lang/Object;")] 89

def k9m0 : Method := { name := "<init>", desc := "()V", sig := { parameters := [], returnType := none }, accessFlags := 2, code := none }
def k9c1 : Code := { maxStack := 3, maxLocals := 2, code := jdk_31_method_11_code, exceptionTable := #[], attributes := #[] }
def k9m1 : Method := { name := "requireNonNull", desc := "(Ljava/lang/Object;Ljava/lang/String;)Ljava/lang/Object;", sig := { parameters := [(.object "java/lang/Object"), (.object "java/lang/String")], returnType := some (.object "java/lang/Object") }, accessFlags := 9, code := some k9c1 }
/-- java/util/Objects -/
def k9 : Class := { plain "java/util/Objects" (some 0) with
  accessFlags := 49
  interfaces := #[]
  cf := some (fileOf pool9 42 #[] #[{ accessFlags := 2, nameIndex := 5, descriptorIndex := 6, attributes := #[] }, { accessFlags := 9, nameIndex := 45, descriptorIndex := 94, attributes := #[] }] 49 2 #[] #[])
  fields := #[]
  methods := #[k9m0, k9m1]
  instanceTypes := #[]
  staticTypes := #[]
  resolved := Array.replicate 184 none
  statics := none }

def pool10 : Array CpInfo := pool [(3, .methodref 4 5), (0, .class_ 6), (0, .nameAndType 7 8), (0, u "java/lang/Object"), (0, u "<init>"), (0, u "()V"), (0, .string 10), (0, u "message"), (0, .methodref 12 13), (0, .class_ 14), (0, .nameAndType 15 16), (0, u "java/util/Objects"), (0, u "requireNonNull"), (0, u "(Ljava/lang/Object;Ljava/lang/String;)Ljava/lang/Object;"), (0, .class_ 18), (0, u "com/example/pochta/pochta/entity/Message"), (0, .fieldref 20 21), (0, .class_ 22), (0, .nameAndType 10 23), (0, u "com/example/pochta/pochta/entity/QueuedMessage"), (0, u "Lcom/example/pochta/pochta/entity/Message;"), (0, .fieldref 20 25), (0, .nameAndType 26 27), (0, u "sequenceNumber"), (0, u "J"), (0, .fieldref 20 29), (0, .nameAndType 30 27), (0, u "enqueuedTime"), (0, .fieldref 20 32), (0, .nameAndType 33 27), (0, u "timeToLive"), (0, .fieldref 20 35), (0, .nameAndType 36 37), (0, u "deliveryCount"), (0, u "I"), (0, .fieldref 20 39), (0, .nameAndType 40 41), (0, u "deadLettering"), (0, u "Lcom/example/pochta/pochta/entity/DeadLettering;"), (0, .long 9223372036854775807), (1, u "NEVER_EXPIRES"), (1, u "(Lcom/example/pochta/pochta/entity/Message;JJJILcom/example/pochta/pochta/entity/DeadLettering;)V"), (3, u "()J"), (0, u "expiresAt")] 6

def k10c0 : Code := { maxStack := 3, maxLocals := 10, code := prog_14_method_1_code, exceptionTable := #[], attributes := #[] }
def k10m0 : Method := { name := "<init>", desc := "(Lcom/example/pochta/pochta/entity/Message;JJJILcom/example/pochta/pochta/entity/DeadLettering;)V", sig := { parameters := [(.object "com/example/pochta/pochta/entity/Message"), .long, .long, .long, .int, (.object "com/example/pochta/pochta/entity/DeadLettering")], returnType := none }, accessFlags := 1, code := some k10c0 }
def k10c1 : Code := { maxStack := 6, maxLocals := 1, code := prog_14_method_6_code, exceptionTable := #[], attributes := #[] }
def k10m1 : Method := { name := "expiresAt", desc := "()J", sig := { parameters := [], returnType := some .long }, accessFlags := 1, code := some k10c1 }
/-- com/example/pochta/pochta/entity/QueuedMessage -/
def k10 : Class := { plain "com/example/pochta/pochta/entity/QueuedMessage" (some 0) with
  accessFlags := 33
  interfaces := #[]
  cf := some (fileOf pool10 20 #[] #[{ accessFlags := 1, nameIndex := 7, descriptorIndex := 46, attributes := #[] }, { accessFlags := 1, nameIndex := 51, descriptorIndex := 50, attributes := #[] }] 33 4 #[] #[{ accessFlags := 25, nameIndex := 44, descriptorIndex := 27, attributes := #[] }, { accessFlags := 18, nameIndex := 10, descriptorIndex := 23, attributes := #[] }, { accessFlags := 18, nameIndex := 26, descriptorIndex := 27, attributes := #[] }, { accessFlags := 18, nameIndex := 30, descriptorIndex := 27, attributes := #[] }, { accessFlags := 18, nameIndex := 33, descriptorIndex := 27, attributes := #[] }, { accessFlags := 18, nameIndex := 40, descriptorIndex := 41, attributes := #[] }, { accessFlags := 2, nameIndex := 36, descriptorIndex := 37, attributes := #[] }])
  fields := #[{ name := "NEVER_EXPIRES", type := .long, accessFlags := 25, slot := 0, constantValue := 0 }, { name := "message", type := (.object "com/example/pochta/pochta/entity/Message"), accessFlags := 18, slot := 0, constantValue := 0 }, { name := "sequenceNumber", type := .long, accessFlags := 18, slot := 1, constantValue := 0 }, { name := "enqueuedTime", type := .long, accessFlags := 18, slot := 2, constantValue := 0 }, { name := "timeToLive", type := .long, accessFlags := 18, slot := 3, constantValue := 0 }, { name := "deadLettering", type := (.object "com/example/pochta/pochta/entity/DeadLettering"), accessFlags := 18, slot := 4, constantValue := 0 }, { name := "deliveryCount", type := .int, accessFlags := 2, slot := 5, constantValue := 0 }]
  methods := #[k10m0, k10m1]
  instanceTypes := #[(.object "com/example/pochta/pochta/entity/Message"), .long, .long, .long, (.object "com/example/pochta/pochta/entity/DeadLettering"), .int]
  staticTypes := #[.long]
  resolved := Array.replicate 58 none
  statics := none }

def pool11 : Array CpInfo := pool [(1, .class_ 2), (0, u "java/lang/Math"), (1, .class_ 6), (1, u "java/lang/Object"), (0, u "<init>"), (0, u "()V"), (89, .class_ 100), (1, u "java/lang/Math$RandomNumberGeneratorHolder"), (20, u "(JJ)J"), (50, u "negativeZeroFloatBits"), (0, u "J"), (2, u "negativeZeroDoubleBits"), (21, u "max"), (46, u "$assertionsDisabled"), (0, u "Z"), (91, u "twoToTheDoubleScaleDown"), (0, u "D"), (4, u "twoToTheDoubleScaleUp"), (9, u "E"), (3, u "PI"), (2, u "TAU"), (2, u "DEGREES_TO_RADIANS"), (0, u "RADIANS_TO_DEGREES")] 94

def k11m0 : Method := { name := "<init>", desc := "()V", sig := { parameters := [], returnType := none }, accessFlags := 2, code := none }
def k11c1 : Code := { maxStack := 4, maxLocals := 4, code := jdk_29_method_66_code, exceptionTable := #[], attributes := #[] }
def k11m1 : Method := { name := "max", desc := "(JJ)J", sig := { parameters := [.long, .long], returnType := some .long }, accessFlags := 9, code := some k11c1 }
/-- java/lang/Math -/
def k11 : Class := { plain "java/lang/Math" (some 0) with
  accessFlags := 49
  interfaces := #[]
  cf := some (fileOf pool11 1 #[.nestMembers #[98]] #[{ accessFlags := 2, nameIndex := 7, descriptorIndex := 8, attributes := #[] }, { accessFlags := 9, nameIndex := 198, descriptorIndex := 121, attributes := #[] }] 49 4 #[] #[{ accessFlags := 25, nameIndex := 354, descriptorIndex := 339, attributes := #[] }, { accessFlags := 25, nameIndex := 358, descriptorIndex := 339, attributes := #[] }, { accessFlags := 25, nameIndex := 361, descriptorIndex := 339, attributes := #[] }, { accessFlags := 26, nameIndex := 364, descriptorIndex := 339, attributes := #[] }, { accessFlags := 26, nameIndex := 365, descriptorIndex := 339, attributes := #[] }, { accessFlags := 26, nameIndex := 172, descriptorIndex := 173, attributes := #[] }, { accessFlags := 26, nameIndex := 176, descriptorIndex := 173, attributes := #[] }, { accessFlags := 8, nameIndex := 344, descriptorIndex := 339, attributes := #[] }, { accessFlags := 8, nameIndex := 338, descriptorIndex := 339, attributes := #[] }, { accessFlags := 4120, nameIndex := 245, descriptorIndex := 246, attributes := #[] }])
  fields := #[{ name := "E", type := .double, accessFlags := 25, slot := 0, constantValue := 0 }, { name := "PI", type := .double, accessFlags := 25, slot := 1, constantValue := 0 }, { name := "TAU", type := .double, accessFlags := 25, slot := 2, constantValue := 0 }, { name := "DEGREES_TO_RADIANS", type := .double, accessFlags := 26, slot := 3, constantValue := 0 }, { name := "RADIANS_TO_DEGREES", type := .double, accessFlags := 26, slot := 4, constantValue := 0 }, { name := "negativeZeroFloatBits", type := .long, accessFlags := 26, slot := 5, constantValue := 0 }, { name := "negativeZeroDoubleBits", type := .long, accessFlags := 26, slot := 6, constantValue := 0 }, { name := "twoToTheDoubleScaleUp", type := .double, accessFlags := 8, slot := 7, constantValue := 0 }, { name := "twoToTheDoubleScaleDown", type := .double, accessFlags := 8, slot := 8, constantValue := 0 }, { name := "$assertionsDisabled", type := .boolean, accessFlags := 4120, slot := 9, constantValue := 0 }]
  methods := #[k11m0, k11m1]
  instanceTypes := #[]
  staticTypes := #[.double, .double, .double, .double, .double, .long, .long, .double, .double, .boolean]
  resolved := Array.replicate 460 none
  statics := none }

def pool12 : Array CpInfo := pool [(1, u "java/lang/Cloneable"), (0, .class_ 1), (0, u "java/lang/Object"), (0, .class_ 3)] 3

/-- java/lang/Cloneable -/
def k12 : Class := { plain "java/lang/Cloneable" (some 0) with
  accessFlags := 1537
  interfaces := #[]
  cf := some (fileOf pool12 2 #[] #[] 1537 4 #[] #[])
  fields := #[]
  methods := #[]
  instanceTypes := #[]
  staticTypes := #[]
  resolved := Array.replicate 8 none
  statics := none }

/-- the primitive byte -/
def k13 : Class := { plain "byte" none with kind := .primitive 'B', accessFlags := 0x411 }
/-- [B -/
def k14 : Class := { plain "[B" (some 0) with kind := .array 13 .byte, interfaces := #[12, 3], accessFlags := 1041 }

/-- the primitive int -/
def k15 : Class := { plain "int" none with kind := .primitive 'I', accessFlags := 0x411 }
/-- [I -/
def k16 : Class := { plain "[I" (some 0) with kind := .array 15 .int, interfaces := #[12, 3], accessFlags := 1041 }

def heap : Heap := #[]
def classes : Array Class := #[k0, k1, k2, k3, k4, k5, k6, k7, k8, k9, k10, k11, k12, k13, k14, k15, k16]
def interned : List (Array UInt16 × Addr) := []
def slotsUsed : Nat := 0
def theMethod : MethodId := ⟨1, 1⟩
def args0 : Array Value := #[.long 5, .long 6, .int 7]
def aboutOver (below : List Frame) : State where
  vm := { classes := classes, interned := interned.toArray }
  heap := heap
  slotsUsed := slotsUsed
  threads := #[{ frames := .invoking theMethod args0 :: below }]
def below0 : List Frame := [.native { method := ⟨0, 0⟩, args := #[] }]
def about1 : State := aboutOver below0
def p0 : Program := .bare "" "" ""
def e0 : Env := launch0.env 0 0 0
theorem w_frames : about1.frames = Frame.invoking theMethod args0 :: below0 := rfl
set_option maxRecDepth 65536 in
theorem w_args : argsFit about1.vm theMethod args0 = true := by decide +kernel
set_option maxRecDepth 65536 in
theorem w_heap : heapFits about1 = true := by decide +kernel
set_option maxRecDepth 65536 in
theorem w_runnable : about1.curStatus? = some .runnable := by decide +kernel
set_option maxRecDepth 65536 in
theorem w_alone : about1.alone = true := by decide +kernel
set_option maxRecDepth 65536 in
theorem w_named : about1.methodNamed? x = some theMethod := by decide +kernel
set_option maxRecDepth 65536 in
theorem w_hears : about1.hears theMethod below0 = true := by decide +kernel
set_option maxRecDepth 65536 in
theorem w_ripe : about1.ripe theMethod args0 below0 = true := by decide +kernel
theorem w_running : about1.status = .running := rfl
set_option maxRecDepth 65536 in
theorem w_room : about1.hasRoom e0.platform room_1 = true :=
  launch0.hasRoom_least _ room_1 (by decide +kernel) (by decide +kernel) (by decide +kernel) (by decide +kernel) (by decide +kernel) (by decide +kernel)
theorem allAtoms_all (ts : List Jvm.Cond) (a : Array Jvm.Value) (st : Jvm.State) : (allAtoms ts).before a st = ts.all (fun c => c.before a st) := by
  induction ts with
  | nil => rfl
  | cons c t ih =>
    show (Jvm.Cond.and c (allAtoms t)).before a st = _
    rw [Jvm.Cond.before_and, ih, List.all_cons]
def words1 : List Jvm.Cond := Jvm.Cond.code x code maxLocals ret :: tables_1
/-- a 'code' word, met by the world's own term for the bytes: nothing is compared byte by byte -/
theorem code_word {y : MethodName} {bytes : ByteArray} {mx : Nat} {rt : Option FieldType} {a : Array Value} {s : State} {m : MethodId} {meth : Method} {c : Code} (h1 : s.methodNamed? y = some m) (h2 : s.vm.method? m = some meth) (h3 : meth.code = some c) (h4 : c.code = bytes)
    (h5 : (c.maxLocals == mx && c.exceptionTable.isEmpty && decide (c.maxStack ≤ mostOperands) && decide (meth.sig.returnType = rt) && !meth.locks && decide (parseMethodDescriptor y.desc = some meth.sig)) = true) : (Jvm.Cond.code y bytes mx rt).before a s = true := by
  simp only [Bool.and_eq_true, beq_iff_eq, Bool.not_eq_true', decide_eq_true_eq] at h5
  obtain ⟨⟨⟨⟨⟨g1, g2⟩, g3⟩, g4⟩, g5⟩, g6⟩ := h5
  simp [Cond.before, Cond.holds, Cond.value, h1, h2, h3, h4, g1, g2, g3, g4, g5, g6]
def isCode : Jvm.Cond → Bool
  | .code _ _ _ _ => true
  | _ => false
theorem all_split {L : List Jvm.Cond} {P : Jvm.Cond → Bool} (h1 : L.all (fun c => isCode c || P c) = true) (h2 : ∀ c ∈ L.filter isCode, P c = true) : L.all P = true := by
  refine List.all_eq_true.mpr fun c hc => ?_
  have h := List.all_eq_true.mp h1 c hc
  rcases Bool.eq_false_or_eq_true (isCode c) with hi | hi
  · exact h2 c (List.mem_filter.mpr ⟨hc, hi⟩)
  · simpa [hi] using h
set_option maxRecDepth 65536 in
theorem w_c0 : (Jvm.Cond.code x code maxLocals ret).before args0 about1 = true := code_word (m := ⟨1, 1⟩) (meth := k1m1) (c := k1c1) (by decide +kernel) rfl rfl rfl (by decide +kernel)
set_option maxRecDepth 65536 in
theorem w_c1 : (Jvm.Cond.code ({ cls := "com/example/pochta/pochta/entity/Message", name := "<init>", desc := "([BI)V" } : Jvm.MethodName) prog_9_method_1_code (3 : Nat) (Option.none : Option Jvm.ClassFile.FieldType)).before args0 about1 = true := code_word (m := ⟨2, 0⟩) (meth := k2m0) (c := k2c0) (by decide +kernel) rfl rfl rfl (by decide +kernel)
set_option maxRecDepth 65536 in
theorem w_c2 : (Jvm.Cond.code ({ cls := "java/lang/Object", name := "<init>", desc := "()V" } : Jvm.MethodName) object_method_1_code (1 : Nat) (Option.none : Option Jvm.ClassFile.FieldType)).before args0 about1 = true := code_word (m := ⟨0, 0⟩) (meth := k0m0) (c := k0c0) (by decide +kernel) rfl rfl rfl (by decide +kernel)
set_option maxRecDepth 65536 in
theorem w_c3 : (Jvm.Cond.code ({ cls := "java/util/Objects", name := "requireNonNull", desc := "(Ljava/lang/Object;Ljava/lang/String;)Ljava/lang/Object;" } : Jvm.MethodName) jdk_31_method_11_code (2 : Nat) (Option.some (Jvm.ClassFile.FieldType.object "java/lang/Object"))).before args0 about1 = true := code_word (m := ⟨9, 1⟩) (meth := k9m1) (c := k9c1) (by decide +kernel) rfl rfl rfl (by decide +kernel)
set_option maxRecDepth 65536 in
theorem w_c4 : (Jvm.Cond.code ({ cls := "com/example/pochta/pochta/entity/QueuedMessage", name := "<init>", desc := "(Lcom/example/pochta/pochta/entity/Message;JJJILcom/example/pochta/pochta/entity/DeadLettering;)V" } : Jvm.MethodName) prog_14_method_1_code (10 : Nat) (Option.none : Option Jvm.ClassFile.FieldType)).before args0 about1 = true := code_word (m := ⟨10, 0⟩) (meth := k10m0) (c := k10c0) (by decide +kernel) rfl rfl rfl (by decide +kernel)
set_option maxRecDepth 65536 in
theorem w_c5 : (Jvm.Cond.code ({ cls := "com/example/pochta/pochta/entity/QueuedMessage", name := "expiresAt", desc := "()J" } : Jvm.MethodName) prog_14_method_6_code (1 : Nat) (Option.some Jvm.ClassFile.FieldType.long)).before args0 about1 = true := code_word (m := ⟨10, 1⟩) (meth := k10m1) (c := k10c1) (by decide +kernel) rfl rfl rfl (by decide +kernel)
set_option maxRecDepth 65536 in
theorem w_c6 : (Jvm.Cond.code ({ cls := "java/lang/Math", name := "max", desc := "(JJ)J" } : Jvm.MethodName) jdk_29_method_66_code (4 : Nat) (Option.some Jvm.ClassFile.FieldType.long)).before args0 about1 = true := code_word (m := ⟨11, 1⟩) (meth := k11m1) (c := k11c1) (by decide +kernel) rfl rfl rfl (by decide +kernel)
def codes1 : List Jvm.Cond := [Jvm.Cond.code x code maxLocals ret, Jvm.Cond.code ({ cls := "com/example/pochta/pochta/entity/Message", name := "<init>", desc := "([BI)V" } : Jvm.MethodName) prog_9_method_1_code (3 : Nat) (Option.none : Option Jvm.ClassFile.FieldType), Jvm.Cond.code ({ cls := "java/lang/Object", name := "<init>", desc := "()V" } : Jvm.MethodName) object_method_1_code (1 : Nat) (Option.none : Option Jvm.ClassFile.FieldType), Jvm.Cond.code ({ cls := "java/util/Objects", name := "requireNonNull", desc := "(Ljava/lang/Object;Ljava/lang/String;)Ljava/lang/Object;" } : Jvm.MethodName) jdk_31_method_11_code (2 : Nat) (Option.some (Jvm.ClassFile.FieldType.object "java/lang/Object")), Jvm.Cond.code ({ cls := "com/example/pochta/pochta/entity/QueuedMessage", name := "<init>", desc := "(Lcom/example/pochta/pochta/entity/Message;JJJILcom/example/pochta/pochta/entity/DeadLettering;)V" } : Jvm.MethodName) prog_14_method_1_code (10 : Nat) (Option.none : Option Jvm.ClassFile.FieldType), Jvm.Cond.code ({ cls := "com/example/pochta/pochta/entity/QueuedMessage", name := "expiresAt", desc := "()J" } : Jvm.MethodName) prog_14_method_6_code (1 : Nat) (Option.some Jvm.ClassFile.FieldType.long), Jvm.Cond.code ({ cls := "java/lang/Math", name := "max", desc := "(JJ)J" } : Jvm.MethodName) jdk_29_method_66_code (4 : Nat) (Option.some Jvm.ClassFile.FieldType.long)]
set_option maxRecDepth 65536 in
theorem codes_eq : words1.filter isCode = codes1 := rfl
theorem w_codes : ∀ c ∈ words1.filter isCode, c.before args0 about1 = true := by
  rw [codes_eq]
  intro c hc
  simp only [codes1, List.mem_cons, List.not_mem_nil, or_false] at hc
  rcases hc with rfl | rfl | rfl | rfl | rfl | rfl | rfl
  · exact w_c0
  · exact w_c1
  · exact w_c2
  · exact w_c3
  · exact w_c4
  · exact w_c5
  · exact w_c6
set_option maxRecDepth 65536 in
theorem w_t1 : (words1.take 24).all (fun c => isCode c || c.before args0 about1) = true := by decide +kernel
set_option maxRecDepth 65536 in
theorem w_t2 : ((words1.drop 24).take 24).all (fun c => isCode c || c.before args0 about1) = true := by decide +kernel
set_option maxRecDepth 65536 in
theorem w_t3 : ((words1.drop 24).drop 24).all (fun c => isCode c || c.before args0 about1) = true := by decide +kernel
theorem w_tables : (allAtoms (Jvm.Cond.code x code maxLocals ret :: tables_1)).before args0 about1 = true := by
  rw [allAtoms_all]
  show words1.all (fun c => c.before args0 about1) = true
  refine all_split ?_ w_codes
  rw [← List.take_append_drop 24 words1, List.all_append, w_t1, ← List.take_append_drop 24 (words1.drop 24), List.all_append, w_t2, w_t3]
  rfl
set_option maxRecDepth 65536 in
theorem w_case : (Jvm.Cond.and given_1 narrow_1).before args0 about1 = true := by decide +kernel
theorem w_applies : (headSpec (Jvm.Cond.code x code maxLocals ret :: tables_1) room_1).applies x e0.platform about1 = true :=
  (Spec.applies_iff w_frames).mpr ⟨w_running, w_runnable, w_alone, w_named, w_hears, w_ripe, w_room, w_tables⟩
theorem atStart : AtStart classFile x code maxLocals ret World_1 tables_1 room_1 Calls_1 rest_1 Pre_1 launch0 p0 e0 about1 theMethod args0 below0 :=
  ⟨lists_1, trivial, launch0.admits_env _ _ _, launch0.least_env, fairChoices_fair.cas, fairChoices_fair.clock, w_frames, w_args, w_heap, w_applies, trivial, trivial, w_case⟩
end start1
theorem witness_1 : WitnessClaimed_1 := ⟨start1.p0, start1.e0, start1.about1, start1.theMethod, start1.args0, start1.below0, start1.atStart⟩
end Jvm.Pilot.@@N@@
