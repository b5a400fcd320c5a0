import JvmDerived
import JvmDerived.Pilot.@@N@@Statement
import JvmDerived.Pilot.@@N@@Code
set_option linter.unusedVariables false
set_option linter.unusedSimpArgs false
@@BLOCK:NumsL.lean.txt@@
namespace Jvm.RoadKit
open Sem ClassFile Op Lib Jvm.Stand Jvm.Free Jvm.LawKit
section New
variable {p : Program} {l : Launch} {e : Env} {R : Room} {s : State} {m : MethodId} {args : Array Value} {below : List Frame} {meth : Method} {c : Code} {T : State} {locs : List Loc} {cells slots : Nat}
theorem retI (X : Stand p l e R s m args below meth c T locs cells slots) (hx : p.tables.exec = Jvm.exec) {pc : Nat} {Ls : Array Slot} {z : Int32} {rest : List Value} (hret : meth.sig.returnType = some .int) (hd : decode c.code pc = .ok (.ireturn, 1)) {fs : List Frame}
    (hl : ∀ (f : JFrame) (acts : List Action), f.method = m → f.locked = none → f.entered = [] → (doReturn e (T.setTop f) acts (some (.int z))).1 = T.setFrames fs) : Steps p.tables e below (T.setTop (mkF m pc Ls (.int z :: rest))) (T.setFrames fs) := by
  have hm' : T.vm.method? m = some meth := X.method'
  have hn : narrow .int (.int z) = .int z := rfl
  show Steps p.tables e below (T.setTop { method := m, pc := pc, locals := Ls, stack := _ :: rest, locked := none }) _
  jvm_step X.here [X.here.top, hx, hd, hm', hret, hn]
  first | (intro acts; rw [hl _ acts rfl rfl rfl]) | rw [hl _ _ rfl rfl rfl]
  exact Steps.refl _
end New
end Jvm.RoadKit
namespace Jvm.Pilot.@@N@@
open Jvm Jvm.ClassFile Sem Op Lib Jvm.Free Jvm.Stand Jvm.LawKit Jvm.RoadKit Bundle Jvm.Pilot.@@N@@.Jvm.D
def fA_12 (x : Int32) : Int32 := (if x < (97 : Int32) then (0 : Int32) else (if (122 : Int32) < x then (0 : Int32) else (1 : Int32)))
def fA (x : Int32) : Int32 := (if x < (65 : Int32) then (fA_12 x) else (if (90 : Int32) < x then (fA_12 x) else (1 : Int32)))
def Q_rmA (x : Int32) (h0 : Heap) (n0 : Nat) (v : Option Value) (h : Heap) (L : List Loc) : Prop := v = some (.int (fA x)) ∧ Fr n0 L ∧ h = h0
theorem pn_0 : plainName "querymill/rdf/TextScanner" = true := by first | (simp [plainName, overriddenIn]; done) | decide +kernel
theorem ef_rmA (m : MethodId) (x0 : Int32) : entryFrame m #[(.int x0)] 1 = mkF m 0 #[.val (.int x0)] [] := by first | (simp [entryFrame, mkF, argsToLocals, Value.category]; done) | rfl
theorem d1_0 : decode prog_117_method_59_code 0 = .ok (.iload_n 0, 1) := by decide +kernel
theorem d1_1 : decode prog_117_method_59_code 1 = .ok (.bipush 65, 2) := by decide +kernel
theorem d1_3 : decode prog_117_method_59_code 3 = .ok (.if_icmp .lt 9, 3) := by decide +kernel
theorem d1_6 : decode prog_117_method_59_code 6 = .ok (.iload_n 0, 1) := by decide +kernel
theorem d1_7 : decode prog_117_method_59_code 7 = .ok (.bipush 90, 2) := by decide +kernel
theorem d1_9 : decode prog_117_method_59_code 9 = .ok (.if_icmp .le 15, 3) := by decide +kernel
theorem d1_12 : decode prog_117_method_59_code 12 = .ok (.iload_n 0, 1) := by decide +kernel
theorem d1_13 : decode prog_117_method_59_code 13 = .ok (.bipush 97, 2) := by decide +kernel
theorem d1_15 : decode prog_117_method_59_code 15 = .ok (.if_icmp .lt 13, 3) := by decide +kernel
theorem d1_18 : decode prog_117_method_59_code 18 = .ok (.iload_n 0, 1) := by decide +kernel
theorem d1_19 : decode prog_117_method_59_code 19 = .ok (.bipush 122, 2) := by decide +kernel
theorem d1_21 : decode prog_117_method_59_code 21 = .ok (.if_icmp .gt 7, 3) := by decide +kernel
theorem d1_24 : decode prog_117_method_59_code 24 = .ok (.iconst 1, 1) := by decide +kernel
theorem d1_25 : decode prog_117_method_59_code 25 = .ok (.goto 4, 3) := by decide +kernel
theorem d1_28 : decode prog_117_method_59_code 28 = .ok (.iconst 0, 1) := by decide +kernel
theorem d1_29 : decode prog_117_method_59_code 29 = .ok (.ireturn, 1) := by decide +kernel
set_option maxRecDepth 65536 in
set_option maxHeartbeats 40000000 in
theorem rmA (l : Launch) (Z : State) (a0 : Array Value) (hw : ∀ d ∈ tables_1, d.before a0 Z = true) (ws : List Jvm.Cond) (x : Int32)  (h0 : Heap) (n0 : Nat) (Z0 : n0 ≤ h0.size)  :
    MetFree l (⟨"querymill/rdf/TextScanner", "isAsciiLetter", "(I)Z"⟩ : MethodName) (head1 (Jvm.Cond.code (⟨"querymill/rdf/TextScanner", "isAsciiLetter", "(I)Z"⟩ : MethodName) prog_117_method_59_code 1 (some .boolean) :: ws) ({ frames := 0, cells := 0, slots := 0, locals := 0 } : Room)) (fun a U => a = #[(.int x)] ∧ Z.Warmed39 U.vm ∧ U.heap = h0) (fun _ _ _ _ _ => True) (fun _ U o U' => ∃ v L, o = .returned v ∧ Q_rmA x h0 n0 v U'.heap L ∧ FrameEnd U o U' L ({ frames := 0, cells := 0, slots := 0, locals := 0 } : Room).cells ({ frames := 0, cells := 0, slots := 0, locals := 0 } : Room).slots) := by
  refine MetFree.of_bodySF (plainFor_of_name pn_0) hisR ?_
  intro p e s m args below meth c s₁ Bd hml0 hP hK
  obtain ⟨rfl, hZ, hh⟩ := hP
  have hx := Bd.exec
  have hby := Bd.bytes
  have hml : c.maxLocals = 1 := hml0
  have hown : s.vm.findClass "querymill/rdf/TextScanner" = some m.cls := findClass_of_methodNamed Bd.named
  have hnm := (name_of_methodNamed Bd.named Bd.method).1
  have X0 : Stand p l e ({ frames := 0, cells := 0, slots := 0, locals := 0 } : Room) s m #[(.int x)] below meth c s₁ [] 0 0 := Stand.of_body Bd
  have e0 : s₁.heap = h0 := by rw [← hh, Bd.state]; rfl
  have N0 := Fr.nil n0
  have pre0 : ∀ t, Steps p.tables e below (s₁.setTop (mkF m 0 #[.val (.int x)] [])) t → Steps p.tables e below (s₁.setTop (entryFrame m #[(.int x)] 1)) t := fun t k => castTop (ef_rmA m x) k
  obtain ⟨fs, hr, hrun, hended, hW, hsame⟩ := X0.leave (v := some (.int (fA x))) (fun h => by rw [Bd.returns] at h; cases h)
  have j1 : (0 : Int32) = fA x → Steps p.tables e below (s₁.setTop (mkF m 28 #[.val (.int x)] [])) (s₁.setFrames fs) := by
    intro hq
    show Steps p.tables e below (s₁.setTop (mkF m 28 #[.val (.int x)] [])) _
    refine XS.iconst X0.here hx rfl (hb hby d1_28) ?_
    have hr1 := hr
    rw [← hq] at hr1
    exact retN X0 hx (t := .boolean) Bd.returns (by simp) (hb hby d1_29) hr1
  have j2 : (1 : Int32) = fA x → Steps p.tables e below (s₁.setTop (mkF m 24 #[.val (.int x)] [])) (s₁.setFrames fs) := by
    intro hq
    show Steps p.tables e below (s₁.setTop (mkF m 24 #[.val (.int x)] [])) _
    refine XS.iconst X0.here hx rfl (hb hby d1_24) ?_
    show Steps p.tables e below (s₁.setTop (mkF m 25 #[.val (.int x)] [(.int (1 : Int32))])) _
    refine XS.goto X0.here hx rfl (pc0 := 25) (pc' := 29) rfl (hb hby d1_25) (by decide) (by decide) ?_
    have hr1 := hr
    rw [← hq] at hr1
    exact retN X0 hx (t := .boolean) Bd.returns (by simp) (hb hby d1_29) hr1
  have j3 : (fA_12 x) = fA x → Steps p.tables e below (s₁.setTop (mkF m 12 #[.val (.int x)] [])) (s₁.setFrames fs) := by
    intro hq
    show Steps p.tables e below (s₁.setTop (mkF m 12 #[.val (.int x)] [])) _
    refine XS.iloadN X0.here hx rfl (hb hby d1_12) rfl ?_
    show Steps p.tables e below (s₁.setTop (mkF m 13 #[.val (.int x)] [(.int x)])) _
    refine XS.bipush X0.here hx rfl (hb hby d1_13) ?_
    show Steps p.tables e below (s₁.setTop (mkF m 15 #[.val (.int x)] [(.int (97 : Int32)), (.int x)])) _
    by_cases hc15 : x < (97 : Int32)
    · have hqhc150 : (0 : Int32) = fA x := (if_pos hc15).symm.trans hq
      refine XS.icmpYes X0.here hx rfl (pc0 := 15) (pc' := 28) rfl (hb hby d1_15) rfl (tlt hc15).1 (by decide) (by decide) ?_
      exact j1 hqhc150
    · have hqhc151 : (if (122 : Int32) < x then (0 : Int32) else (1 : Int32)) = fA x := (if_neg hc15).symm.trans hq
      refine XS.icmpNo X0.here hx rfl (hb hby d1_15) rfl (flt hc15).1 ?_
      show Steps p.tables e below (s₁.setTop (mkF m 18 #[.val (.int x)] [])) _
      refine XS.iloadN X0.here hx rfl (hb hby d1_18) rfl ?_
      show Steps p.tables e below (s₁.setTop (mkF m 19 #[.val (.int x)] [(.int x)])) _
      refine XS.bipush X0.here hx rfl (hb hby d1_19) ?_
      show Steps p.tables e below (s₁.setTop (mkF m 21 #[.val (.int x)] [(.int (122 : Int32)), (.int x)])) _
      by_cases hc21 : (122 : Int32) < x
      · have hqhc210 : (0 : Int32) = fA x := (if_pos hc21).symm.trans hqhc151
        refine XS.icmpYes X0.here hx rfl (pc0 := 21) (pc' := 28) rfl (hb hby d1_21) rfl (tlt hc21).2.2.1 (by decide) (by decide) ?_
        exact j1 hqhc210
      · have hqhc211 : (1 : Int32) = fA x := (if_neg hc21).symm.trans hqhc151
        refine XS.icmpNo X0.here hx rfl (hb hby d1_21) rfl (flt hc21).2.2.1 ?_
        exact j2 hqhc211
  refine ⟨_, _, pre0 _ ?_, hrun, hended, _, _, rfl, ?_, ⟨_, rfl⟩, hW, hsame.mono (by decide) (by decide)⟩
  · have hq0 : (if x < (65 : Int32) then (fA_12 x) else (if (90 : Int32) < x then (fA_12 x) else (1 : Int32))) = fA x := rfl
    show Steps p.tables e below (s₁.setTop (mkF m 0 #[.val (.int x)] [])) _
    refine XS.iloadN X0.here hx rfl (hb hby d1_0) rfl ?_
    show Steps p.tables e below (s₁.setTop (mkF m 1 #[.val (.int x)] [(.int x)])) _
    refine XS.bipush X0.here hx rfl (hb hby d1_1) ?_
    show Steps p.tables e below (s₁.setTop (mkF m 3 #[.val (.int x)] [(.int (65 : Int32)), (.int x)])) _
    by_cases hc3 : x < (65 : Int32)
    · have hqhc30 : (fA_12 x) = fA x := (if_pos hc3).symm.trans hq0
      refine XS.icmpYes X0.here hx rfl (pc0 := 3) (pc' := 12) rfl (hb hby d1_3) rfl (tlt hc3).1 (by decide) (by decide) ?_
      exact j3 hqhc30
    · have hqhc31 : (if (90 : Int32) < x then (fA_12 x) else (1 : Int32)) = fA x := (if_neg hc3).symm.trans hq0
      refine XS.icmpNo X0.here hx rfl (hb hby d1_3) rfl (flt hc3).1 ?_
      show Steps p.tables e below (s₁.setTop (mkF m 6 #[.val (.int x)] [])) _
      refine XS.iloadN X0.here hx rfl (hb hby d1_6) rfl ?_
      show Steps p.tables e below (s₁.setTop (mkF m 7 #[.val (.int x)] [(.int x)])) _
      refine XS.bipush X0.here hx rfl (hb hby d1_7) ?_
      show Steps p.tables e below (s₁.setTop (mkF m 9 #[.val (.int x)] [(.int (90 : Int32)), (.int x)])) _
      by_cases hc9 : (90 : Int32) < x
      · have hqhc90 : (fA_12 x) = fA x := (if_pos hc9).symm.trans hqhc31
        refine XS.icmpNo X0.here hx rfl (hb hby d1_9) rfl (tlt hc9).2.2.2 ?_
        exact j3 hqhc90
      · have hqhc91 : (1 : Int32) = fA x := (if_neg hc9).symm.trans hqhc31
        refine XS.icmpYes X0.here hx rfl (pc0 := 9) (pc' := 24) rfl (hb hby d1_9) rfl (flt hc9).2.2.2 (by decide) (by decide) ?_
        exact j2 hqhc91
  · show Q_rmA x h0 n0 _ s₁.heap _
    rw [e0]
    exact ⟨rfl, N0, rfl⟩
theorem own_r64 : ∀ r : Fin 64, r.val ||| 32 = if r.val < 32 then r.val + 32 else r.val := by decide
theorem own_or32 (n : Nat) : n ||| 32 = if n % 64 < 32 then n + 32 else n := by
  have h1 : (n ||| 32) / 2 ^ 6 = n / 2 ^ 6 := by rw [Nat.or_div_two_pow]; exact Nat.or_zero _
  have h2 : (n ||| 32) % 2 ^ 6 = n % 2 ^ 6 ||| 32 := by rw [Nat.or_mod_two_pow]
  have h3 := own_r64 ⟨n % 64, Nat.mod_lt _ (by decide)⟩
  simp only at h3
  have e64 : n % 2 ^ 6 = n % 64 := rfl
  rw [e64] at h2
  have h4 := Nat.div_add_mod (n ||| 32) (2 ^ 6)
  rw [h1, h2] at h4
  rw [h3] at h4
  split at h4 <;> split <;> omega
theorem own_law (c : Int32) : fA c = (if (c ||| (32 : Int32)) < (97 : Int32) then (0 : Int32) else (if (122 : Int32) < (c ||| (32 : Int32)) then (0 : Int32) else (1 : Int32))) := by
  have hn : (c ||| (32 : Int32)).toBitVec.toNat = c.toBitVec.toNat ||| 32 := by
    rw [Int32.toBitVec_or, BitVec.toNat_or]; rfl
  have h1 := own_or32 c.toBitVec.toNat
  rw [← hn] at h1
  have hl := c.toBitVec.isLt
  have hl2 := (c ||| (32 : Int32)).toBitVec.isLt
  have e1 : c.toInt = c.toBitVec.toInt := rfl
  have e2 : (c ||| (32 : Int32)).toInt = (c ||| (32 : Int32)).toBitVec.toInt := rfl
  rw [BitVec.toInt_eq_toNat_cond] at e1 e2
  have l65 : (65 : Int32).toInt = 65 := rfl
  have l90 : (90 : Int32).toInt = 90 := rfl
  have l97 : (97 : Int32).toInt = 97 := rfl
  have l122 : (122 : Int32).toInt = 122 := rfl
  simp only [fA, fA_12, Int32.lt_iff_toInt_lt, l65, l90, l97, l122]
  generalize (c ||| (32 : Int32)).toInt = y at *
  generalize c.toInt = z at *
  generalize (c ||| (32 : Int32)).toBitVec.toNat = m at *
  generalize c.toBitVec.toNat = n at *
  repeat' split
  all_goals first | rfl | (exfalso; split at h1 <;> split at e1 <;> split at e2 <;> omega)
def Q0 (Z : State) (p1 p2 : Int32) (h0 : Heap) (n0 : Nat) (v : Option Value) (h : Heap) (L : List Loc) : Prop := v = some (.int 1) ∧ Fr n0 L
theorem own_idx (y : Int32) : ¬ (y &&& (15 : Int32)) < 0 ∧ (y &&& (15 : Int32)) < (16 : Int32) := by
  have e := Jvm.Kit.i32_mask y 15 (k := 4) (by decide) (by decide)
  rw [Int32.lt_iff_toInt_lt, Int32.lt_iff_toInt_lt]
  have e0 : (0 : Int32).toInt = 0 := rfl
  have e1 : (16 : Int32).toInt = 16 := rfl
  have e2 : (15 : Int32).toInt = 15 := rfl
  omega
theorem pd_0 : parseMethodDescriptor "(I)Z" = some ⟨[.int], some .boolean⟩ := by decide +kernel
theorem pn_1 : plainName "querymill/rdf/TextScannerIsAsciiLetterPinLaw" = true := by first | (simp [plainName, overriddenIn]; done) | decide +kernel
theorem ef_rm0 (m : MethodId) (x0 : Int32) (x1 : Int32) : entryFrame m #[(.int x0), (.int x1)] maxLocals = mkF m 0 #[.val (.int x0), .val (.int x1), .unset, .unset, .unset, .unset] [] := by first | (simp [entryFrame, mkF, argsToLocals, Value.category, maxLocals]; done) | rfl
set_option maxRecDepth 65536 in
set_option maxHeartbeats 40000000 in
theorem rm0 (l : Launch) (Z : State) (a0 : Array Value) (hw : ∀ d ∈ tables_1, d.before a0 Z = true) (ws : List Jvm.Cond) (p1 : Int32) (p2 : Int32)  (h0 : Heap) (n0 : Nat) (Z0 : n0 ≤ h0.size)  :
    MetFree l x (head1 (Jvm.Cond.code x code maxLocals ret :: ws) room_1) (fun a U => a = #[(.int p1), (.int p2)] ∧ Z.Warmed39 U.vm ∧ U.heap = h0) (fun _ _ _ _ _ => True) (fun _ U o U' => ∃ v L, o = .returned v ∧ Q0 Z p1 p2 h0 n0 v U'.heap L ∧ FrameEnd U o U' L 16 128) := by
  refine MetFree.of_bodySF (plainFor_of_name pn_1) hisR ?_
  intro p e s m args below meth c s₁ Bd hml0 hP hK
  obtain ⟨rfl, hZ, hh⟩ := hP
  have hx := Bd.exec
  have hby := Bd.bytes
  have hml : c.maxLocals = 6 := hml0
  have hown : s.vm.findClass "querymill/rdf/TextScannerIsAsciiLetterPinLaw" = some m.cls := findClass_of_methodNamed Bd.named
  have hnm := (name_of_methodNamed Bd.named Bd.method).1
  have X0 : Stand p l e room_1 s m #[(.int p1), (.int p2)] below meth c s₁ [] 0 0 := Stand.of_body Bd
  have e0 : s₁.heap = h0 := by rw [← hh, Bd.state]; rfl
  have N0 := Fr.nil n0
  have pre0 : ∀ t, Steps p.tables e below (s₁.setTop (mkF m 0 #[.val (.int p1), .val (.int p2), .unset, .unset, .unset, .unset] [])) t → Steps p.tables e below (s₁.setTop (entryFrame m #[(.int p1), (.int p2)] maxLocals)) t := fun t k => castTop (ef_rm0 m p1 p2) k
  have sg1 : ∀ t, Steps p.tables e below (s₁.setTop (mkF m 2 #[.val (.int p1), .val (.int p2), .unset, .unset, .unset, .unset] [(.int (16 : Int32))])) t → Steps p.tables e below (s₁.setTop (mkF m 0 #[.val (.int p1), .val (.int p2), .unset, .unset, .unset, .unset] [])) t := by
    intro t k
    show Steps p.tables e below (s₁.setTop (mkF m 0 #[.val (.int p1), .val (.int p2), .unset, .unset, .unset, .unset] [])) _
    refine XS.bipush X0.here hx rfl (hb hby at_0) ?_
    exact k
  obtain ⟨T2, h2, k2, X2, e2, E2, A2, st2⟩ := newP X0 hx hZ (hw _ (List.mem_of_getElem? (i := 0) rfl)) e0 (g := (mkF m 2 #[.val (.int p1), .val (.int p2), .unset, .unset, .unset, .unset] [(.int (16 : Int32))])) rfl (hb hby at_2) rfl (by decide) (cap := 16) (by decide) (by decide) (by decide) (by decide)
  obtain ⟨b2, g2⟩ : ∃ z, z = h0.size := ⟨_, rfl⟩
  rw [← g2] at A2 st2
  have gn_b2 : n0 ≤ b2 := Nat.le_trans Z0 (Nat.le_of_eq g2.symm)
  have z3 : n0 ≤ h2.size := Nat.le_trans Z0 E2.1
  have f4 : Arv Z h2 b2 k2 .int (16 : Int32) [(.int (0 : Int32)), (.int (0 : Int32)), (.int (0 : Int32)), (.int (0 : Int32)), (.int (0 : Int32)), (.int (0 : Int32)), (.int (0 : Int32)), (.int (0 : Int32)), (.int (0 : Int32)), (.int (0 : Int32)), (.int (0 : Int32)), (.int (0 : Int32)), (.int (0 : Int32)), (.int (0 : Int32)), (.int (0 : Int32)), (.int (0 : Int32))] (.int (0 : Int32)) := (Arv.new A2 (by decide)).pad (pad_rep [] (.int (0 : Int32)) 16)
  have sg5 : ∀ t, Steps p.tables e below (T2.setTop (mkF m 8 #[.val (.int p1), .val (.int p2), .unset, .unset, .unset, .unset] [(.int (64 : Int32)), (.int (0 : Int32)), (.ref b2), (.ref b2)])) t → Steps p.tables e below (T2.setTop (mkF m 4 #[.val (.int p1), .val (.int p2), .unset, .unset, .unset, .unset] [(.ref b2)])) t := by
    intro t k
    show Steps p.tables e below (T2.setTop (mkF m 4 #[.val (.int p1), .val (.int p2), .unset, .unset, .unset, .unset] [(.ref b2)])) _
    refine XS.dup X2.here hx rfl (hb hby at_4) rfl rfl ?_
    show Steps p.tables e below (T2.setTop (mkF m 5 #[.val (.int p1), .val (.int p2), .unset, .unset, .unset, .unset] [(.ref b2), (.ref b2)])) _
    refine XS.iconst X2.here hx rfl (hb hby at_5) ?_
    show Steps p.tables e below (T2.setTop (mkF m 6 #[.val (.int p1), .val (.int p2), .unset, .unset, .unset, .unset] [(.int (0 : Int32)), (.ref b2), (.ref b2)])) _
    refine XS.bipush X2.here hx rfl (hb hby at_6) ?_
    exact k
  obtain ⟨cl6, Ar6, q6, Sz6, Nn6, Hs6, G6⟩ := id f4
  have hin6 : ¬ ((0 : Int32) < 0 ∨ cl6.slots.size ≤ ((0 : Int32)).toNatClampNeg) := inb_of Sz6 ⟨by decide, by decide⟩
  obtain ⟨T6, h6, X6, e6, W6, st6⟩ := stI X2 hx hZ e2 Ar6 (j := (0 : Int32)) hin6 (g := (mkF m 8 #[.val (.int p1), .val (.int p2), .unset, .unset, .unset, .unset] [(.int (64 : Int32)), (.int (0 : Int32)), (.ref b2), (.ref b2)])) rfl rfl (hb hby at_8)
  have V6 : Arv Z h6 b2 k2 .int (16 : Int32) [(.int (64 : Int32)), (.int (0 : Int32)), (.int (0 : Int32)), (.int (0 : Int32)), (.int (0 : Int32)), (.int (0 : Int32)), (.int (0 : Int32)), (.int (0 : Int32)), (.int (0 : Int32)), (.int (0 : Int32)), (.int (0 : Int32)), (.int (0 : Int32)), (.int (0 : Int32)), (.int (0 : Int32)), (.int (0 : Int32)), (.int (0 : Int32))] (.int (0 : Int32)) := Arv.set Ar6 q6 Sz6 Nn6 Hs6 G6 rfl W6 0 rfl (by decide)
  have N6 := Fr.snoc X6 N0 gn_b2
  have z7 : n0 ≤ h6.size := Nat.le_trans z3 (Keep.of_wr W6).1
  have sg8 : ∀ t, Steps p.tables e below (T6.setTop (mkF m 13 #[.val (.int p1), .val (.int p2), .unset, .unset, .unset, .unset] [(.int (65 : Int32)), (.int (1 : Int32)), (.ref b2), (.ref b2)])) t → Steps p.tables e below (T6.setTop (mkF m 9 #[.val (.int p1), .val (.int p2), .unset, .unset, .unset, .unset] [(.ref b2)])) t := by
    intro t k
    show Steps p.tables e below (T6.setTop (mkF m 9 #[.val (.int p1), .val (.int p2), .unset, .unset, .unset, .unset] [(.ref b2)])) _
    refine XS.dup X6.here hx rfl (hb hby at_9) rfl rfl ?_
    show Steps p.tables e below (T6.setTop (mkF m 10 #[.val (.int p1), .val (.int p2), .unset, .unset, .unset, .unset] [(.ref b2), (.ref b2)])) _
    refine XS.iconst X6.here hx rfl (hb hby at_10) ?_
    show Steps p.tables e below (T6.setTop (mkF m 11 #[.val (.int p1), .val (.int p2), .unset, .unset, .unset, .unset] [(.int (1 : Int32)), (.ref b2), (.ref b2)])) _
    refine XS.bipush X6.here hx rfl (hb hby at_11) ?_
    exact k
  obtain ⟨cl9, Ar9, q9, Sz9, Nn9, Hs9, G9⟩ := id V6
  have hin9 : ¬ ((1 : Int32) < 0 ∨ cl9.slots.size ≤ ((1 : Int32)).toNatClampNeg) := inb_of Sz9 ⟨by decide, by decide⟩
  obtain ⟨T9, h9, X9, e9, W9, st9⟩ := stI X6 hx hZ e6 Ar9 (j := (1 : Int32)) hin9 (g := (mkF m 13 #[.val (.int p1), .val (.int p2), .unset, .unset, .unset, .unset] [(.int (65 : Int32)), (.int (1 : Int32)), (.ref b2), (.ref b2)])) rfl rfl (hb hby at_13)
  have V9 : Arv Z h9 b2 k2 .int (16 : Int32) [(.int (64 : Int32)), (.int (65 : Int32)), (.int (0 : Int32)), (.int (0 : Int32)), (.int (0 : Int32)), (.int (0 : Int32)), (.int (0 : Int32)), (.int (0 : Int32)), (.int (0 : Int32)), (.int (0 : Int32)), (.int (0 : Int32)), (.int (0 : Int32)), (.int (0 : Int32)), (.int (0 : Int32)), (.int (0 : Int32)), (.int (0 : Int32))] (.int (0 : Int32)) := Arv.set Ar9 q9 Sz9 Nn9 Hs9 G9 rfl W9 1 rfl (by decide)
  have N9 := Fr.snoc X9 N6 gn_b2
  have z10 : n0 ≤ h9.size := Nat.le_trans z7 (Keep.of_wr W9).1
  have sg11 : ∀ t, Steps p.tables e below (T9.setTop (mkF m 18 #[.val (.int p1), .val (.int p2), .unset, .unset, .unset, .unset] [(.int (90 : Int32)), (.int (2 : Int32)), (.ref b2), (.ref b2)])) t → Steps p.tables e below (T9.setTop (mkF m 14 #[.val (.int p1), .val (.int p2), .unset, .unset, .unset, .unset] [(.ref b2)])) t := by
    intro t k
    show Steps p.tables e below (T9.setTop (mkF m 14 #[.val (.int p1), .val (.int p2), .unset, .unset, .unset, .unset] [(.ref b2)])) _
    refine XS.dup X9.here hx rfl (hb hby at_14) rfl rfl ?_
    show Steps p.tables e below (T9.setTop (mkF m 15 #[.val (.int p1), .val (.int p2), .unset, .unset, .unset, .unset] [(.ref b2), (.ref b2)])) _
    refine XS.iconst X9.here hx rfl (hb hby at_15) ?_
    show Steps p.tables e below (T9.setTop (mkF m 16 #[.val (.int p1), .val (.int p2), .unset, .unset, .unset, .unset] [(.int (2 : Int32)), (.ref b2), (.ref b2)])) _
    refine XS.bipush X9.here hx rfl (hb hby at_16) ?_
    exact k
  obtain ⟨cl12, Ar12, q12, Sz12, Nn12, Hs12, G12⟩ := id V9
  have hin12 : ¬ ((2 : Int32) < 0 ∨ cl12.slots.size ≤ ((2 : Int32)).toNatClampNeg) := inb_of Sz12 ⟨by decide, by decide⟩
  obtain ⟨T12, h12, X12, e12, W12, st12⟩ := stI X9 hx hZ e9 Ar12 (j := (2 : Int32)) hin12 (g := (mkF m 18 #[.val (.int p1), .val (.int p2), .unset, .unset, .unset, .unset] [(.int (90 : Int32)), (.int (2 : Int32)), (.ref b2), (.ref b2)])) rfl rfl (hb hby at_18)
  have V12 : Arv Z h12 b2 k2 .int (16 : Int32) [(.int (64 : Int32)), (.int (65 : Int32)), (.int (90 : Int32)), (.int (0 : Int32)), (.int (0 : Int32)), (.int (0 : Int32)), (.int (0 : Int32)), (.int (0 : Int32)), (.int (0 : Int32)), (.int (0 : Int32)), (.int (0 : Int32)), (.int (0 : Int32)), (.int (0 : Int32)), (.int (0 : Int32)), (.int (0 : Int32)), (.int (0 : Int32))] (.int (0 : Int32)) := Arv.set Ar12 q12 Sz12 Nn12 Hs12 G12 rfl W12 2 rfl (by decide)
  have N12 := Fr.snoc X12 N9 gn_b2
  have z13 : n0 ≤ h12.size := Nat.le_trans z10 (Keep.of_wr W12).1
  have sg14 : ∀ t, Steps p.tables e below (T12.setTop (mkF m 23 #[.val (.int p1), .val (.int p2), .unset, .unset, .unset, .unset] [(.int (91 : Int32)), (.int (3 : Int32)), (.ref b2), (.ref b2)])) t → Steps p.tables e below (T12.setTop (mkF m 19 #[.val (.int p1), .val (.int p2), .unset, .unset, .unset, .unset] [(.ref b2)])) t := by
    intro t k
    show Steps p.tables e below (T12.setTop (mkF m 19 #[.val (.int p1), .val (.int p2), .unset, .unset, .unset, .unset] [(.ref b2)])) _
    refine XS.dup X12.here hx rfl (hb hby at_19) rfl rfl ?_
    show Steps p.tables e below (T12.setTop (mkF m 20 #[.val (.int p1), .val (.int p2), .unset, .unset, .unset, .unset] [(.ref b2), (.ref b2)])) _
    refine XS.iconst X12.here hx rfl (hb hby at_20) ?_
    show Steps p.tables e below (T12.setTop (mkF m 21 #[.val (.int p1), .val (.int p2), .unset, .unset, .unset, .unset] [(.int (3 : Int32)), (.ref b2), (.ref b2)])) _
    refine XS.bipush X12.here hx rfl (hb hby at_21) ?_
    exact k
  obtain ⟨cl15, Ar15, q15, Sz15, Nn15, Hs15, G15⟩ := id V12
  have hin15 : ¬ ((3 : Int32) < 0 ∨ cl15.slots.size ≤ ((3 : Int32)).toNatClampNeg) := inb_of Sz15 ⟨by decide, by decide⟩
  obtain ⟨T15, h15, X15, e15, W15, st15⟩ := stI X12 hx hZ e12 Ar15 (j := (3 : Int32)) hin15 (g := (mkF m 23 #[.val (.int p1), .val (.int p2), .unset, .unset, .unset, .unset] [(.int (91 : Int32)), (.int (3 : Int32)), (.ref b2), (.ref b2)])) rfl rfl (hb hby at_23)
  have V15 : Arv Z h15 b2 k2 .int (16 : Int32) [(.int (64 : Int32)), (.int (65 : Int32)), (.int (90 : Int32)), (.int (91 : Int32)), (.int (0 : Int32)), (.int (0 : Int32)), (.int (0 : Int32)), (.int (0 : Int32)), (.int (0 : Int32)), (.int (0 : Int32)), (.int (0 : Int32)), (.int (0 : Int32)), (.int (0 : Int32)), (.int (0 : Int32)), (.int (0 : Int32)), (.int (0 : Int32))] (.int (0 : Int32)) := Arv.set Ar15 q15 Sz15 Nn15 Hs15 G15 rfl W15 3 rfl (by decide)
  have N15 := Fr.snoc X15 N12 gn_b2
  have z16 : n0 ≤ h15.size := Nat.le_trans z13 (Keep.of_wr W15).1
  have sg17 : ∀ t, Steps p.tables e below (T15.setTop (mkF m 28 #[.val (.int p1), .val (.int p2), .unset, .unset, .unset, .unset] [(.int (96 : Int32)), (.int (4 : Int32)), (.ref b2), (.ref b2)])) t → Steps p.tables e below (T15.setTop (mkF m 24 #[.val (.int p1), .val (.int p2), .unset, .unset, .unset, .unset] [(.ref b2)])) t := by
    intro t k
    show Steps p.tables e below (T15.setTop (mkF m 24 #[.val (.int p1), .val (.int p2), .unset, .unset, .unset, .unset] [(.ref b2)])) _
    refine XS.dup X15.here hx rfl (hb hby at_24) rfl rfl ?_
    show Steps p.tables e below (T15.setTop (mkF m 25 #[.val (.int p1), .val (.int p2), .unset, .unset, .unset, .unset] [(.ref b2), (.ref b2)])) _
    refine XS.iconst X15.here hx rfl (hb hby at_25) ?_
    show Steps p.tables e below (T15.setTop (mkF m 26 #[.val (.int p1), .val (.int p2), .unset, .unset, .unset, .unset] [(.int (4 : Int32)), (.ref b2), (.ref b2)])) _
    refine XS.bipush X15.here hx rfl (hb hby at_26) ?_
    exact k
  obtain ⟨cl18, Ar18, q18, Sz18, Nn18, Hs18, G18⟩ := id V15
  have hin18 : ¬ ((4 : Int32) < 0 ∨ cl18.slots.size ≤ ((4 : Int32)).toNatClampNeg) := inb_of Sz18 ⟨by decide, by decide⟩
  obtain ⟨T18, h18, X18, e18, W18, st18⟩ := stI X15 hx hZ e15 Ar18 (j := (4 : Int32)) hin18 (g := (mkF m 28 #[.val (.int p1), .val (.int p2), .unset, .unset, .unset, .unset] [(.int (96 : Int32)), (.int (4 : Int32)), (.ref b2), (.ref b2)])) rfl rfl (hb hby at_28)
  have V18 : Arv Z h18 b2 k2 .int (16 : Int32) [(.int (64 : Int32)), (.int (65 : Int32)), (.int (90 : Int32)), (.int (91 : Int32)), (.int (96 : Int32)), (.int (0 : Int32)), (.int (0 : Int32)), (.int (0 : Int32)), (.int (0 : Int32)), (.int (0 : Int32)), (.int (0 : Int32)), (.int (0 : Int32)), (.int (0 : Int32)), (.int (0 : Int32)), (.int (0 : Int32)), (.int (0 : Int32))] (.int (0 : Int32)) := Arv.set Ar18 q18 Sz18 Nn18 Hs18 G18 rfl W18 4 rfl (by decide)
  have N18 := Fr.snoc X18 N15 gn_b2
  have z19 : n0 ≤ h18.size := Nat.le_trans z16 (Keep.of_wr W18).1
  have sg20 : ∀ t, Steps p.tables e below (T18.setTop (mkF m 33 #[.val (.int p1), .val (.int p2), .unset, .unset, .unset, .unset] [(.int (97 : Int32)), (.int (5 : Int32)), (.ref b2), (.ref b2)])) t → Steps p.tables e below (T18.setTop (mkF m 29 #[.val (.int p1), .val (.int p2), .unset, .unset, .unset, .unset] [(.ref b2)])) t := by
    intro t k
    show Steps p.tables e below (T18.setTop (mkF m 29 #[.val (.int p1), .val (.int p2), .unset, .unset, .unset, .unset] [(.ref b2)])) _
    refine XS.dup X18.here hx rfl (hb hby at_29) rfl rfl ?_
    show Steps p.tables e below (T18.setTop (mkF m 30 #[.val (.int p1), .val (.int p2), .unset, .unset, .unset, .unset] [(.ref b2), (.ref b2)])) _
    refine XS.iconst X18.here hx rfl (hb hby at_30) ?_
    show Steps p.tables e below (T18.setTop (mkF m 31 #[.val (.int p1), .val (.int p2), .unset, .unset, .unset, .unset] [(.int (5 : Int32)), (.ref b2), (.ref b2)])) _
    refine XS.bipush X18.here hx rfl (hb hby at_31) ?_
    exact k
  obtain ⟨cl21, Ar21, q21, Sz21, Nn21, Hs21, G21⟩ := id V18
  have hin21 : ¬ ((5 : Int32) < 0 ∨ cl21.slots.size ≤ ((5 : Int32)).toNatClampNeg) := inb_of Sz21 ⟨by decide, by decide⟩
  obtain ⟨T21, h21, X21, e21, W21, st21⟩ := stI X18 hx hZ e18 Ar21 (j := (5 : Int32)) hin21 (g := (mkF m 33 #[.val (.int p1), .val (.int p2), .unset, .unset, .unset, .unset] [(.int (97 : Int32)), (.int (5 : Int32)), (.ref b2), (.ref b2)])) rfl rfl (hb hby at_33)
  have V21 : Arv Z h21 b2 k2 .int (16 : Int32) [(.int (64 : Int32)), (.int (65 : Int32)), (.int (90 : Int32)), (.int (91 : Int32)), (.int (96 : Int32)), (.int (97 : Int32)), (.int (0 : Int32)), (.int (0 : Int32)), (.int (0 : Int32)), (.int (0 : Int32)), (.int (0 : Int32)), (.int (0 : Int32)), (.int (0 : Int32)), (.int (0 : Int32)), (.int (0 : Int32)), (.int (0 : Int32))] (.int (0 : Int32)) := Arv.set Ar21 q21 Sz21 Nn21 Hs21 G21 rfl W21 5 rfl (by decide)
  have N21 := Fr.snoc X21 N18 gn_b2
  have z22 : n0 ≤ h21.size := Nat.le_trans z19 (Keep.of_wr W21).1
  have sg23 : ∀ t, Steps p.tables e below (T21.setTop (mkF m 39 #[.val (.int p1), .val (.int p2), .unset, .unset, .unset, .unset] [(.int (122 : Int32)), (.int (6 : Int32)), (.ref b2), (.ref b2)])) t → Steps p.tables e below (T21.setTop (mkF m 34 #[.val (.int p1), .val (.int p2), .unset, .unset, .unset, .unset] [(.ref b2)])) t := by
    intro t k
    show Steps p.tables e below (T21.setTop (mkF m 34 #[.val (.int p1), .val (.int p2), .unset, .unset, .unset, .unset] [(.ref b2)])) _
    refine XS.dup X21.here hx rfl (hb hby at_34) rfl rfl ?_
    show Steps p.tables e below (T21.setTop (mkF m 35 #[.val (.int p1), .val (.int p2), .unset, .unset, .unset, .unset] [(.ref b2), (.ref b2)])) _
    refine XS.bipush X21.here hx rfl (hb hby at_35) ?_
    show Steps p.tables e below (T21.setTop (mkF m 37 #[.val (.int p1), .val (.int p2), .unset, .unset, .unset, .unset] [(.int (6 : Int32)), (.ref b2), (.ref b2)])) _
    refine XS.bipush X21.here hx rfl (hb hby at_37) ?_
    exact k
  obtain ⟨cl24, Ar24, q24, Sz24, Nn24, Hs24, G24⟩ := id V21
  have hin24 : ¬ ((6 : Int32) < 0 ∨ cl24.slots.size ≤ ((6 : Int32)).toNatClampNeg) := inb_of Sz24 ⟨by decide, by decide⟩
  obtain ⟨T24, h24, X24, e24, W24, st24⟩ := stI X21 hx hZ e21 Ar24 (j := (6 : Int32)) hin24 (g := (mkF m 39 #[.val (.int p1), .val (.int p2), .unset, .unset, .unset, .unset] [(.int (122 : Int32)), (.int (6 : Int32)), (.ref b2), (.ref b2)])) rfl rfl (hb hby at_39)
  have V24 : Arv Z h24 b2 k2 .int (16 : Int32) [(.int (64 : Int32)), (.int (65 : Int32)), (.int (90 : Int32)), (.int (91 : Int32)), (.int (96 : Int32)), (.int (97 : Int32)), (.int (122 : Int32)), (.int (0 : Int32)), (.int (0 : Int32)), (.int (0 : Int32)), (.int (0 : Int32)), (.int (0 : Int32)), (.int (0 : Int32)), (.int (0 : Int32)), (.int (0 : Int32)), (.int (0 : Int32))] (.int (0 : Int32)) := Arv.set Ar24 q24 Sz24 Nn24 Hs24 G24 rfl W24 6 rfl (by decide)
  have N24 := Fr.snoc X24 N21 gn_b2
  have z25 : n0 ≤ h24.size := Nat.le_trans z22 (Keep.of_wr W24).1
  have sg26 : ∀ t, Steps p.tables e below (T24.setTop (mkF m 45 #[.val (.int p1), .val (.int p2), .unset, .unset, .unset, .unset] [(.int (123 : Int32)), (.int (7 : Int32)), (.ref b2), (.ref b2)])) t → Steps p.tables e below (T24.setTop (mkF m 40 #[.val (.int p1), .val (.int p2), .unset, .unset, .unset, .unset] [(.ref b2)])) t := by
    intro t k
    show Steps p.tables e below (T24.setTop (mkF m 40 #[.val (.int p1), .val (.int p2), .unset, .unset, .unset, .unset] [(.ref b2)])) _
    refine XS.dup X24.here hx rfl (hb hby at_40) rfl rfl ?_
    show Steps p.tables e below (T24.setTop (mkF m 41 #[.val (.int p1), .val (.int p2), .unset, .unset, .unset, .unset] [(.ref b2), (.ref b2)])) _
    refine XS.bipush X24.here hx rfl (hb hby at_41) ?_
    show Steps p.tables e below (T24.setTop (mkF m 43 #[.val (.int p1), .val (.int p2), .unset, .unset, .unset, .unset] [(.int (7 : Int32)), (.ref b2), (.ref b2)])) _
    refine XS.bipush X24.here hx rfl (hb hby at_43) ?_
    exact k
  obtain ⟨cl27, Ar27, q27, Sz27, Nn27, Hs27, G27⟩ := id V24
  have hin27 : ¬ ((7 : Int32) < 0 ∨ cl27.slots.size ≤ ((7 : Int32)).toNatClampNeg) := inb_of Sz27 ⟨by decide, by decide⟩
  obtain ⟨T27, h27, X27, e27, W27, st27⟩ := stI X24 hx hZ e24 Ar27 (j := (7 : Int32)) hin27 (g := (mkF m 45 #[.val (.int p1), .val (.int p2), .unset, .unset, .unset, .unset] [(.int (123 : Int32)), (.int (7 : Int32)), (.ref b2), (.ref b2)])) rfl rfl (hb hby at_45)
  have V27 : Arv Z h27 b2 k2 .int (16 : Int32) [(.int (64 : Int32)), (.int (65 : Int32)), (.int (90 : Int32)), (.int (91 : Int32)), (.int (96 : Int32)), (.int (97 : Int32)), (.int (122 : Int32)), (.int (123 : Int32)), (.int (0 : Int32)), (.int (0 : Int32)), (.int (0 : Int32)), (.int (0 : Int32)), (.int (0 : Int32)), (.int (0 : Int32)), (.int (0 : Int32)), (.int (0 : Int32))] (.int (0 : Int32)) := Arv.set Ar27 q27 Sz27 Nn27 Hs27 G27 rfl W27 7 rfl (by decide)
  have N27 := Fr.snoc X27 N24 gn_b2
  have z28 : n0 ≤ h27.size := Nat.le_trans z25 (Keep.of_wr W27).1
  have sg29 : ∀ t, Steps p.tables e below (T27.setTop (mkF m 50 #[.val (.int p1), .val (.int p2), .unset, .unset, .unset, .unset] [(.int (0 : Int32)), (.int (8 : Int32)), (.ref b2), (.ref b2)])) t → Steps p.tables e below (T27.setTop (mkF m 46 #[.val (.int p1), .val (.int p2), .unset, .unset, .unset, .unset] [(.ref b2)])) t := by
    intro t k
    show Steps p.tables e below (T27.setTop (mkF m 46 #[.val (.int p1), .val (.int p2), .unset, .unset, .unset, .unset] [(.ref b2)])) _
    refine XS.dup X27.here hx rfl (hb hby at_46) rfl rfl ?_
    show Steps p.tables e below (T27.setTop (mkF m 47 #[.val (.int p1), .val (.int p2), .unset, .unset, .unset, .unset] [(.ref b2), (.ref b2)])) _
    refine XS.bipush X27.here hx rfl (hb hby at_47) ?_
    show Steps p.tables e below (T27.setTop (mkF m 49 #[.val (.int p1), .val (.int p2), .unset, .unset, .unset, .unset] [(.int (8 : Int32)), (.ref b2), (.ref b2)])) _
    refine XS.iconst X27.here hx rfl (hb hby at_49) ?_
    exact k
  obtain ⟨cl30, Ar30, q30, Sz30, Nn30, Hs30, G30⟩ := id V27
  have hin30 : ¬ ((8 : Int32) < 0 ∨ cl30.slots.size ≤ ((8 : Int32)).toNatClampNeg) := inb_of Sz30 ⟨by decide, by decide⟩
  obtain ⟨T30, h30, X30, e30, W30, st30⟩ := stI X27 hx hZ e27 Ar30 (j := (8 : Int32)) hin30 (g := (mkF m 50 #[.val (.int p1), .val (.int p2), .unset, .unset, .unset, .unset] [(.int (0 : Int32)), (.int (8 : Int32)), (.ref b2), (.ref b2)])) rfl rfl (hb hby at_50)
  have V30 : Arv Z h30 b2 k2 .int (16 : Int32) [(.int (64 : Int32)), (.int (65 : Int32)), (.int (90 : Int32)), (.int (91 : Int32)), (.int (96 : Int32)), (.int (97 : Int32)), (.int (122 : Int32)), (.int (123 : Int32)), (.int (0 : Int32)), (.int (0 : Int32)), (.int (0 : Int32)), (.int (0 : Int32)), (.int (0 : Int32)), (.int (0 : Int32)), (.int (0 : Int32)), (.int (0 : Int32))] (.int (0 : Int32)) := Arv.set Ar30 q30 Sz30 Nn30 Hs30 G30 rfl W30 8 rfl (by decide)
  have N30 := Fr.snoc X30 N27 gn_b2
  have z31 : n0 ≤ h30.size := Nat.le_trans z28 (Keep.of_wr W30).1
  have sg32 : ∀ t, Steps p.tables e below (T30.setTop (mkF m 55 #[.val (.int p1), .val (.int p2), .unset, .unset, .unset, .unset] [(.int (-1 : Int32)), (.int (9 : Int32)), (.ref b2), (.ref b2)])) t → Steps p.tables e below (T30.setTop (mkF m 51 #[.val (.int p1), .val (.int p2), .unset, .unset, .unset, .unset] [(.ref b2)])) t := by
    intro t k
    show Steps p.tables e below (T30.setTop (mkF m 51 #[.val (.int p1), .val (.int p2), .unset, .unset, .unset, .unset] [(.ref b2)])) _
    refine XS.dup X30.here hx rfl (hb hby at_51) rfl rfl ?_
    show Steps p.tables e below (T30.setTop (mkF m 52 #[.val (.int p1), .val (.int p2), .unset, .unset, .unset, .unset] [(.ref b2), (.ref b2)])) _
    refine XS.bipush X30.here hx rfl (hb hby at_52) ?_
    show Steps p.tables e below (T30.setTop (mkF m 54 #[.val (.int p1), .val (.int p2), .unset, .unset, .unset, .unset] [(.int (9 : Int32)), (.ref b2), (.ref b2)])) _
    refine XS.iconst X30.here hx rfl (hb hby at_54) ?_
    exact k
  obtain ⟨cl33, Ar33, q33, Sz33, Nn33, Hs33, G33⟩ := id V30
  have hin33 : ¬ ((9 : Int32) < 0 ∨ cl33.slots.size ≤ ((9 : Int32)).toNatClampNeg) := inb_of Sz33 ⟨by decide, by decide⟩
  obtain ⟨T33, h33, X33, e33, W33, st33⟩ := stI X30 hx hZ e30 Ar33 (j := (9 : Int32)) hin33 (g := (mkF m 55 #[.val (.int p1), .val (.int p2), .unset, .unset, .unset, .unset] [(.int (-1 : Int32)), (.int (9 : Int32)), (.ref b2), (.ref b2)])) rfl rfl (hb hby at_55)
  have V33 : Arv Z h33 b2 k2 .int (16 : Int32) [(.int (64 : Int32)), (.int (65 : Int32)), (.int (90 : Int32)), (.int (91 : Int32)), (.int (96 : Int32)), (.int (97 : Int32)), (.int (122 : Int32)), (.int (123 : Int32)), (.int (0 : Int32)), (.int (-1 : Int32)), (.int (0 : Int32)), (.int (0 : Int32)), (.int (0 : Int32)), (.int (0 : Int32)), (.int (0 : Int32)), (.int (0 : Int32))] (.int (0 : Int32)) := Arv.set Ar33 q33 Sz33 Nn33 Hs33 G33 rfl W33 9 rfl (by decide)
  have N33 := Fr.snoc X33 N30 gn_b2
  have z34 : n0 ≤ h33.size := Nat.le_trans z31 (Keep.of_wr W33).1
  have sg35 : ∀ t, Steps p.tables e below (T33.setTop (mkF m 61 #[.val (.int p1), .val (.int p2), .unset, .unset, .unset, .unset] [(.int (-2147483648 : Int32)), (.int (10 : Int32)), (.ref b2), (.ref b2)])) t → Steps p.tables e below (T33.setTop (mkF m 56 #[.val (.int p1), .val (.int p2), .unset, .unset, .unset, .unset] [(.ref b2)])) t := by
    intro t k
    show Steps p.tables e below (T33.setTop (mkF m 56 #[.val (.int p1), .val (.int p2), .unset, .unset, .unset, .unset] [(.ref b2)])) _
    refine XS.dup X33.here hx rfl (hb hby at_56) rfl rfl ?_
    show Steps p.tables e below (T33.setTop (mkF m 57 #[.val (.int p1), .val (.int p2), .unset, .unset, .unset, .unset] [(.ref b2), (.ref b2)])) _
    refine XS.bipush X33.here hx rfl (hb hby at_57) ?_
    show Steps p.tables e below (T33.setTop (mkF m 59 #[.val (.int p1), .val (.int p2), .unset, .unset, .unset, .unset] [(.int (10 : Int32)), (.ref b2), (.ref b2)])) _
    refine X33.ldcInt hx hown (mvT hZ (hw _ (List.mem_of_getElem? (i := 1) rfl))) (g := (mkF m 59 #[.val (.int p1), .val (.int p2), .unset, .unset, .unset, .unset] [(.int (10 : Int32)), (.ref b2), (.ref b2)])) rfl (hb hby at_59) _ ?_
    exact k
  obtain ⟨cl36, Ar36, q36, Sz36, Nn36, Hs36, G36⟩ := id V33
  have hin36 : ¬ ((10 : Int32) < 0 ∨ cl36.slots.size ≤ ((10 : Int32)).toNatClampNeg) := inb_of Sz36 ⟨by decide, by decide⟩
  obtain ⟨T36, h36, X36, e36, W36, st36⟩ := stI X33 hx hZ e33 Ar36 (j := (10 : Int32)) hin36 (g := (mkF m 61 #[.val (.int p1), .val (.int p2), .unset, .unset, .unset, .unset] [(.int (-2147483648 : Int32)), (.int (10 : Int32)), (.ref b2), (.ref b2)])) rfl rfl (hb hby at_61)
  have V36 : Arv Z h36 b2 k2 .int (16 : Int32) [(.int (64 : Int32)), (.int (65 : Int32)), (.int (90 : Int32)), (.int (91 : Int32)), (.int (96 : Int32)), (.int (97 : Int32)), (.int (122 : Int32)), (.int (123 : Int32)), (.int (0 : Int32)), (.int (-1 : Int32)), (.int (-2147483648 : Int32)), (.int (0 : Int32)), (.int (0 : Int32)), (.int (0 : Int32)), (.int (0 : Int32)), (.int (0 : Int32))] (.int (0 : Int32)) := Arv.set Ar36 q36 Sz36 Nn36 Hs36 G36 rfl W36 10 rfl (by decide)
  have N36 := Fr.snoc X36 N33 gn_b2
  have z37 : n0 ≤ h36.size := Nat.le_trans z34 (Keep.of_wr W36).1
  have sg38 : ∀ t, Steps p.tables e below (T36.setTop (mkF m 67 #[.val (.int p1), .val (.int p2), .unset, .unset, .unset, .unset] [(.int (2147483647 : Int32)), (.int (11 : Int32)), (.ref b2), (.ref b2)])) t → Steps p.tables e below (T36.setTop (mkF m 62 #[.val (.int p1), .val (.int p2), .unset, .unset, .unset, .unset] [(.ref b2)])) t := by
    intro t k
    show Steps p.tables e below (T36.setTop (mkF m 62 #[.val (.int p1), .val (.int p2), .unset, .unset, .unset, .unset] [(.ref b2)])) _
    refine XS.dup X36.here hx rfl (hb hby at_62) rfl rfl ?_
    show Steps p.tables e below (T36.setTop (mkF m 63 #[.val (.int p1), .val (.int p2), .unset, .unset, .unset, .unset] [(.ref b2), (.ref b2)])) _
    refine XS.bipush X36.here hx rfl (hb hby at_63) ?_
    show Steps p.tables e below (T36.setTop (mkF m 65 #[.val (.int p1), .val (.int p2), .unset, .unset, .unset, .unset] [(.int (11 : Int32)), (.ref b2), (.ref b2)])) _
    refine X36.ldcInt hx hown (mvT hZ (hw _ (List.mem_of_getElem? (i := 2) rfl))) (g := (mkF m 65 #[.val (.int p1), .val (.int p2), .unset, .unset, .unset, .unset] [(.int (11 : Int32)), (.ref b2), (.ref b2)])) rfl (hb hby at_65) _ ?_
    exact k
  obtain ⟨cl39, Ar39, q39, Sz39, Nn39, Hs39, G39⟩ := id V36
  have hin39 : ¬ ((11 : Int32) < 0 ∨ cl39.slots.size ≤ ((11 : Int32)).toNatClampNeg) := inb_of Sz39 ⟨by decide, by decide⟩
  obtain ⟨T39, h39, X39, e39, W39, st39⟩ := stI X36 hx hZ e36 Ar39 (j := (11 : Int32)) hin39 (g := (mkF m 67 #[.val (.int p1), .val (.int p2), .unset, .unset, .unset, .unset] [(.int (2147483647 : Int32)), (.int (11 : Int32)), (.ref b2), (.ref b2)])) rfl rfl (hb hby at_67)
  have V39 : Arv Z h39 b2 k2 .int (16 : Int32) [(.int (64 : Int32)), (.int (65 : Int32)), (.int (90 : Int32)), (.int (91 : Int32)), (.int (96 : Int32)), (.int (97 : Int32)), (.int (122 : Int32)), (.int (123 : Int32)), (.int (0 : Int32)), (.int (-1 : Int32)), (.int (-2147483648 : Int32)), (.int (2147483647 : Int32)), (.int (0 : Int32)), (.int (0 : Int32)), (.int (0 : Int32)), (.int (0 : Int32))] (.int (0 : Int32)) := Arv.set Ar39 q39 Sz39 Nn39 Hs39 G39 rfl W39 11 rfl (by decide)
  have N39 := Fr.snoc X39 N36 gn_b2
  have z40 : n0 ≤ h39.size := Nat.le_trans z37 (Keep.of_wr W39).1
  have sg41 : ∀ t, Steps p.tables e below (T39.setTop (mkF m 74 #[.val (.int p1), .val (.int p2), .unset, .unset, .unset, .unset] [(.int (193 : Int32)), (.int (12 : Int32)), (.ref b2), (.ref b2)])) t → Steps p.tables e below (T39.setTop (mkF m 68 #[.val (.int p1), .val (.int p2), .unset, .unset, .unset, .unset] [(.ref b2)])) t := by
    intro t k
    show Steps p.tables e below (T39.setTop (mkF m 68 #[.val (.int p1), .val (.int p2), .unset, .unset, .unset, .unset] [(.ref b2)])) _
    refine XS.dup X39.here hx rfl (hb hby at_68) rfl rfl ?_
    show Steps p.tables e below (T39.setTop (mkF m 69 #[.val (.int p1), .val (.int p2), .unset, .unset, .unset, .unset] [(.ref b2), (.ref b2)])) _
    refine XS.bipush X39.here hx rfl (hb hby at_69) ?_
    show Steps p.tables e below (T39.setTop (mkF m 71 #[.val (.int p1), .val (.int p2), .unset, .unset, .unset, .unset] [(.int (12 : Int32)), (.ref b2), (.ref b2)])) _
    refine XS.sipush X39.here hx rfl (hb hby at_71) ?_
    exact k
  obtain ⟨cl42, Ar42, q42, Sz42, Nn42, Hs42, G42⟩ := id V39
  have hin42 : ¬ ((12 : Int32) < 0 ∨ cl42.slots.size ≤ ((12 : Int32)).toNatClampNeg) := inb_of Sz42 ⟨by decide, by decide⟩
  obtain ⟨T42, h42, X42, e42, W42, st42⟩ := stI X39 hx hZ e39 Ar42 (j := (12 : Int32)) hin42 (g := (mkF m 74 #[.val (.int p1), .val (.int p2), .unset, .unset, .unset, .unset] [(.int (193 : Int32)), (.int (12 : Int32)), (.ref b2), (.ref b2)])) rfl rfl (hb hby at_74)
  have V42 : Arv Z h42 b2 k2 .int (16 : Int32) [(.int (64 : Int32)), (.int (65 : Int32)), (.int (90 : Int32)), (.int (91 : Int32)), (.int (96 : Int32)), (.int (97 : Int32)), (.int (122 : Int32)), (.int (123 : Int32)), (.int (0 : Int32)), (.int (-1 : Int32)), (.int (-2147483648 : Int32)), (.int (2147483647 : Int32)), (.int (193 : Int32)), (.int (0 : Int32)), (.int (0 : Int32)), (.int (0 : Int32))] (.int (0 : Int32)) := Arv.set Ar42 q42 Sz42 Nn42 Hs42 G42 rfl W42 12 rfl (by decide)
  have N42 := Fr.snoc X42 N39 gn_b2
  have z43 : n0 ≤ h42.size := Nat.le_trans z40 (Keep.of_wr W42).1
  have sg44 : ∀ t, Steps p.tables e below (T42.setTop (mkF m 81 #[.val (.int p1), .val (.int p2), .unset, .unset, .unset, .unset] [(.int (225 : Int32)), (.int (13 : Int32)), (.ref b2), (.ref b2)])) t → Steps p.tables e below (T42.setTop (mkF m 75 #[.val (.int p1), .val (.int p2), .unset, .unset, .unset, .unset] [(.ref b2)])) t := by
    intro t k
    show Steps p.tables e below (T42.setTop (mkF m 75 #[.val (.int p1), .val (.int p2), .unset, .unset, .unset, .unset] [(.ref b2)])) _
    refine XS.dup X42.here hx rfl (hb hby at_75) rfl rfl ?_
    show Steps p.tables e below (T42.setTop (mkF m 76 #[.val (.int p1), .val (.int p2), .unset, .unset, .unset, .unset] [(.ref b2), (.ref b2)])) _
    refine XS.bipush X42.here hx rfl (hb hby at_76) ?_
    show Steps p.tables e below (T42.setTop (mkF m 78 #[.val (.int p1), .val (.int p2), .unset, .unset, .unset, .unset] [(.int (13 : Int32)), (.ref b2), (.ref b2)])) _
    refine XS.sipush X42.here hx rfl (hb hby at_78) ?_
    exact k
  obtain ⟨cl45, Ar45, q45, Sz45, Nn45, Hs45, G45⟩ := id V42
  have hin45 : ¬ ((13 : Int32) < 0 ∨ cl45.slots.size ≤ ((13 : Int32)).toNatClampNeg) := inb_of Sz45 ⟨by decide, by decide⟩
  obtain ⟨T45, h45, X45, e45, W45, st45⟩ := stI X42 hx hZ e42 Ar45 (j := (13 : Int32)) hin45 (g := (mkF m 81 #[.val (.int p1), .val (.int p2), .unset, .unset, .unset, .unset] [(.int (225 : Int32)), (.int (13 : Int32)), (.ref b2), (.ref b2)])) rfl rfl (hb hby at_81)
  have V45 : Arv Z h45 b2 k2 .int (16 : Int32) [(.int (64 : Int32)), (.int (65 : Int32)), (.int (90 : Int32)), (.int (91 : Int32)), (.int (96 : Int32)), (.int (97 : Int32)), (.int (122 : Int32)), (.int (123 : Int32)), (.int (0 : Int32)), (.int (-1 : Int32)), (.int (-2147483648 : Int32)), (.int (2147483647 : Int32)), (.int (193 : Int32)), (.int (225 : Int32)), (.int (0 : Int32)), (.int (0 : Int32))] (.int (0 : Int32)) := Arv.set Ar45 q45 Sz45 Nn45 Hs45 G45 rfl W45 13 rfl (by decide)
  have N45 := Fr.snoc X45 N42 gn_b2
  have z46 : n0 ≤ h45.size := Nat.le_trans z43 (Keep.of_wr W45).1
  have sg47 : ∀ t, Steps p.tables e below (T45.setTop (mkF m 88 #[.val (.int p1), .val (.int p2), .unset, .unset, .unset, .unset] [(.int (321 : Int32)), (.int (14 : Int32)), (.ref b2), (.ref b2)])) t → Steps p.tables e below (T45.setTop (mkF m 82 #[.val (.int p1), .val (.int p2), .unset, .unset, .unset, .unset] [(.ref b2)])) t := by
    intro t k
    show Steps p.tables e below (T45.setTop (mkF m 82 #[.val (.int p1), .val (.int p2), .unset, .unset, .unset, .unset] [(.ref b2)])) _
    refine XS.dup X45.here hx rfl (hb hby at_82) rfl rfl ?_
    show Steps p.tables e below (T45.setTop (mkF m 83 #[.val (.int p1), .val (.int p2), .unset, .unset, .unset, .unset] [(.ref b2), (.ref b2)])) _
    refine XS.bipush X45.here hx rfl (hb hby at_83) ?_
    show Steps p.tables e below (T45.setTop (mkF m 85 #[.val (.int p1), .val (.int p2), .unset, .unset, .unset, .unset] [(.int (14 : Int32)), (.ref b2), (.ref b2)])) _
    refine XS.sipush X45.here hx rfl (hb hby at_85) ?_
    exact k
  obtain ⟨cl48, Ar48, q48, Sz48, Nn48, Hs48, G48⟩ := id V45
  have hin48 : ¬ ((14 : Int32) < 0 ∨ cl48.slots.size ≤ ((14 : Int32)).toNatClampNeg) := inb_of Sz48 ⟨by decide, by decide⟩
  obtain ⟨T48, h48, X48, e48, W48, st48⟩ := stI X45 hx hZ e45 Ar48 (j := (14 : Int32)) hin48 (g := (mkF m 88 #[.val (.int p1), .val (.int p2), .unset, .unset, .unset, .unset] [(.int (321 : Int32)), (.int (14 : Int32)), (.ref b2), (.ref b2)])) rfl rfl (hb hby at_88)
  have V48 : Arv Z h48 b2 k2 .int (16 : Int32) [(.int (64 : Int32)), (.int (65 : Int32)), (.int (90 : Int32)), (.int (91 : Int32)), (.int (96 : Int32)), (.int (97 : Int32)), (.int (122 : Int32)), (.int (123 : Int32)), (.int (0 : Int32)), (.int (-1 : Int32)), (.int (-2147483648 : Int32)), (.int (2147483647 : Int32)), (.int (193 : Int32)), (.int (225 : Int32)), (.int (321 : Int32)), (.int (0 : Int32))] (.int (0 : Int32)) := Arv.set Ar48 q48 Sz48 Nn48 Hs48 G48 rfl W48 14 rfl (by decide)
  have N48 := Fr.snoc X48 N45 gn_b2
  have z49 : n0 ≤ h48.size := Nat.le_trans z46 (Keep.of_wr W48).1
  have sg50 : ∀ t, Steps p.tables e below (T48.setTop (mkF m 95 #[.val (.int p1), .val (.int p2), .unset, .unset, .unset, .unset] [(.int (353 : Int32)), (.int (15 : Int32)), (.ref b2), (.ref b2)])) t → Steps p.tables e below (T48.setTop (mkF m 89 #[.val (.int p1), .val (.int p2), .unset, .unset, .unset, .unset] [(.ref b2)])) t := by
    intro t k
    show Steps p.tables e below (T48.setTop (mkF m 89 #[.val (.int p1), .val (.int p2), .unset, .unset, .unset, .unset] [(.ref b2)])) _
    refine XS.dup X48.here hx rfl (hb hby at_89) rfl rfl ?_
    show Steps p.tables e below (T48.setTop (mkF m 90 #[.val (.int p1), .val (.int p2), .unset, .unset, .unset, .unset] [(.ref b2), (.ref b2)])) _
    refine XS.bipush X48.here hx rfl (hb hby at_90) ?_
    show Steps p.tables e below (T48.setTop (mkF m 92 #[.val (.int p1), .val (.int p2), .unset, .unset, .unset, .unset] [(.int (15 : Int32)), (.ref b2), (.ref b2)])) _
    refine XS.sipush X48.here hx rfl (hb hby at_92) ?_
    exact k
  obtain ⟨cl51, Ar51, q51, Sz51, Nn51, Hs51, G51⟩ := id V48
  have hin51 : ¬ ((15 : Int32) < 0 ∨ cl51.slots.size ≤ ((15 : Int32)).toNatClampNeg) := inb_of Sz51 ⟨by decide, by decide⟩
  obtain ⟨T51, h51, X51, e51, W51, st51⟩ := stI X48 hx hZ e48 Ar51 (j := (15 : Int32)) hin51 (g := (mkF m 95 #[.val (.int p1), .val (.int p2), .unset, .unset, .unset, .unset] [(.int (353 : Int32)), (.int (15 : Int32)), (.ref b2), (.ref b2)])) rfl rfl (hb hby at_95)
  have V51 : Arv Z h51 b2 k2 .int (16 : Int32) [(.int (64 : Int32)), (.int (65 : Int32)), (.int (90 : Int32)), (.int (91 : Int32)), (.int (96 : Int32)), (.int (97 : Int32)), (.int (122 : Int32)), (.int (123 : Int32)), (.int (0 : Int32)), (.int (-1 : Int32)), (.int (-2147483648 : Int32)), (.int (2147483647 : Int32)), (.int (193 : Int32)), (.int (225 : Int32)), (.int (321 : Int32)), (.int (353 : Int32))] (.int (0 : Int32)) := Arv.set Ar51 q51 Sz51 Nn51 Hs51 G51 rfl W51 15 rfl (by decide)
  have N51 := Fr.snoc X51 N48 gn_b2
  have z52 : n0 ≤ h51.size := Nat.le_trans z49 (Keep.of_wr W51).1
  have sg53 : ∀ t, Steps p.tables e below (T51.setTop (mkF m 100 #[.val (.int p1), .val (.int p2), .val (.ref b2), .unset, .unset, .unset] [(.int (p2 &&& (1 : Int32)))])) t → Steps p.tables e below (T51.setTop (mkF m 96 #[.val (.int p1), .val (.int p2), .unset, .unset, .unset, .unset] [(.ref b2)])) t := by
    intro t k
    show Steps p.tables e below (T51.setTop (mkF m 96 #[.val (.int p1), .val (.int p2), .unset, .unset, .unset, .unset] [(.ref b2)])) _
    refine XS.astoreN X51.here hx rfl (hb hby at_96) rfl rfl (l' := #[.val (.int p1), .val (.int p2), .val (.ref b2), .unset, .unset, .unset]) rfl ?_
    show Steps p.tables e below (T51.setTop (mkF m 97 #[.val (.int p1), .val (.int p2), .val (.ref b2), .unset, .unset, .unset] [])) _
    refine XS.iloadN X51.here hx rfl (hb hby at_97) rfl ?_
    show Steps p.tables e below (T51.setTop (mkF m 98 #[.val (.int p1), .val (.int p2), .val (.ref b2), .unset, .unset, .unset] [(.int p2)])) _
    refine XS.iconst X51.here hx rfl (hb hby at_98) ?_
    show Steps p.tables e below (T51.setTop (mkF m 99 #[.val (.int p1), .val (.int p2), .val (.ref b2), .unset, .unset, .unset] [(.int (1 : Int32)), (.int p2)])) _
    refine XS.iand X51.here hx rfl (hb hby at_99) rfl ?_
    exact k
  obtain ⟨clA, ArA, qA, SzA, NnA, HsA, GA⟩ := id V51
  have hinA : ¬ (((p2.toUInt32 >>> ((1 : Int32) &&& 31).toUInt32).toInt32 &&& (15 : Int32)) < 0 ∨ clA.slots.size ≤ (((p2.toUInt32 >>> ((1 : Int32) &&& 31).toUInt32).toInt32 &&& (15 : Int32))).toNatClampNeg) := inb_of SzA (own_idx _)
  have ltA : (((p2.toUInt32 >>> ((1 : Int32) &&& 31).toUInt32).toInt32 &&& (15 : Int32))).toNatClampNeg < clA.slots.size := Nat.lt_of_not_le fun q => hinA (Or.inr q)
  obtain ⟨wx, hwx⟩ := fit_I (GA _ ltA) (Or.inl rfl)
  have hatA : clA.slots[(((p2.toUInt32 >>> ((1 : Int32) &&& 31).toUInt32).toInt32 &&& (15 : Int32))).toNatClampNeg]? = some (.int wx) := by rw [HsA _ ltA, hwx]
  obtain ⟨vc, hvc⟩ : ∃ v : Int32, v = (if (p2 &&& (1 : Int32)) = (0 : Int32) then p1 else wx) := ⟨_, rfl⟩
  have sg54 : ∀ t, Steps p.tables e below (T51.setTop (mkF m 115 #[.val (.int p1), .val (.int p2), .val (.ref b2), .unset, .unset, .unset] [(.int vc)])) t → Steps p.tables e below (T51.setTop (mkF m 100 #[.val (.int p1), .val (.int p2), .val (.ref b2), .unset, .unset, .unset] [(.int (p2 &&& (1 : Int32)))])) t := by
    intro t k
    show Steps p.tables e below (T51.setTop (mkF m 100 #[.val (.int p1), .val (.int p2), .val (.ref b2), .unset, .unset, .unset] [(.int (p2 &&& (1 : Int32)))])) _
    by_cases hc100 : (p2 &&& (1 : Int32)) = (0 : Int32)
    · refine XS.ifNo X51.here hx rfl (hb hby at_100) rfl ((if0 _ _).trans (teq hc100).2) ?_
      show Steps p.tables e below (T51.setTop (mkF m 103 #[.val (.int p1), .val (.int p2), .val (.ref b2), .unset, .unset, .unset] [])) _
      refine XS.iloadN X51.here hx rfl (hb hby at_103) rfl ?_
      show Steps p.tables e below (T51.setTop (mkF m 104 #[.val (.int p1), .val (.int p2), .val (.ref b2), .unset, .unset, .unset] [(.int p1)])) _
      refine XS.goto X51.here hx rfl (pc0 := 104) (pc' := 115) rfl (hb hby at_104) (by decide) (by decide) ?_
      rw [show vc = p1 from by rw [hvc, if_pos hc100]] at k
      exact k
    · refine XS.ifYes X51.here hx rfl (pc0 := 100) (pc' := 107) rfl (hb hby at_100) rfl ((if0 _ _).trans (feq hc100).2) (by decide) (by decide) ?_
      show Steps p.tables e below (T51.setTop (mkF m 107 #[.val (.int p1), .val (.int p2), .val (.ref b2), .unset, .unset, .unset] [])) _
      refine XS.aloadN X51.here hx rfl (hb hby at_107) rfl rfl ?_
      show Steps p.tables e below (T51.setTop (mkF m 108 #[.val (.int p1), .val (.int p2), .val (.ref b2), .unset, .unset, .unset] [(.ref b2)])) _
      refine XS.iloadN X51.here hx rfl (hb hby at_108) rfl ?_
      show Steps p.tables e below (T51.setTop (mkF m 109 #[.val (.int p1), .val (.int p2), .val (.ref b2), .unset, .unset, .unset] [(.int p2), (.ref b2)])) _
      refine XS.iconst X51.here hx rfl (hb hby at_109) ?_
      show Steps p.tables e below (T51.setTop (mkF m 110 #[.val (.int p1), .val (.int p2), .val (.ref b2), .unset, .unset, .unset] [(.int (1 : Int32)), (.int p2), (.ref b2)])) _
      refine XS.iushr X51.here hx rfl (hb hby at_110) rfl ?_
      show Steps p.tables e below (T51.setTop (mkF m 111 #[.val (.int p1), .val (.int p2), .val (.ref b2), .unset, .unset, .unset] [(.int ((p2.toUInt32 >>> ((1 : Int32) &&& 31).toUInt32).toInt32)), (.ref b2)])) _
      refine XS.bipush X51.here hx rfl (hb hby at_111) ?_
      show Steps p.tables e below (T51.setTop (mkF m 113 #[.val (.int p1), .val (.int p2), .val (.ref b2), .unset, .unset, .unset] [(.int (15 : Int32)), (.int ((p2.toUInt32 >>> ((1 : Int32) &&& 31).toUInt32).toInt32)), (.ref b2)])) _
      refine XS.iand X51.here hx rfl (hb hby at_113) rfl ?_
      show Steps p.tables e below (T51.setTop (mkF m 114 #[.val (.int p1), .val (.int p2), .val (.ref b2), .unset, .unset, .unset] [(.int (((p2.toUInt32 >>> ((1 : Int32) &&& 31).toUInt32).toInt32) &&& (15 : Int32))), (.ref b2)])) _
      refine X51.iaload hx (j := (((p2.toUInt32 >>> ((1 : Int32) &&& 31).toUInt32).toInt32) &&& (15 : Int32))) (v := (.int wx)) (by rw [e51]; exact ArA.1) (State.isArrayOf_alike hZ.alike ArA.2.1) ArA.2.2 hinA hatA (g := (mkF m 114 #[.val (.int p1), .val (.int p2), .val (.ref b2), .unset, .unset, .unset] [(.int (((p2.toUInt32 >>> ((1 : Int32) &&& 31).toUInt32).toInt32) &&& (15 : Int32))), (.ref b2)])) rfl rfl (hb hby at_114) _ ?_
      rw [show vc = wx from by rw [hvc, if_neg hc100]] at k
      exact k
  have sg55 : ∀ t, Steps p.tables e below (T51.setTop (mkF m 126 #[.val (.int p1), .val (.int p2), .val (.ref b2), .val (.int vc), .val (.int (vc ||| (32 : Int32))), .unset] [(.int (97 : Int32)), (.int (vc ||| (32 : Int32)))])) t → Steps p.tables e below (T51.setTop (mkF m 115 #[.val (.int p1), .val (.int p2), .val (.ref b2), .unset, .unset, .unset] [(.int vc)])) t := by
    intro t k
    show Steps p.tables e below (T51.setTop (mkF m 115 #[.val (.int p1), .val (.int p2), .val (.ref b2), .unset, .unset, .unset] [(.int vc)])) _
    refine XS.istoreN X51.here hx rfl (hb hby at_115) rfl (l' := #[.val (.int p1), .val (.int p2), .val (.ref b2), .val (.int vc), .unset, .unset]) rfl ?_
    show Steps p.tables e below (T51.setTop (mkF m 116 #[.val (.int p1), .val (.int p2), .val (.ref b2), .val (.int vc), .unset, .unset] [])) _
    refine XS.iloadN X51.here hx rfl (hb hby at_116) rfl ?_
    show Steps p.tables e below (T51.setTop (mkF m 117 #[.val (.int p1), .val (.int p2), .val (.ref b2), .val (.int vc), .unset, .unset] [(.int vc)])) _
    refine XS.bipush X51.here hx rfl (hb hby at_117) ?_
    show Steps p.tables e below (T51.setTop (mkF m 119 #[.val (.int p1), .val (.int p2), .val (.ref b2), .val (.int vc), .unset, .unset] [(.int (32 : Int32)), (.int vc)])) _
    refine XS.ior X51.here hx rfl (hb hby at_119) rfl ?_
    show Steps p.tables e below (T51.setTop (mkF m 120 #[.val (.int p1), .val (.int p2), .val (.ref b2), .val (.int vc), .unset, .unset] [(.int (vc ||| (32 : Int32)))])) _
    refine XS.istore X51.here hx rfl (hb hby at_120) rfl (l' := #[.val (.int p1), .val (.int p2), .val (.ref b2), .val (.int vc), .val (.int (vc ||| (32 : Int32))), .unset]) rfl ?_
    show Steps p.tables e below (T51.setTop (mkF m 122 #[.val (.int p1), .val (.int p2), .val (.ref b2), .val (.int vc), .val (.int (vc ||| (32 : Int32))), .unset] [])) _
    refine XS.iload X51.here hx rfl (hb hby at_122) rfl ?_
    show Steps p.tables e below (T51.setTop (mkF m 124 #[.val (.int p1), .val (.int p2), .val (.ref b2), .val (.int vc), .val (.int (vc ||| (32 : Int32))), .unset] [(.int (vc ||| (32 : Int32)))])) _
    refine XS.bipush X51.here hx rfl (hb hby at_124) ?_
    exact k
  obtain ⟨vb, hvb⟩ : ∃ v : Int32, v = (if (vc ||| (32 : Int32)) < (97 : Int32) then (0 : Int32) else (if (122 : Int32) < (vc ||| (32 : Int32)) then (0 : Int32) else (1 : Int32))) := ⟨_, rfl⟩
  have sg56 : ∀ t, Steps p.tables e below (T51.setTop (mkF m 141 #[.val (.int p1), .val (.int p2), .val (.ref b2), .val (.int vc), .val (.int (vc ||| (32 : Int32))), .unset] [(.int vb)])) t → Steps p.tables e below (T51.setTop (mkF m 126 #[.val (.int p1), .val (.int p2), .val (.ref b2), .val (.int vc), .val (.int (vc ||| (32 : Int32))), .unset] [(.int (97 : Int32)), (.int (vc ||| (32 : Int32)))])) t := by
    intro t k
    show Steps p.tables e below (T51.setTop (mkF m 126 #[.val (.int p1), .val (.int p2), .val (.ref b2), .val (.int vc), .val (.int (vc ||| (32 : Int32))), .unset] [(.int (97 : Int32)), (.int (vc ||| (32 : Int32)))])) _
    by_cases hc126 : (vc ||| (32 : Int32)) < (97 : Int32)
    · refine XS.icmpYes X51.here hx rfl (pc0 := 126) (pc' := 140) rfl (hb hby at_126) rfl (tlt hc126).1 (by decide) (by decide) ?_
      show Steps p.tables e below (T51.setTop (mkF m 140 #[.val (.int p1), .val (.int p2), .val (.ref b2), .val (.int vc), .val (.int (vc ||| (32 : Int32))), .unset] [])) _
      refine XS.iconst X51.here hx rfl (hb hby at_140) ?_
      rw [show vb = (0 : Int32) from by rw [hvb, if_pos hc126]] at k
      exact k
    · refine XS.icmpNo X51.here hx rfl (hb hby at_126) rfl (flt hc126).1 ?_
      show Steps p.tables e below (T51.setTop (mkF m 129 #[.val (.int p1), .val (.int p2), .val (.ref b2), .val (.int vc), .val (.int (vc ||| (32 : Int32))), .unset] [])) _
      refine XS.iload X51.here hx rfl (hb hby at_129) rfl ?_
      show Steps p.tables e below (T51.setTop (mkF m 131 #[.val (.int p1), .val (.int p2), .val (.ref b2), .val (.int vc), .val (.int (vc ||| (32 : Int32))), .unset] [(.int (vc ||| (32 : Int32)))])) _
      refine XS.bipush X51.here hx rfl (hb hby at_131) ?_
      show Steps p.tables e below (T51.setTop (mkF m 133 #[.val (.int p1), .val (.int p2), .val (.ref b2), .val (.int vc), .val (.int (vc ||| (32 : Int32))), .unset] [(.int (122 : Int32)), (.int (vc ||| (32 : Int32)))])) _
      by_cases hc133 : (122 : Int32) < (vc ||| (32 : Int32))
      · refine XS.icmpYes X51.here hx rfl (pc0 := 133) (pc' := 140) rfl (hb hby at_133) rfl (tlt hc133).2.2.1 (by decide) (by decide) ?_
        show Steps p.tables e below (T51.setTop (mkF m 140 #[.val (.int p1), .val (.int p2), .val (.ref b2), .val (.int vc), .val (.int (vc ||| (32 : Int32))), .unset] [])) _
        refine XS.iconst X51.here hx rfl (hb hby at_140) ?_
        rw [show vb = (0 : Int32) from by rw [hvb, if_neg hc126, if_pos hc133]] at k
        exact k
      · refine XS.icmpNo X51.here hx rfl (hb hby at_133) rfl (flt hc133).2.2.1 ?_
        show Steps p.tables e below (T51.setTop (mkF m 136 #[.val (.int p1), .val (.int p2), .val (.ref b2), .val (.int vc), .val (.int (vc ||| (32 : Int32))), .unset] [])) _
        refine XS.iconst X51.here hx rfl (hb hby at_136) ?_
        show Steps p.tables e below (T51.setTop (mkF m 137 #[.val (.int p1), .val (.int p2), .val (.ref b2), .val (.int vc), .val (.int (vc ||| (32 : Int32))), .unset] [(.int (1 : Int32))])) _
        refine XS.goto X51.here hx rfl (pc0 := 137) (pc' := 141) rfl (hb hby at_137) (by decide) (by decide) ?_
        rw [show vb = (1 : Int32) from by rw [hvb, if_neg hc126, if_neg hc133]] at k
        exact k
  have sg57 : ∀ t, Steps p.tables e below (T51.setTop (mkF m 144 #[.val (.int p1), .val (.int p2), .val (.ref b2), .val (.int vc), .val (.int (vc ||| (32 : Int32))), .val (.int vb)] [(.int vc)])) t → Steps p.tables e below (T51.setTop (mkF m 141 #[.val (.int p1), .val (.int p2), .val (.ref b2), .val (.int vc), .val (.int (vc ||| (32 : Int32))), .unset] [(.int vb)])) t := by
    intro t k
    show Steps p.tables e below (T51.setTop (mkF m 141 #[.val (.int p1), .val (.int p2), .val (.ref b2), .val (.int vc), .val (.int (vc ||| (32 : Int32))), .unset] [(.int vb)])) _
    refine XS.istore X51.here hx rfl (hb hby at_141) rfl (l' := #[.val (.int p1), .val (.int p2), .val (.ref b2), .val (.int vc), .val (.int (vc ||| (32 : Int32))), .val (.int vb)]) rfl ?_
    show Steps p.tables e below (T51.setTop (mkF m 143 #[.val (.int p1), .val (.int p2), .val (.ref b2), .val (.int vc), .val (.int (vc ||| (32 : Int32))), .val (.int vb)] [])) _
    refine XS.iloadN X51.here hx rfl (hb hby at_143) rfl ?_
    exact k
  obtain ⟨_, _, ⟨T58, L58, k58, n58⟩, -, X58, ⟨Lc58, hQ58, l58, y58, z58⟩, st58⟩ := Jvm.LawKit.callS X51 hx (y := (⟨"querymill/rdf/TextScanner", "isAsciiLetter", "(I)Z"⟩ : MethodName)) hown (mvT hZ (hw _ (List.mem_of_getElem? (i := 3) rfl))) (mvT hZ (hw _ (List.mem_of_getElem? (i := 4) rfl))) (mvT hZ (hw _ (List.mem_of_getElem? (i := 5) rfl))) (mvT hZ (hw _ (List.mem_of_getElem? (i := 6) rfl))) (by decide) (backOf (W := 0) (rmA l Z a0 hw [] vc h51 n0 z52) hZ (hw _ (List.mem_of_getElem? (i := 6) rfl)) (hw _ (List.mem_of_getElem? (i := 5) rfl)) (by decide) (by decide)) (g := (mkF m 144 #[.val (.int p1), .val (.int p2), .val (.ref b2), .val (.int vc), .val (.int (vc ||| (32 : Int32))), .val (.int vb)] [(.int vc)])) rfl (by rw [hml]; rfl) (argsL := [(.int vc)]) (rest := []) (lenOf pd_0 rfl) rfl (by show 2 * 0 + _ ≤ _; exact Nat.le_of_eq rfl) (hb hby at_144) (fun _ _ => ⟨rfl, e51, (by decide : 1 + 0 ≤ _), (by decide : 16 + 0 ≤ _)⟩)
  dsimp only [Pt.U, Pt.locs, Pt.cells, Pt.slots] at X58 l58 y58 z58 st58 hQ58
  subst l58 y58 z58
  obtain ⟨rfl, N58q, e58⟩ := hQ58
  have N58 := Fr.app N51 N58q
  have sg59 : ∀ t, Steps p.tables e below (T58.setTop (mkF m 157 #[.val (.int p1), .val (.int p2), .val (.ref b2), .val (.int vc), .val (.int (vc ||| (32 : Int32))), .val (.int vb)] [(.int (1 : Int32))])) t → Steps p.tables e below (T58.setTop (mkF m 147 #[.val (.int p1), .val (.int p2), .val (.ref b2), .val (.int vc), .val (.int (vc ||| (32 : Int32))), .val (.int vb)] [(.int (fA vc))])) t := by
    intro t k
    show Steps p.tables e below (T58.setTop (mkF m 147 #[.val (.int p1), .val (.int p2), .val (.ref b2), .val (.int vc), .val (.int (vc ||| (32 : Int32))), .val (.int vb)] [(.int (fA vc))])) _
    refine XS.iload X58.here hx rfl (hb hby at_147) rfl ?_
    show Steps p.tables e below (T58.setTop (mkF m 149 #[.val (.int p1), .val (.int p2), .val (.ref b2), .val (.int vc), .val (.int (vc ||| (32 : Int32))), .val (.int vb)] [(.int vb), (.int (fA vc))])) _
    refine XS.icmpNo X58.here hx rfl (hb hby at_149) rfl (teq (((own_law vc).trans hvb.symm) : (fA vc) = vb)).2 ?_
    show Steps p.tables e below (T58.setTop (mkF m 152 #[.val (.int p1), .val (.int p2), .val (.ref b2), .val (.int vc), .val (.int (vc ||| (32 : Int32))), .val (.int vb)] [])) _
    refine XS.iconst X58.here hx rfl (hb hby at_152) ?_
    show Steps p.tables e below (T58.setTop (mkF m 153 #[.val (.int p1), .val (.int p2), .val (.ref b2), .val (.int vc), .val (.int (vc ||| (32 : Int32))), .val (.int vb)] [(.int (1 : Int32))])) _
    refine XS.goto X58.here hx rfl (pc0 := 153) (pc' := 157) rfl (hb hby at_153) (by decide) (by decide) ?_
    exact k
  obtain ⟨fs, hr, hrun, hended, hW, hsame⟩ := X58.leave (v := some (.int (1 : Int32))) (fun h => by rw [Bd.returns] at h; cases h)
  refine ⟨_, _, pre0 _ ?_, hrun, hended, _, _, rfl, ?_, ⟨_, rfl⟩, hW, hsame.mono (by decide) (by decide)⟩
  · show Steps p.tables e below (s₁.setTop (mkF m 0 #[.val (.int p1), .val (.int p2), .unset, .unset, .unset, .unset] [])) _
    refine sg1 _ ?_
    show Steps p.tables e below (s₁.setTop (mkF m 2 #[.val (.int p1), .val (.int p2), .unset, .unset, .unset, .unset] [(.int (16 : Int32))])) _
    refine st2 _ ?_
    show Steps p.tables e below (T2.setTop (mkF m 4 #[.val (.int p1), .val (.int p2), .unset, .unset, .unset, .unset] [(.ref b2)])) _
    refine sg5 _ ?_
    show Steps p.tables e below (T2.setTop (mkF m 8 #[.val (.int p1), .val (.int p2), .unset, .unset, .unset, .unset] [(.int (64 : Int32)), (.int (0 : Int32)), (.ref b2), (.ref b2)])) _
    refine st6 _ ?_
    show Steps p.tables e below (T6.setTop (mkF m 9 #[.val (.int p1), .val (.int p2), .unset, .unset, .unset, .unset] [(.ref b2)])) _
    refine sg8 _ ?_
    show Steps p.tables e below (T6.setTop (mkF m 13 #[.val (.int p1), .val (.int p2), .unset, .unset, .unset, .unset] [(.int (65 : Int32)), (.int (1 : Int32)), (.ref b2), (.ref b2)])) _
    refine st9 _ ?_
    show Steps p.tables e below (T9.setTop (mkF m 14 #[.val (.int p1), .val (.int p2), .unset, .unset, .unset, .unset] [(.ref b2)])) _
    refine sg11 _ ?_
    show Steps p.tables e below (T9.setTop (mkF m 18 #[.val (.int p1), .val (.int p2), .unset, .unset, .unset, .unset] [(.int (90 : Int32)), (.int (2 : Int32)), (.ref b2), (.ref b2)])) _
    refine st12 _ ?_
    show Steps p.tables e below (T12.setTop (mkF m 19 #[.val (.int p1), .val (.int p2), .unset, .unset, .unset, .unset] [(.ref b2)])) _
    refine sg14 _ ?_
    show Steps p.tables e below (T12.setTop (mkF m 23 #[.val (.int p1), .val (.int p2), .unset, .unset, .unset, .unset] [(.int (91 : Int32)), (.int (3 : Int32)), (.ref b2), (.ref b2)])) _
    refine st15 _ ?_
    show Steps p.tables e below (T15.setTop (mkF m 24 #[.val (.int p1), .val (.int p2), .unset, .unset, .unset, .unset] [(.ref b2)])) _
    refine sg17 _ ?_
    show Steps p.tables e below (T15.setTop (mkF m 28 #[.val (.int p1), .val (.int p2), .unset, .unset, .unset, .unset] [(.int (96 : Int32)), (.int (4 : Int32)), (.ref b2), (.ref b2)])) _
    refine st18 _ ?_
    show Steps p.tables e below (T18.setTop (mkF m 29 #[.val (.int p1), .val (.int p2), .unset, .unset, .unset, .unset] [(.ref b2)])) _
    refine sg20 _ ?_
    show Steps p.tables e below (T18.setTop (mkF m 33 #[.val (.int p1), .val (.int p2), .unset, .unset, .unset, .unset] [(.int (97 : Int32)), (.int (5 : Int32)), (.ref b2), (.ref b2)])) _
    refine st21 _ ?_
    show Steps p.tables e below (T21.setTop (mkF m 34 #[.val (.int p1), .val (.int p2), .unset, .unset, .unset, .unset] [(.ref b2)])) _
    refine sg23 _ ?_
    show Steps p.tables e below (T21.setTop (mkF m 39 #[.val (.int p1), .val (.int p2), .unset, .unset, .unset, .unset] [(.int (122 : Int32)), (.int (6 : Int32)), (.ref b2), (.ref b2)])) _
    refine st24 _ ?_
    show Steps p.tables e below (T24.setTop (mkF m 40 #[.val (.int p1), .val (.int p2), .unset, .unset, .unset, .unset] [(.ref b2)])) _
    refine sg26 _ ?_
    show Steps p.tables e below (T24.setTop (mkF m 45 #[.val (.int p1), .val (.int p2), .unset, .unset, .unset, .unset] [(.int (123 : Int32)), (.int (7 : Int32)), (.ref b2), (.ref b2)])) _
    refine st27 _ ?_
    show Steps p.tables e below (T27.setTop (mkF m 46 #[.val (.int p1), .val (.int p2), .unset, .unset, .unset, .unset] [(.ref b2)])) _
    refine sg29 _ ?_
    show Steps p.tables e below (T27.setTop (mkF m 50 #[.val (.int p1), .val (.int p2), .unset, .unset, .unset, .unset] [(.int (0 : Int32)), (.int (8 : Int32)), (.ref b2), (.ref b2)])) _
    refine st30 _ ?_
    show Steps p.tables e below (T30.setTop (mkF m 51 #[.val (.int p1), .val (.int p2), .unset, .unset, .unset, .unset] [(.ref b2)])) _
    refine sg32 _ ?_
    show Steps p.tables e below (T30.setTop (mkF m 55 #[.val (.int p1), .val (.int p2), .unset, .unset, .unset, .unset] [(.int (-1 : Int32)), (.int (9 : Int32)), (.ref b2), (.ref b2)])) _
    refine st33 _ ?_
    show Steps p.tables e below (T33.setTop (mkF m 56 #[.val (.int p1), .val (.int p2), .unset, .unset, .unset, .unset] [(.ref b2)])) _
    refine sg35 _ ?_
    show Steps p.tables e below (T33.setTop (mkF m 61 #[.val (.int p1), .val (.int p2), .unset, .unset, .unset, .unset] [(.int (-2147483648 : Int32)), (.int (10 : Int32)), (.ref b2), (.ref b2)])) _
    refine st36 _ ?_
    show Steps p.tables e below (T36.setTop (mkF m 62 #[.val (.int p1), .val (.int p2), .unset, .unset, .unset, .unset] [(.ref b2)])) _
    refine sg38 _ ?_
    show Steps p.tables e below (T36.setTop (mkF m 67 #[.val (.int p1), .val (.int p2), .unset, .unset, .unset, .unset] [(.int (2147483647 : Int32)), (.int (11 : Int32)), (.ref b2), (.ref b2)])) _
    refine st39 _ ?_
    show Steps p.tables e below (T39.setTop (mkF m 68 #[.val (.int p1), .val (.int p2), .unset, .unset, .unset, .unset] [(.ref b2)])) _
    refine sg41 _ ?_
    show Steps p.tables e below (T39.setTop (mkF m 74 #[.val (.int p1), .val (.int p2), .unset, .unset, .unset, .unset] [(.int (193 : Int32)), (.int (12 : Int32)), (.ref b2), (.ref b2)])) _
    refine st42 _ ?_
    show Steps p.tables e below (T42.setTop (mkF m 75 #[.val (.int p1), .val (.int p2), .unset, .unset, .unset, .unset] [(.ref b2)])) _
    refine sg44 _ ?_
    show Steps p.tables e below (T42.setTop (mkF m 81 #[.val (.int p1), .val (.int p2), .unset, .unset, .unset, .unset] [(.int (225 : Int32)), (.int (13 : Int32)), (.ref b2), (.ref b2)])) _
    refine st45 _ ?_
    show Steps p.tables e below (T45.setTop (mkF m 82 #[.val (.int p1), .val (.int p2), .unset, .unset, .unset, .unset] [(.ref b2)])) _
    refine sg47 _ ?_
    show Steps p.tables e below (T45.setTop (mkF m 88 #[.val (.int p1), .val (.int p2), .unset, .unset, .unset, .unset] [(.int (321 : Int32)), (.int (14 : Int32)), (.ref b2), (.ref b2)])) _
    refine st48 _ ?_
    show Steps p.tables e below (T48.setTop (mkF m 89 #[.val (.int p1), .val (.int p2), .unset, .unset, .unset, .unset] [(.ref b2)])) _
    refine sg50 _ ?_
    show Steps p.tables e below (T48.setTop (mkF m 95 #[.val (.int p1), .val (.int p2), .unset, .unset, .unset, .unset] [(.int (353 : Int32)), (.int (15 : Int32)), (.ref b2), (.ref b2)])) _
    refine st51 _ ?_
    show Steps p.tables e below (T51.setTop (mkF m 96 #[.val (.int p1), .val (.int p2), .unset, .unset, .unset, .unset] [(.ref b2)])) _
    refine sg53 _ ?_
    show Steps p.tables e below (T51.setTop (mkF m 100 #[.val (.int p1), .val (.int p2), .val (.ref b2), .unset, .unset, .unset] [(.int (p2 &&& (1 : Int32)))])) _
    refine sg54 _ ?_
    show Steps p.tables e below (T51.setTop (mkF m 115 #[.val (.int p1), .val (.int p2), .val (.ref b2), .unset, .unset, .unset] [(.int vc)])) _
    refine sg55 _ ?_
    show Steps p.tables e below (T51.setTop (mkF m 126 #[.val (.int p1), .val (.int p2), .val (.ref b2), .val (.int vc), .val (.int (vc ||| (32 : Int32))), .unset] [(.int (97 : Int32)), (.int (vc ||| (32 : Int32)))])) _
    refine sg56 _ ?_
    show Steps p.tables e below (T51.setTop (mkF m 141 #[.val (.int p1), .val (.int p2), .val (.ref b2), .val (.int vc), .val (.int (vc ||| (32 : Int32))), .unset] [(.int vb)])) _
    refine sg57 _ ?_
    show Steps p.tables e below (T51.setTop (mkF m 144 #[.val (.int p1), .val (.int p2), .val (.ref b2), .val (.int vc), .val (.int (vc ||| (32 : Int32))), .val (.int vb)] [(.int vc)])) _
    refine st58 _ ?_
    show Steps p.tables e below (T58.setTop (mkF m 147 #[.val (.int p1), .val (.int p2), .val (.ref b2), .val (.int vc), .val (.int (vc ||| (32 : Int32))), .val (.int vb)] [(.int (fA vc))])) _
    refine sg59 _ ?_
    show Steps p.tables e below (T58.setTop (mkF m 157 #[.val (.int p1), .val (.int p2), .val (.ref b2), .val (.int vc), .val (.int (vc ||| (32 : Int32))), .val (.int vb)] [(.int (1 : Int32))])) _
    exact retN X58 hx (t := .boolean) Bd.returns (by simp) (hb hby at_157) hr
  · show Q0 Z p1 p2 h0 n0 _ T58.heap _
    rw [e58]
    exact ⟨rfl, N58⟩
set_option maxRecDepth 65536 in
set_option maxHeartbeats 40000000 in
theorem comes_1 {Post : Tables → Env → Array Value → State → Outcome → State → Prop} (hpost : ∀ tb e args s v u, (limb_1_1.after args s (.returned v) u = true ∧ limb_1_2.after args s (.returned v) u = true ∧ True) → FrameEnd s (.returned v) u (Jvm.fieldLocs frame_1_writes args s ++ Jvm.arrayLocs frame_1_arrays args s ++ Jvm.staticLocs frame_1_statics s) 16 128 → Post tb e args s (.returned v) u) :
    ArmFor flags0 classFile x code maxLocals ret World_1 tables_1 room_1 Calls_1 rest_1 Pre_1 Post := by
  intro l hfl _ _ p e ha hc hk s m args below hf hA hF happ hP
  obtain ⟨hcalls, hrest, hpre⟩ := hP
  obtain ⟨-, -, -, hnamed, -, -, -, hat⟩ := (Spec.applies_iff hf).mp happ
  obtain ⟨hg, hn⟩ := and_e (Cond.before_iff.mp (show (Jvm.Cond.and given_1 narrow_1).before args s = true from hpre))
  obtain ⟨gc, gr0⟩ := and_e hg
  obtain ⟨ga0, gr1⟩ := and_e gr0
  have ga1 := gr1
  obtain ⟨w0, w1, rfl⟩ : ∃ w0 w1 : Value, args = #[w0, w1] := by
    have hs : args.size = 2 := by simpa [Cond.value, given_1] using gc
    obtain ⟨L⟩ := args
    match L, hs with
    | [w0, w1], _ => exact ⟨w0, w1, rfl⟩
  have hw := fun d (hd : d ∈ tables_1) => atoms_spec (ws := Jvm.Cond.code x code maxLocals ret :: tables_1) hat d (List.mem_cons_of_mem _ hd)
  have hfit : Fit s := fun {y c} hc i hi => by
    obtain ⟨ha, rfl⟩ := Array.getElem?_eq_some_iff.mp hc
    have q := List.all_eq_true.mp ((Array.all_eq_true_iff_forall_mem.mp hF) _ (Array.getElem_mem ha)) i (List.mem_range.mpr hi)
    simpa [Array.getElem?_eq_getElem hi] using q
  obtain ⟨i0, ei0⟩ := is_v ga0
  obtain rfl : w0 = (.int i0) := Option.some.inj ei0
  obtain ⟨i1, ei1⟩ := is_v ga1
  obtain rfl : w1 = (.int i1) := Option.some.inj ei1
  obtain ⟨n, o, h1, h2, h3, _, L, rfl, ⟨rfl, N⟩, hq⟩ := rm0 l s _ hw tables_1 i0 i1 s.heap s.heap.size (Nat.le_refl _)  p e ha hc hk s m _ below hf ((Spec.applies_iff_loose hf).mp happ).1 ⟨rfl, State.Warmed39.refl s, rfl⟩ trivial
  refine ⟨n, _, h1, h2, h3, hpost _ _ _ _ _ _ ⟨Cond.after_iff.mpr rfl, Cond.after_iff.mpr (eq_i res_at (Term.int_eval (1)) rfl), trivial⟩ ⟨hq.1, hq.2.1, (hq.2.2.sift fun y hy => Or.inr (N y hy)).mono (by decide) (by decide)⟩⟩
theorem main_1_1 : Claimed_1_1 := comes_1 fun _ _ _ _ _ _ h hF => ⟨h.1, hF⟩
theorem main_1_2 : Claimed_1_2 := comes_1 fun _ _ _ _ _ _ h hF => ⟨h.2.1, hF⟩
end Jvm.Pilot.@@N@@
namespace Jvm.Pilot.@@N@@
open Jvm Jvm.ClassFile Sem Op Lib Jvm.Free Jvm.Stand Jvm.Pilot.@@N@@.Jvm.D
/-! MADE BY PROGRAM (witnessworld.py) out of the Statement's table words and the real class files: 9 classes; the members and pool entries that the words name. The judged class is class 1, her method 1. -/
namespace start1
open Jvm.ClassFile
def u (s : String) : CpInfo := .utf8 (stringToUtf16 s)
/-- a pool by its gaps: so many unusable entries, then the entry; so many at the end -/
def gap : Nat → List CpInfo → List CpInfo
  | 0, r => r
  | n + 1, r => .unusable :: gap n r
def poolList (es : List (Nat × CpInfo)) (last : Nat) : List CpInfo := es.foldr (fun e r => gap e.1 (e.2 :: r)) (gap last [])
def pool (es : List (Nat × CpInfo)) (last : Nat) : Array CpInfo := ⟨poolList es last⟩
def fileOf (pool : Array CpInfo) (this : Nat) (attrs : Array Attribute := #[]) (ms : Array MethodInfo := #[]) (fl : Nat := 33) (sup : Nat := 0) (ifs : Array Nat := #[]) (fds : Array FieldInfo := #[]) : ClassFile where
  minorVersion := 0
  majorVersion := 65
  constantPool := pool
  accessFlags := fl
  thisClass := this
  superClass := sup
  interfaces := ifs
  fields := fds
  methods := ms
  attributes := attrs
def plain (name : String) (sup : Option ClassId) : Class where
  name := name
  kind := .ordinary
  loader := none
  accessFlags := 33
  super := sup
  interfaces := #[]
  cf := none
  fields := #[]
  methods := #[]
  instanceTypes := #[]
  staticTypes := #[]
  resolved := #[]
  callSites := []
  init := .initialized
  statics := none
  mirror := none

def pool0 : Array CpInfo := pool [(5, u "<init>"), (0, u "()V"), (1, .class_ 10), (1, u "java/lang/Object")] 113

def k0m0 : Method := { name := "<init>", desc := "()V", sig := { parameters := [], returnType := none }, accessFlags := 1, code := none }
/-- java/lang/Object -/
def k0 : Class := { plain "java/lang/Object" none with
  accessFlags := 33
  interfaces := #[]
  cf := some (fileOf pool0 8 #[] #[{ accessFlags := 1, nameIndex := 5, descriptorIndex := 6, attributes := #[] }] 33 0 #[] #[])
  fields := #[]
  methods := #[k0m0]
  instanceTypes := #[]
  staticTypes := #[]
  resolved := Array.replicate 124 none
  statics := none }

def pool1 : Array CpInfo := pool [(2, .class_ 4), (1, u "java/lang/Object"), (0, u "<init>"), (0, u "()V"), (2, .integer 2147483648), (0, .integer 2147483647), (0, .methodref 12 13), (0, .class_ 14), (0, .nameAndType 15 16), (0, u "querymill/rdf/TextScanner"), (0, u "isAsciiLetter"), (0, u "(I)Z"), (0, .class_ 18), (0, u "querymill/rdf/TextScannerIsAsciiLetterPinLaw"), (2, u "law"), (0, u "(II)Z")] 5

def k1m0 : Method := { name := "<init>", desc := "()V", sig := { parameters := [], returnType := none }, accessFlags := 2, code := none }
def k1c1 : Code := { maxStack := 4, maxLocals := 6, code := code, exceptionTable := #[], attributes := #[] }
def k1m1 : Method := { name := "law", desc := "(II)Z", sig := { parameters := [.int, .int], returnType := some .boolean }, accessFlags := 9, code := some k1c1 }
/-- querymill/rdf/TextScannerIsAsciiLetterPinLaw -/
def k1 : Class := { plain "querymill/rdf/TextScannerIsAsciiLetterPinLaw" (some 0) with
  accessFlags := 49
  interfaces := #[]
  cf := some (fileOf pool1 17 #[] #[{ accessFlags := 2, nameIndex := 5, descriptorIndex := 6, attributes := #[] }, { accessFlags := 9, nameIndex := 21, descriptorIndex := 22, attributes := #[] }] 49 2 #[] #[])
  fields := #[]
  methods := #[k1m0, k1m1]
  instanceTypes := #[]
  staticTypes := #[]
  resolved := Array.replicate 28 none
  statics := none }

def pool2 : Array CpInfo := pool [(5, .class_ 6), (0, u "querymill/rdf/TextScanner"), (6, .class_ 15), (1, u "java/lang/Object"), (3, u "chars"), (0, u "[C"), (2, u "firstLine"), (0, u "I"), (4, u "end"), (0, u "Ljava/lang/String;"), (2, u "source"), (2, u "readBytes"), (10, u "length"), (16, .class_ 65), (0, u "querymill/rdf/TextScanner$Utf8Stream"), (6, .class_ 74), (1, u "querymill/rdf/TextScanner$DocumentReader"), (1, .class_ 77), (0, u "querymill/rdf/TextScanner$UncheckedInputException"), (91, u "stream"), (0, u "Lquerymill/rdf/TextScanner$Utf8Stream;"), (2, u "unread"), (0, u "Ljava/lang/RuntimeException;"), (2, u "position"), (2, u "firstColumn"), (5, .class_ 188), (1, u "querymill/rdf/TextScanner$Place"), (16, u "(I)Z"), (128, .class_ 336), (1, u "querymill/rdf/TextScanner$DatatypeReader"), (2, u "isAsciiLetter"), (54, u "ASCII_NAMES"), (0, u "[B"), (87, u "IN_IRI"), (0, u "[Z"), (75, u "READ_BYTES"), (1, u "INTEGER"), (0, u "DECIMAL"), (0, u "DOUBLE"), (0, u "NOT_UTF8"), (0, u "MAX_BUFFER"), (0, u "NOT_HEX"), (1, u "PAST_UNICODE"), (1, u "SURROGATE"), (1, u "PN_CHARS_BASE"), (0, u "B"), (1, u "PN_CHARS_U"), (1, u "PN_CHARS")] 77

def k2c0 : Code := { maxStack := 2, maxLocals := 1, code := prog_117_method_59_code, exceptionTable := #[], attributes := #[] }
def k2m0 : Method := { name := "isAsciiLetter", desc := "(I)Z", sig := { parameters := [.int], returnType := some .boolean }, accessFlags := 8, code := some k2c0 }
/-- querymill/rdf/TextScanner -/
def k2 : Class := { plain "querymill/rdf/TextScanner" (some 0) with
  accessFlags := 49
  interfaces := #[]
  cf := some (fileOf pool2 5 #[.nestMembers #[64, 76, 186, 334, 72]] #[{ accessFlags := 8, nameIndex := 339, descriptorIndex := 205, attributes := #[] }] 49 13 #[] #[{ accessFlags := 26, nameIndex := 560, descriptorIndex := 24, attributes := #[] }, { accessFlags := 26, nameIndex := 562, descriptorIndex := 30, attributes := #[] }, { accessFlags := 26, nameIndex := 563, descriptorIndex := 30, attributes := #[] }, { accessFlags := 26, nameIndex := 564, descriptorIndex := 30, attributes := #[] }, { accessFlags := 26, nameIndex := 565, descriptorIndex := 30, attributes := #[] }, { accessFlags := 26, nameIndex := 566, descriptorIndex := 24, attributes := #[] }, { accessFlags := 26, nameIndex := 567, descriptorIndex := 24, attributes := #[] }, { accessFlags := 26, nameIndex := 569, descriptorIndex := 24, attributes := #[] }, { accessFlags := 26, nameIndex := 571, descriptorIndex := 24, attributes := #[] }, { accessFlags := 26, nameIndex := 483, descriptorIndex := 484, attributes := #[] }, { accessFlags := 26, nameIndex := 573, descriptorIndex := 574, attributes := #[] }, { accessFlags := 26, nameIndex := 576, descriptorIndex := 574, attributes := #[] }, { accessFlags := 26, nameIndex := 578, descriptorIndex := 574, attributes := #[] }, { accessFlags := 26, nameIndex := 394, descriptorIndex := 395, attributes := #[] }, { accessFlags := 18, nameIndex := 33, descriptorIndex := 30, attributes := #[] }, { accessFlags := 18, nameIndex := 36, descriptorIndex := 24, attributes := #[] }, { accessFlags := 2, nameIndex := 19, descriptorIndex := 20, attributes := #[] }, { accessFlags := 2, nameIndex := 47, descriptorIndex := 24, attributes := #[] }, { accessFlags := 2, nameIndex := 177, descriptorIndex := 24, attributes := #[] }, { accessFlags := 2, nameIndex := 169, descriptorIndex := 170, attributes := #[] }, { accessFlags := 2, nameIndex := 173, descriptorIndex := 174, attributes := #[] }, { accessFlags := 2, nameIndex := 23, descriptorIndex := 24, attributes := #[] }, { accessFlags := 2, nameIndex := 180, descriptorIndex := 24, attributes := #[] }, { accessFlags := 2, nameIndex := 29, descriptorIndex := 30, attributes := #[] }])
  fields := #[{ name := "READ_BYTES", type := .int, accessFlags := 26, slot := 0, constantValue := 0 }, { name := "INTEGER", type := (.object "java/lang/String"), accessFlags := 26, slot := 1, constantValue := 0 }, { name := "DECIMAL", type := (.object "java/lang/String"), accessFlags := 26, slot := 2, constantValue := 0 }, { name := "DOUBLE", type := (.object "java/lang/String"), accessFlags := 26, slot := 3, constantValue := 0 }, { name := "NOT_UTF8", type := (.object "java/lang/String"), accessFlags := 26, slot := 4, constantValue := 0 }, { name := "MAX_BUFFER", type := .int, accessFlags := 26, slot := 5, constantValue := 0 }, { name := "NOT_HEX", type := .int, accessFlags := 26, slot := 6, constantValue := 0 }, { name := "PAST_UNICODE", type := .int, accessFlags := 26, slot := 7, constantValue := 0 }, { name := "SURROGATE", type := .int, accessFlags := 26, slot := 8, constantValue := 0 }, { name := "IN_IRI", type := (.array .boolean), accessFlags := 26, slot := 9, constantValue := 0 }, { name := "PN_CHARS_BASE", type := .byte, accessFlags := 26, slot := 10, constantValue := 0 }, { name := "PN_CHARS_U", type := .byte, accessFlags := 26, slot := 11, constantValue := 0 }, { name := "PN_CHARS", type := .byte, accessFlags := 26, slot := 12, constantValue := 0 }, { name := "ASCII_NAMES", type := (.array .byte), accessFlags := 26, slot := 13, constantValue := 0 }, { name := "source", type := (.object "java/lang/String"), accessFlags := 18, slot := 0, constantValue := 0 }, { name := "readBytes", type := .int, accessFlags := 18, slot := 1, constantValue := 0 }, { name := "chars", type := (.array .char), accessFlags := 2, slot := 2, constantValue := 0 }, { name := "length", type := .int, accessFlags := 2, slot := 3, constantValue := 0 }, { name := "position", type := .int, accessFlags := 2, slot := 4, constantValue := 0 }, { name := "stream", type := (.object "querymill/rdf/TextScanner$Utf8Stream"), accessFlags := 2, slot := 5, constantValue := 0 }, { name := "unread", type := (.object "java/lang/RuntimeException"), accessFlags := 2, slot := 6, constantValue := 0 }, { name := "firstLine", type := .int, accessFlags := 2, slot := 7, constantValue := 0 }, { name := "firstColumn", type := .int, accessFlags := 2, slot := 8, constantValue := 0 }, { name := "end", type := (.object "java/lang/String"), accessFlags := 2, slot := 9, constantValue := 0 }]
  methods := #[k2m0]
  instanceTypes := #[(.object "java/lang/String"), .int, (.array .char), .int, .int, (.object "querymill/rdf/TextScanner$Utf8Stream"), (.object "java/lang/RuntimeException"), .int, .int, (.object "java/lang/String")]
  staticTypes := #[.int, (.object "java/lang/String"), (.object "java/lang/String"), (.object "java/lang/String"), (.object "java/lang/String"), .int, .int, .int, .int, (.array .boolean), .byte, .byte, .byte, (.array .byte)]
  resolved := Array.replicate 656 none
  statics := none }

def pool3 : Array CpInfo := pool [(1, u "java/lang/Cloneable"), (0, .class_ 1), (0, u "java/lang/Object"), (0, .class_ 3)] 3

/-- java/lang/Cloneable -/
def k3 : Class := { plain "java/lang/Cloneable" (some 0) with
  accessFlags := 1537
  interfaces := #[]
  cf := some (fileOf pool3 2 #[] #[] 1537 4 #[] #[])
  fields := #[]
  methods := #[]
  instanceTypes := #[]
  staticTypes := #[]
  resolved := Array.replicate 8 none
  statics := none }

def pool4 : Array CpInfo := pool [(1, u "java/io/Serializable"), (0, .class_ 1), (0, u "java/lang/Object"), (0, .class_ 3)] 3

/-- java/io/Serializable -/
def k4 : Class := { plain "java/io/Serializable" (some 0) with
  accessFlags := 1537
  interfaces := #[]
  cf := some (fileOf pool4 2 #[] #[] 1537 4 #[] #[])
  fields := #[]
  methods := #[]
  instanceTypes := #[]
  staticTypes := #[]
  resolved := Array.replicate 8 none
  statics := none }

/-- the primitive byte -/
def k5 : Class := { plain "byte" none with kind := .primitive 'B', accessFlags := 0x411 }
/-- [B -/
def k6 : Class := { plain "[B" (some 0) with kind := .array 5 .byte, interfaces := #[3, 4], accessFlags := 1041 }

/-- the primitive int -/
def k7 : Class := { plain "int" none with kind := .primitive 'I', accessFlags := 0x411 }
/-- [I -/
def k8 : Class := { plain "[I" (some 0) with kind := .array 7 .int, interfaces := #[3, 4], accessFlags := 1041 }

def heap : Heap := #[]
def classes : Array Class := #[k0, k1, k2, k3, k4, k5, k6, k7, k8]
def interned : List (Array UInt16 × Addr) := []
def slotsUsed : Nat := 0
def theMethod : MethodId := ⟨1, 1⟩
def args0 : Array Value := #[.int 5, .int 6]
def aboutOver (below : List Frame) : State where
  vm := { classes := classes, interned := interned.toArray }
  heap := heap
  slotsUsed := slotsUsed
  threads := #[{ frames := .invoking theMethod args0 :: below }]
def below0 : List Frame := [.native { method := ⟨0, 0⟩, args := #[] }]
def about1 : State := aboutOver below0
def p0 : Program := .bare "" "" ""
def e0 : Env := launch0.env 0 0 0
theorem w_frames : about1.frames = Frame.invoking theMethod args0 :: below0 := rfl
set_option maxRecDepth 65536 in
theorem w_args : argsFit about1.vm theMethod args0 = true := by decide +kernel
set_option maxRecDepth 65536 in
theorem w_heap : heapFits about1 = true := by decide +kernel
set_option maxRecDepth 65536 in
theorem w_runnable : about1.curStatus? = some .runnable := by decide +kernel
set_option maxRecDepth 65536 in
theorem w_alone : about1.alone = true := by decide +kernel
set_option maxRecDepth 65536 in
theorem w_named : about1.methodNamed? x = some theMethod := by decide +kernel
set_option maxRecDepth 65536 in
theorem w_hears : about1.hears theMethod below0 = true := by decide +kernel
set_option maxRecDepth 65536 in
theorem w_ripe : about1.ripe theMethod args0 below0 = true := by decide +kernel
theorem w_running : about1.status = .running := rfl
set_option maxRecDepth 65536 in
theorem w_room : about1.hasRoom e0.platform room_1 = true :=
  launch0.hasRoom_least _ room_1 (by decide +kernel) (by decide +kernel) (by decide +kernel) (by decide +kernel) (by decide +kernel) (by decide +kernel)
theorem allAtoms_all (ts : List Jvm.Cond) (a : Array Jvm.Value) (st : Jvm.State) : (allAtoms ts).before a st = ts.all (fun c => c.before a st) := by
  induction ts with
  | nil => rfl
  | cons c t ih =>
    show (Jvm.Cond.and c (allAtoms t)).before a st = _
    rw [Jvm.Cond.before_and, ih, List.all_cons]
def words1 : List Jvm.Cond := Jvm.Cond.code x code maxLocals ret :: tables_1
/-- a 'code' word, met by the world's own term for the bytes: nothing is compared byte by byte -/
theorem code_word {y : MethodName} {bytes : ByteArray} {mx : Nat} {rt : Option FieldType} {a : Array Value} {s : State} {m : MethodId} {meth : Method} {c : Code} (h1 : s.methodNamed? y = some m) (h2 : s.vm.method? m = some meth) (h3 : meth.code = some c) (h4 : c.code = bytes)
    (h5 : (c.maxLocals == mx && c.exceptionTable.isEmpty && decide (c.maxStack ≤ mostOperands) && decide (meth.sig.returnType = rt) && !meth.locks && decide (parseMethodDescriptor y.desc = some meth.sig)) = true) : (Jvm.Cond.code y bytes mx rt).before a s = true := by
  simp only [Bool.and_eq_true, beq_iff_eq, Bool.not_eq_true', decide_eq_true_eq] at h5
  obtain ⟨⟨⟨⟨⟨g1, g2⟩, g3⟩, g4⟩, g5⟩, g6⟩ := h5
  simp [Cond.before, Cond.holds, Cond.value, h1, h2, h3, h4, g1, g2, g3, g4, g5, g6]
def isCode : Jvm.Cond → Bool
  | .code _ _ _ _ => true
  | _ => false
theorem all_split {L : List Jvm.Cond} {P : Jvm.Cond → Bool} (h1 : L.all (fun c => isCode c || P c) = true) (h2 : ∀ c ∈ L.filter isCode, P c = true) : L.all P = true := by
  refine List.all_eq_true.mpr fun c hc => ?_
  have h := List.all_eq_true.mp h1 c hc
  rcases Bool.eq_false_or_eq_true (isCode c) with hi | hi
  · exact h2 c (List.mem_filter.mpr ⟨hc, hi⟩)
  · simpa [hi] using h
set_option maxRecDepth 65536 in
theorem w_c0 : (Jvm.Cond.code x code maxLocals ret).before args0 about1 = true := code_word (m := ⟨1, 1⟩) (meth := k1m1) (c := k1c1) (by decide +kernel) rfl rfl rfl (by decide +kernel)
set_option maxRecDepth 65536 in
theorem w_c1 : (Jvm.Cond.code ({ cls := "querymill/rdf/TextScanner", name := "isAsciiLetter", desc := "(I)Z" } : Jvm.MethodName) prog_117_method_59_code (1 : Nat) (Option.some Jvm.ClassFile.FieldType.boolean)).before args0 about1 = true := code_word (m := ⟨2, 0⟩) (meth := k2m0) (c := k2c0) (by decide +kernel) rfl rfl rfl (by decide +kernel)
def codes1 : List Jvm.Cond := [Jvm.Cond.code x code maxLocals ret, Jvm.Cond.code ({ cls := "querymill/rdf/TextScanner", name := "isAsciiLetter", desc := "(I)Z" } : Jvm.MethodName) prog_117_method_59_code (1 : Nat) (Option.some Jvm.ClassFile.FieldType.boolean)]
set_option maxRecDepth 65536 in
theorem codes_eq : words1.filter isCode = codes1 := rfl
theorem w_codes : ∀ c ∈ words1.filter isCode, c.before args0 about1 = true := by
  rw [codes_eq]
  intro c hc
  simp only [codes1, List.mem_cons, List.not_mem_nil, or_false] at hc
  rcases hc with rfl | rfl
  · exact w_c0
  · exact w_c1
set_option maxRecDepth 65536 in
theorem w_t1 : words1.all (fun c => isCode c || c.before args0 about1) = true := by decide +kernel
theorem w_tables : (allAtoms (Jvm.Cond.code x code maxLocals ret :: tables_1)).before args0 about1 = true := by
  rw [allAtoms_all]
  show words1.all (fun c => c.before args0 about1) = true
  refine all_split ?_ w_codes
  rw [w_t1]
set_option maxRecDepth 65536 in
theorem w_case : (Jvm.Cond.and given_1 narrow_1).before args0 about1 = true := by decide +kernel
theorem w_applies : (headSpec (Jvm.Cond.code x code maxLocals ret :: tables_1) room_1).applies x e0.platform about1 = true :=
  (Spec.applies_iff w_frames).mpr ⟨w_running, w_runnable, w_alone, w_named, w_hears, w_ripe, w_room, w_tables⟩
theorem atStart : AtStart classFile x code maxLocals ret World_1 tables_1 room_1 Calls_1 rest_1 Pre_1 launch0 p0 e0 about1 theMethod args0 below0 :=
  ⟨lists_1, trivial, launch0.admits_env _ _ _, launch0.least_env, fairChoices_fair.cas, fairChoices_fair.clock, w_frames, w_args, w_heap, w_applies, trivial, trivial, w_case⟩
end start1
theorem witness_1 : WitnessClaimed_1 := ⟨start1.p0, start1.e0, start1.about1, start1.theMethod, start1.args0, start1.below0, start1.atStart⟩
end Jvm.Pilot.@@N@@
