import JvmDerived
import JvmDerived.Pilot.@@N@@Statement
import JvmDerived.Pilot.@@N@@Code
set_option linter.unusedVariables false
set_option linter.unusedSimpArgs false
@@BLOCK:NumsL.lean.txt@@
namespace Jvm.RoadKit
open Sem ClassFile Op Lib Jvm.Stand Jvm.Free Jvm.LawKit
section New
variable {p : Program} {l : Launch} {e : Env} {R : Room} {s : State} {m : MethodId} {args : Array Value} {below : List Frame} {meth : Method} {c : Code} {T : State} {locs : List Loc} {cells slots : Nat}
theorem retI (X : Stand p l e R s m args below meth c T locs cells slots) (hx : p.tables.exec = Jvm.exec) {pc : Nat} {Ls : Array Slot} {z : Int32} {rest : List Value} (hret : meth.sig.returnType = some .int) (hd : decode c.code pc = .ok (.ireturn, 1)) {fs : List Frame}
    (hl : ∀ (f : JFrame) (acts : List Action), f.method = m → f.locked = none → f.entered = [] → (doReturn e (T.setTop f) acts (some (.int z))).1 = T.setFrames fs) : Steps p.tables e below (T.setTop (mkF m pc Ls (.int z :: rest))) (T.setFrames fs) := by
  have hm' : T.vm.method? m = some meth := X.method'
  have hn : narrow .int (.int z) = .int z := rfl
  show Steps p.tables e below (T.setTop { method := m, pc := pc, locals := Ls, stack := _ :: rest, locked := none }) _
  jvm_step X.here [X.here.top, hx, hd, hm', hret, hn]
  first | (intro acts; rw [hl _ acts rfl rfl rfl]) | rw [hl _ _ rfl rfl rfl]
  exact Steps.refl _
theorem own_abs {k : Nat} (X : Stand p l e R s m args below meth c T locs cells slots) (N : Fr k locs) : ∃ lo, Stand p l e R s m args below meth c T lo cells slots ∧ Fr k lo := ⟨locs, X, N⟩
end New
end Jvm.RoadKit
namespace Jvm.Pilot.@@N@@
open Jvm Jvm.ClassFile Sem Op Lib Jvm.Free Jvm.Stand Jvm.LawKit Jvm.RoadKit Bundle Jvm.Pilot.@@N@@.Jvm.D
/-- what the two calls of add, and what canon, come to -/
def Rel (x1 : Int32) (n1 : Int64) (x2 : Int32) (n2 : Int64) (sz s0 s1 : Int32) (c0 c1 : Int64) : Prop :=
  (n1 = (0 : Int64) ∧ n2 = (0 : Int64) ∧ sz = (0 : Int32)) ∨ (n1 = (0 : Int64) ∧ ¬ n2 = (0 : Int64) ∧ sz = (1 : Int32) ∧ s0 = x2 ∧ c0 = n2) ∨ (¬ n1 = (0 : Int64) ∧ n2 = (0 : Int64) ∧ sz = (1 : Int32) ∧ s0 = x1 ∧ c0 = n1) ∨
  (¬ n1 = (0 : Int64) ∧ ¬ n2 = (0 : Int64) ∧ x1 = x2 ∧ sz = (1 : Int32) ∧ s0 = x1 ∧ c0 = n1 + n2) ∨ (¬ n1 = (0 : Int64) ∧ ¬ n2 = (0 : Int64) ∧ ¬ x1 = x2 ∧ sz = (2 : Int32) ∧ s0 = x1 ∧ c0 = n1 ∧ s1 = x2 ∧ c1 = n2)
/-- one call of add -/
def Add (xx : Int32) (nn : Int64) (sz s0 s1 : Int32) (c0 c1 : Int64) (zz u0 u1 : Int32) (w0 w1 : Int64) : Prop :=
  (nn = (0 : Int64) ∧ zz = sz ∧ u0 = s0 ∧ u1 = s1 ∧ w0 = c0 ∧ w1 = c1) ∨ (¬ nn = (0 : Int64) ∧ sz = (0 : Int32) ∧ zz = (1 : Int32) ∧ u0 = xx ∧ w0 = nn) ∨
  (¬ nn = (0 : Int64) ∧ sz = (1 : Int32) ∧ s0 = xx ∧ zz = (1 : Int32) ∧ u0 = s0 ∧ w0 = c0 + nn) ∨ (¬ nn = (0 : Int64) ∧ sz = (1 : Int32) ∧ ¬ s0 = xx ∧ zz = (2 : Int32) ∧ u0 = s0 ∧ w0 = c0 ∧ u1 = xx ∧ w1 = nn)
theorem Add.first {x1 : Int32} {n1 : Int64} {s0 s1 : Int32} {c0 c1 : Int64} {zz u0 u1 : Int32} {w0 w1 : Int64} (h : Add x1 n1 (0 : Int32) s0 s1 c0 c1 zz u0 u1 w0 w1) : (zz = (0 : Int32) ∧ n1 = 0) ∨ (zz = (1 : Int32) ∧ ¬ n1 = 0 ∧ u0 = x1 ∧ w0 = n1) := by
  rcases h with ⟨a, b, -⟩ | ⟨a, b, c, d, f⟩ | ⟨a, b, -⟩ | ⟨a, b, -⟩
  · exact Or.inl ⟨b, a⟩
  · exact Or.inr ⟨c, a, d, f⟩
  · exact absurd b (by decide)
  · exact absurd b (by decide)
theorem Add.size {x1 : Int32} {n1 : Int64} {s0 s1 : Int32} {c0 c1 : Int64} {zz u0 u1 : Int32} {w0 w1 : Int64} (h : Add x1 n1 (0 : Int32) s0 s1 c0 c1 zz u0 u1 w0 w1) : zz = (0 : Int32) ∨ zz = (1 : Int32) := h.first.imp (·.1) (·.1)
theorem Add.two {x1 x2 : Int32} {n1 n2 : Int64} {s0 s1 : Int32} {c0 c1 : Int64} {zz u0 u1 : Int32} {w0 w1 : Int64} {z2 t0 t1 : Int32} {d0 d1 : Int64} (h : Add x1 n1 (0 : Int32) s0 s1 c0 c1 zz u0 u1 w0 w1) (g : Add x2 n2 zz u0 u1 w0 w1 z2 t0 t1 d0 d1) : Rel x1 n1 x2 n2 z2 t0 t1 d0 d1 := by
  rcases h.first with ⟨rfl, hn⟩ | ⟨rfl, hn, rfl, rfl⟩
  · rcases g with ⟨a, b, -⟩ | ⟨a, b, c, d, f⟩ | ⟨a, b, -⟩ | ⟨a, b, -⟩
    · exact Or.inl ⟨hn, a, b⟩
    · exact Or.inr (Or.inl ⟨hn, a, c, d, f⟩)
    · exact absurd b (by decide)
    · exact absurd b (by decide)
  · rcases g with ⟨a, b, c, d, f, g⟩ | ⟨a, b, -⟩ | ⟨a, b, c, d, f, g⟩ | ⟨a, b, c, d, f, g, i, j⟩
    · exact Or.inr (Or.inr (Or.inl ⟨hn, a, b, c, f⟩))
    · exact absurd b (by decide)
    · exact Or.inr (Or.inr (Or.inr (Or.inl ⟨hn, a, c, d, f, g⟩)))
    · exact Or.inr (Or.inr (Or.inr (Or.inr ⟨hn, a, c, d, f, g, i, j⟩)))
theorem Rel.size {x1 x2 : Int32} {n1 n2 : Int64} {sz s0 s1 : Int32} {c0 c1 : Int64} (h : Rel x1 n1 x2 n2 sz s0 s1 c0 c1) : sz = (0 : Int32) ∨ sz = (1 : Int32) ∨ sz = (2 : Int32) := by
  rcases h with ⟨-, -, a⟩ | ⟨-, -, a, -⟩ | ⟨-, -, a, -⟩ | ⟨-, -, -, a, -⟩ | ⟨-, -, -, a, -⟩
  · exact Or.inl a
  · exact Or.inr (Or.inl a)
  · exact Or.inr (Or.inl a)
  · exact Or.inr (Or.inl a)
  · exact Or.inr (Or.inr a)
/-- two answers of the same relation agree as far as they are asked -/
def Agr (sz s0 s1 : Int32) (c0 c1 : Int64) (sy u0 u1 : Int32) (w0 w1 : Int64) : Prop := (sz = (0 : Int32) ∧ sy = (0 : Int32)) ∨ (sz = (1 : Int32) ∧ sy = (1 : Int32) ∧ s0 = u0 ∧ c0 = w0) ∨ (sz = (2 : Int32) ∧ sy = (2 : Int32) ∧ s0 = u0 ∧ c0 = w0 ∧ s1 = u1 ∧ c1 = w1)
theorem Rel.agr {x1 x2 : Int32} {n1 n2 : Int64} {sz s0 s1 : Int32} {c0 c1 : Int64} {sy u0 u1 : Int32} {w0 w1 : Int64} (h : Rel x1 n1 x2 n2 sz s0 s1 c0 c1) (g : Rel x1 n1 x2 n2 sy u0 u1 w0 w1) : Agr sz s0 s1 c0 c1 sy u0 u1 w0 w1 := by
  rcases h with ⟨a, b, c⟩ | ⟨a, b, c, d, f⟩ | ⟨a, b, c, d, f⟩ | ⟨a, b, x, c, d, f⟩ | ⟨a, b, x, c, d, f, i, j⟩ <;> rcases g with ⟨a', b', c'⟩ | ⟨a', b', c', d', f'⟩ | ⟨a', b', c', d', f'⟩ | ⟨a', b', x', c', d', f'⟩ | ⟨a', b', x', c', d', f', i', j'⟩
  all_goals first
    | (exact absurd a a') | (exact absurd a' a) | (exact absurd b b') | (exact absurd b' b) | (exact absurd x x') | (exact absurd x' x)
    | (exact Or.inl ⟨c, c'⟩) | (exact Or.inr (Or.inl ⟨c, c', d.trans d'.symm, f.trans f'.symm⟩)) | (exact Or.inr (Or.inr ⟨c, c', d.trans d'.symm, f.trans f'.symm, i.trans i'.symm, j.trans j'.symm⟩))
/-- what sameAs answers -/
def own_same (sz s0 s1 : Int32) (c0 c1 : Int64) (sy u0 u1 : Int32) (w0 w1 : Int64) : Int32 :=
  if sz = sy then (if sz = (0 : Int32) then (1 : Int32) else (if s0 = u0 then (if c0 = w0 then (if sz = (1 : Int32) then (1 : Int32) else (if s1 = u1 then (if c1 = w1 then (1 : Int32) else (0 : Int32)) else (0 : Int32))) else (0 : Int32)) else (0 : Int32))) else (0 : Int32)
theorem own_comm (sz s0 s1 : Int32) (c0 c1 : Int64) (sy u0 u1 : Int32) (w0 w1 : Int64) : own_same sz s0 s1 c0 c1 sy u0 u1 w0 w1 = own_same sy u0 u1 w0 w1 sz s0 s1 c0 c1 := by
  unfold own_same
  by_cases h : sz = sy
  · subst h
    simp only [eq_comm (a := s0), eq_comm (a := s1), eq_comm (a := c0), eq_comm (a := c1)]
  · rw [if_neg h, if_neg fun q => h q.symm]
def Q_rmI (Z : State) (ra : Addr) (h0 : Heap) (n0 : Nat) (v : Option Value) (h : Heap) (L : List Loc) : Prop := ∃ (r1 : Addr) (r2 : Addr) (r3 : Addr) (k1 : ClassId) (k2 : ClassId) (k3 : ClassId), v = none ∧ Fr n0 L ∧ Keep h0 h [ra] ∧ Fld Z h ra "querymill/regex/CodePointRuns" "size" "I" (.int (0 : Int32)) ∧ Fld Z h ra "querymill/regex/CodePointRuns" "length" "J" (.long (0 : Int64)) ∧ Fld Z h ra "querymill/regex/CodePointRuns" "sets" "[I" (.ref r1) ∧ Fld Z h ra "querymill/regex/CodePointRuns" "counts" "[J" (.ref r2) ∧ Fld Z h ra "querymill/regex/CodePointRuns" "starts" "[J" (.ref r3) ∧ Arv Z h r1 k1 .int (4 : Int32) [(.int (0 : Int32)), (.int (0 : Int32)), (.int (0 : Int32)), (.int (0 : Int32))] (.int (0 : Int32)) ∧ Arv Z h r2 k2 .long (4 : Int32) [(.long (0 : Int64)), (.long (0 : Int64)), (.long (0 : Int64)), (.long (0 : Int64))] (.long (0 : Int64)) ∧ Arv Z h r3 k3 .long (4 : Int32) [(.long (0 : Int64)), (.long (0 : Int64)), (.long (0 : Int64)), (.long (0 : Int64))] (.long (0 : Int64)) ∧ h0.size ≤ r1 ∧ h0.size ≤ r2 ∧ h0.size ≤ r3 ∧ r1 ≠ r2 ∧ r1 ≠ r3 ∧ r2 ≠ r3
theorem pd_0 : parseMethodDescriptor "()V" = some ⟨[], none⟩ := by decide +kernel
theorem pn_0 : plainName "querymill/regex/CodePointRuns" = true := by first | (simp [plainName, overriddenIn]; done) | decide +kernel
theorem ef_rmI (m : MethodId) (x0 : Addr) : entryFrame m #[(.ref x0)] 1 = mkF m 0 #[.val (.ref x0)] [] := by first | (simp [entryFrame, mkF, argsToLocals, Value.category]; done) | rfl
theorem d1_0 : decode prog_133_method_1_code 0 = .ok (.aload_n 0, 1) := by decide +kernel
theorem d1_1 : decode prog_133_method_1_code 1 = .ok (.invokespecial 1, 3) := by decide +kernel
theorem d1_4 : decode prog_133_method_1_code 4 = .ok (.aload_n 0, 1) := by decide +kernel
theorem d1_5 : decode prog_133_method_1_code 5 = .ok (.iconst 4, 1) := by decide +kernel
theorem d1_6 : decode prog_133_method_1_code 6 = .ok (.newarray .int, 2) := by decide +kernel
theorem d1_8 : decode prog_133_method_1_code 8 = .ok (.putfield 7, 3) := by decide +kernel
theorem d1_11 : decode prog_133_method_1_code 11 = .ok (.aload_n 0, 1) := by decide +kernel
theorem d1_12 : decode prog_133_method_1_code 12 = .ok (.iconst 4, 1) := by decide +kernel
theorem d1_13 : decode prog_133_method_1_code 13 = .ok (.newarray .long, 2) := by decide +kernel
theorem d1_15 : decode prog_133_method_1_code 15 = .ok (.putfield 13, 3) := by decide +kernel
theorem d1_18 : decode prog_133_method_1_code 18 = .ok (.aload_n 0, 1) := by decide +kernel
theorem d1_19 : decode prog_133_method_1_code 19 = .ok (.iconst 4, 1) := by decide +kernel
theorem d1_20 : decode prog_133_method_1_code 20 = .ok (.newarray .long, 2) := by decide +kernel
theorem d1_22 : decode prog_133_method_1_code 22 = .ok (.putfield 17, 3) := by decide +kernel
theorem d1_25 : decode prog_133_method_1_code 25 = .ok (.return_, 1) := by decide +kernel
set_option maxRecDepth 65536 in
set_option maxHeartbeats 40000000 in
theorem rmI (l : Launch) (Z : State) (a0 : Array Value) (hw : ∀ d ∈ tables_1, d.before a0 Z = true) (ws : List Jvm.Cond) (ra : Addr)  (h0 : Heap) (n0 : Nat) (Z0 : n0 ≤ h0.size) (P0 : Exa Z h0 ra "querymill/regex/CodePointRuns") (P1 : Fld Z h0 ra "querymill/regex/CodePointRuns" "size" "I" (.int (0 : Int32))) (P2 : Fld Z h0 ra "querymill/regex/CodePointRuns" "length" "J" (.long (0 : Int64))) (P3 : Fld Z h0 ra "querymill/regex/CodePointRuns" "sets" "[I" .null) (P4 : Fld Z h0 ra "querymill/regex/CodePointRuns" "counts" "[J" .null) (P5 : Fld Z h0 ra "querymill/regex/CodePointRuns" "starts" "[J" .null) (g_ra : n0 ≤ ra) :
    MetFree l (⟨"querymill/regex/CodePointRuns", "<init>", "()V"⟩ : MethodName) (head1 (Jvm.Cond.code (⟨"querymill/regex/CodePointRuns", "<init>", "()V"⟩ : MethodName) prog_133_method_1_code 1 none :: ws) ({ frames := 1, cells := 3, slots := 12, locals := 12 } : Room)) (fun a U => a = #[(.ref ra)] ∧ Z.Warmed39 U.vm ∧ U.heap = h0) (fun _ _ _ _ _ => True) (fun _ U o U' => ∃ v L, o = .returned v ∧ Q_rmI Z ra h0 n0 v U'.heap L ∧ FrameEnd U o U' L ({ frames := 1, cells := 3, slots := 12, locals := 12 } : Room).cells ({ frames := 1, cells := 3, slots := 12, locals := 12 } : Room).slots) := by
  refine MetFree.of_bodySF (plainFor_of_name pn_0) hisR ?_
  intro p e s m args below meth c s₁ Bd hml0 hP hK
  obtain ⟨rfl, hZ, hh⟩ := hP
  have hx := Bd.exec
  have hby := Bd.bytes
  have hml : c.maxLocals = 1 := hml0
  have hown : s.vm.findClass "querymill/regex/CodePointRuns" = some m.cls := findClass_of_methodNamed Bd.named
  have hnm := (name_of_methodNamed Bd.named Bd.method).1
  have hlk : meth.locks = false := by first | exact BodyLoose.notSynchronized Bd | exact Body.notSynchronized Bd
  have X0 : Stand p l e ({ frames := 1, cells := 3, slots := 12, locals := 12 } : Room) s m #[(.ref ra)] below meth c s₁ [] 0 0 := Stand.of_body Bd
  have e0 : s₁.heap = h0 := by rw [← hh, Bd.state]; rfl
  have N0 := Fr.nil n0
  have pre0 : ∀ t, Steps p.tables e below (s₁.setTop (mkF m 0 #[.val (.ref ra)] [])) t → Steps p.tables e below (s₁.setTop (entryFrame m #[(.ref ra)] 1)) t := fun t k => castTop (ef_rmI m ra) k
  have K0 : Keep h0 h0 [ra] := Keep.refl h0 [ra]
  have sg1 : ∀ t, Steps p.tables e below (s₁.setTop (mkF m 1 #[.val (.ref ra)] [(.ref ra)])) t → Steps p.tables e below (s₁.setTop (mkF m 0 #[.val (.ref ra)] [])) t := by
    intro t k
    show Steps p.tables e below (s₁.setTop (mkF m 0 #[.val (.ref ra)] [])) _
    refine XS.aloadN X0.here hx rfl (hb hby d1_0) rfl rfl ?_
    exact k
  obtain ⟨T2, X2, e2, st2⟩ := initO X0 hx hZ hown (hw _ (List.mem_of_getElem? (i := 9) rfl)) (hw _ (List.mem_of_getElem? (i := 10) rfl)) (hw _ (List.mem_of_getElem? (i := 11) rfl)) e0 (g := (mkF m 1 #[.val (.ref ra)] [(.ref ra)])) rfl (by rw [hml]; rfl) rfl (hb hby d1_1) (by decide) (W := 0) (by show 2 * 0 + _ ≤ _; exact Nat.le_of_eq rfl) (by decide)
  have sg3 : ∀ t, Steps p.tables e below (T2.setTop (mkF m 6 #[.val (.ref ra)] [(.int (4 : Int32)), (.ref ra)])) t → Steps p.tables e below (T2.setTop (mkF m 4 #[.val (.ref ra)] [])) t := by
    intro t k
    show Steps p.tables e below (T2.setTop (mkF m 4 #[.val (.ref ra)] [])) _
    refine XS.aloadN X2.here hx rfl (hb hby d1_4) rfl rfl ?_
    show Steps p.tables e below (T2.setTop (mkF m 5 #[.val (.ref ra)] [(.ref ra)])) _
    refine XS.iconst X2.here hx rfl (hb hby d1_5) ?_
    exact k
  obtain ⟨T4, h4, k4, X4, e4, E4, A4, st4⟩ := newP X2 hx hZ (hw _ (List.mem_of_getElem? (i := 1) rfl)) e2 (g := (mkF m 6 #[.val (.ref ra)] [(.int (4 : Int32)), (.ref ra)])) rfl (hb hby d1_6) rfl (by decide) (cap := 4) (by decide) (by decide) (by decide) (by decide)
  obtain ⟨b4, g4⟩ : ∃ z, z = h0.size := ⟨_, rfl⟩
  rw [← g4] at A4 st4
  have ne5 : ra ≠ b4 := Nat.ne_of_lt (Nat.lt_of_lt_of_le P0.lt (Nat.le_of_eq g4.symm))
  have gn_b4 : n0 ≤ b4 := Nat.le_trans Z0 (Nat.le_of_eq g4.symm)
  have sz_b4 : h0.size ≤ b4 := Nat.le_trans K0.1 (Nat.le_of_eq g4.symm)
  have f6 : Exa Z h4 ra "querymill/regex/CodePointRuns" := P0.ext E4
  have f7 : Fld Z h4 ra "querymill/regex/CodePointRuns" "size" "I" (.int (0 : Int32)) := P1.ext E4
  have f8 : Fld Z h4 ra "querymill/regex/CodePointRuns" "length" "J" (.long (0 : Int64)) := P2.ext E4
  have f9 : Fld Z h4 ra "querymill/regex/CodePointRuns" "sets" "[I" .null := P3.ext E4
  have f10 : Fld Z h4 ra "querymill/regex/CodePointRuns" "counts" "[J" .null := P4.ext E4
  have f11 : Fld Z h4 ra "querymill/regex/CodePointRuns" "starts" "[J" .null := P5.ext E4
  have z12 : n0 ≤ h4.size := Nat.le_trans Z0 E4.1
  have K13 : Keep h0 h4 [ra] := K0.ext E4
  have f14 : Arv Z h4 b4 k4 .int (4 : Int32) [(.int (0 : Int32)), (.int (0 : Int32)), (.int (0 : Int32)), (.int (0 : Int32))] (.int (0 : Int32)) := (Arv.new A4 (by decide)).pad (pad_rep [] (.int (0 : Int32)) 4)
  obtain ⟨T15, h15, X15, e15, W15, st15⟩ := putF X4 hx hZ hown (host := "") (Or.inl (hw _ (List.mem_of_getElem? (i := 12) rfl))) Via.refl e4 f9 f6 (Or.inl (hw _ (List.mem_of_getElem? (i := 13) rfl))) (hw _ (List.mem_of_getElem? (i := 4) rfl)) (ty := (.array .int)) (by decide) rfl rfl (g := (mkF m 8 #[.val (.ref ra)] [(.ref b4), (.ref ra)])) rfl rfl (hb hby d1_8)
  have N15 := Fr.snoc X15 N0 g_ra
  have f16 : Exa Z h15 ra "querymill/regex/CodePointRuns" := f6.wr W15
  have f17 : Fld Z h15 ra "querymill/regex/CodePointRuns" "size" "I" (.int (0 : Int32)) := f7.other W15 (Or.inr (slot_ne (Or.inl (hw _ (List.mem_of_getElem? (i := 24) rfl))) (Or.inl (hw _ (List.mem_of_getElem? (i := 13) rfl))) (by decide) (t := .int) (t' := (.array .int)) (by decide) (by decide)))
  have f18 : Fld Z h15 ra "querymill/regex/CodePointRuns" "length" "J" (.long (0 : Int64)) := f8.other W15 (Or.inr (slot_ne (Or.inl (hw _ (List.mem_of_getElem? (i := 26) rfl))) (Or.inl (hw _ (List.mem_of_getElem? (i := 13) rfl))) (by decide) (t := .long) (t' := (.array .int)) (by decide) (by decide)))
  have f19 : Fld Z h15 ra "querymill/regex/CodePointRuns" "counts" "[J" .null := f10.other W15 (Or.inr (slot_ne (Or.inl (hw _ (List.mem_of_getElem? (i := 15) rfl))) (Or.inl (hw _ (List.mem_of_getElem? (i := 13) rfl))) (by decide) (t := (.array .long)) (t' := (.array .int)) (by decide) (by decide)))
  have f20 : Fld Z h15 ra "querymill/regex/CodePointRuns" "starts" "[J" .null := f11.other W15 (Or.inr (slot_ne (Or.inl (hw _ (List.mem_of_getElem? (i := 17) rfl))) (Or.inl (hw _ (List.mem_of_getElem? (i := 13) rfl))) (by decide) (t := (.array .long)) (t' := (.array .int)) (by decide) (by decide)))
  have f21 : Arv Z h15 b4 k4 .int (4 : Int32) [(.int (0 : Int32)), (.int (0 : Int32)), (.int (0 : Int32)), (.int (0 : Int32))] (.int (0 : Int32)) := f14.other W15 (Ne.symm ne5)
  have z22 : n0 ≤ h15.size := Nat.le_trans z12 (Keep.of_wr W15).1
  have K23 : Keep h0 h15 [ra] := K13.wr W15 (Or.inl (List.mem_of_getElem? (i := 0) rfl))
  have f24 : Fld Z h15 ra "querymill/regex/CodePointRuns" "sets" "[I" (.ref b4) := f9.same W15
  have sg25 : ∀ t, Steps p.tables e below (T15.setTop (mkF m 13 #[.val (.ref ra)] [(.int (4 : Int32)), (.ref ra)])) t → Steps p.tables e below (T15.setTop (mkF m 11 #[.val (.ref ra)] [])) t := by
    intro t k
    show Steps p.tables e below (T15.setTop (mkF m 11 #[.val (.ref ra)] [])) _
    refine XS.aloadN X15.here hx rfl (hb hby d1_11) rfl rfl ?_
    show Steps p.tables e below (T15.setTop (mkF m 12 #[.val (.ref ra)] [(.ref ra)])) _
    refine XS.iconst X15.here hx rfl (hb hby d1_12) ?_
    exact k
  obtain ⟨T26, h26, k26, X26, e26, E26, A26, st26⟩ := newP X15 hx hZ (hw _ (List.mem_of_getElem? (i := 2) rfl)) e15 (g := (mkF m 13 #[.val (.ref ra)] [(.int (4 : Int32)), (.ref ra)])) rfl (hb hby d1_13) rfl (by decide) (cap := 4) (by decide) (by decide) (by decide) (by decide)
  obtain ⟨b26, g26⟩ : ∃ z, z = h15.size := ⟨_, rfl⟩
  rw [← g26] at A26 st26
  have ne27 : ra ≠ b26 := Nat.ne_of_lt (Nat.lt_of_lt_of_le f16.lt (Nat.le_of_eq g26.symm))
  have ne28 : b4 ≠ b26 := Nat.ne_of_lt (Nat.lt_of_lt_of_le f21.lt (Nat.le_of_eq g26.symm))
  have gn_b26 : n0 ≤ b26 := Nat.le_trans z22 (Nat.le_of_eq g26.symm)
  have sz_b26 : h0.size ≤ b26 := Nat.le_trans K23.1 (Nat.le_of_eq g26.symm)
  have f29 : Exa Z h26 ra "querymill/regex/CodePointRuns" := f16.ext E26
  have f30 : Fld Z h26 ra "querymill/regex/CodePointRuns" "size" "I" (.int (0 : Int32)) := f17.ext E26
  have f31 : Fld Z h26 ra "querymill/regex/CodePointRuns" "length" "J" (.long (0 : Int64)) := f18.ext E26
  have f32 : Fld Z h26 ra "querymill/regex/CodePointRuns" "counts" "[J" .null := f19.ext E26
  have f33 : Fld Z h26 ra "querymill/regex/CodePointRuns" "starts" "[J" .null := f20.ext E26
  have f34 : Arv Z h26 b4 k4 .int (4 : Int32) [(.int (0 : Int32)), (.int (0 : Int32)), (.int (0 : Int32)), (.int (0 : Int32))] (.int (0 : Int32)) := f21.ext E26
  have f35 : Fld Z h26 ra "querymill/regex/CodePointRuns" "sets" "[I" (.ref b4) := f24.ext E26
  have z36 : n0 ≤ h26.size := Nat.le_trans z22 E26.1
  have K37 : Keep h0 h26 [ra] := K23.ext E26
  have f38 : Arv Z h26 b26 k26 .long (4 : Int32) [(.long (0 : Int64)), (.long (0 : Int64)), (.long (0 : Int64)), (.long (0 : Int64))] (.long (0 : Int64)) := (Arv.new A26 (by decide)).pad (pad_rep [] (.long (0 : Int64)) 4)
  obtain ⟨T39, h39, X39, e39, W39, st39⟩ := putF X26 hx hZ hown (host := "") (Or.inl (hw _ (List.mem_of_getElem? (i := 14) rfl))) Via.refl e26 f32 f29 (Or.inl (hw _ (List.mem_of_getElem? (i := 15) rfl))) (hw _ (List.mem_of_getElem? (i := 4) rfl)) (ty := (.array .long)) (by decide) rfl rfl (g := (mkF m 15 #[.val (.ref ra)] [(.ref b26), (.ref ra)])) rfl rfl (hb hby d1_15)
  have N39 := Fr.snoc X39 N15 g_ra
  have f40 : Exa Z h39 ra "querymill/regex/CodePointRuns" := f29.wr W39
  have f41 : Fld Z h39 ra "querymill/regex/CodePointRuns" "size" "I" (.int (0 : Int32)) := f30.other W39 (Or.inr (slot_ne (Or.inl (hw _ (List.mem_of_getElem? (i := 24) rfl))) (Or.inl (hw _ (List.mem_of_getElem? (i := 15) rfl))) (by decide) (t := .int) (t' := (.array .long)) (by decide) (by decide)))
  have f42 : Fld Z h39 ra "querymill/regex/CodePointRuns" "length" "J" (.long (0 : Int64)) := f31.other W39 (Or.inr (slot_ne (Or.inl (hw _ (List.mem_of_getElem? (i := 26) rfl))) (Or.inl (hw _ (List.mem_of_getElem? (i := 15) rfl))) (by decide) (t := .long) (t' := (.array .long)) (by decide) (by decide)))
  have f43 : Fld Z h39 ra "querymill/regex/CodePointRuns" "starts" "[J" .null := f33.other W39 (Or.inr (slot_ne (Or.inl (hw _ (List.mem_of_getElem? (i := 17) rfl))) (Or.inl (hw _ (List.mem_of_getElem? (i := 15) rfl))) (by decide) (t := (.array .long)) (t' := (.array .long)) (by decide) (by decide)))
  have f44 : Arv Z h39 b4 k4 .int (4 : Int32) [(.int (0 : Int32)), (.int (0 : Int32)), (.int (0 : Int32)), (.int (0 : Int32))] (.int (0 : Int32)) := f34.other W39 (Ne.symm ne5)
  have f45 : Fld Z h39 ra "querymill/regex/CodePointRuns" "sets" "[I" (.ref b4) := f35.other W39 (Or.inr (slot_ne (Or.inl (hw _ (List.mem_of_getElem? (i := 13) rfl))) (Or.inl (hw _ (List.mem_of_getElem? (i := 15) rfl))) (by decide) (t := (.array .int)) (t' := (.array .long)) (by decide) (by decide)))
  have f46 : Arv Z h39 b26 k26 .long (4 : Int32) [(.long (0 : Int64)), (.long (0 : Int64)), (.long (0 : Int64)), (.long (0 : Int64))] (.long (0 : Int64)) := f38.other W39 (Ne.symm ne27)
  have z47 : n0 ≤ h39.size := Nat.le_trans z36 (Keep.of_wr W39).1
  have K48 : Keep h0 h39 [ra] := K37.wr W39 (Or.inl (List.mem_of_getElem? (i := 0) rfl))
  have f49 : Fld Z h39 ra "querymill/regex/CodePointRuns" "counts" "[J" (.ref b26) := f32.same W39
  have sg50 : ∀ t, Steps p.tables e below (T39.setTop (mkF m 20 #[.val (.ref ra)] [(.int (4 : Int32)), (.ref ra)])) t → Steps p.tables e below (T39.setTop (mkF m 18 #[.val (.ref ra)] [])) t := by
    intro t k
    show Steps p.tables e below (T39.setTop (mkF m 18 #[.val (.ref ra)] [])) _
    refine XS.aloadN X39.here hx rfl (hb hby d1_18) rfl rfl ?_
    show Steps p.tables e below (T39.setTop (mkF m 19 #[.val (.ref ra)] [(.ref ra)])) _
    refine XS.iconst X39.here hx rfl (hb hby d1_19) ?_
    exact k
  obtain ⟨T51, h51, k51, X51, e51, E51, A51, st51⟩ := newP X39 hx hZ (hw _ (List.mem_of_getElem? (i := 2) rfl)) e39 (g := (mkF m 20 #[.val (.ref ra)] [(.int (4 : Int32)), (.ref ra)])) rfl (hb hby d1_20) rfl (by decide) (cap := 4) (by decide) (by decide) (by decide) (by decide)
  obtain ⟨b51, g51⟩ : ∃ z, z = h39.size := ⟨_, rfl⟩
  rw [← g51] at A51 st51
  have ne52 : ra ≠ b51 := Nat.ne_of_lt (Nat.lt_of_lt_of_le f40.lt (Nat.le_of_eq g51.symm))
  have ne53 : b4 ≠ b51 := Nat.ne_of_lt (Nat.lt_of_lt_of_le f44.lt (Nat.le_of_eq g51.symm))
  have ne54 : b26 ≠ b51 := Nat.ne_of_lt (Nat.lt_of_lt_of_le f46.lt (Nat.le_of_eq g51.symm))
  have gn_b51 : n0 ≤ b51 := Nat.le_trans z47 (Nat.le_of_eq g51.symm)
  have sz_b51 : h0.size ≤ b51 := Nat.le_trans K48.1 (Nat.le_of_eq g51.symm)
  have f55 : Exa Z h51 ra "querymill/regex/CodePointRuns" := f40.ext E51
  have f56 : Fld Z h51 ra "querymill/regex/CodePointRuns" "size" "I" (.int (0 : Int32)) := f41.ext E51
  have f57 : Fld Z h51 ra "querymill/regex/CodePointRuns" "length" "J" (.long (0 : Int64)) := f42.ext E51
  have f58 : Fld Z h51 ra "querymill/regex/CodePointRuns" "starts" "[J" .null := f43.ext E51
  have f59 : Arv Z h51 b4 k4 .int (4 : Int32) [(.int (0 : Int32)), (.int (0 : Int32)), (.int (0 : Int32)), (.int (0 : Int32))] (.int (0 : Int32)) := f44.ext E51
  have f60 : Fld Z h51 ra "querymill/regex/CodePointRuns" "sets" "[I" (.ref b4) := f45.ext E51
  have f61 : Arv Z h51 b26 k26 .long (4 : Int32) [(.long (0 : Int64)), (.long (0 : Int64)), (.long (0 : Int64)), (.long (0 : Int64))] (.long (0 : Int64)) := f46.ext E51
  have f62 : Fld Z h51 ra "querymill/regex/CodePointRuns" "counts" "[J" (.ref b26) := f49.ext E51
  have z63 : n0 ≤ h51.size := Nat.le_trans z47 E51.1
  have K64 : Keep h0 h51 [ra] := K48.ext E51
  have f65 : Arv Z h51 b51 k51 .long (4 : Int32) [(.long (0 : Int64)), (.long (0 : Int64)), (.long (0 : Int64)), (.long (0 : Int64))] (.long (0 : Int64)) := (Arv.new A51 (by decide)).pad (pad_rep [] (.long (0 : Int64)) 4)
  obtain ⟨T66, h66, X66, e66, W66, st66⟩ := putF X51 hx hZ hown (host := "") (Or.inl (hw _ (List.mem_of_getElem? (i := 16) rfl))) Via.refl e51 f58 f55 (Or.inl (hw _ (List.mem_of_getElem? (i := 17) rfl))) (hw _ (List.mem_of_getElem? (i := 4) rfl)) (ty := (.array .long)) (by decide) rfl rfl (g := (mkF m 22 #[.val (.ref ra)] [(.ref b51), (.ref ra)])) rfl rfl (hb hby d1_22)
  have N66 := Fr.snoc X66 N39 g_ra
  have f67 : Exa Z h66 ra "querymill/regex/CodePointRuns" := f55.wr W66
  have f68 : Fld Z h66 ra "querymill/regex/CodePointRuns" "size" "I" (.int (0 : Int32)) := f56.other W66 (Or.inr (slot_ne (Or.inl (hw _ (List.mem_of_getElem? (i := 24) rfl))) (Or.inl (hw _ (List.mem_of_getElem? (i := 17) rfl))) (by decide) (t := .int) (t' := (.array .long)) (by decide) (by decide)))
  have f69 : Fld Z h66 ra "querymill/regex/CodePointRuns" "length" "J" (.long (0 : Int64)) := f57.other W66 (Or.inr (slot_ne (Or.inl (hw _ (List.mem_of_getElem? (i := 26) rfl))) (Or.inl (hw _ (List.mem_of_getElem? (i := 17) rfl))) (by decide) (t := .long) (t' := (.array .long)) (by decide) (by decide)))
  have f70 : Arv Z h66 b4 k4 .int (4 : Int32) [(.int (0 : Int32)), (.int (0 : Int32)), (.int (0 : Int32)), (.int (0 : Int32))] (.int (0 : Int32)) := f59.other W66 (Ne.symm ne5)
  have f71 : Fld Z h66 ra "querymill/regex/CodePointRuns" "sets" "[I" (.ref b4) := f60.other W66 (Or.inr (slot_ne (Or.inl (hw _ (List.mem_of_getElem? (i := 13) rfl))) (Or.inl (hw _ (List.mem_of_getElem? (i := 17) rfl))) (by decide) (t := (.array .int)) (t' := (.array .long)) (by decide) (by decide)))
  have f72 : Arv Z h66 b26 k26 .long (4 : Int32) [(.long (0 : Int64)), (.long (0 : Int64)), (.long (0 : Int64)), (.long (0 : Int64))] (.long (0 : Int64)) := f61.other W66 (Ne.symm ne27)
  have f73 : Fld Z h66 ra "querymill/regex/CodePointRuns" "counts" "[J" (.ref b26) := f62.other W66 (Or.inr (slot_ne (Or.inl (hw _ (List.mem_of_getElem? (i := 15) rfl))) (Or.inl (hw _ (List.mem_of_getElem? (i := 17) rfl))) (by decide) (t := (.array .long)) (t' := (.array .long)) (by decide) (by decide)))
  have f74 : Arv Z h66 b51 k51 .long (4 : Int32) [(.long (0 : Int64)), (.long (0 : Int64)), (.long (0 : Int64)), (.long (0 : Int64))] (.long (0 : Int64)) := f65.other W66 (Ne.symm ne52)
  have z75 : n0 ≤ h66.size := Nat.le_trans z63 (Keep.of_wr W66).1
  have K76 : Keep h0 h66 [ra] := K64.wr W66 (Or.inl (List.mem_of_getElem? (i := 0) rfl))
  have f77 : Fld Z h66 ra "querymill/regex/CodePointRuns" "starts" "[J" (.ref b51) := f58.same W66
  obtain ⟨fs, hr, hrun, hended, hW, hsame⟩ := X66.leave (v := none) (fun _ => rfl) (hlocks := hlk)
  refine ⟨_, _, pre0 _ ?_, hrun, hended, _, _, rfl, ?_, ⟨_, rfl⟩, hW, hsame.mono (by decide) (by decide)⟩
  · show Steps p.tables e below (s₁.setTop (mkF m 0 #[.val (.ref ra)] [])) _
    refine sg1 _ ?_
    show Steps p.tables e below (s₁.setTop (mkF m 1 #[.val (.ref ra)] [(.ref ra)])) _
    refine st2 _ ?_
    show Steps p.tables e below (T2.setTop (mkF m 4 #[.val (.ref ra)] [])) _
    refine sg3 _ ?_
    show Steps p.tables e below (T2.setTop (mkF m 6 #[.val (.ref ra)] [(.int (4 : Int32)), (.ref ra)])) _
    refine st4 _ ?_
    show Steps p.tables e below (T4.setTop (mkF m 8 #[.val (.ref ra)] [(.ref b4), (.ref ra)])) _
    refine st15 _ ?_
    show Steps p.tables e below (T15.setTop (mkF m 11 #[.val (.ref ra)] [])) _
    refine sg25 _ ?_
    show Steps p.tables e below (T15.setTop (mkF m 13 #[.val (.ref ra)] [(.int (4 : Int32)), (.ref ra)])) _
    refine st26 _ ?_
    show Steps p.tables e below (T26.setTop (mkF m 15 #[.val (.ref ra)] [(.ref b26), (.ref ra)])) _
    refine st39 _ ?_
    show Steps p.tables e below (T39.setTop (mkF m 18 #[.val (.ref ra)] [])) _
    refine sg50 _ ?_
    show Steps p.tables e below (T39.setTop (mkF m 20 #[.val (.ref ra)] [(.int (4 : Int32)), (.ref ra)])) _
    refine st51 _ ?_
    show Steps p.tables e below (T51.setTop (mkF m 22 #[.val (.ref ra)] [(.ref b51), (.ref ra)])) _
    refine st66 _ ?_
    show Steps p.tables e below (T66.setTop (mkF m 25 #[.val (.ref ra)] [])) _
    exact X66.returnOut hx Bd.returns (hb hby d1_25) hr
  · show Q_rmI Z ra h0 n0 _ T66.heap _
    rw [e66]
    exact ⟨b4, b26, b51, k4, k26, k51, rfl, N66, K76, f68, f69, f71, f73, f77, f70, f72, f74, sz_b4, sz_b26, sz_b51, ne28, ne53, ne54⟩
def Q_rmA (Z : State) (ra : Addr) (xx : Int32) (nn : Int64) (r1 : Addr) (r2 : Addr) (r3 : Addr) (k1 : ClassId) (k2 : ClassId) (k3 : ClassId) (sz : Int32) (s0 : Int32) (s1 : Int32) (c0 : Int64) (c1 : Int64) (t0 : Int64) (t1 : Int64) (ln : Int64) (h0 : Heap) (n0 : Nat) (v : Option Value) (h : Heap) (L : List Loc) : Prop := ∃ (zz : Int32) (u0 : Int32) (u1 : Int32) (w0 : Int64) (w1 : Int64) (v0 : Int64) (v1 : Int64) (lm : Int64), v = none ∧ Fr n0 L ∧ Keep h0 h [ra, r1, r2, r3] ∧ Fld Z h ra "querymill/regex/CodePointRuns" "size" "I" (.int zz) ∧ Fld Z h ra "querymill/regex/CodePointRuns" "length" "J" (.long lm) ∧ Fld Z h ra "querymill/regex/CodePointRuns" "sets" "[I" (.ref r1) ∧ Fld Z h ra "querymill/regex/CodePointRuns" "counts" "[J" (.ref r2) ∧ Fld Z h ra "querymill/regex/CodePointRuns" "starts" "[J" (.ref r3) ∧ Arv Z h r1 k1 .int (4 : Int32) [(.int u0), (.int u1), (.int (0 : Int32)), (.int (0 : Int32))] (.int (0 : Int32)) ∧ Arv Z h r2 k2 .long (4 : Int32) [(.long w0), (.long w1), (.long (0 : Int64)), (.long (0 : Int64))] (.long (0 : Int64)) ∧ Arv Z h r3 k3 .long (4 : Int32) [(.long v0), (.long v1), (.long (0 : Int64)), (.long (0 : Int64))] (.long (0 : Int64)) ∧ Add xx nn sz s0 s1 c0 c1 zz u0 u1 w0 w1
theorem ef_rmA (m : MethodId) (x0 : Addr) (x1 : Int32) (x2 : Int64) : entryFrame m #[(.ref x0), (.int x1), (.long x2)] 4 = mkF m 0 #[.val (.ref x0), .val (.int x1), .val (.long x2), .second] [] := by first | (simp [entryFrame, mkF, argsToLocals, Value.category]; done) | rfl
theorem d3_0 : decode prog_133_method_2_code 0 = .ok (.lload_n 2, 1) := by decide +kernel
theorem d3_1 : decode prog_133_method_2_code 1 = .ok (.lconst 0, 1) := by decide +kernel
theorem d3_2 : decode prog_133_method_2_code 2 = .ok (.lcmp, 1) := by decide +kernel
theorem d3_3 : decode prog_133_method_2_code 3 = .ok (.ifCond .ne 4, 3) := by decide +kernel
theorem d3_6 : decode prog_133_method_2_code 6 = .ok (.return_, 1) := by decide +kernel
theorem d3_7 : decode prog_133_method_2_code 7 = .ok (.aload_n 0, 1) := by decide +kernel
theorem d3_8 : decode prog_133_method_2_code 8 = .ok (.getfield 20, 3) := by decide +kernel
theorem d3_11 : decode prog_133_method_2_code 11 = .ok (.ifCond .le 36, 3) := by decide +kernel
theorem d3_14 : decode prog_133_method_2_code 14 = .ok (.aload_n 0, 1) := by decide +kernel
theorem d3_15 : decode prog_133_method_2_code 15 = .ok (.getfield 7, 3) := by decide +kernel
theorem d3_18 : decode prog_133_method_2_code 18 = .ok (.aload_n 0, 1) := by decide +kernel
theorem d3_19 : decode prog_133_method_2_code 19 = .ok (.getfield 20, 3) := by decide +kernel
theorem d3_22 : decode prog_133_method_2_code 22 = .ok (.iconst 1, 1) := by decide +kernel
theorem d3_23 : decode prog_133_method_2_code 23 = .ok (.isub, 1) := by decide +kernel
theorem d3_24 : decode prog_133_method_2_code 24 = .ok (.iaload, 1) := by decide +kernel
theorem d3_25 : decode prog_133_method_2_code 25 = .ok (.iload_n 1, 1) := by decide +kernel
theorem d3_26 : decode prog_133_method_2_code 26 = .ok (.if_icmp .ne 21, 3) := by decide +kernel
theorem d3_29 : decode prog_133_method_2_code 29 = .ok (.aload_n 0, 1) := by decide +kernel
theorem d3_30 : decode prog_133_method_2_code 30 = .ok (.getfield 13, 3) := by decide +kernel
theorem d3_33 : decode prog_133_method_2_code 33 = .ok (.aload_n 0, 1) := by decide +kernel
theorem d3_34 : decode prog_133_method_2_code 34 = .ok (.getfield 20, 3) := by decide +kernel
theorem d3_37 : decode prog_133_method_2_code 37 = .ok (.iconst 1, 1) := by decide +kernel
theorem d3_38 : decode prog_133_method_2_code 38 = .ok (.isub, 1) := by decide +kernel
theorem d3_39 : decode prog_133_method_2_code 39 = .ok (.dup2, 1) := by decide +kernel
theorem d3_40 : decode prog_133_method_2_code 40 = .ok (.laload, 1) := by decide +kernel
theorem d3_41 : decode prog_133_method_2_code 41 = .ok (.lload_n 2, 1) := by decide +kernel
theorem d3_42 : decode prog_133_method_2_code 42 = .ok (.ladd, 1) := by decide +kernel
theorem d3_43 : decode prog_133_method_2_code 43 = .ok (.lastore, 1) := by decide +kernel
theorem d3_44 : decode prog_133_method_2_code 44 = .ok (.goto 68, 3) := by decide +kernel
theorem d3_47 : decode prog_133_method_2_code 47 = .ok (.aload_n 0, 1) := by decide +kernel
theorem d3_48 : decode prog_133_method_2_code 48 = .ok (.getfield 20, 3) := by decide +kernel
theorem d3_51 : decode prog_133_method_2_code 51 = .ok (.aload_n 0, 1) := by decide +kernel
theorem d3_52 : decode prog_133_method_2_code 52 = .ok (.getfield 7, 3) := by decide +kernel
theorem d3_55 : decode prog_133_method_2_code 55 = .ok (.arraylength, 1) := by decide +kernel
theorem d3_56 : decode prog_133_method_2_code 56 = .ok (.if_icmp .ne 13, 3) := by decide +kernel
theorem d3_69 : decode prog_133_method_2_code 69 = .ok (.aload_n 0, 1) := by decide +kernel
theorem d3_70 : decode prog_133_method_2_code 70 = .ok (.getfield 7, 3) := by decide +kernel
theorem d3_73 : decode prog_133_method_2_code 73 = .ok (.aload_n 0, 1) := by decide +kernel
theorem d3_74 : decode prog_133_method_2_code 74 = .ok (.getfield 20, 3) := by decide +kernel
theorem d3_77 : decode prog_133_method_2_code 77 = .ok (.iload_n 1, 1) := by decide +kernel
theorem d3_78 : decode prog_133_method_2_code 78 = .ok (.iastore, 1) := by decide +kernel
theorem d3_79 : decode prog_133_method_2_code 79 = .ok (.aload_n 0, 1) := by decide +kernel
theorem d3_80 : decode prog_133_method_2_code 80 = .ok (.getfield 13, 3) := by decide +kernel
theorem d3_83 : decode prog_133_method_2_code 83 = .ok (.aload_n 0, 1) := by decide +kernel
theorem d3_84 : decode prog_133_method_2_code 84 = .ok (.getfield 20, 3) := by decide +kernel
theorem d3_87 : decode prog_133_method_2_code 87 = .ok (.lload_n 2, 1) := by decide +kernel
theorem d3_88 : decode prog_133_method_2_code 88 = .ok (.lastore, 1) := by decide +kernel
theorem d3_89 : decode prog_133_method_2_code 89 = .ok (.aload_n 0, 1) := by decide +kernel
theorem d3_90 : decode prog_133_method_2_code 90 = .ok (.getfield 17, 3) := by decide +kernel
theorem d3_93 : decode prog_133_method_2_code 93 = .ok (.aload_n 0, 1) := by decide +kernel
theorem d3_94 : decode prog_133_method_2_code 94 = .ok (.getfield 20, 3) := by decide +kernel
theorem d3_97 : decode prog_133_method_2_code 97 = .ok (.aload_n 0, 1) := by decide +kernel
theorem d3_98 : decode prog_133_method_2_code 98 = .ok (.getfield 28, 3) := by decide +kernel
theorem d3_101 : decode prog_133_method_2_code 101 = .ok (.lastore, 1) := by decide +kernel
theorem d3_102 : decode prog_133_method_2_code 102 = .ok (.aload_n 0, 1) := by decide +kernel
theorem d3_103 : decode prog_133_method_2_code 103 = .ok (.dup, 1) := by decide +kernel
theorem d3_104 : decode prog_133_method_2_code 104 = .ok (.getfield 20, 3) := by decide +kernel
theorem d3_107 : decode prog_133_method_2_code 107 = .ok (.iconst 1, 1) := by decide +kernel
theorem d3_108 : decode prog_133_method_2_code 108 = .ok (.iadd, 1) := by decide +kernel
theorem d3_109 : decode prog_133_method_2_code 109 = .ok (.putfield 20, 3) := by decide +kernel
theorem d3_112 : decode prog_133_method_2_code 112 = .ok (.aload_n 0, 1) := by decide +kernel
theorem d3_113 : decode prog_133_method_2_code 113 = .ok (.dup, 1) := by decide +kernel
theorem d3_114 : decode prog_133_method_2_code 114 = .ok (.getfield 28, 3) := by decide +kernel
theorem d3_117 : decode prog_133_method_2_code 117 = .ok (.lload_n 2, 1) := by decide +kernel
theorem d3_118 : decode prog_133_method_2_code 118 = .ok (.ladd, 1) := by decide +kernel
theorem d3_119 : decode prog_133_method_2_code 119 = .ok (.putfield 28, 3) := by decide +kernel
theorem d3_122 : decode prog_133_method_2_code 122 = .ok (.return_, 1) := by decide +kernel
set_option maxRecDepth 65536 in
set_option maxHeartbeats 40000000 in
theorem rmA (l : Launch) (Z : State) (a0 : Array Value) (hw : ∀ d ∈ tables_1, d.before a0 Z = true) (ws : List Jvm.Cond) (ra : Addr) (xx : Int32) (nn : Int64) (r1 : Addr) (r2 : Addr) (r3 : Addr) (k1 : ClassId) (k2 : ClassId) (k3 : ClassId) (sz : Int32) (s0 : Int32) (s1 : Int32) (c0 : Int64) (c1 : Int64) (t0 : Int64) (t1 : Int64) (ln : Int64) (h0 : Heap) (n0 : Nat) (Z0 : n0 ≤ h0.size) (P0 : Exa Z h0 ra "querymill/regex/CodePointRuns") (P1 : Fld Z h0 ra "querymill/regex/CodePointRuns" "size" "I" (.int sz)) (P2 : Fld Z h0 ra "querymill/regex/CodePointRuns" "length" "J" (.long ln)) (P3 : Fld Z h0 ra "querymill/regex/CodePointRuns" "sets" "[I" (.ref r1)) (P4 : Fld Z h0 ra "querymill/regex/CodePointRuns" "counts" "[J" (.ref r2)) (P5 : Fld Z h0 ra "querymill/regex/CodePointRuns" "starts" "[J" (.ref r3)) (P6 : Arv Z h0 r1 k1 .int (4 : Int32) [(.int s0), (.int s1), (.int (0 : Int32)), (.int (0 : Int32))] (.int (0 : Int32))) (P7 : Arv Z h0 r2 k2 .long (4 : Int32) [(.long c0), (.long c1), (.long (0 : Int64)), (.long (0 : Int64))] (.long (0 : Int64))) (P8 : Arv Z h0 r3 k3 .long (4 : Int32) [(.long t0), (.long t1), (.long (0 : Int64)), (.long (0 : Int64))] (.long (0 : Int64))) (g_ra : n0 ≤ ra) (g_r1 : n0 ≤ r1) (g_r2 : n0 ≤ r2) (g_r3 : n0 ≤ r3) (ne_ra_r1 : ra ≠ r1) (ne_ra_r2 : ra ≠ r2) (ne_ra_r3 : ra ≠ r3) (ne_r1_r2 : r1 ≠ r2) (ne_r1_r3 : r1 ≠ r3) (ne_r2_r3 : r2 ≠ r3) (hsz : sz = (0 : Int32) ∨ sz = (1 : Int32)) :
    MetFree l (⟨"querymill/regex/CodePointRuns", "add", "(IJ)V"⟩ : MethodName) (head1 (Jvm.Cond.code (⟨"querymill/regex/CodePointRuns", "add", "(IJ)V"⟩ : MethodName) prog_133_method_2_code 4 none :: ws) ({ frames := 0, cells := 0, slots := 0, locals := 0 } : Room)) (fun a U => a = #[(.ref ra), (.int xx), (.long nn)] ∧ Z.Warmed39 U.vm ∧ U.heap = h0) (fun _ _ _ _ _ => True) (fun _ U o U' => ∃ v L, o = .returned v ∧ Q_rmA Z ra xx nn r1 r2 r3 k1 k2 k3 sz s0 s1 c0 c1 t0 t1 ln h0 n0 v U'.heap L ∧ FrameEnd U o U' L ({ frames := 0, cells := 0, slots := 0, locals := 0 } : Room).cells ({ frames := 0, cells := 0, slots := 0, locals := 0 } : Room).slots) := by
  refine MetFree.of_bodySF (plainFor_of_name pn_0) hisR ?_
  intro p e s m args below meth c s₁ Bd hml0 hP hK
  obtain ⟨rfl, hZ, hh⟩ := hP
  have hx := Bd.exec
  have hby := Bd.bytes
  have hml : c.maxLocals = 4 := hml0
  have hown : s.vm.findClass "querymill/regex/CodePointRuns" = some m.cls := findClass_of_methodNamed Bd.named
  have hnm := (name_of_methodNamed Bd.named Bd.method).1
  have hlk : meth.locks = false := by first | exact BodyLoose.notSynchronized Bd | exact Body.notSynchronized Bd
  have X0 : Stand p l e ({ frames := 0, cells := 0, slots := 0, locals := 0 } : Room) s m #[(.ref ra), (.int xx), (.long nn)] below meth c s₁ [] 0 0 := Stand.of_body Bd
  have e0 : s₁.heap = h0 := by rw [← hh, Bd.state]; rfl
  have N0 := Fr.nil n0
  have pre0 : ∀ t, Steps p.tables e below (s₁.setTop (mkF m 0 #[.val (.ref ra), .val (.int xx), .val (.long nn), .second] [])) t → Steps p.tables e below (s₁.setTop (entryFrame m #[(.ref ra), (.int xx), (.long nn)] 4)) t := fun t k => castTop (ef_rmA m ra xx nn) k
  have K0 : Keep h0 h0 [ra, r1, r2, r3] := Keep.refl h0 [ra, r1, r2, r3]
  rcases hsz with rfl | rfl
  · skip
    have sg1 : ∀ t, Steps p.tables e below (s₁.setTop (mkF m 3 #[.val (.ref ra), .val (.int xx), .val (.long nn), .second] [(.int (lcmpW nn (0 : Int64)))])) t → Steps p.tables e below (s₁.setTop (mkF m 0 #[.val (.ref ra), .val (.int xx), .val (.long nn), .second] [])) t := by
      intro t k
      show Steps p.tables e below (s₁.setTop (mkF m 0 #[.val (.ref ra), .val (.int xx), .val (.long nn), .second] [])) _
      refine XS.lloadN X0.here hx rfl (hb hby d3_0) rfl ?_
      show Steps p.tables e below (s₁.setTop (mkF m 1 #[.val (.ref ra), .val (.int xx), .val (.long nn), .second] [(.long nn)])) _
      refine XS.lconst X0.here hx rfl (hb hby d3_1) ?_
      show Steps p.tables e below (s₁.setTop (mkF m 2 #[.val (.ref ra), .val (.int xx), .val (.long nn), .second] [(.long (0 : Int64)), (.long nn)])) _
      refine XS.lcmp X0.here hx rfl (hb hby d3_2) rfl ?_
      exact k
    by_cases hc3 : nn = (0 : Int64)
    · have sgf3 : ∀ t, Steps p.tables e below (s₁.setTop (mkF m 6 #[.val (.ref ra), .val (.int xx), .val (.long nn), .second] [])) t → Steps p.tables e below (s₁.setTop (mkF m 3 #[.val (.ref ra), .val (.int xx), .val (.long nn), .second] [(.int (lcmpW nn (0 : Int64)))])) t := fun t k => by
        refine XS.ifNo X0.here hx rfl (hb hby d3_3) rfl ((if0 _ _).trans (teq ((lw_eq _ _).mpr hc3)).2) ?_
        exact k
      obtain ⟨fs, hr, hrun, hended, hW, hsame⟩ := X0.leave (v := none) (fun _ => rfl) (hlocks := hlk)
      refine ⟨_, _, pre0 _ ?_, hrun, hended, _, _, rfl, ?_, ⟨_, rfl⟩, hW, hsame.mono (by decide) (by decide)⟩
      · show Steps p.tables e below (s₁.setTop (mkF m 0 #[.val (.ref ra), .val (.int xx), .val (.long nn), .second] [])) _
        refine sg1 _ ?_
        show Steps p.tables e below (s₁.setTop (mkF m 3 #[.val (.ref ra), .val (.int xx), .val (.long nn), .second] [(.int (lcmpW nn (0 : Int64)))])) _
        refine sgf3 _ ?_
        show Steps p.tables e below (s₁.setTop (mkF m 6 #[.val (.ref ra), .val (.int xx), .val (.long nn), .second] [])) _
        exact X0.returnOut hx Bd.returns (hb hby d3_6) hr
      · show Q_rmA Z ra xx nn r1 r2 r3 k1 k2 k3 (0 : Int32) s0 s1 c0 c1 t0 t1 ln h0 n0 _ s₁.heap _
        rw [e0]
        exact ⟨(0 : Int32), s0, s1, c0, c1, t0, t1, ln, rfl, N0, K0, P1, P2, P3, P4, P5, P6, P7, P8, (Or.inl ⟨hc3, rfl, rfl, rfl, rfl, rfl⟩)⟩
    · have sgf3 : ∀ t, Steps p.tables e below (s₁.setTop (mkF m 7 #[.val (.ref ra), .val (.int xx), .val (.long nn), .second] [])) t → Steps p.tables e below (s₁.setTop (mkF m 3 #[.val (.ref ra), .val (.int xx), .val (.long nn), .second] [(.int (lcmpW nn (0 : Int64)))])) t := fun t k => by
        refine XS.ifYes X0.here hx rfl (pc0 := 3) (pc' := 7) rfl (hb hby d3_3) rfl ((if0 _ _).trans (feq (mt (lw_eq _ _).mp hc3)).2) (by decide) (by decide) ?_
        exact k
      have sg2 : ∀ t, Steps p.tables e below (s₁.setTop (mkF m 8 #[.val (.ref ra), .val (.int xx), .val (.long nn), .second] [(.ref ra)])) t → Steps p.tables e below (s₁.setTop (mkF m 7 #[.val (.ref ra), .val (.int xx), .val (.long nn), .second] [])) t := by
        intro t k
        show Steps p.tables e below (s₁.setTop (mkF m 7 #[.val (.ref ra), .val (.int xx), .val (.long nn), .second] [])) _
        refine XS.aloadN X0.here hx rfl (hb hby d3_7) rfl rfl ?_
        exact k
      obtain ⟨T3, X3, e3, st3⟩ := getF X0 hx hZ hown (host := "") (Or.inl (hw _ (List.mem_of_getElem? (i := 23) rfl))) Via.refl e0 P1 (g := (mkF m 8 #[.val (.ref ra), .val (.int xx), .val (.long nn), .second] [(.ref ra)])) rfl rfl (hb hby d3_8)
      have sg4 : ∀ t, Steps p.tables e below (T3.setTop (mkF m 48 #[.val (.ref ra), .val (.int xx), .val (.long nn), .second] [(.ref ra)])) t → Steps p.tables e below (T3.setTop (mkF m 11 #[.val (.ref ra), .val (.int xx), .val (.long nn), .second] [(.int (0 : Int32))])) t := by
        intro t k
        show Steps p.tables e below (T3.setTop (mkF m 11 #[.val (.ref ra), .val (.int xx), .val (.long nn), .second] [(.int (0 : Int32))])) _
        refine XS.ifYes X3.here hx rfl (pc0 := 11) (pc' := 47) rfl (hb hby d3_11) rfl ((if0 _ _).trans (flt (by decide : ¬ ((0 : Int32) < (0 : Int32)))).2.2.2) (by decide) (by decide) ?_
        show Steps p.tables e below (T3.setTop (mkF m 47 #[.val (.ref ra), .val (.int xx), .val (.long nn), .second] [])) _
        refine XS.aloadN X3.here hx rfl (hb hby d3_47) rfl rfl ?_
        exact k
      obtain ⟨T5, X5, e5, st5⟩ := getF X3 hx hZ hown (host := "") (Or.inl (hw _ (List.mem_of_getElem? (i := 23) rfl))) Via.refl e3 P1 (g := (mkF m 48 #[.val (.ref ra), .val (.int xx), .val (.long nn), .second] [(.ref ra)])) rfl rfl (hb hby d3_48)
      have sg6 : ∀ t, Steps p.tables e below (T5.setTop (mkF m 52 #[.val (.ref ra), .val (.int xx), .val (.long nn), .second] [(.ref ra), (.int (0 : Int32))])) t → Steps p.tables e below (T5.setTop (mkF m 51 #[.val (.ref ra), .val (.int xx), .val (.long nn), .second] [(.int (0 : Int32))])) t := by
        intro t k
        show Steps p.tables e below (T5.setTop (mkF m 51 #[.val (.ref ra), .val (.int xx), .val (.long nn), .second] [(.int (0 : Int32))])) _
        refine XS.aloadN X5.here hx rfl (hb hby d3_51) rfl rfl ?_
        exact k
      obtain ⟨T7, X7, e7, st7⟩ := getF X5 hx hZ hown (host := "") (Or.inl (hw _ (List.mem_of_getElem? (i := 12) rfl))) Via.refl e5 P3 (g := (mkF m 52 #[.val (.ref ra), .val (.int xx), .val (.long nn), .second] [(.ref ra), (.int (0 : Int32))])) rfl rfl (hb hby d3_52)
      obtain ⟨cl8, Ar8, q8, Sz8, Nn8, Hs8, G8⟩ := id P6
      have st8 : ∀ t, Steps p.tables e below (T7.setTop (mkF m 56 #[.val (.ref ra), .val (.int xx), .val (.long nn), .second] [(.int (4 : Int32)), (.int (0 : Int32))])) t → Steps p.tables e below (T7.setTop (mkF m 55 #[.val (.ref ra), .val (.int xx), .val (.long nn), .second] [(.ref r1), (.int (0 : Int32))])) t := by
        intro t k
        refine X7.arraylength hx (by rw [e7]; exact Ar8.1) (State.isArrayOf_alike hZ.alike Ar8.2.1) (g := (mkF m 55 #[.val (.ref ra), .val (.int xx), .val (.long nn), .second] [(.ref r1), (.int (0 : Int32))])) rfl rfl (hb hby d3_55) _ ?_
        rw [len_of Sz8 Nn8]
        exact k
      have sg9 : ∀ t, Steps p.tables e below (T7.setTop (mkF m 70 #[.val (.ref ra), .val (.int xx), .val (.long nn), .second] [(.ref ra)])) t → Steps p.tables e below (T7.setTop (mkF m 56 #[.val (.ref ra), .val (.int xx), .val (.long nn), .second] [(.int (4 : Int32)), (.int (0 : Int32))])) t := by
        intro t k
        show Steps p.tables e below (T7.setTop (mkF m 56 #[.val (.ref ra), .val (.int xx), .val (.long nn), .second] [(.int (4 : Int32)), (.int (0 : Int32))])) _
        refine XS.icmpYes X7.here hx rfl (pc0 := 56) (pc' := 69) rfl (hb hby d3_56) rfl (feq (by decide : ¬ ((0 : Int32) = (4 : Int32)))).2 (by decide) (by decide) ?_
        show Steps p.tables e below (T7.setTop (mkF m 69 #[.val (.ref ra), .val (.int xx), .val (.long nn), .second] [])) _
        refine XS.aloadN X7.here hx rfl (hb hby d3_69) rfl rfl ?_
        exact k
      obtain ⟨T10, X10, e10, st10⟩ := getF X7 hx hZ hown (host := "") (Or.inl (hw _ (List.mem_of_getElem? (i := 12) rfl))) Via.refl e7 P3 (g := (mkF m 70 #[.val (.ref ra), .val (.int xx), .val (.long nn), .second] [(.ref ra)])) rfl rfl (hb hby d3_70)
      have sg11 : ∀ t, Steps p.tables e below (T10.setTop (mkF m 74 #[.val (.ref ra), .val (.int xx), .val (.long nn), .second] [(.ref ra), (.ref r1)])) t → Steps p.tables e below (T10.setTop (mkF m 73 #[.val (.ref ra), .val (.int xx), .val (.long nn), .second] [(.ref r1)])) t := by
        intro t k
        show Steps p.tables e below (T10.setTop (mkF m 73 #[.val (.ref ra), .val (.int xx), .val (.long nn), .second] [(.ref r1)])) _
        refine XS.aloadN X10.here hx rfl (hb hby d3_73) rfl rfl ?_
        exact k
      obtain ⟨T12, X12, e12, st12⟩ := getF X10 hx hZ hown (host := "") (Or.inl (hw _ (List.mem_of_getElem? (i := 23) rfl))) Via.refl e10 P1 (g := (mkF m 74 #[.val (.ref ra), .val (.int xx), .val (.long nn), .second] [(.ref ra), (.ref r1)])) rfl rfl (hb hby d3_74)
      have sg13 : ∀ t, Steps p.tables e below (T12.setTop (mkF m 78 #[.val (.ref ra), .val (.int xx), .val (.long nn), .second] [(.int xx), (.int (0 : Int32)), (.ref r1)])) t → Steps p.tables e below (T12.setTop (mkF m 77 #[.val (.ref ra), .val (.int xx), .val (.long nn), .second] [(.int (0 : Int32)), (.ref r1)])) t := by
        intro t k
        show Steps p.tables e below (T12.setTop (mkF m 77 #[.val (.ref ra), .val (.int xx), .val (.long nn), .second] [(.int (0 : Int32)), (.ref r1)])) _
        refine XS.iloadN X12.here hx rfl (hb hby d3_77) rfl ?_
        exact k
      obtain ⟨cl14, Ar14, q14, Sz14, Nn14, Hs14, G14⟩ := id P6
      have hin14 : ¬ ((0 : Int32) < 0 ∨ cl14.slots.size ≤ ((0 : Int32)).toNatClampNeg) := inb_of Sz14 ⟨by decide, by decide⟩
      obtain ⟨T14, h14, X14, e14, W14, st14⟩ := stI X12 hx hZ e12 Ar14 (j := (0 : Int32)) hin14 (g := (mkF m 78 #[.val (.ref ra), .val (.int xx), .val (.long nn), .second] [(.int xx), (.int (0 : Int32)), (.ref r1)])) rfl rfl (hb hby d3_78)
      have V14 : Arv Z h14 r1 k1 .int (4 : Int32) [(.int xx), (.int s1), (.int (0 : Int32)), (.int (0 : Int32))] (.int (0 : Int32)) := Arv.set Ar14 q14 Sz14 Nn14 Hs14 G14 rfl W14 0 rfl (Nat.le_of_ble_eq_true rfl)
      have N14 := Fr.snoc X14 N0 g_r1
      have f15 : Exa Z h14 ra "querymill/regex/CodePointRuns" := P0.wr W14
      have f16 : Fld Z h14 ra "querymill/regex/CodePointRuns" "size" "I" (.int (0 : Int32)) := P1.other W14 (Or.inl ne_ra_r1)
      have f17 : Fld Z h14 ra "querymill/regex/CodePointRuns" "length" "J" (.long ln) := P2.other W14 (Or.inl ne_ra_r1)
      have f18 : Fld Z h14 ra "querymill/regex/CodePointRuns" "sets" "[I" (.ref r1) := P3.other W14 (Or.inl ne_ra_r1)
      have f19 : Fld Z h14 ra "querymill/regex/CodePointRuns" "counts" "[J" (.ref r2) := P4.other W14 (Or.inl ne_ra_r1)
      have f20 : Fld Z h14 ra "querymill/regex/CodePointRuns" "starts" "[J" (.ref r3) := P5.other W14 (Or.inl ne_ra_r1)
      have f21 : Arv Z h14 r2 k2 .long (4 : Int32) [(.long c0), (.long c1), (.long (0 : Int64)), (.long (0 : Int64))] (.long (0 : Int64)) := P7.other W14 (Ne.symm ne_r1_r2)
      have f22 : Arv Z h14 r3 k3 .long (4 : Int32) [(.long t0), (.long t1), (.long (0 : Int64)), (.long (0 : Int64))] (.long (0 : Int64)) := P8.other W14 (Ne.symm ne_r1_r3)
      have z23 : n0 ≤ h14.size := Nat.le_trans Z0 (Keep.of_wr W14).1
      have K24 : Keep h0 h14 [ra, r1, r2, r3] := K0.wr W14 (Or.inl (List.mem_of_getElem? (i := 1) rfl))
      have sg25 : ∀ t, Steps p.tables e below (T14.setTop (mkF m 80 #[.val (.ref ra), .val (.int xx), .val (.long nn), .second] [(.ref ra)])) t → Steps p.tables e below (T14.setTop (mkF m 79 #[.val (.ref ra), .val (.int xx), .val (.long nn), .second] [])) t := by
        intro t k
        show Steps p.tables e below (T14.setTop (mkF m 79 #[.val (.ref ra), .val (.int xx), .val (.long nn), .second] [])) _
        refine XS.aloadN X14.here hx rfl (hb hby d3_79) rfl rfl ?_
        exact k
      obtain ⟨T26, X26, e26, st26⟩ := getF X14 hx hZ hown (host := "") (Or.inl (hw _ (List.mem_of_getElem? (i := 14) rfl))) Via.refl e14 f19 (g := (mkF m 80 #[.val (.ref ra), .val (.int xx), .val (.long nn), .second] [(.ref ra)])) rfl rfl (hb hby d3_80)
      have sg27 : ∀ t, Steps p.tables e below (T26.setTop (mkF m 84 #[.val (.ref ra), .val (.int xx), .val (.long nn), .second] [(.ref ra), (.ref r2)])) t → Steps p.tables e below (T26.setTop (mkF m 83 #[.val (.ref ra), .val (.int xx), .val (.long nn), .second] [(.ref r2)])) t := by
        intro t k
        show Steps p.tables e below (T26.setTop (mkF m 83 #[.val (.ref ra), .val (.int xx), .val (.long nn), .second] [(.ref r2)])) _
        refine XS.aloadN X26.here hx rfl (hb hby d3_83) rfl rfl ?_
        exact k
      obtain ⟨T28, X28, e28, st28⟩ := getF X26 hx hZ hown (host := "") (Or.inl (hw _ (List.mem_of_getElem? (i := 23) rfl))) Via.refl e26 f16 (g := (mkF m 84 #[.val (.ref ra), .val (.int xx), .val (.long nn), .second] [(.ref ra), (.ref r2)])) rfl rfl (hb hby d3_84)
      have sg29 : ∀ t, Steps p.tables e below (T28.setTop (mkF m 88 #[.val (.ref ra), .val (.int xx), .val (.long nn), .second] [(.long nn), (.int (0 : Int32)), (.ref r2)])) t → Steps p.tables e below (T28.setTop (mkF m 87 #[.val (.ref ra), .val (.int xx), .val (.long nn), .second] [(.int (0 : Int32)), (.ref r2)])) t := by
        intro t k
        show Steps p.tables e below (T28.setTop (mkF m 87 #[.val (.ref ra), .val (.int xx), .val (.long nn), .second] [(.int (0 : Int32)), (.ref r2)])) _
        refine XS.lloadN X28.here hx rfl (hb hby d3_87) rfl ?_
        exact k
      obtain ⟨cl30, Ar30, q30, Sz30, Nn30, Hs30, G30⟩ := id f21
      have hin30 : ¬ ((0 : Int32) < 0 ∨ cl30.slots.size ≤ ((0 : Int32)).toNatClampNeg) := inb_of Sz30 ⟨by decide, by decide⟩
      obtain ⟨T30, h30, X30, e30, W30, st30⟩ := stJ X28 hx hZ e28 Ar30 (j := (0 : Int32)) hin30 (g := (mkF m 88 #[.val (.ref ra), .val (.int xx), .val (.long nn), .second] [(.long nn), (.int (0 : Int32)), (.ref r2)])) rfl rfl (hb hby d3_88)
      have V30 : Arv Z h30 r2 k2 .long (4 : Int32) [(.long nn), (.long c1), (.long (0 : Int64)), (.long (0 : Int64))] (.long (0 : Int64)) := Arv.set Ar30 q30 Sz30 Nn30 Hs30 G30 rfl W30 0 rfl (Nat.le_of_ble_eq_true rfl)
      have N30 := Fr.snoc X30 N14 g_r2
      have f31 : Exa Z h30 ra "querymill/regex/CodePointRuns" := f15.wr W30
      have f32 : Fld Z h30 ra "querymill/regex/CodePointRuns" "size" "I" (.int (0 : Int32)) := f16.other W30 (Or.inl ne_ra_r2)
      have f33 : Fld Z h30 ra "querymill/regex/CodePointRuns" "length" "J" (.long ln) := f17.other W30 (Or.inl ne_ra_r2)
      have f34 : Fld Z h30 ra "querymill/regex/CodePointRuns" "sets" "[I" (.ref r1) := f18.other W30 (Or.inl ne_ra_r2)
      have f35 : Fld Z h30 ra "querymill/regex/CodePointRuns" "counts" "[J" (.ref r2) := f19.other W30 (Or.inl ne_ra_r2)
      have f36 : Fld Z h30 ra "querymill/regex/CodePointRuns" "starts" "[J" (.ref r3) := f20.other W30 (Or.inl ne_ra_r2)
      have f37 : Arv Z h30 r3 k3 .long (4 : Int32) [(.long t0), (.long t1), (.long (0 : Int64)), (.long (0 : Int64))] (.long (0 : Int64)) := f22.other W30 (Ne.symm ne_r2_r3)
      have f38 : Arv Z h30 r1 k1 .int (4 : Int32) [(.int xx), (.int s1), (.int (0 : Int32)), (.int (0 : Int32))] (.int (0 : Int32)) := V14.other W30 ne_r1_r2
      have z39 : n0 ≤ h30.size := Nat.le_trans z23 (Keep.of_wr W30).1
      have K40 : Keep h0 h30 [ra, r1, r2, r3] := K24.wr W30 (Or.inl (List.mem_of_getElem? (i := 2) rfl))
      have sg41 : ∀ t, Steps p.tables e below (T30.setTop (mkF m 90 #[.val (.ref ra), .val (.int xx), .val (.long nn), .second] [(.ref ra)])) t → Steps p.tables e below (T30.setTop (mkF m 89 #[.val (.ref ra), .val (.int xx), .val (.long nn), .second] [])) t := by
        intro t k
        show Steps p.tables e below (T30.setTop (mkF m 89 #[.val (.ref ra), .val (.int xx), .val (.long nn), .second] [])) _
        refine XS.aloadN X30.here hx rfl (hb hby d3_89) rfl rfl ?_
        exact k
      obtain ⟨T42, X42, e42, st42⟩ := getF X30 hx hZ hown (host := "") (Or.inl (hw _ (List.mem_of_getElem? (i := 16) rfl))) Via.refl e30 f36 (g := (mkF m 90 #[.val (.ref ra), .val (.int xx), .val (.long nn), .second] [(.ref ra)])) rfl rfl (hb hby d3_90)
      have sg43 : ∀ t, Steps p.tables e below (T42.setTop (mkF m 94 #[.val (.ref ra), .val (.int xx), .val (.long nn), .second] [(.ref ra), (.ref r3)])) t → Steps p.tables e below (T42.setTop (mkF m 93 #[.val (.ref ra), .val (.int xx), .val (.long nn), .second] [(.ref r3)])) t := by
        intro t k
        show Steps p.tables e below (T42.setTop (mkF m 93 #[.val (.ref ra), .val (.int xx), .val (.long nn), .second] [(.ref r3)])) _
        refine XS.aloadN X42.here hx rfl (hb hby d3_93) rfl rfl ?_
        exact k
      obtain ⟨T44, X44, e44, st44⟩ := getF X42 hx hZ hown (host := "") (Or.inl (hw _ (List.mem_of_getElem? (i := 23) rfl))) Via.refl e42 f32 (g := (mkF m 94 #[.val (.ref ra), .val (.int xx), .val (.long nn), .second] [(.ref ra), (.ref r3)])) rfl rfl (hb hby d3_94)
      have sg45 : ∀ t, Steps p.tables e below (T44.setTop (mkF m 98 #[.val (.ref ra), .val (.int xx), .val (.long nn), .second] [(.ref ra), (.int (0 : Int32)), (.ref r3)])) t → Steps p.tables e below (T44.setTop (mkF m 97 #[.val (.ref ra), .val (.int xx), .val (.long nn), .second] [(.int (0 : Int32)), (.ref r3)])) t := by
        intro t k
        show Steps p.tables e below (T44.setTop (mkF m 97 #[.val (.ref ra), .val (.int xx), .val (.long nn), .second] [(.int (0 : Int32)), (.ref r3)])) _
        refine XS.aloadN X44.here hx rfl (hb hby d3_97) rfl rfl ?_
        exact k
      obtain ⟨T46, X46, e46, st46⟩ := getF X44 hx hZ hown (host := "") (Or.inl (hw _ (List.mem_of_getElem? (i := 25) rfl))) Via.refl e44 f33 (g := (mkF m 98 #[.val (.ref ra), .val (.int xx), .val (.long nn), .second] [(.ref ra), (.int (0 : Int32)), (.ref r3)])) rfl rfl (hb hby d3_98)
      obtain ⟨cl47, Ar47, q47, Sz47, Nn47, Hs47, G47⟩ := id f37
      have hin47 : ¬ ((0 : Int32) < 0 ∨ cl47.slots.size ≤ ((0 : Int32)).toNatClampNeg) := inb_of Sz47 ⟨by decide, by decide⟩
      obtain ⟨T47, h47, X47, e47, W47, st47⟩ := stJ X46 hx hZ e46 Ar47 (j := (0 : Int32)) hin47 (g := (mkF m 101 #[.val (.ref ra), .val (.int xx), .val (.long nn), .second] [(.long ln), (.int (0 : Int32)), (.ref r3)])) rfl rfl (hb hby d3_101)
      have V47 : Arv Z h47 r3 k3 .long (4 : Int32) [(.long ln), (.long t1), (.long (0 : Int64)), (.long (0 : Int64))] (.long (0 : Int64)) := Arv.set Ar47 q47 Sz47 Nn47 Hs47 G47 rfl W47 0 rfl (Nat.le_of_ble_eq_true rfl)
      have N47 := Fr.snoc X47 N30 g_r3
      have f48 : Exa Z h47 ra "querymill/regex/CodePointRuns" := f31.wr W47
      have f49 : Fld Z h47 ra "querymill/regex/CodePointRuns" "size" "I" (.int (0 : Int32)) := f32.other W47 (Or.inl ne_ra_r3)
      have f50 : Fld Z h47 ra "querymill/regex/CodePointRuns" "length" "J" (.long ln) := f33.other W47 (Or.inl ne_ra_r3)
      have f51 : Fld Z h47 ra "querymill/regex/CodePointRuns" "sets" "[I" (.ref r1) := f34.other W47 (Or.inl ne_ra_r3)
      have f52 : Fld Z h47 ra "querymill/regex/CodePointRuns" "counts" "[J" (.ref r2) := f35.other W47 (Or.inl ne_ra_r3)
      have f53 : Fld Z h47 ra "querymill/regex/CodePointRuns" "starts" "[J" (.ref r3) := f36.other W47 (Or.inl ne_ra_r3)
      have f54 : Arv Z h47 r1 k1 .int (4 : Int32) [(.int xx), (.int s1), (.int (0 : Int32)), (.int (0 : Int32))] (.int (0 : Int32)) := f38.other W47 ne_r1_r3
      have f55 : Arv Z h47 r2 k2 .long (4 : Int32) [(.long nn), (.long c1), (.long (0 : Int64)), (.long (0 : Int64))] (.long (0 : Int64)) := V30.other W47 ne_r2_r3
      have z56 : n0 ≤ h47.size := Nat.le_trans z39 (Keep.of_wr W47).1
      have K57 : Keep h0 h47 [ra, r1, r2, r3] := K40.wr W47 (Or.inl (List.mem_of_getElem? (i := 3) rfl))
      have sg58 : ∀ t, Steps p.tables e below (T47.setTop (mkF m 104 #[.val (.ref ra), .val (.int xx), .val (.long nn), .second] [(.ref ra), (.ref ra)])) t → Steps p.tables e below (T47.setTop (mkF m 102 #[.val (.ref ra), .val (.int xx), .val (.long nn), .second] [])) t := by
        intro t k
        show Steps p.tables e below (T47.setTop (mkF m 102 #[.val (.ref ra), .val (.int xx), .val (.long nn), .second] [])) _
        refine XS.aloadN X47.here hx rfl (hb hby d3_102) rfl rfl ?_
        show Steps p.tables e below (T47.setTop (mkF m 103 #[.val (.ref ra), .val (.int xx), .val (.long nn), .second] [(.ref ra)])) _
        refine XS.dup X47.here hx rfl (hb hby d3_103) rfl rfl ?_
        exact k
      obtain ⟨T59, X59, e59, st59⟩ := getF X47 hx hZ hown (host := "") (Or.inl (hw _ (List.mem_of_getElem? (i := 23) rfl))) Via.refl e47 f49 (g := (mkF m 104 #[.val (.ref ra), .val (.int xx), .val (.long nn), .second] [(.ref ra), (.ref ra)])) rfl rfl (hb hby d3_104)
      have sg60 : ∀ t, Steps p.tables e below (T59.setTop (mkF m 109 #[.val (.ref ra), .val (.int xx), .val (.long nn), .second] [(.int (1 : Int32)), (.ref ra)])) t → Steps p.tables e below (T59.setTop (mkF m 107 #[.val (.ref ra), .val (.int xx), .val (.long nn), .second] [(.int (0 : Int32)), (.ref ra)])) t := by
        intro t k
        show Steps p.tables e below (T59.setTop (mkF m 107 #[.val (.ref ra), .val (.int xx), .val (.long nn), .second] [(.int (0 : Int32)), (.ref ra)])) _
        refine XS.iconst X59.here hx rfl (hb hby d3_107) ?_
        show Steps p.tables e below (T59.setTop (mkF m 108 #[.val (.ref ra), .val (.int xx), .val (.long nn), .second] [(.int (1 : Int32)), (.int (0 : Int32)), (.ref ra)])) _
        refine XS.iadd X59.here hx rfl (hb hby d3_108) rfl ?_
        exact k
      obtain ⟨T61, h61, X61, e61, W61, st61⟩ := putF X59 hx hZ hown (host := "") (Or.inl (hw _ (List.mem_of_getElem? (i := 23) rfl))) Via.refl e59 f49 f48 (Or.inl (hw _ (List.mem_of_getElem? (i := 24) rfl))) (hw _ (List.mem_of_getElem? (i := 4) rfl)) (ty := .int) (by decide) rfl rfl (g := (mkF m 109 #[.val (.ref ra), .val (.int xx), .val (.long nn), .second] [(.int (1 : Int32)), (.ref ra)])) rfl rfl (hb hby d3_109)
      have N61 := Fr.snoc X61 N47 g_ra
      have f62 : Exa Z h61 ra "querymill/regex/CodePointRuns" := f48.wr W61
      have f63 : Fld Z h61 ra "querymill/regex/CodePointRuns" "length" "J" (.long ln) := f50.other W61 (Or.inr (slot_ne (Or.inl (hw _ (List.mem_of_getElem? (i := 26) rfl))) (Or.inl (hw _ (List.mem_of_getElem? (i := 24) rfl))) (by decide) (t := .long) (t' := .int) (by decide) (by decide)))
      have f64 : Fld Z h61 ra "querymill/regex/CodePointRuns" "sets" "[I" (.ref r1) := f51.other W61 (Or.inr (slot_ne (Or.inl (hw _ (List.mem_of_getElem? (i := 13) rfl))) (Or.inl (hw _ (List.mem_of_getElem? (i := 24) rfl))) (by decide) (t := (.array .int)) (t' := .int) (by decide) (by decide)))
      have f65 : Fld Z h61 ra "querymill/regex/CodePointRuns" "counts" "[J" (.ref r2) := f52.other W61 (Or.inr (slot_ne (Or.inl (hw _ (List.mem_of_getElem? (i := 15) rfl))) (Or.inl (hw _ (List.mem_of_getElem? (i := 24) rfl))) (by decide) (t := (.array .long)) (t' := .int) (by decide) (by decide)))
      have f66 : Fld Z h61 ra "querymill/regex/CodePointRuns" "starts" "[J" (.ref r3) := f53.other W61 (Or.inr (slot_ne (Or.inl (hw _ (List.mem_of_getElem? (i := 17) rfl))) (Or.inl (hw _ (List.mem_of_getElem? (i := 24) rfl))) (by decide) (t := (.array .long)) (t' := .int) (by decide) (by decide)))
      have f67 : Arv Z h61 r1 k1 .int (4 : Int32) [(.int xx), (.int s1), (.int (0 : Int32)), (.int (0 : Int32))] (.int (0 : Int32)) := f54.other W61 (Ne.symm ne_ra_r1)
      have f68 : Arv Z h61 r2 k2 .long (4 : Int32) [(.long nn), (.long c1), (.long (0 : Int64)), (.long (0 : Int64))] (.long (0 : Int64)) := f55.other W61 (Ne.symm ne_ra_r2)
      have f69 : Arv Z h61 r3 k3 .long (4 : Int32) [(.long ln), (.long t1), (.long (0 : Int64)), (.long (0 : Int64))] (.long (0 : Int64)) := V47.other W61 (Ne.symm ne_ra_r3)
      have z70 : n0 ≤ h61.size := Nat.le_trans z56 (Keep.of_wr W61).1
      have K71 : Keep h0 h61 [ra, r1, r2, r3] := K57.wr W61 (Or.inl (List.mem_of_getElem? (i := 0) rfl))
      have f72 : Fld Z h61 ra "querymill/regex/CodePointRuns" "size" "I" (.int (1 : Int32)) := f49.same W61
      have sg73 : ∀ t, Steps p.tables e below (T61.setTop (mkF m 114 #[.val (.ref ra), .val (.int xx), .val (.long nn), .second] [(.ref ra), (.ref ra)])) t → Steps p.tables e below (T61.setTop (mkF m 112 #[.val (.ref ra), .val (.int xx), .val (.long nn), .second] [])) t := by
        intro t k
        show Steps p.tables e below (T61.setTop (mkF m 112 #[.val (.ref ra), .val (.int xx), .val (.long nn), .second] [])) _
        refine XS.aloadN X61.here hx rfl (hb hby d3_112) rfl rfl ?_
        show Steps p.tables e below (T61.setTop (mkF m 113 #[.val (.ref ra), .val (.int xx), .val (.long nn), .second] [(.ref ra)])) _
        refine XS.dup X61.here hx rfl (hb hby d3_113) rfl rfl ?_
        exact k
      obtain ⟨T74, X74, e74, st74⟩ := getF X61 hx hZ hown (host := "") (Or.inl (hw _ (List.mem_of_getElem? (i := 25) rfl))) Via.refl e61 f63 (g := (mkF m 114 #[.val (.ref ra), .val (.int xx), .val (.long nn), .second] [(.ref ra), (.ref ra)])) rfl rfl (hb hby d3_114)
      have sg75 : ∀ t, Steps p.tables e below (T74.setTop (mkF m 119 #[.val (.ref ra), .val (.int xx), .val (.long nn), .second] [(.long (ln + nn)), (.ref ra)])) t → Steps p.tables e below (T74.setTop (mkF m 117 #[.val (.ref ra), .val (.int xx), .val (.long nn), .second] [(.long ln), (.ref ra)])) t := by
        intro t k
        show Steps p.tables e below (T74.setTop (mkF m 117 #[.val (.ref ra), .val (.int xx), .val (.long nn), .second] [(.long ln), (.ref ra)])) _
        refine XS.lloadN X74.here hx rfl (hb hby d3_117) rfl ?_
        show Steps p.tables e below (T74.setTop (mkF m 118 #[.val (.ref ra), .val (.int xx), .val (.long nn), .second] [(.long nn), (.long ln), (.ref ra)])) _
        refine XS.ladd X74.here hx rfl (hb hby d3_118) rfl ?_
        exact k
      obtain ⟨T76, h76, X76, e76, W76, st76⟩ := putF X74 hx hZ hown (host := "") (Or.inl (hw _ (List.mem_of_getElem? (i := 25) rfl))) Via.refl e74 f63 f62 (Or.inl (hw _ (List.mem_of_getElem? (i := 26) rfl))) (hw _ (List.mem_of_getElem? (i := 4) rfl)) (ty := .long) (by decide) rfl rfl (g := (mkF m 119 #[.val (.ref ra), .val (.int xx), .val (.long nn), .second] [(.long (ln + nn)), (.ref ra)])) rfl rfl (hb hby d3_119)
      have N76 := Fr.snoc X76 N61 g_ra
      have f77 : Exa Z h76 ra "querymill/regex/CodePointRuns" := f62.wr W76
      have f78 : Fld Z h76 ra "querymill/regex/CodePointRuns" "sets" "[I" (.ref r1) := f64.other W76 (Or.inr (slot_ne (Or.inl (hw _ (List.mem_of_getElem? (i := 13) rfl))) (Or.inl (hw _ (List.mem_of_getElem? (i := 26) rfl))) (by decide) (t := (.array .int)) (t' := .long) (by decide) (by decide)))
      have f79 : Fld Z h76 ra "querymill/regex/CodePointRuns" "counts" "[J" (.ref r2) := f65.other W76 (Or.inr (slot_ne (Or.inl (hw _ (List.mem_of_getElem? (i := 15) rfl))) (Or.inl (hw _ (List.mem_of_getElem? (i := 26) rfl))) (by decide) (t := (.array .long)) (t' := .long) (by decide) (by decide)))
      have f80 : Fld Z h76 ra "querymill/regex/CodePointRuns" "starts" "[J" (.ref r3) := f66.other W76 (Or.inr (slot_ne (Or.inl (hw _ (List.mem_of_getElem? (i := 17) rfl))) (Or.inl (hw _ (List.mem_of_getElem? (i := 26) rfl))) (by decide) (t := (.array .long)) (t' := .long) (by decide) (by decide)))
      have f81 : Arv Z h76 r1 k1 .int (4 : Int32) [(.int xx), (.int s1), (.int (0 : Int32)), (.int (0 : Int32))] (.int (0 : Int32)) := f67.other W76 (Ne.symm ne_ra_r1)
      have f82 : Arv Z h76 r2 k2 .long (4 : Int32) [(.long nn), (.long c1), (.long (0 : Int64)), (.long (0 : Int64))] (.long (0 : Int64)) := f68.other W76 (Ne.symm ne_ra_r2)
      have f83 : Arv Z h76 r3 k3 .long (4 : Int32) [(.long ln), (.long t1), (.long (0 : Int64)), (.long (0 : Int64))] (.long (0 : Int64)) := f69.other W76 (Ne.symm ne_ra_r3)
      have f84 : Fld Z h76 ra "querymill/regex/CodePointRuns" "size" "I" (.int (1 : Int32)) := f72.other W76 (Or.inr (slot_ne (Or.inl (hw _ (List.mem_of_getElem? (i := 24) rfl))) (Or.inl (hw _ (List.mem_of_getElem? (i := 26) rfl))) (by decide) (t := .int) (t' := .long) (by decide) (by decide)))
      have z85 : n0 ≤ h76.size := Nat.le_trans z70 (Keep.of_wr W76).1
      have K86 : Keep h0 h76 [ra, r1, r2, r3] := K71.wr W76 (Or.inl (List.mem_of_getElem? (i := 0) rfl))
      have f87 : Fld Z h76 ra "querymill/regex/CodePointRuns" "length" "J" (.long (ln + nn)) := f63.same W76
      obtain ⟨fs, hr, hrun, hended, hW, hsame⟩ := X76.leave (v := none) (fun _ => rfl) (hlocks := hlk)
      refine ⟨_, _, pre0 _ ?_, hrun, hended, _, _, rfl, ?_, ⟨_, rfl⟩, hW, hsame.mono (by decide) (by decide)⟩
      · show Steps p.tables e below (s₁.setTop (mkF m 0 #[.val (.ref ra), .val (.int xx), .val (.long nn), .second] [])) _
        refine sg1 _ ?_
        show Steps p.tables e below (s₁.setTop (mkF m 3 #[.val (.ref ra), .val (.int xx), .val (.long nn), .second] [(.int (lcmpW nn (0 : Int64)))])) _
        refine sgf3 _ ?_
        show Steps p.tables e below (s₁.setTop (mkF m 7 #[.val (.ref ra), .val (.int xx), .val (.long nn), .second] [])) _
        refine sg2 _ ?_
        show Steps p.tables e below (s₁.setTop (mkF m 8 #[.val (.ref ra), .val (.int xx), .val (.long nn), .second] [(.ref ra)])) _
        refine st3 _ ?_
        show Steps p.tables e below (T3.setTop (mkF m 11 #[.val (.ref ra), .val (.int xx), .val (.long nn), .second] [(.int (0 : Int32))])) _
        refine sg4 _ ?_
        show Steps p.tables e below (T3.setTop (mkF m 48 #[.val (.ref ra), .val (.int xx), .val (.long nn), .second] [(.ref ra)])) _
        refine st5 _ ?_
        show Steps p.tables e below (T5.setTop (mkF m 51 #[.val (.ref ra), .val (.int xx), .val (.long nn), .second] [(.int (0 : Int32))])) _
        refine sg6 _ ?_
        show Steps p.tables e below (T5.setTop (mkF m 52 #[.val (.ref ra), .val (.int xx), .val (.long nn), .second] [(.ref ra), (.int (0 : Int32))])) _
        refine st7 _ ?_
        show Steps p.tables e below (T7.setTop (mkF m 55 #[.val (.ref ra), .val (.int xx), .val (.long nn), .second] [(.ref r1), (.int (0 : Int32))])) _
        refine st8 _ ?_
        show Steps p.tables e below (T7.setTop (mkF m 56 #[.val (.ref ra), .val (.int xx), .val (.long nn), .second] [(.int (4 : Int32)), (.int (0 : Int32))])) _
        refine sg9 _ ?_
        show Steps p.tables e below (T7.setTop (mkF m 70 #[.val (.ref ra), .val (.int xx), .val (.long nn), .second] [(.ref ra)])) _
        refine st10 _ ?_
        show Steps p.tables e below (T10.setTop (mkF m 73 #[.val (.ref ra), .val (.int xx), .val (.long nn), .second] [(.ref r1)])) _
        refine sg11 _ ?_
        show Steps p.tables e below (T10.setTop (mkF m 74 #[.val (.ref ra), .val (.int xx), .val (.long nn), .second] [(.ref ra), (.ref r1)])) _
        refine st12 _ ?_
        show Steps p.tables e below (T12.setTop (mkF m 77 #[.val (.ref ra), .val (.int xx), .val (.long nn), .second] [(.int (0 : Int32)), (.ref r1)])) _
        refine sg13 _ ?_
        show Steps p.tables e below (T12.setTop (mkF m 78 #[.val (.ref ra), .val (.int xx), .val (.long nn), .second] [(.int xx), (.int (0 : Int32)), (.ref r1)])) _
        refine st14 _ ?_
        show Steps p.tables e below (T14.setTop (mkF m 79 #[.val (.ref ra), .val (.int xx), .val (.long nn), .second] [])) _
        refine sg25 _ ?_
        show Steps p.tables e below (T14.setTop (mkF m 80 #[.val (.ref ra), .val (.int xx), .val (.long nn), .second] [(.ref ra)])) _
        refine st26 _ ?_
        show Steps p.tables e below (T26.setTop (mkF m 83 #[.val (.ref ra), .val (.int xx), .val (.long nn), .second] [(.ref r2)])) _
        refine sg27 _ ?_
        show Steps p.tables e below (T26.setTop (mkF m 84 #[.val (.ref ra), .val (.int xx), .val (.long nn), .second] [(.ref ra), (.ref r2)])) _
        refine st28 _ ?_
        show Steps p.tables e below (T28.setTop (mkF m 87 #[.val (.ref ra), .val (.int xx), .val (.long nn), .second] [(.int (0 : Int32)), (.ref r2)])) _
        refine sg29 _ ?_
        show Steps p.tables e below (T28.setTop (mkF m 88 #[.val (.ref ra), .val (.int xx), .val (.long nn), .second] [(.long nn), (.int (0 : Int32)), (.ref r2)])) _
        refine st30 _ ?_
        show Steps p.tables e below (T30.setTop (mkF m 89 #[.val (.ref ra), .val (.int xx), .val (.long nn), .second] [])) _
        refine sg41 _ ?_
        show Steps p.tables e below (T30.setTop (mkF m 90 #[.val (.ref ra), .val (.int xx), .val (.long nn), .second] [(.ref ra)])) _
        refine st42 _ ?_
        show Steps p.tables e below (T42.setTop (mkF m 93 #[.val (.ref ra), .val (.int xx), .val (.long nn), .second] [(.ref r3)])) _
        refine sg43 _ ?_
        show Steps p.tables e below (T42.setTop (mkF m 94 #[.val (.ref ra), .val (.int xx), .val (.long nn), .second] [(.ref ra), (.ref r3)])) _
        refine st44 _ ?_
        show Steps p.tables e below (T44.setTop (mkF m 97 #[.val (.ref ra), .val (.int xx), .val (.long nn), .second] [(.int (0 : Int32)), (.ref r3)])) _
        refine sg45 _ ?_
        show Steps p.tables e below (T44.setTop (mkF m 98 #[.val (.ref ra), .val (.int xx), .val (.long nn), .second] [(.ref ra), (.int (0 : Int32)), (.ref r3)])) _
        refine st46 _ ?_
        show Steps p.tables e below (T46.setTop (mkF m 101 #[.val (.ref ra), .val (.int xx), .val (.long nn), .second] [(.long ln), (.int (0 : Int32)), (.ref r3)])) _
        refine st47 _ ?_
        show Steps p.tables e below (T47.setTop (mkF m 102 #[.val (.ref ra), .val (.int xx), .val (.long nn), .second] [])) _
        refine sg58 _ ?_
        show Steps p.tables e below (T47.setTop (mkF m 104 #[.val (.ref ra), .val (.int xx), .val (.long nn), .second] [(.ref ra), (.ref ra)])) _
        refine st59 _ ?_
        show Steps p.tables e below (T59.setTop (mkF m 107 #[.val (.ref ra), .val (.int xx), .val (.long nn), .second] [(.int (0 : Int32)), (.ref ra)])) _
        refine sg60 _ ?_
        show Steps p.tables e below (T59.setTop (mkF m 109 #[.val (.ref ra), .val (.int xx), .val (.long nn), .second] [(.int (1 : Int32)), (.ref ra)])) _
        refine st61 _ ?_
        show Steps p.tables e below (T61.setTop (mkF m 112 #[.val (.ref ra), .val (.int xx), .val (.long nn), .second] [])) _
        refine sg73 _ ?_
        show Steps p.tables e below (T61.setTop (mkF m 114 #[.val (.ref ra), .val (.int xx), .val (.long nn), .second] [(.ref ra), (.ref ra)])) _
        refine st74 _ ?_
        show Steps p.tables e below (T74.setTop (mkF m 117 #[.val (.ref ra), .val (.int xx), .val (.long nn), .second] [(.long ln), (.ref ra)])) _
        refine sg75 _ ?_
        show Steps p.tables e below (T74.setTop (mkF m 119 #[.val (.ref ra), .val (.int xx), .val (.long nn), .second] [(.long (ln + nn)), (.ref ra)])) _
        refine st76 _ ?_
        show Steps p.tables e below (T76.setTop (mkF m 122 #[.val (.ref ra), .val (.int xx), .val (.long nn), .second] [])) _
        exact X76.returnOut hx Bd.returns (hb hby d3_122) hr
      · show Q_rmA Z ra xx nn r1 r2 r3 k1 k2 k3 (0 : Int32) s0 s1 c0 c1 t0 t1 ln h0 n0 _ T76.heap _
        rw [e76]
        exact ⟨(1 : Int32), xx, s1, nn, c1, ln, t1, (ln + nn), rfl, N76, K86, f84, f87, f78, f79, f80, f81, f82, f83, (Or.inr (Or.inl ⟨hc3, rfl, rfl, rfl, rfl⟩))⟩
  · skip
    have sg88 : ∀ t, Steps p.tables e below (s₁.setTop (mkF m 3 #[.val (.ref ra), .val (.int xx), .val (.long nn), .second] [(.int (lcmpW nn (0 : Int64)))])) t → Steps p.tables e below (s₁.setTop (mkF m 0 #[.val (.ref ra), .val (.int xx), .val (.long nn), .second] [])) t := by
      intro t k
      show Steps p.tables e below (s₁.setTop (mkF m 0 #[.val (.ref ra), .val (.int xx), .val (.long nn), .second] [])) _
      refine XS.lloadN X0.here hx rfl (hb hby d3_0) rfl ?_
      show Steps p.tables e below (s₁.setTop (mkF m 1 #[.val (.ref ra), .val (.int xx), .val (.long nn), .second] [(.long nn)])) _
      refine XS.lconst X0.here hx rfl (hb hby d3_1) ?_
      show Steps p.tables e below (s₁.setTop (mkF m 2 #[.val (.ref ra), .val (.int xx), .val (.long nn), .second] [(.long (0 : Int64)), (.long nn)])) _
      refine XS.lcmp X0.here hx rfl (hb hby d3_2) rfl ?_
      exact k
    by_cases hc3 : nn = (0 : Int64)
    · have sgf3 : ∀ t, Steps p.tables e below (s₁.setTop (mkF m 6 #[.val (.ref ra), .val (.int xx), .val (.long nn), .second] [])) t → Steps p.tables e below (s₁.setTop (mkF m 3 #[.val (.ref ra), .val (.int xx), .val (.long nn), .second] [(.int (lcmpW nn (0 : Int64)))])) t := fun t k => by
        refine XS.ifNo X0.here hx rfl (hb hby d3_3) rfl ((if0 _ _).trans (teq ((lw_eq _ _).mpr hc3)).2) ?_
        exact k
      obtain ⟨fs, hr, hrun, hended, hW, hsame⟩ := X0.leave (v := none) (fun _ => rfl) (hlocks := hlk)
      refine ⟨_, _, pre0 _ ?_, hrun, hended, _, _, rfl, ?_, ⟨_, rfl⟩, hW, hsame.mono (by decide) (by decide)⟩
      · show Steps p.tables e below (s₁.setTop (mkF m 0 #[.val (.ref ra), .val (.int xx), .val (.long nn), .second] [])) _
        refine sg88 _ ?_
        show Steps p.tables e below (s₁.setTop (mkF m 3 #[.val (.ref ra), .val (.int xx), .val (.long nn), .second] [(.int (lcmpW nn (0 : Int64)))])) _
        refine sgf3 _ ?_
        show Steps p.tables e below (s₁.setTop (mkF m 6 #[.val (.ref ra), .val (.int xx), .val (.long nn), .second] [])) _
        exact X0.returnOut hx Bd.returns (hb hby d3_6) hr
      · show Q_rmA Z ra xx nn r1 r2 r3 k1 k2 k3 (1 : Int32) s0 s1 c0 c1 t0 t1 ln h0 n0 _ s₁.heap _
        rw [e0]
        exact ⟨(1 : Int32), s0, s1, c0, c1, t0, t1, ln, rfl, N0, K0, P1, P2, P3, P4, P5, P6, P7, P8, (Or.inl ⟨hc3, rfl, rfl, rfl, rfl, rfl⟩)⟩
    · have sgf3 : ∀ t, Steps p.tables e below (s₁.setTop (mkF m 7 #[.val (.ref ra), .val (.int xx), .val (.long nn), .second] [])) t → Steps p.tables e below (s₁.setTop (mkF m 3 #[.val (.ref ra), .val (.int xx), .val (.long nn), .second] [(.int (lcmpW nn (0 : Int64)))])) t := fun t k => by
        refine XS.ifYes X0.here hx rfl (pc0 := 3) (pc' := 7) rfl (hb hby d3_3) rfl ((if0 _ _).trans (feq (mt (lw_eq _ _).mp hc3)).2) (by decide) (by decide) ?_
        exact k
      have sg89 : ∀ t, Steps p.tables e below (s₁.setTop (mkF m 8 #[.val (.ref ra), .val (.int xx), .val (.long nn), .second] [(.ref ra)])) t → Steps p.tables e below (s₁.setTop (mkF m 7 #[.val (.ref ra), .val (.int xx), .val (.long nn), .second] [])) t := by
        intro t k
        show Steps p.tables e below (s₁.setTop (mkF m 7 #[.val (.ref ra), .val (.int xx), .val (.long nn), .second] [])) _
        refine XS.aloadN X0.here hx rfl (hb hby d3_7) rfl rfl ?_
        exact k
      obtain ⟨T90, X90, e90, st90⟩ := getF X0 hx hZ hown (host := "") (Or.inl (hw _ (List.mem_of_getElem? (i := 23) rfl))) Via.refl e0 P1 (g := (mkF m 8 #[.val (.ref ra), .val (.int xx), .val (.long nn), .second] [(.ref ra)])) rfl rfl (hb hby d3_8)
      have sg91 : ∀ t, Steps p.tables e below (T90.setTop (mkF m 15 #[.val (.ref ra), .val (.int xx), .val (.long nn), .second] [(.ref ra)])) t → Steps p.tables e below (T90.setTop (mkF m 11 #[.val (.ref ra), .val (.int xx), .val (.long nn), .second] [(.int (1 : Int32))])) t := by
        intro t k
        show Steps p.tables e below (T90.setTop (mkF m 11 #[.val (.ref ra), .val (.int xx), .val (.long nn), .second] [(.int (1 : Int32))])) _
        refine XS.ifNo X90.here hx rfl (hb hby d3_11) rfl ((if0 _ _).trans (tlt (by decide : (0 : Int32) < (1 : Int32))).2.2.2) ?_
        show Steps p.tables e below (T90.setTop (mkF m 14 #[.val (.ref ra), .val (.int xx), .val (.long nn), .second] [])) _
        refine XS.aloadN X90.here hx rfl (hb hby d3_14) rfl rfl ?_
        exact k
      obtain ⟨T92, X92, e92, st92⟩ := getF X90 hx hZ hown (host := "") (Or.inl (hw _ (List.mem_of_getElem? (i := 12) rfl))) Via.refl e90 P3 (g := (mkF m 15 #[.val (.ref ra), .val (.int xx), .val (.long nn), .second] [(.ref ra)])) rfl rfl (hb hby d3_15)
      have sg93 : ∀ t, Steps p.tables e below (T92.setTop (mkF m 19 #[.val (.ref ra), .val (.int xx), .val (.long nn), .second] [(.ref ra), (.ref r1)])) t → Steps p.tables e below (T92.setTop (mkF m 18 #[.val (.ref ra), .val (.int xx), .val (.long nn), .second] [(.ref r1)])) t := by
        intro t k
        show Steps p.tables e below (T92.setTop (mkF m 18 #[.val (.ref ra), .val (.int xx), .val (.long nn), .second] [(.ref r1)])) _
        refine XS.aloadN X92.here hx rfl (hb hby d3_18) rfl rfl ?_
        exact k
      obtain ⟨T94, X94, e94, st94⟩ := getF X92 hx hZ hown (host := "") (Or.inl (hw _ (List.mem_of_getElem? (i := 23) rfl))) Via.refl e92 P1 (g := (mkF m 19 #[.val (.ref ra), .val (.int xx), .val (.long nn), .second] [(.ref ra), (.ref r1)])) rfl rfl (hb hby d3_19)
      have sg95 : ∀ t, Steps p.tables e below (T94.setTop (mkF m 24 #[.val (.ref ra), .val (.int xx), .val (.long nn), .second] [(.int (0 : Int32)), (.ref r1)])) t → Steps p.tables e below (T94.setTop (mkF m 22 #[.val (.ref ra), .val (.int xx), .val (.long nn), .second] [(.int (1 : Int32)), (.ref r1)])) t := by
        intro t k
        show Steps p.tables e below (T94.setTop (mkF m 22 #[.val (.ref ra), .val (.int xx), .val (.long nn), .second] [(.int (1 : Int32)), (.ref r1)])) _
        refine XS.iconst X94.here hx rfl (hb hby d3_22) ?_
        show Steps p.tables e below (T94.setTop (mkF m 23 #[.val (.ref ra), .val (.int xx), .val (.long nn), .second] [(.int (1 : Int32)), (.int (1 : Int32)), (.ref r1)])) _
        refine XS.isub X94.here hx rfl (hb hby d3_23) rfl ?_
        exact k
      obtain ⟨cl96, Ar96, q96, Sz96, Nn96, Hs96, G96⟩ := id P6
      have hin96 : ¬ ((0 : Int32) < 0 ∨ cl96.slots.size ≤ ((0 : Int32)).toNatClampNeg) := inb_of Sz96 ⟨by decide, by decide⟩
      have hat96 : cl96.slots[((0 : Int32)).toNatClampNeg]? = some (.int s0) := Has.at Hs96 hin96 rfl
      have st96 : ∀ t, Steps p.tables e below (T94.setTop (mkF m 25 #[.val (.ref ra), .val (.int xx), .val (.long nn), .second] [(.int s0)])) t → Steps p.tables e below (T94.setTop (mkF m 24 #[.val (.ref ra), .val (.int xx), .val (.long nn), .second] [(.int (0 : Int32)), (.ref r1)])) t := by
        intro t k
        refine X94.iaload hx (j := (0 : Int32)) (v := (.int s0)) (by rw [e94]; exact Ar96.1) (State.isArrayOf_alike hZ.alike Ar96.2.1) Ar96.2.2 hin96 hat96 (g := (mkF m 24 #[.val (.ref ra), .val (.int xx), .val (.long nn), .second] [(.int (0 : Int32)), (.ref r1)])) rfl rfl (hb hby d3_24) _ ?_
        exact k
      have sg97 : ∀ t, Steps p.tables e below (T94.setTop (mkF m 26 #[.val (.ref ra), .val (.int xx), .val (.long nn), .second] [(.int xx), (.int s0)])) t → Steps p.tables e below (T94.setTop (mkF m 25 #[.val (.ref ra), .val (.int xx), .val (.long nn), .second] [(.int s0)])) t := by
        intro t k
        show Steps p.tables e below (T94.setTop (mkF m 25 #[.val (.ref ra), .val (.int xx), .val (.long nn), .second] [(.int s0)])) _
        refine XS.iloadN X94.here hx rfl (hb hby d3_25) rfl ?_
        exact k
      have ch98 : ∀ t, Steps p.tables e below (T94.setTop (mkF m 26 #[.val (.ref ra), .val (.int xx), .val (.long nn), .second] [(.int xx), (.int s0)])) t → Steps p.tables e below (s₁.setTop (mkF m 0 #[.val (.ref ra), .val (.int xx), .val (.long nn), .second] [])) t := by
        intro t k
        refine sg88 _ ?_
        show Steps p.tables e below (s₁.setTop (mkF m 3 #[.val (.ref ra), .val (.int xx), .val (.long nn), .second] [(.int (lcmpW nn (0 : Int64)))])) _
        refine sgf3 _ ?_
        show Steps p.tables e below (s₁.setTop (mkF m 7 #[.val (.ref ra), .val (.int xx), .val (.long nn), .second] [])) _
        refine sg89 _ ?_
        show Steps p.tables e below (s₁.setTop (mkF m 8 #[.val (.ref ra), .val (.int xx), .val (.long nn), .second] [(.ref ra)])) _
        refine st90 _ ?_
        show Steps p.tables e below (T90.setTop (mkF m 11 #[.val (.ref ra), .val (.int xx), .val (.long nn), .second] [(.int (1 : Int32))])) _
        refine sg91 _ ?_
        show Steps p.tables e below (T90.setTop (mkF m 15 #[.val (.ref ra), .val (.int xx), .val (.long nn), .second] [(.ref ra)])) _
        refine st92 _ ?_
        show Steps p.tables e below (T92.setTop (mkF m 18 #[.val (.ref ra), .val (.int xx), .val (.long nn), .second] [(.ref r1)])) _
        refine sg93 _ ?_
        show Steps p.tables e below (T92.setTop (mkF m 19 #[.val (.ref ra), .val (.int xx), .val (.long nn), .second] [(.ref ra), (.ref r1)])) _
        refine st94 _ ?_
        show Steps p.tables e below (T94.setTop (mkF m 22 #[.val (.ref ra), .val (.int xx), .val (.long nn), .second] [(.int (1 : Int32)), (.ref r1)])) _
        refine sg95 _ ?_
        show Steps p.tables e below (T94.setTop (mkF m 24 #[.val (.ref ra), .val (.int xx), .val (.long nn), .second] [(.int (0 : Int32)), (.ref r1)])) _
        refine st96 _ ?_
        show Steps p.tables e below (T94.setTop (mkF m 25 #[.val (.ref ra), .val (.int xx), .val (.long nn), .second] [(.int s0)])) _
        refine sg97 _ ?_
        show Steps p.tables e below (T94.setTop (mkF m 26 #[.val (.ref ra), .val (.int xx), .val (.long nn), .second] [(.int xx), (.int s0)])) _
        exact k
      by_cases hc26 : s0 = xx
      · have sgf26 : ∀ t, Steps p.tables e below (T94.setTop (mkF m 29 #[.val (.ref ra), .val (.int xx), .val (.long nn), .second] [])) t → Steps p.tables e below (T94.setTop (mkF m 26 #[.val (.ref ra), .val (.int xx), .val (.long nn), .second] [(.int xx), (.int s0)])) t := fun t k => by
          refine XS.icmpNo X94.here hx rfl (hb hby d3_26) rfl (teq hc26).2 ?_
          exact k
        have sg99 : ∀ t, Steps p.tables e below (T94.setTop (mkF m 30 #[.val (.ref ra), .val (.int xx), .val (.long nn), .second] [(.ref ra)])) t → Steps p.tables e below (T94.setTop (mkF m 29 #[.val (.ref ra), .val (.int xx), .val (.long nn), .second] [])) t := by
          intro t k
          show Steps p.tables e below (T94.setTop (mkF m 29 #[.val (.ref ra), .val (.int xx), .val (.long nn), .second] [])) _
          refine XS.aloadN X94.here hx rfl (hb hby d3_29) rfl rfl ?_
          exact k
        obtain ⟨T100, X100, e100, st100⟩ := getF X94 hx hZ hown (host := "") (Or.inl (hw _ (List.mem_of_getElem? (i := 14) rfl))) Via.refl e94 P4 (g := (mkF m 30 #[.val (.ref ra), .val (.int xx), .val (.long nn), .second] [(.ref ra)])) rfl rfl (hb hby d3_30)
        have sg101 : ∀ t, Steps p.tables e below (T100.setTop (mkF m 34 #[.val (.ref ra), .val (.int xx), .val (.long nn), .second] [(.ref ra), (.ref r2)])) t → Steps p.tables e below (T100.setTop (mkF m 33 #[.val (.ref ra), .val (.int xx), .val (.long nn), .second] [(.ref r2)])) t := by
          intro t k
          show Steps p.tables e below (T100.setTop (mkF m 33 #[.val (.ref ra), .val (.int xx), .val (.long nn), .second] [(.ref r2)])) _
          refine XS.aloadN X100.here hx rfl (hb hby d3_33) rfl rfl ?_
          exact k
        obtain ⟨T102, X102, e102, st102⟩ := getF X100 hx hZ hown (host := "") (Or.inl (hw _ (List.mem_of_getElem? (i := 23) rfl))) Via.refl e100 P1 (g := (mkF m 34 #[.val (.ref ra), .val (.int xx), .val (.long nn), .second] [(.ref ra), (.ref r2)])) rfl rfl (hb hby d3_34)
        have sg103 : ∀ t, Steps p.tables e below (T102.setTop (mkF m 40 #[.val (.ref ra), .val (.int xx), .val (.long nn), .second] [(.int (0 : Int32)), (.ref r2), (.int (0 : Int32)), (.ref r2)])) t → Steps p.tables e below (T102.setTop (mkF m 37 #[.val (.ref ra), .val (.int xx), .val (.long nn), .second] [(.int (1 : Int32)), (.ref r2)])) t := by
          intro t k
          show Steps p.tables e below (T102.setTop (mkF m 37 #[.val (.ref ra), .val (.int xx), .val (.long nn), .second] [(.int (1 : Int32)), (.ref r2)])) _
          refine XS.iconst X102.here hx rfl (hb hby d3_37) ?_
          show Steps p.tables e below (T102.setTop (mkF m 38 #[.val (.ref ra), .val (.int xx), .val (.long nn), .second] [(.int (1 : Int32)), (.int (1 : Int32)), (.ref r2)])) _
          refine XS.isub X102.here hx rfl (hb hby d3_38) rfl ?_
          show Steps p.tables e below (T102.setTop (mkF m 39 #[.val (.ref ra), .val (.int xx), .val (.long nn), .second] [(.int (0 : Int32)), (.ref r2)])) _
          refine Jvm.Free.XT.dup2 X102.here hx rfl (hb hby d3_39) rfl rfl rfl ?_
          exact k
        obtain ⟨cl104, Ar104, q104, Sz104, Nn104, Hs104, G104⟩ := id P7
        have hin104 : ¬ ((0 : Int32) < 0 ∨ cl104.slots.size ≤ ((0 : Int32)).toNatClampNeg) := inb_of Sz104 ⟨by decide, by decide⟩
        have hat104 : cl104.slots[((0 : Int32)).toNatClampNeg]? = some (.long c0) := Has.at Hs104 hin104 rfl
        have st104 : ∀ t, Steps p.tables e below (T102.setTop (mkF m 41 #[.val (.ref ra), .val (.int xx), .val (.long nn), .second] [(.long c0), (.int (0 : Int32)), (.ref r2)])) t → Steps p.tables e below (T102.setTop (mkF m 40 #[.val (.ref ra), .val (.int xx), .val (.long nn), .second] [(.int (0 : Int32)), (.ref r2), (.int (0 : Int32)), (.ref r2)])) t := by
          intro t k
          refine X102.laload hx (j := (0 : Int32)) (v := (.long c0)) (by rw [e102]; exact Ar104.1) (State.isArrayOf_alike hZ.alike Ar104.2.1) Ar104.2.2 hin104 hat104 (g := (mkF m 40 #[.val (.ref ra), .val (.int xx), .val (.long nn), .second] [(.int (0 : Int32)), (.ref r2), (.int (0 : Int32)), (.ref r2)])) rfl rfl (hb hby d3_40) _ ?_
          exact k
        have sg105 : ∀ t, Steps p.tables e below (T102.setTop (mkF m 43 #[.val (.ref ra), .val (.int xx), .val (.long nn), .second] [(.long (c0 + nn)), (.int (0 : Int32)), (.ref r2)])) t → Steps p.tables e below (T102.setTop (mkF m 41 #[.val (.ref ra), .val (.int xx), .val (.long nn), .second] [(.long c0), (.int (0 : Int32)), (.ref r2)])) t := by
          intro t k
          show Steps p.tables e below (T102.setTop (mkF m 41 #[.val (.ref ra), .val (.int xx), .val (.long nn), .second] [(.long c0), (.int (0 : Int32)), (.ref r2)])) _
          refine XS.lloadN X102.here hx rfl (hb hby d3_41) rfl ?_
          show Steps p.tables e below (T102.setTop (mkF m 42 #[.val (.ref ra), .val (.int xx), .val (.long nn), .second] [(.long nn), (.long c0), (.int (0 : Int32)), (.ref r2)])) _
          refine XS.ladd X102.here hx rfl (hb hby d3_42) rfl ?_
          exact k
        obtain ⟨cl106, Ar106, q106, Sz106, Nn106, Hs106, G106⟩ := id P7
        have hin106 : ¬ ((0 : Int32) < 0 ∨ cl106.slots.size ≤ ((0 : Int32)).toNatClampNeg) := inb_of Sz106 ⟨by decide, by decide⟩
        obtain ⟨T106, h106, X106, e106, W106, st106⟩ := stJ X102 hx hZ e102 Ar106 (j := (0 : Int32)) hin106 (g := (mkF m 43 #[.val (.ref ra), .val (.int xx), .val (.long nn), .second] [(.long (c0 + nn)), (.int (0 : Int32)), (.ref r2)])) rfl rfl (hb hby d3_43)
        have V106 : Arv Z h106 r2 k2 .long (4 : Int32) [(.long (c0 + nn)), (.long c1), (.long (0 : Int64)), (.long (0 : Int64))] (.long (0 : Int64)) := Arv.set Ar106 q106 Sz106 Nn106 Hs106 G106 rfl W106 0 rfl (Nat.le_of_ble_eq_true rfl)
        have N106 := Fr.snoc X106 N0 g_r2
        have f107 : Exa Z h106 ra "querymill/regex/CodePointRuns" := P0.wr W106
        have f108 : Fld Z h106 ra "querymill/regex/CodePointRuns" "size" "I" (.int (1 : Int32)) := P1.other W106 (Or.inl ne_ra_r2)
        have f109 : Fld Z h106 ra "querymill/regex/CodePointRuns" "length" "J" (.long ln) := P2.other W106 (Or.inl ne_ra_r2)
        have f110 : Fld Z h106 ra "querymill/regex/CodePointRuns" "sets" "[I" (.ref r1) := P3.other W106 (Or.inl ne_ra_r2)
        have f111 : Fld Z h106 ra "querymill/regex/CodePointRuns" "counts" "[J" (.ref r2) := P4.other W106 (Or.inl ne_ra_r2)
        have f112 : Fld Z h106 ra "querymill/regex/CodePointRuns" "starts" "[J" (.ref r3) := P5.other W106 (Or.inl ne_ra_r2)
        have f113 : Arv Z h106 r1 k1 .int (4 : Int32) [(.int s0), (.int s1), (.int (0 : Int32)), (.int (0 : Int32))] (.int (0 : Int32)) := P6.other W106 ne_r1_r2
        have f114 : Arv Z h106 r3 k3 .long (4 : Int32) [(.long t0), (.long t1), (.long (0 : Int64)), (.long (0 : Int64))] (.long (0 : Int64)) := P8.other W106 (Ne.symm ne_r2_r3)
        have z115 : n0 ≤ h106.size := Nat.le_trans Z0 (Keep.of_wr W106).1
        have K116 : Keep h0 h106 [ra, r1, r2, r3] := K0.wr W106 (Or.inl (List.mem_of_getElem? (i := 2) rfl))
        have sg117 : ∀ t, Steps p.tables e below (T106.setTop (mkF m 114 #[.val (.ref ra), .val (.int xx), .val (.long nn), .second] [(.ref ra), (.ref ra)])) t → Steps p.tables e below (T106.setTop (mkF m 44 #[.val (.ref ra), .val (.int xx), .val (.long nn), .second] [])) t := by
          intro t k
          show Steps p.tables e below (T106.setTop (mkF m 44 #[.val (.ref ra), .val (.int xx), .val (.long nn), .second] [])) _
          refine XS.goto X106.here hx rfl (pc0 := 44) (pc' := 112) rfl (hb hby d3_44) (by decide) (by decide) ?_
          show Steps p.tables e below (T106.setTop (mkF m 112 #[.val (.ref ra), .val (.int xx), .val (.long nn), .second] [])) _
          refine XS.aloadN X106.here hx rfl (hb hby d3_112) rfl rfl ?_
          show Steps p.tables e below (T106.setTop (mkF m 113 #[.val (.ref ra), .val (.int xx), .val (.long nn), .second] [(.ref ra)])) _
          refine XS.dup X106.here hx rfl (hb hby d3_113) rfl rfl ?_
          exact k
        obtain ⟨T118, X118, e118, st118⟩ := getF X106 hx hZ hown (host := "") (Or.inl (hw _ (List.mem_of_getElem? (i := 25) rfl))) Via.refl e106 f109 (g := (mkF m 114 #[.val (.ref ra), .val (.int xx), .val (.long nn), .second] [(.ref ra), (.ref ra)])) rfl rfl (hb hby d3_114)
        have sg119 : ∀ t, Steps p.tables e below (T118.setTop (mkF m 119 #[.val (.ref ra), .val (.int xx), .val (.long nn), .second] [(.long (ln + nn)), (.ref ra)])) t → Steps p.tables e below (T118.setTop (mkF m 117 #[.val (.ref ra), .val (.int xx), .val (.long nn), .second] [(.long ln), (.ref ra)])) t := by
          intro t k
          show Steps p.tables e below (T118.setTop (mkF m 117 #[.val (.ref ra), .val (.int xx), .val (.long nn), .second] [(.long ln), (.ref ra)])) _
          refine XS.lloadN X118.here hx rfl (hb hby d3_117) rfl ?_
          show Steps p.tables e below (T118.setTop (mkF m 118 #[.val (.ref ra), .val (.int xx), .val (.long nn), .second] [(.long nn), (.long ln), (.ref ra)])) _
          refine XS.ladd X118.here hx rfl (hb hby d3_118) rfl ?_
          exact k
        obtain ⟨T120, h120, X120, e120, W120, st120⟩ := putF X118 hx hZ hown (host := "") (Or.inl (hw _ (List.mem_of_getElem? (i := 25) rfl))) Via.refl e118 f109 f107 (Or.inl (hw _ (List.mem_of_getElem? (i := 26) rfl))) (hw _ (List.mem_of_getElem? (i := 4) rfl)) (ty := .long) (by decide) rfl rfl (g := (mkF m 119 #[.val (.ref ra), .val (.int xx), .val (.long nn), .second] [(.long (ln + nn)), (.ref ra)])) rfl rfl (hb hby d3_119)
        have N120 := Fr.snoc X120 N106 g_ra
        have f121 : Exa Z h120 ra "querymill/regex/CodePointRuns" := f107.wr W120
        have f122 : Fld Z h120 ra "querymill/regex/CodePointRuns" "size" "I" (.int (1 : Int32)) := f108.other W120 (Or.inr (slot_ne (Or.inl (hw _ (List.mem_of_getElem? (i := 24) rfl))) (Or.inl (hw _ (List.mem_of_getElem? (i := 26) rfl))) (by decide) (t := .int) (t' := .long) (by decide) (by decide)))
        have f123 : Fld Z h120 ra "querymill/regex/CodePointRuns" "sets" "[I" (.ref r1) := f110.other W120 (Or.inr (slot_ne (Or.inl (hw _ (List.mem_of_getElem? (i := 13) rfl))) (Or.inl (hw _ (List.mem_of_getElem? (i := 26) rfl))) (by decide) (t := (.array .int)) (t' := .long) (by decide) (by decide)))
        have f124 : Fld Z h120 ra "querymill/regex/CodePointRuns" "counts" "[J" (.ref r2) := f111.other W120 (Or.inr (slot_ne (Or.inl (hw _ (List.mem_of_getElem? (i := 15) rfl))) (Or.inl (hw _ (List.mem_of_getElem? (i := 26) rfl))) (by decide) (t := (.array .long)) (t' := .long) (by decide) (by decide)))
        have f125 : Fld Z h120 ra "querymill/regex/CodePointRuns" "starts" "[J" (.ref r3) := f112.other W120 (Or.inr (slot_ne (Or.inl (hw _ (List.mem_of_getElem? (i := 17) rfl))) (Or.inl (hw _ (List.mem_of_getElem? (i := 26) rfl))) (by decide) (t := (.array .long)) (t' := .long) (by decide) (by decide)))
        have f126 : Arv Z h120 r1 k1 .int (4 : Int32) [(.int s0), (.int s1), (.int (0 : Int32)), (.int (0 : Int32))] (.int (0 : Int32)) := f113.other W120 (Ne.symm ne_ra_r1)
        have f127 : Arv Z h120 r3 k3 .long (4 : Int32) [(.long t0), (.long t1), (.long (0 : Int64)), (.long (0 : Int64))] (.long (0 : Int64)) := f114.other W120 (Ne.symm ne_ra_r3)
        have f128 : Arv Z h120 r2 k2 .long (4 : Int32) [(.long (c0 + nn)), (.long c1), (.long (0 : Int64)), (.long (0 : Int64))] (.long (0 : Int64)) := V106.other W120 (Ne.symm ne_ra_r2)
        have z129 : n0 ≤ h120.size := Nat.le_trans z115 (Keep.of_wr W120).1
        have K130 : Keep h0 h120 [ra, r1, r2, r3] := K116.wr W120 (Or.inl (List.mem_of_getElem? (i := 0) rfl))
        have f131 : Fld Z h120 ra "querymill/regex/CodePointRuns" "length" "J" (.long (ln + nn)) := f109.same W120
        obtain ⟨fs, hr, hrun, hended, hW, hsame⟩ := X120.leave (v := none) (fun _ => rfl) (hlocks := hlk)
        refine ⟨_, _, pre0 _ ?_, hrun, hended, _, _, rfl, ?_, ⟨_, rfl⟩, hW, hsame.mono (by decide) (by decide)⟩
        · show Steps p.tables e below (s₁.setTop (mkF m 0 #[.val (.ref ra), .val (.int xx), .val (.long nn), .second] [])) _
          refine ch98 _ ?_
          show Steps p.tables e below (T94.setTop (mkF m 26 #[.val (.ref ra), .val (.int xx), .val (.long nn), .second] [(.int xx), (.int s0)])) _
          refine sgf26 _ ?_
          show Steps p.tables e below (T94.setTop (mkF m 29 #[.val (.ref ra), .val (.int xx), .val (.long nn), .second] [])) _
          refine sg99 _ ?_
          show Steps p.tables e below (T94.setTop (mkF m 30 #[.val (.ref ra), .val (.int xx), .val (.long nn), .second] [(.ref ra)])) _
          refine st100 _ ?_
          show Steps p.tables e below (T100.setTop (mkF m 33 #[.val (.ref ra), .val (.int xx), .val (.long nn), .second] [(.ref r2)])) _
          refine sg101 _ ?_
          show Steps p.tables e below (T100.setTop (mkF m 34 #[.val (.ref ra), .val (.int xx), .val (.long nn), .second] [(.ref ra), (.ref r2)])) _
          refine st102 _ ?_
          show Steps p.tables e below (T102.setTop (mkF m 37 #[.val (.ref ra), .val (.int xx), .val (.long nn), .second] [(.int (1 : Int32)), (.ref r2)])) _
          refine sg103 _ ?_
          show Steps p.tables e below (T102.setTop (mkF m 40 #[.val (.ref ra), .val (.int xx), .val (.long nn), .second] [(.int (0 : Int32)), (.ref r2), (.int (0 : Int32)), (.ref r2)])) _
          refine st104 _ ?_
          show Steps p.tables e below (T102.setTop (mkF m 41 #[.val (.ref ra), .val (.int xx), .val (.long nn), .second] [(.long c0), (.int (0 : Int32)), (.ref r2)])) _
          refine sg105 _ ?_
          show Steps p.tables e below (T102.setTop (mkF m 43 #[.val (.ref ra), .val (.int xx), .val (.long nn), .second] [(.long (c0 + nn)), (.int (0 : Int32)), (.ref r2)])) _
          refine st106 _ ?_
          show Steps p.tables e below (T106.setTop (mkF m 44 #[.val (.ref ra), .val (.int xx), .val (.long nn), .second] [])) _
          refine sg117 _ ?_
          show Steps p.tables e below (T106.setTop (mkF m 114 #[.val (.ref ra), .val (.int xx), .val (.long nn), .second] [(.ref ra), (.ref ra)])) _
          refine st118 _ ?_
          show Steps p.tables e below (T118.setTop (mkF m 117 #[.val (.ref ra), .val (.int xx), .val (.long nn), .second] [(.long ln), (.ref ra)])) _
          refine sg119 _ ?_
          show Steps p.tables e below (T118.setTop (mkF m 119 #[.val (.ref ra), .val (.int xx), .val (.long nn), .second] [(.long (ln + nn)), (.ref ra)])) _
          refine st120 _ ?_
          show Steps p.tables e below (T120.setTop (mkF m 122 #[.val (.ref ra), .val (.int xx), .val (.long nn), .second] [])) _
          exact X120.returnOut hx Bd.returns (hb hby d3_122) hr
        · show Q_rmA Z ra xx nn r1 r2 r3 k1 k2 k3 (1 : Int32) s0 s1 c0 c1 t0 t1 ln h0 n0 _ T120.heap _
          rw [e120]
          exact ⟨(1 : Int32), s0, s1, (c0 + nn), c1, t0, t1, (ln + nn), rfl, N120, K130, f122, f131, f123, f124, f125, f126, f128, f127, (Or.inr (Or.inr (Or.inl ⟨hc3, rfl, hc26, rfl, rfl, rfl⟩)))⟩
      · have sgf26 : ∀ t, Steps p.tables e below (T94.setTop (mkF m 47 #[.val (.ref ra), .val (.int xx), .val (.long nn), .second] [])) t → Steps p.tables e below (T94.setTop (mkF m 26 #[.val (.ref ra), .val (.int xx), .val (.long nn), .second] [(.int xx), (.int s0)])) t := fun t k => by
          refine XS.icmpYes X94.here hx rfl (pc0 := 26) (pc' := 47) rfl (hb hby d3_26) rfl (feq hc26).2 (by decide) (by decide) ?_
          exact k
        have sg132 : ∀ t, Steps p.tables e below (T94.setTop (mkF m 48 #[.val (.ref ra), .val (.int xx), .val (.long nn), .second] [(.ref ra)])) t → Steps p.tables e below (T94.setTop (mkF m 47 #[.val (.ref ra), .val (.int xx), .val (.long nn), .second] [])) t := by
          intro t k
          show Steps p.tables e below (T94.setTop (mkF m 47 #[.val (.ref ra), .val (.int xx), .val (.long nn), .second] [])) _
          refine XS.aloadN X94.here hx rfl (hb hby d3_47) rfl rfl ?_
          exact k
        obtain ⟨T133, X133, e133, st133⟩ := getF X94 hx hZ hown (host := "") (Or.inl (hw _ (List.mem_of_getElem? (i := 23) rfl))) Via.refl e94 P1 (g := (mkF m 48 #[.val (.ref ra), .val (.int xx), .val (.long nn), .second] [(.ref ra)])) rfl rfl (hb hby d3_48)
        have sg134 : ∀ t, Steps p.tables e below (T133.setTop (mkF m 52 #[.val (.ref ra), .val (.int xx), .val (.long nn), .second] [(.ref ra), (.int (1 : Int32))])) t → Steps p.tables e below (T133.setTop (mkF m 51 #[.val (.ref ra), .val (.int xx), .val (.long nn), .second] [(.int (1 : Int32))])) t := by
          intro t k
          show Steps p.tables e below (T133.setTop (mkF m 51 #[.val (.ref ra), .val (.int xx), .val (.long nn), .second] [(.int (1 : Int32))])) _
          refine XS.aloadN X133.here hx rfl (hb hby d3_51) rfl rfl ?_
          exact k
        obtain ⟨T135, X135, e135, st135⟩ := getF X133 hx hZ hown (host := "") (Or.inl (hw _ (List.mem_of_getElem? (i := 12) rfl))) Via.refl e133 P3 (g := (mkF m 52 #[.val (.ref ra), .val (.int xx), .val (.long nn), .second] [(.ref ra), (.int (1 : Int32))])) rfl rfl (hb hby d3_52)
        obtain ⟨cl136, Ar136, q136, Sz136, Nn136, Hs136, G136⟩ := id P6
        have st136 : ∀ t, Steps p.tables e below (T135.setTop (mkF m 56 #[.val (.ref ra), .val (.int xx), .val (.long nn), .second] [(.int (4 : Int32)), (.int (1 : Int32))])) t → Steps p.tables e below (T135.setTop (mkF m 55 #[.val (.ref ra), .val (.int xx), .val (.long nn), .second] [(.ref r1), (.int (1 : Int32))])) t := by
          intro t k
          refine X135.arraylength hx (by rw [e135]; exact Ar136.1) (State.isArrayOf_alike hZ.alike Ar136.2.1) (g := (mkF m 55 #[.val (.ref ra), .val (.int xx), .val (.long nn), .second] [(.ref r1), (.int (1 : Int32))])) rfl rfl (hb hby d3_55) _ ?_
          rw [len_of Sz136 Nn136]
          exact k
        have sg137 : ∀ t, Steps p.tables e below (T135.setTop (mkF m 70 #[.val (.ref ra), .val (.int xx), .val (.long nn), .second] [(.ref ra)])) t → Steps p.tables e below (T135.setTop (mkF m 56 #[.val (.ref ra), .val (.int xx), .val (.long nn), .second] [(.int (4 : Int32)), (.int (1 : Int32))])) t := by
          intro t k
          show Steps p.tables e below (T135.setTop (mkF m 56 #[.val (.ref ra), .val (.int xx), .val (.long nn), .second] [(.int (4 : Int32)), (.int (1 : Int32))])) _
          refine XS.icmpYes X135.here hx rfl (pc0 := 56) (pc' := 69) rfl (hb hby d3_56) rfl (feq (by decide : ¬ ((1 : Int32) = (4 : Int32)))).2 (by decide) (by decide) ?_
          show Steps p.tables e below (T135.setTop (mkF m 69 #[.val (.ref ra), .val (.int xx), .val (.long nn), .second] [])) _
          refine XS.aloadN X135.here hx rfl (hb hby d3_69) rfl rfl ?_
          exact k
        obtain ⟨T138, X138, e138, st138⟩ := getF X135 hx hZ hown (host := "") (Or.inl (hw _ (List.mem_of_getElem? (i := 12) rfl))) Via.refl e135 P3 (g := (mkF m 70 #[.val (.ref ra), .val (.int xx), .val (.long nn), .second] [(.ref ra)])) rfl rfl (hb hby d3_70)
        have sg139 : ∀ t, Steps p.tables e below (T138.setTop (mkF m 74 #[.val (.ref ra), .val (.int xx), .val (.long nn), .second] [(.ref ra), (.ref r1)])) t → Steps p.tables e below (T138.setTop (mkF m 73 #[.val (.ref ra), .val (.int xx), .val (.long nn), .second] [(.ref r1)])) t := by
          intro t k
          show Steps p.tables e below (T138.setTop (mkF m 73 #[.val (.ref ra), .val (.int xx), .val (.long nn), .second] [(.ref r1)])) _
          refine XS.aloadN X138.here hx rfl (hb hby d3_73) rfl rfl ?_
          exact k
        obtain ⟨T140, X140, e140, st140⟩ := getF X138 hx hZ hown (host := "") (Or.inl (hw _ (List.mem_of_getElem? (i := 23) rfl))) Via.refl e138 P1 (g := (mkF m 74 #[.val (.ref ra), .val (.int xx), .val (.long nn), .second] [(.ref ra), (.ref r1)])) rfl rfl (hb hby d3_74)
        have sg141 : ∀ t, Steps p.tables e below (T140.setTop (mkF m 78 #[.val (.ref ra), .val (.int xx), .val (.long nn), .second] [(.int xx), (.int (1 : Int32)), (.ref r1)])) t → Steps p.tables e below (T140.setTop (mkF m 77 #[.val (.ref ra), .val (.int xx), .val (.long nn), .second] [(.int (1 : Int32)), (.ref r1)])) t := by
          intro t k
          show Steps p.tables e below (T140.setTop (mkF m 77 #[.val (.ref ra), .val (.int xx), .val (.long nn), .second] [(.int (1 : Int32)), (.ref r1)])) _
          refine XS.iloadN X140.here hx rfl (hb hby d3_77) rfl ?_
          exact k
        obtain ⟨cl142, Ar142, q142, Sz142, Nn142, Hs142, G142⟩ := id P6
        have hin142 : ¬ ((1 : Int32) < 0 ∨ cl142.slots.size ≤ ((1 : Int32)).toNatClampNeg) := inb_of Sz142 ⟨by decide, by decide⟩
        obtain ⟨T142, h142, X142, e142, W142, st142⟩ := stI X140 hx hZ e140 Ar142 (j := (1 : Int32)) hin142 (g := (mkF m 78 #[.val (.ref ra), .val (.int xx), .val (.long nn), .second] [(.int xx), (.int (1 : Int32)), (.ref r1)])) rfl rfl (hb hby d3_78)
        have V142 : Arv Z h142 r1 k1 .int (4 : Int32) [(.int s0), (.int xx), (.int (0 : Int32)), (.int (0 : Int32))] (.int (0 : Int32)) := Arv.set Ar142 q142 Sz142 Nn142 Hs142 G142 rfl W142 1 rfl (Nat.le_of_ble_eq_true rfl)
        have N142 := Fr.snoc X142 N0 g_r1
        have f143 : Exa Z h142 ra "querymill/regex/CodePointRuns" := P0.wr W142
        have f144 : Fld Z h142 ra "querymill/regex/CodePointRuns" "size" "I" (.int (1 : Int32)) := P1.other W142 (Or.inl ne_ra_r1)
        have f145 : Fld Z h142 ra "querymill/regex/CodePointRuns" "length" "J" (.long ln) := P2.other W142 (Or.inl ne_ra_r1)
        have f146 : Fld Z h142 ra "querymill/regex/CodePointRuns" "sets" "[I" (.ref r1) := P3.other W142 (Or.inl ne_ra_r1)
        have f147 : Fld Z h142 ra "querymill/regex/CodePointRuns" "counts" "[J" (.ref r2) := P4.other W142 (Or.inl ne_ra_r1)
        have f148 : Fld Z h142 ra "querymill/regex/CodePointRuns" "starts" "[J" (.ref r3) := P5.other W142 (Or.inl ne_ra_r1)
        have f149 : Arv Z h142 r2 k2 .long (4 : Int32) [(.long c0), (.long c1), (.long (0 : Int64)), (.long (0 : Int64))] (.long (0 : Int64)) := P7.other W142 (Ne.symm ne_r1_r2)
        have f150 : Arv Z h142 r3 k3 .long (4 : Int32) [(.long t0), (.long t1), (.long (0 : Int64)), (.long (0 : Int64))] (.long (0 : Int64)) := P8.other W142 (Ne.symm ne_r1_r3)
        have z151 : n0 ≤ h142.size := Nat.le_trans Z0 (Keep.of_wr W142).1
        have K152 : Keep h0 h142 [ra, r1, r2, r3] := K0.wr W142 (Or.inl (List.mem_of_getElem? (i := 1) rfl))
        have sg153 : ∀ t, Steps p.tables e below (T142.setTop (mkF m 80 #[.val (.ref ra), .val (.int xx), .val (.long nn), .second] [(.ref ra)])) t → Steps p.tables e below (T142.setTop (mkF m 79 #[.val (.ref ra), .val (.int xx), .val (.long nn), .second] [])) t := by
          intro t k
          show Steps p.tables e below (T142.setTop (mkF m 79 #[.val (.ref ra), .val (.int xx), .val (.long nn), .second] [])) _
          refine XS.aloadN X142.here hx rfl (hb hby d3_79) rfl rfl ?_
          exact k
        obtain ⟨T154, X154, e154, st154⟩ := getF X142 hx hZ hown (host := "") (Or.inl (hw _ (List.mem_of_getElem? (i := 14) rfl))) Via.refl e142 f147 (g := (mkF m 80 #[.val (.ref ra), .val (.int xx), .val (.long nn), .second] [(.ref ra)])) rfl rfl (hb hby d3_80)
        have sg155 : ∀ t, Steps p.tables e below (T154.setTop (mkF m 84 #[.val (.ref ra), .val (.int xx), .val (.long nn), .second] [(.ref ra), (.ref r2)])) t → Steps p.tables e below (T154.setTop (mkF m 83 #[.val (.ref ra), .val (.int xx), .val (.long nn), .second] [(.ref r2)])) t := by
          intro t k
          show Steps p.tables e below (T154.setTop (mkF m 83 #[.val (.ref ra), .val (.int xx), .val (.long nn), .second] [(.ref r2)])) _
          refine XS.aloadN X154.here hx rfl (hb hby d3_83) rfl rfl ?_
          exact k
        obtain ⟨T156, X156, e156, st156⟩ := getF X154 hx hZ hown (host := "") (Or.inl (hw _ (List.mem_of_getElem? (i := 23) rfl))) Via.refl e154 f144 (g := (mkF m 84 #[.val (.ref ra), .val (.int xx), .val (.long nn), .second] [(.ref ra), (.ref r2)])) rfl rfl (hb hby d3_84)
        have sg157 : ∀ t, Steps p.tables e below (T156.setTop (mkF m 88 #[.val (.ref ra), .val (.int xx), .val (.long nn), .second] [(.long nn), (.int (1 : Int32)), (.ref r2)])) t → Steps p.tables e below (T156.setTop (mkF m 87 #[.val (.ref ra), .val (.int xx), .val (.long nn), .second] [(.int (1 : Int32)), (.ref r2)])) t := by
          intro t k
          show Steps p.tables e below (T156.setTop (mkF m 87 #[.val (.ref ra), .val (.int xx), .val (.long nn), .second] [(.int (1 : Int32)), (.ref r2)])) _
          refine XS.lloadN X156.here hx rfl (hb hby d3_87) rfl ?_
          exact k
        obtain ⟨cl158, Ar158, q158, Sz158, Nn158, Hs158, G158⟩ := id f149
        have hin158 : ¬ ((1 : Int32) < 0 ∨ cl158.slots.size ≤ ((1 : Int32)).toNatClampNeg) := inb_of Sz158 ⟨by decide, by decide⟩
        obtain ⟨T158, h158, X158, e158, W158, st158⟩ := stJ X156 hx hZ e156 Ar158 (j := (1 : Int32)) hin158 (g := (mkF m 88 #[.val (.ref ra), .val (.int xx), .val (.long nn), .second] [(.long nn), (.int (1 : Int32)), (.ref r2)])) rfl rfl (hb hby d3_88)
        have V158 : Arv Z h158 r2 k2 .long (4 : Int32) [(.long c0), (.long nn), (.long (0 : Int64)), (.long (0 : Int64))] (.long (0 : Int64)) := Arv.set Ar158 q158 Sz158 Nn158 Hs158 G158 rfl W158 1 rfl (Nat.le_of_ble_eq_true rfl)
        have N158 := Fr.snoc X158 N142 g_r2
        have f159 : Exa Z h158 ra "querymill/regex/CodePointRuns" := f143.wr W158
        have f160 : Fld Z h158 ra "querymill/regex/CodePointRuns" "size" "I" (.int (1 : Int32)) := f144.other W158 (Or.inl ne_ra_r2)
        have f161 : Fld Z h158 ra "querymill/regex/CodePointRuns" "length" "J" (.long ln) := f145.other W158 (Or.inl ne_ra_r2)
        have f162 : Fld Z h158 ra "querymill/regex/CodePointRuns" "sets" "[I" (.ref r1) := f146.other W158 (Or.inl ne_ra_r2)
        have f163 : Fld Z h158 ra "querymill/regex/CodePointRuns" "counts" "[J" (.ref r2) := f147.other W158 (Or.inl ne_ra_r2)
        have f164 : Fld Z h158 ra "querymill/regex/CodePointRuns" "starts" "[J" (.ref r3) := f148.other W158 (Or.inl ne_ra_r2)
        have f165 : Arv Z h158 r3 k3 .long (4 : Int32) [(.long t0), (.long t1), (.long (0 : Int64)), (.long (0 : Int64))] (.long (0 : Int64)) := f150.other W158 (Ne.symm ne_r2_r3)
        have f166 : Arv Z h158 r1 k1 .int (4 : Int32) [(.int s0), (.int xx), (.int (0 : Int32)), (.int (0 : Int32))] (.int (0 : Int32)) := V142.other W158 ne_r1_r2
        have z167 : n0 ≤ h158.size := Nat.le_trans z151 (Keep.of_wr W158).1
        have K168 : Keep h0 h158 [ra, r1, r2, r3] := K152.wr W158 (Or.inl (List.mem_of_getElem? (i := 2) rfl))
        have sg169 : ∀ t, Steps p.tables e below (T158.setTop (mkF m 90 #[.val (.ref ra), .val (.int xx), .val (.long nn), .second] [(.ref ra)])) t → Steps p.tables e below (T158.setTop (mkF m 89 #[.val (.ref ra), .val (.int xx), .val (.long nn), .second] [])) t := by
          intro t k
          show Steps p.tables e below (T158.setTop (mkF m 89 #[.val (.ref ra), .val (.int xx), .val (.long nn), .second] [])) _
          refine XS.aloadN X158.here hx rfl (hb hby d3_89) rfl rfl ?_
          exact k
        obtain ⟨T170, X170, e170, st170⟩ := getF X158 hx hZ hown (host := "") (Or.inl (hw _ (List.mem_of_getElem? (i := 16) rfl))) Via.refl e158 f164 (g := (mkF m 90 #[.val (.ref ra), .val (.int xx), .val (.long nn), .second] [(.ref ra)])) rfl rfl (hb hby d3_90)
        have sg171 : ∀ t, Steps p.tables e below (T170.setTop (mkF m 94 #[.val (.ref ra), .val (.int xx), .val (.long nn), .second] [(.ref ra), (.ref r3)])) t → Steps p.tables e below (T170.setTop (mkF m 93 #[.val (.ref ra), .val (.int xx), .val (.long nn), .second] [(.ref r3)])) t := by
          intro t k
          show Steps p.tables e below (T170.setTop (mkF m 93 #[.val (.ref ra), .val (.int xx), .val (.long nn), .second] [(.ref r3)])) _
          refine XS.aloadN X170.here hx rfl (hb hby d3_93) rfl rfl ?_
          exact k
        obtain ⟨T172, X172, e172, st172⟩ := getF X170 hx hZ hown (host := "") (Or.inl (hw _ (List.mem_of_getElem? (i := 23) rfl))) Via.refl e170 f160 (g := (mkF m 94 #[.val (.ref ra), .val (.int xx), .val (.long nn), .second] [(.ref ra), (.ref r3)])) rfl rfl (hb hby d3_94)
        have sg173 : ∀ t, Steps p.tables e below (T172.setTop (mkF m 98 #[.val (.ref ra), .val (.int xx), .val (.long nn), .second] [(.ref ra), (.int (1 : Int32)), (.ref r3)])) t → Steps p.tables e below (T172.setTop (mkF m 97 #[.val (.ref ra), .val (.int xx), .val (.long nn), .second] [(.int (1 : Int32)), (.ref r3)])) t := by
          intro t k
          show Steps p.tables e below (T172.setTop (mkF m 97 #[.val (.ref ra), .val (.int xx), .val (.long nn), .second] [(.int (1 : Int32)), (.ref r3)])) _
          refine XS.aloadN X172.here hx rfl (hb hby d3_97) rfl rfl ?_
          exact k
        obtain ⟨T174, X174, e174, st174⟩ := getF X172 hx hZ hown (host := "") (Or.inl (hw _ (List.mem_of_getElem? (i := 25) rfl))) Via.refl e172 f161 (g := (mkF m 98 #[.val (.ref ra), .val (.int xx), .val (.long nn), .second] [(.ref ra), (.int (1 : Int32)), (.ref r3)])) rfl rfl (hb hby d3_98)
        obtain ⟨cl175, Ar175, q175, Sz175, Nn175, Hs175, G175⟩ := id f165
        have hin175 : ¬ ((1 : Int32) < 0 ∨ cl175.slots.size ≤ ((1 : Int32)).toNatClampNeg) := inb_of Sz175 ⟨by decide, by decide⟩
        obtain ⟨T175, h175, X175, e175, W175, st175⟩ := stJ X174 hx hZ e174 Ar175 (j := (1 : Int32)) hin175 (g := (mkF m 101 #[.val (.ref ra), .val (.int xx), .val (.long nn), .second] [(.long ln), (.int (1 : Int32)), (.ref r3)])) rfl rfl (hb hby d3_101)
        have V175 : Arv Z h175 r3 k3 .long (4 : Int32) [(.long t0), (.long ln), (.long (0 : Int64)), (.long (0 : Int64))] (.long (0 : Int64)) := Arv.set Ar175 q175 Sz175 Nn175 Hs175 G175 rfl W175 1 rfl (Nat.le_of_ble_eq_true rfl)
        have N175 := Fr.snoc X175 N158 g_r3
        have f176 : Exa Z h175 ra "querymill/regex/CodePointRuns" := f159.wr W175
        have f177 : Fld Z h175 ra "querymill/regex/CodePointRuns" "size" "I" (.int (1 : Int32)) := f160.other W175 (Or.inl ne_ra_r3)
        have f178 : Fld Z h175 ra "querymill/regex/CodePointRuns" "length" "J" (.long ln) := f161.other W175 (Or.inl ne_ra_r3)
        have f179 : Fld Z h175 ra "querymill/regex/CodePointRuns" "sets" "[I" (.ref r1) := f162.other W175 (Or.inl ne_ra_r3)
        have f180 : Fld Z h175 ra "querymill/regex/CodePointRuns" "counts" "[J" (.ref r2) := f163.other W175 (Or.inl ne_ra_r3)
        have f181 : Fld Z h175 ra "querymill/regex/CodePointRuns" "starts" "[J" (.ref r3) := f164.other W175 (Or.inl ne_ra_r3)
        have f182 : Arv Z h175 r1 k1 .int (4 : Int32) [(.int s0), (.int xx), (.int (0 : Int32)), (.int (0 : Int32))] (.int (0 : Int32)) := f166.other W175 ne_r1_r3
        have f183 : Arv Z h175 r2 k2 .long (4 : Int32) [(.long c0), (.long nn), (.long (0 : Int64)), (.long (0 : Int64))] (.long (0 : Int64)) := V158.other W175 ne_r2_r3
        have z184 : n0 ≤ h175.size := Nat.le_trans z167 (Keep.of_wr W175).1
        have K185 : Keep h0 h175 [ra, r1, r2, r3] := K168.wr W175 (Or.inl (List.mem_of_getElem? (i := 3) rfl))
        have sg186 : ∀ t, Steps p.tables e below (T175.setTop (mkF m 104 #[.val (.ref ra), .val (.int xx), .val (.long nn), .second] [(.ref ra), (.ref ra)])) t → Steps p.tables e below (T175.setTop (mkF m 102 #[.val (.ref ra), .val (.int xx), .val (.long nn), .second] [])) t := by
          intro t k
          show Steps p.tables e below (T175.setTop (mkF m 102 #[.val (.ref ra), .val (.int xx), .val (.long nn), .second] [])) _
          refine XS.aloadN X175.here hx rfl (hb hby d3_102) rfl rfl ?_
          show Steps p.tables e below (T175.setTop (mkF m 103 #[.val (.ref ra), .val (.int xx), .val (.long nn), .second] [(.ref ra)])) _
          refine XS.dup X175.here hx rfl (hb hby d3_103) rfl rfl ?_
          exact k
        obtain ⟨T187, X187, e187, st187⟩ := getF X175 hx hZ hown (host := "") (Or.inl (hw _ (List.mem_of_getElem? (i := 23) rfl))) Via.refl e175 f177 (g := (mkF m 104 #[.val (.ref ra), .val (.int xx), .val (.long nn), .second] [(.ref ra), (.ref ra)])) rfl rfl (hb hby d3_104)
        have sg188 : ∀ t, Steps p.tables e below (T187.setTop (mkF m 109 #[.val (.ref ra), .val (.int xx), .val (.long nn), .second] [(.int (2 : Int32)), (.ref ra)])) t → Steps p.tables e below (T187.setTop (mkF m 107 #[.val (.ref ra), .val (.int xx), .val (.long nn), .second] [(.int (1 : Int32)), (.ref ra)])) t := by
          intro t k
          show Steps p.tables e below (T187.setTop (mkF m 107 #[.val (.ref ra), .val (.int xx), .val (.long nn), .second] [(.int (1 : Int32)), (.ref ra)])) _
          refine XS.iconst X187.here hx rfl (hb hby d3_107) ?_
          show Steps p.tables e below (T187.setTop (mkF m 108 #[.val (.ref ra), .val (.int xx), .val (.long nn), .second] [(.int (1 : Int32)), (.int (1 : Int32)), (.ref ra)])) _
          refine XS.iadd X187.here hx rfl (hb hby d3_108) rfl ?_
          exact k
        obtain ⟨T189, h189, X189, e189, W189, st189⟩ := putF X187 hx hZ hown (host := "") (Or.inl (hw _ (List.mem_of_getElem? (i := 23) rfl))) Via.refl e187 f177 f176 (Or.inl (hw _ (List.mem_of_getElem? (i := 24) rfl))) (hw _ (List.mem_of_getElem? (i := 4) rfl)) (ty := .int) (by decide) rfl rfl (g := (mkF m 109 #[.val (.ref ra), .val (.int xx), .val (.long nn), .second] [(.int (2 : Int32)), (.ref ra)])) rfl rfl (hb hby d3_109)
        have N189 := Fr.snoc X189 N175 g_ra
        have f190 : Exa Z h189 ra "querymill/regex/CodePointRuns" := f176.wr W189
        have f191 : Fld Z h189 ra "querymill/regex/CodePointRuns" "length" "J" (.long ln) := f178.other W189 (Or.inr (slot_ne (Or.inl (hw _ (List.mem_of_getElem? (i := 26) rfl))) (Or.inl (hw _ (List.mem_of_getElem? (i := 24) rfl))) (by decide) (t := .long) (t' := .int) (by decide) (by decide)))
        have f192 : Fld Z h189 ra "querymill/regex/CodePointRuns" "sets" "[I" (.ref r1) := f179.other W189 (Or.inr (slot_ne (Or.inl (hw _ (List.mem_of_getElem? (i := 13) rfl))) (Or.inl (hw _ (List.mem_of_getElem? (i := 24) rfl))) (by decide) (t := (.array .int)) (t' := .int) (by decide) (by decide)))
        have f193 : Fld Z h189 ra "querymill/regex/CodePointRuns" "counts" "[J" (.ref r2) := f180.other W189 (Or.inr (slot_ne (Or.inl (hw _ (List.mem_of_getElem? (i := 15) rfl))) (Or.inl (hw _ (List.mem_of_getElem? (i := 24) rfl))) (by decide) (t := (.array .long)) (t' := .int) (by decide) (by decide)))
        have f194 : Fld Z h189 ra "querymill/regex/CodePointRuns" "starts" "[J" (.ref r3) := f181.other W189 (Or.inr (slot_ne (Or.inl (hw _ (List.mem_of_getElem? (i := 17) rfl))) (Or.inl (hw _ (List.mem_of_getElem? (i := 24) rfl))) (by decide) (t := (.array .long)) (t' := .int) (by decide) (by decide)))
        have f195 : Arv Z h189 r1 k1 .int (4 : Int32) [(.int s0), (.int xx), (.int (0 : Int32)), (.int (0 : Int32))] (.int (0 : Int32)) := f182.other W189 (Ne.symm ne_ra_r1)
        have f196 : Arv Z h189 r2 k2 .long (4 : Int32) [(.long c0), (.long nn), (.long (0 : Int64)), (.long (0 : Int64))] (.long (0 : Int64)) := f183.other W189 (Ne.symm ne_ra_r2)
        have f197 : Arv Z h189 r3 k3 .long (4 : Int32) [(.long t0), (.long ln), (.long (0 : Int64)), (.long (0 : Int64))] (.long (0 : Int64)) := V175.other W189 (Ne.symm ne_ra_r3)
        have z198 : n0 ≤ h189.size := Nat.le_trans z184 (Keep.of_wr W189).1
        have K199 : Keep h0 h189 [ra, r1, r2, r3] := K185.wr W189 (Or.inl (List.mem_of_getElem? (i := 0) rfl))
        have f200 : Fld Z h189 ra "querymill/regex/CodePointRuns" "size" "I" (.int (2 : Int32)) := f177.same W189
        have sg201 : ∀ t, Steps p.tables e below (T189.setTop (mkF m 114 #[.val (.ref ra), .val (.int xx), .val (.long nn), .second] [(.ref ra), (.ref ra)])) t → Steps p.tables e below (T189.setTop (mkF m 112 #[.val (.ref ra), .val (.int xx), .val (.long nn), .second] [])) t := by
          intro t k
          show Steps p.tables e below (T189.setTop (mkF m 112 #[.val (.ref ra), .val (.int xx), .val (.long nn), .second] [])) _
          refine XS.aloadN X189.here hx rfl (hb hby d3_112) rfl rfl ?_
          show Steps p.tables e below (T189.setTop (mkF m 113 #[.val (.ref ra), .val (.int xx), .val (.long nn), .second] [(.ref ra)])) _
          refine XS.dup X189.here hx rfl (hb hby d3_113) rfl rfl ?_
          exact k
        obtain ⟨T202, X202, e202, st202⟩ := getF X189 hx hZ hown (host := "") (Or.inl (hw _ (List.mem_of_getElem? (i := 25) rfl))) Via.refl e189 f191 (g := (mkF m 114 #[.val (.ref ra), .val (.int xx), .val (.long nn), .second] [(.ref ra), (.ref ra)])) rfl rfl (hb hby d3_114)
        have sg203 : ∀ t, Steps p.tables e below (T202.setTop (mkF m 119 #[.val (.ref ra), .val (.int xx), .val (.long nn), .second] [(.long (ln + nn)), (.ref ra)])) t → Steps p.tables e below (T202.setTop (mkF m 117 #[.val (.ref ra), .val (.int xx), .val (.long nn), .second] [(.long ln), (.ref ra)])) t := by
          intro t k
          show Steps p.tables e below (T202.setTop (mkF m 117 #[.val (.ref ra), .val (.int xx), .val (.long nn), .second] [(.long ln), (.ref ra)])) _
          refine XS.lloadN X202.here hx rfl (hb hby d3_117) rfl ?_
          show Steps p.tables e below (T202.setTop (mkF m 118 #[.val (.ref ra), .val (.int xx), .val (.long nn), .second] [(.long nn), (.long ln), (.ref ra)])) _
          refine XS.ladd X202.here hx rfl (hb hby d3_118) rfl ?_
          exact k
        obtain ⟨T204, h204, X204, e204, W204, st204⟩ := putF X202 hx hZ hown (host := "") (Or.inl (hw _ (List.mem_of_getElem? (i := 25) rfl))) Via.refl e202 f191 f190 (Or.inl (hw _ (List.mem_of_getElem? (i := 26) rfl))) (hw _ (List.mem_of_getElem? (i := 4) rfl)) (ty := .long) (by decide) rfl rfl (g := (mkF m 119 #[.val (.ref ra), .val (.int xx), .val (.long nn), .second] [(.long (ln + nn)), (.ref ra)])) rfl rfl (hb hby d3_119)
        have N204 := Fr.snoc X204 N189 g_ra
        have f205 : Exa Z h204 ra "querymill/regex/CodePointRuns" := f190.wr W204
        have f206 : Fld Z h204 ra "querymill/regex/CodePointRuns" "sets" "[I" (.ref r1) := f192.other W204 (Or.inr (slot_ne (Or.inl (hw _ (List.mem_of_getElem? (i := 13) rfl))) (Or.inl (hw _ (List.mem_of_getElem? (i := 26) rfl))) (by decide) (t := (.array .int)) (t' := .long) (by decide) (by decide)))
        have f207 : Fld Z h204 ra "querymill/regex/CodePointRuns" "counts" "[J" (.ref r2) := f193.other W204 (Or.inr (slot_ne (Or.inl (hw _ (List.mem_of_getElem? (i := 15) rfl))) (Or.inl (hw _ (List.mem_of_getElem? (i := 26) rfl))) (by decide) (t := (.array .long)) (t' := .long) (by decide) (by decide)))
        have f208 : Fld Z h204 ra "querymill/regex/CodePointRuns" "starts" "[J" (.ref r3) := f194.other W204 (Or.inr (slot_ne (Or.inl (hw _ (List.mem_of_getElem? (i := 17) rfl))) (Or.inl (hw _ (List.mem_of_getElem? (i := 26) rfl))) (by decide) (t := (.array .long)) (t' := .long) (by decide) (by decide)))
        have f209 : Arv Z h204 r1 k1 .int (4 : Int32) [(.int s0), (.int xx), (.int (0 : Int32)), (.int (0 : Int32))] (.int (0 : Int32)) := f195.other W204 (Ne.symm ne_ra_r1)
        have f210 : Arv Z h204 r2 k2 .long (4 : Int32) [(.long c0), (.long nn), (.long (0 : Int64)), (.long (0 : Int64))] (.long (0 : Int64)) := f196.other W204 (Ne.symm ne_ra_r2)
        have f211 : Arv Z h204 r3 k3 .long (4 : Int32) [(.long t0), (.long ln), (.long (0 : Int64)), (.long (0 : Int64))] (.long (0 : Int64)) := f197.other W204 (Ne.symm ne_ra_r3)
        have f212 : Fld Z h204 ra "querymill/regex/CodePointRuns" "size" "I" (.int (2 : Int32)) := f200.other W204 (Or.inr (slot_ne (Or.inl (hw _ (List.mem_of_getElem? (i := 24) rfl))) (Or.inl (hw _ (List.mem_of_getElem? (i := 26) rfl))) (by decide) (t := .int) (t' := .long) (by decide) (by decide)))
        have z213 : n0 ≤ h204.size := Nat.le_trans z198 (Keep.of_wr W204).1
        have K214 : Keep h0 h204 [ra, r1, r2, r3] := K199.wr W204 (Or.inl (List.mem_of_getElem? (i := 0) rfl))
        have f215 : Fld Z h204 ra "querymill/regex/CodePointRuns" "length" "J" (.long (ln + nn)) := f191.same W204
        obtain ⟨fs, hr, hrun, hended, hW, hsame⟩ := X204.leave (v := none) (fun _ => rfl) (hlocks := hlk)
        refine ⟨_, _, pre0 _ ?_, hrun, hended, _, _, rfl, ?_, ⟨_, rfl⟩, hW, hsame.mono (by decide) (by decide)⟩
        · show Steps p.tables e below (s₁.setTop (mkF m 0 #[.val (.ref ra), .val (.int xx), .val (.long nn), .second] [])) _
          refine ch98 _ ?_
          show Steps p.tables e below (T94.setTop (mkF m 26 #[.val (.ref ra), .val (.int xx), .val (.long nn), .second] [(.int xx), (.int s0)])) _
          refine sgf26 _ ?_
          show Steps p.tables e below (T94.setTop (mkF m 47 #[.val (.ref ra), .val (.int xx), .val (.long nn), .second] [])) _
          refine sg132 _ ?_
          show Steps p.tables e below (T94.setTop (mkF m 48 #[.val (.ref ra), .val (.int xx), .val (.long nn), .second] [(.ref ra)])) _
          refine st133 _ ?_
          show Steps p.tables e below (T133.setTop (mkF m 51 #[.val (.ref ra), .val (.int xx), .val (.long nn), .second] [(.int (1 : Int32))])) _
          refine sg134 _ ?_
          show Steps p.tables e below (T133.setTop (mkF m 52 #[.val (.ref ra), .val (.int xx), .val (.long nn), .second] [(.ref ra), (.int (1 : Int32))])) _
          refine st135 _ ?_
          show Steps p.tables e below (T135.setTop (mkF m 55 #[.val (.ref ra), .val (.int xx), .val (.long nn), .second] [(.ref r1), (.int (1 : Int32))])) _
          refine st136 _ ?_
          show Steps p.tables e below (T135.setTop (mkF m 56 #[.val (.ref ra), .val (.int xx), .val (.long nn), .second] [(.int (4 : Int32)), (.int (1 : Int32))])) _
          refine sg137 _ ?_
          show Steps p.tables e below (T135.setTop (mkF m 70 #[.val (.ref ra), .val (.int xx), .val (.long nn), .second] [(.ref ra)])) _
          refine st138 _ ?_
          show Steps p.tables e below (T138.setTop (mkF m 73 #[.val (.ref ra), .val (.int xx), .val (.long nn), .second] [(.ref r1)])) _
          refine sg139 _ ?_
          show Steps p.tables e below (T138.setTop (mkF m 74 #[.val (.ref ra), .val (.int xx), .val (.long nn), .second] [(.ref ra), (.ref r1)])) _
          refine st140 _ ?_
          show Steps p.tables e below (T140.setTop (mkF m 77 #[.val (.ref ra), .val (.int xx), .val (.long nn), .second] [(.int (1 : Int32)), (.ref r1)])) _
          refine sg141 _ ?_
          show Steps p.tables e below (T140.setTop (mkF m 78 #[.val (.ref ra), .val (.int xx), .val (.long nn), .second] [(.int xx), (.int (1 : Int32)), (.ref r1)])) _
          refine st142 _ ?_
          show Steps p.tables e below (T142.setTop (mkF m 79 #[.val (.ref ra), .val (.int xx), .val (.long nn), .second] [])) _
          refine sg153 _ ?_
          show Steps p.tables e below (T142.setTop (mkF m 80 #[.val (.ref ra), .val (.int xx), .val (.long nn), .second] [(.ref ra)])) _
          refine st154 _ ?_
          show Steps p.tables e below (T154.setTop (mkF m 83 #[.val (.ref ra), .val (.int xx), .val (.long nn), .second] [(.ref r2)])) _
          refine sg155 _ ?_
          show Steps p.tables e below (T154.setTop (mkF m 84 #[.val (.ref ra), .val (.int xx), .val (.long nn), .second] [(.ref ra), (.ref r2)])) _
          refine st156 _ ?_
          show Steps p.tables e below (T156.setTop (mkF m 87 #[.val (.ref ra), .val (.int xx), .val (.long nn), .second] [(.int (1 : Int32)), (.ref r2)])) _
          refine sg157 _ ?_
          show Steps p.tables e below (T156.setTop (mkF m 88 #[.val (.ref ra), .val (.int xx), .val (.long nn), .second] [(.long nn), (.int (1 : Int32)), (.ref r2)])) _
          refine st158 _ ?_
          show Steps p.tables e below (T158.setTop (mkF m 89 #[.val (.ref ra), .val (.int xx), .val (.long nn), .second] [])) _
          refine sg169 _ ?_
          show Steps p.tables e below (T158.setTop (mkF m 90 #[.val (.ref ra), .val (.int xx), .val (.long nn), .second] [(.ref ra)])) _
          refine st170 _ ?_
          show Steps p.tables e below (T170.setTop (mkF m 93 #[.val (.ref ra), .val (.int xx), .val (.long nn), .second] [(.ref r3)])) _
          refine sg171 _ ?_
          show Steps p.tables e below (T170.setTop (mkF m 94 #[.val (.ref ra), .val (.int xx), .val (.long nn), .second] [(.ref ra), (.ref r3)])) _
          refine st172 _ ?_
          show Steps p.tables e below (T172.setTop (mkF m 97 #[.val (.ref ra), .val (.int xx), .val (.long nn), .second] [(.int (1 : Int32)), (.ref r3)])) _
          refine sg173 _ ?_
          show Steps p.tables e below (T172.setTop (mkF m 98 #[.val (.ref ra), .val (.int xx), .val (.long nn), .second] [(.ref ra), (.int (1 : Int32)), (.ref r3)])) _
          refine st174 _ ?_
          show Steps p.tables e below (T174.setTop (mkF m 101 #[.val (.ref ra), .val (.int xx), .val (.long nn), .second] [(.long ln), (.int (1 : Int32)), (.ref r3)])) _
          refine st175 _ ?_
          show Steps p.tables e below (T175.setTop (mkF m 102 #[.val (.ref ra), .val (.int xx), .val (.long nn), .second] [])) _
          refine sg186 _ ?_
          show Steps p.tables e below (T175.setTop (mkF m 104 #[.val (.ref ra), .val (.int xx), .val (.long nn), .second] [(.ref ra), (.ref ra)])) _
          refine st187 _ ?_
          show Steps p.tables e below (T187.setTop (mkF m 107 #[.val (.ref ra), .val (.int xx), .val (.long nn), .second] [(.int (1 : Int32)), (.ref ra)])) _
          refine sg188 _ ?_
          show Steps p.tables e below (T187.setTop (mkF m 109 #[.val (.ref ra), .val (.int xx), .val (.long nn), .second] [(.int (2 : Int32)), (.ref ra)])) _
          refine st189 _ ?_
          show Steps p.tables e below (T189.setTop (mkF m 112 #[.val (.ref ra), .val (.int xx), .val (.long nn), .second] [])) _
          refine sg201 _ ?_
          show Steps p.tables e below (T189.setTop (mkF m 114 #[.val (.ref ra), .val (.int xx), .val (.long nn), .second] [(.ref ra), (.ref ra)])) _
          refine st202 _ ?_
          show Steps p.tables e below (T202.setTop (mkF m 117 #[.val (.ref ra), .val (.int xx), .val (.long nn), .second] [(.long ln), (.ref ra)])) _
          refine sg203 _ ?_
          show Steps p.tables e below (T202.setTop (mkF m 119 #[.val (.ref ra), .val (.int xx), .val (.long nn), .second] [(.long (ln + nn)), (.ref ra)])) _
          refine st204 _ ?_
          show Steps p.tables e below (T204.setTop (mkF m 122 #[.val (.ref ra), .val (.int xx), .val (.long nn), .second] [])) _
          exact X204.returnOut hx Bd.returns (hb hby d3_122) hr
        · show Q_rmA Z ra xx nn r1 r2 r3 k1 k2 k3 (1 : Int32) s0 s1 c0 c1 t0 t1 ln h0 n0 _ T204.heap _
          rw [e204]
          exact ⟨(2 : Int32), s0, xx, c0, nn, t0, ln, (ln + nn), rfl, N204, K214, f212, f215, f206, f207, f208, f209, f210, f211, (Or.inr (Or.inr (Or.inr ⟨hc3, rfl, hc26, rfl, rfl, rfl, rfl, rfl⟩)))⟩
def Q_rmC (Z : State) (x1 : Int32) (n1 : Int64) (x2 : Int32) (n2 : Int64) (rx : Addr) (ry : Addr) (kx : ClassId) (ky : ClassId) (h0 : Heap) (n0 : Nat) (v : Option Value) (h : Heap) (L : List Loc) : Prop := ∃ (sy : Int32) (u0 : Int32) (u1 : Int32) (w0 : Int64) (w1 : Int64), v = some (.int sy) ∧ Fr n0 L ∧ Keep h0 h [rx, ry] ∧ Arv Z h rx kx .int (2 : Int32) [(.int u0), (.int u1)] (.int (0 : Int32)) ∧ Arv Z h ry ky .long (2 : Int32) [(.long w0), (.long w1)] (.long (0 : Int64)) ∧ Rel x1 n1 x2 n2 sy u0 u1 w0 w1
theorem pn_1 : plainName "querymill/regex/CodePointRunsSameAsPinLaw" = true := by first | (simp [plainName, overriddenIn]; done) | decide +kernel
theorem ef_rmC (m : MethodId) (x0 : Int32) (x1 : Int64) (x2 : Int32) (x3 : Int64) (x4 : Addr) (x5 : Addr) : entryFrame m #[(.int x0), (.long x1), (.int x2), (.long x3), (.ref x4), (.ref x5)] 8 = mkF m 0 #[.val (.int x0), .val (.long x1), .second, .val (.int x2), .val (.long x3), .second, .val (.ref x4), .val (.ref x5)] [] := by first | (simp [entryFrame, mkF, argsToLocals, Value.category]; done) | rfl
theorem d4_0 : decode method_2_code 0 = .ok (.lload_n 1, 1) := by decide +kernel
theorem d4_1 : decode method_2_code 1 = .ok (.lconst 0, 1) := by decide +kernel
theorem d4_2 : decode method_2_code 2 = .ok (.lcmp, 1) := by decide +kernel
theorem d4_3 : decode method_2_code 3 = .ok (.ifCond .ne 12, 3) := by decide +kernel
theorem d4_6 : decode method_2_code 6 = .ok (.lload 4, 2) := by decide +kernel
theorem d4_8 : decode method_2_code 8 = .ok (.lconst 0, 1) := by decide +kernel
theorem d4_9 : decode method_2_code 9 = .ok (.lcmp, 1) := by decide +kernel
theorem d4_10 : decode method_2_code 10 = .ok (.ifCond .ne 5, 3) := by decide +kernel
theorem d4_13 : decode method_2_code 13 = .ok (.iconst 0, 1) := by decide +kernel
theorem d4_14 : decode method_2_code 14 = .ok (.ireturn, 1) := by decide +kernel
theorem d4_15 : decode method_2_code 15 = .ok (.lload_n 1, 1) := by decide +kernel
theorem d4_16 : decode method_2_code 16 = .ok (.lconst 0, 1) := by decide +kernel
theorem d4_17 : decode method_2_code 17 = .ok (.lcmp, 1) := by decide +kernel
theorem d4_18 : decode method_2_code 18 = .ok (.ifCond .ne 16, 3) := by decide +kernel
theorem d4_21 : decode method_2_code 21 = .ok (.aload 6, 2) := by decide +kernel
theorem d4_23 : decode method_2_code 23 = .ok (.iconst 0, 1) := by decide +kernel
theorem d4_24 : decode method_2_code 24 = .ok (.iload_n 3, 1) := by decide +kernel
theorem d4_25 : decode method_2_code 25 = .ok (.iastore, 1) := by decide +kernel
theorem d4_26 : decode method_2_code 26 = .ok (.aload 7, 2) := by decide +kernel
theorem d4_28 : decode method_2_code 28 = .ok (.iconst 0, 1) := by decide +kernel
theorem d4_29 : decode method_2_code 29 = .ok (.lload 4, 2) := by decide +kernel
theorem d4_31 : decode method_2_code 31 = .ok (.lastore, 1) := by decide +kernel
theorem d4_32 : decode method_2_code 32 = .ok (.iconst 1, 1) := by decide +kernel
theorem d4_33 : decode method_2_code 33 = .ok (.ireturn, 1) := by decide +kernel
theorem d4_34 : decode method_2_code 34 = .ok (.lload 4, 2) := by decide +kernel
theorem d4_36 : decode method_2_code 36 = .ok (.lconst 0, 1) := by decide +kernel
theorem d4_37 : decode method_2_code 37 = .ok (.lcmp, 1) := by decide +kernel
theorem d4_38 : decode method_2_code 38 = .ok (.ifCond .ne 15, 3) := by decide +kernel
theorem d4_41 : decode method_2_code 41 = .ok (.aload 6, 2) := by decide +kernel
theorem d4_43 : decode method_2_code 43 = .ok (.iconst 0, 1) := by decide +kernel
theorem d4_44 : decode method_2_code 44 = .ok (.iload_n 0, 1) := by decide +kernel
theorem d4_45 : decode method_2_code 45 = .ok (.iastore, 1) := by decide +kernel
theorem d4_46 : decode method_2_code 46 = .ok (.aload 7, 2) := by decide +kernel
theorem d4_48 : decode method_2_code 48 = .ok (.iconst 0, 1) := by decide +kernel
theorem d4_49 : decode method_2_code 49 = .ok (.lload_n 1, 1) := by decide +kernel
theorem d4_50 : decode method_2_code 50 = .ok (.lastore, 1) := by decide +kernel
theorem d4_51 : decode method_2_code 51 = .ok (.iconst 1, 1) := by decide +kernel
theorem d4_52 : decode method_2_code 52 = .ok (.ireturn, 1) := by decide +kernel
theorem d4_53 : decode method_2_code 53 = .ok (.iload_n 0, 1) := by decide +kernel
theorem d4_54 : decode method_2_code 54 = .ok (.iload_n 3, 1) := by decide +kernel
theorem d4_55 : decode method_2_code 55 = .ok (.if_icmp .ne 18, 3) := by decide +kernel
theorem d4_58 : decode method_2_code 58 = .ok (.aload 6, 2) := by decide +kernel
theorem d4_60 : decode method_2_code 60 = .ok (.iconst 0, 1) := by decide +kernel
theorem d4_61 : decode method_2_code 61 = .ok (.iload_n 0, 1) := by decide +kernel
theorem d4_62 : decode method_2_code 62 = .ok (.iastore, 1) := by decide +kernel
theorem d4_63 : decode method_2_code 63 = .ok (.aload 7, 2) := by decide +kernel
theorem d4_65 : decode method_2_code 65 = .ok (.iconst 0, 1) := by decide +kernel
theorem d4_66 : decode method_2_code 66 = .ok (.lload_n 1, 1) := by decide +kernel
theorem d4_67 : decode method_2_code 67 = .ok (.lload 4, 2) := by decide +kernel
theorem d4_69 : decode method_2_code 69 = .ok (.ladd, 1) := by decide +kernel
theorem d4_70 : decode method_2_code 70 = .ok (.lastore, 1) := by decide +kernel
theorem d4_71 : decode method_2_code 71 = .ok (.iconst 1, 1) := by decide +kernel
theorem d4_72 : decode method_2_code 72 = .ok (.ireturn, 1) := by decide +kernel
theorem d4_73 : decode method_2_code 73 = .ok (.aload 6, 2) := by decide +kernel
theorem d4_75 : decode method_2_code 75 = .ok (.iconst 0, 1) := by decide +kernel
theorem d4_76 : decode method_2_code 76 = .ok (.iload_n 0, 1) := by decide +kernel
theorem d4_77 : decode method_2_code 77 = .ok (.iastore, 1) := by decide +kernel
theorem d4_78 : decode method_2_code 78 = .ok (.aload 7, 2) := by decide +kernel
theorem d4_80 : decode method_2_code 80 = .ok (.iconst 0, 1) := by decide +kernel
theorem d4_81 : decode method_2_code 81 = .ok (.lload_n 1, 1) := by decide +kernel
theorem d4_82 : decode method_2_code 82 = .ok (.lastore, 1) := by decide +kernel
theorem d4_83 : decode method_2_code 83 = .ok (.aload 6, 2) := by decide +kernel
theorem d4_85 : decode method_2_code 85 = .ok (.iconst 1, 1) := by decide +kernel
theorem d4_86 : decode method_2_code 86 = .ok (.iload_n 3, 1) := by decide +kernel
theorem d4_87 : decode method_2_code 87 = .ok (.iastore, 1) := by decide +kernel
theorem d4_88 : decode method_2_code 88 = .ok (.aload 7, 2) := by decide +kernel
theorem d4_90 : decode method_2_code 90 = .ok (.iconst 1, 1) := by decide +kernel
theorem d4_91 : decode method_2_code 91 = .ok (.lload 4, 2) := by decide +kernel
theorem d4_93 : decode method_2_code 93 = .ok (.lastore, 1) := by decide +kernel
theorem d4_94 : decode method_2_code 94 = .ok (.iconst 2, 1) := by decide +kernel
theorem d4_95 : decode method_2_code 95 = .ok (.ireturn, 1) := by decide +kernel
set_option maxRecDepth 65536 in
set_option maxHeartbeats 40000000 in
theorem rmC (l : Launch) (Z : State) (a0 : Array Value) (hw : ∀ d ∈ tables_1, d.before a0 Z = true) (ws : List Jvm.Cond) (x1 : Int32) (n1 : Int64) (x2 : Int32) (n2 : Int64) (rx : Addr) (ry : Addr) (kx : ClassId) (ky : ClassId) (h0 : Heap) (n0 : Nat) (Z0 : n0 ≤ h0.size) (P0 : Arv Z h0 rx kx .int (2 : Int32) [(.int (0 : Int32)), (.int (0 : Int32))] (.int (0 : Int32))) (P1 : Arv Z h0 ry ky .long (2 : Int32) [(.long (0 : Int64)), (.long (0 : Int64))] (.long (0 : Int64))) (g_rx : n0 ≤ rx) (g_ry : n0 ≤ ry) (ne_rx_ry : rx ≠ ry) :
    MetFree l (⟨"querymill/regex/CodePointRunsSameAsPinLaw", "canon", "(IJIJ[I[J)I"⟩ : MethodName) (head1 (Jvm.Cond.code (⟨"querymill/regex/CodePointRunsSameAsPinLaw", "canon", "(IJIJ[I[J)I"⟩ : MethodName) method_2_code 8 (some .int) :: ws) ({ frames := 0, cells := 0, slots := 0, locals := 0 } : Room)) (fun a U => a = #[(.int x1), (.long n1), (.int x2), (.long n2), (.ref rx), (.ref ry)] ∧ Z.Warmed39 U.vm ∧ U.heap = h0) (fun _ _ _ _ _ => True) (fun _ U o U' => ∃ v L, o = .returned v ∧ Q_rmC Z x1 n1 x2 n2 rx ry kx ky h0 n0 v U'.heap L ∧ FrameEnd U o U' L ({ frames := 0, cells := 0, slots := 0, locals := 0 } : Room).cells ({ frames := 0, cells := 0, slots := 0, locals := 0 } : Room).slots) := by
  refine MetFree.of_bodySF (plainFor_of_name pn_1) hisR ?_
  intro p e s m args below meth c s₁ Bd hml0 hP hK
  obtain ⟨rfl, hZ, hh⟩ := hP
  have hx := Bd.exec
  have hby := Bd.bytes
  have hml : c.maxLocals = 8 := hml0
  have hown : s.vm.findClass "querymill/regex/CodePointRunsSameAsPinLaw" = some m.cls := findClass_of_methodNamed Bd.named
  have hnm := (name_of_methodNamed Bd.named Bd.method).1
  have hlk : meth.locks = false := by first | exact BodyLoose.notSynchronized Bd | exact Body.notSynchronized Bd
  have X0 : Stand p l e ({ frames := 0, cells := 0, slots := 0, locals := 0 } : Room) s m #[(.int x1), (.long n1), (.int x2), (.long n2), (.ref rx), (.ref ry)] below meth c s₁ [] 0 0 := Stand.of_body Bd
  have e0 : s₁.heap = h0 := by rw [← hh, Bd.state]; rfl
  have N0 := Fr.nil n0
  have pre0 : ∀ t, Steps p.tables e below (s₁.setTop (mkF m 0 #[.val (.int x1), .val (.long n1), .second, .val (.int x2), .val (.long n2), .second, .val (.ref rx), .val (.ref ry)] [])) t → Steps p.tables e below (s₁.setTop (entryFrame m #[(.int x1), (.long n1), (.int x2), (.long n2), (.ref rx), (.ref ry)] 8)) t := fun t k => castTop (ef_rmC m x1 n1 x2 n2 rx ry) k
  have K0 : Keep h0 h0 [rx, ry] := Keep.refl h0 [rx, ry]
  have sg1 : ∀ t, Steps p.tables e below (s₁.setTop (mkF m 3 #[.val (.int x1), .val (.long n1), .second, .val (.int x2), .val (.long n2), .second, .val (.ref rx), .val (.ref ry)] [(.int (lcmpW n1 (0 : Int64)))])) t → Steps p.tables e below (s₁.setTop (mkF m 0 #[.val (.int x1), .val (.long n1), .second, .val (.int x2), .val (.long n2), .second, .val (.ref rx), .val (.ref ry)] [])) t := by
    intro t k
    show Steps p.tables e below (s₁.setTop (mkF m 0 #[.val (.int x1), .val (.long n1), .second, .val (.int x2), .val (.long n2), .second, .val (.ref rx), .val (.ref ry)] [])) _
    refine XS.lloadN X0.here hx rfl (hb hby d4_0) rfl ?_
    show Steps p.tables e below (s₁.setTop (mkF m 1 #[.val (.int x1), .val (.long n1), .second, .val (.int x2), .val (.long n2), .second, .val (.ref rx), .val (.ref ry)] [(.long n1)])) _
    refine XS.lconst X0.here hx rfl (hb hby d4_1) ?_
    show Steps p.tables e below (s₁.setTop (mkF m 2 #[.val (.int x1), .val (.long n1), .second, .val (.int x2), .val (.long n2), .second, .val (.ref rx), .val (.ref ry)] [(.long (0 : Int64)), (.long n1)])) _
    refine XS.lcmp X0.here hx rfl (hb hby d4_2) rfl ?_
    exact k
  by_cases hc3 : n1 = (0 : Int64)
  · have sgf3 : ∀ t, Steps p.tables e below (s₁.setTop (mkF m 6 #[.val (.int x1), .val (.long n1), .second, .val (.int x2), .val (.long n2), .second, .val (.ref rx), .val (.ref ry)] [])) t → Steps p.tables e below (s₁.setTop (mkF m 3 #[.val (.int x1), .val (.long n1), .second, .val (.int x2), .val (.long n2), .second, .val (.ref rx), .val (.ref ry)] [(.int (lcmpW n1 (0 : Int64)))])) t := fun t k => by
      refine XS.ifNo X0.here hx rfl (hb hby d4_3) rfl ((if0 _ _).trans (teq ((lw_eq _ _).mpr hc3)).2) ?_
      exact k
    have sg2 : ∀ t, Steps p.tables e below (s₁.setTop (mkF m 10 #[.val (.int x1), .val (.long n1), .second, .val (.int x2), .val (.long n2), .second, .val (.ref rx), .val (.ref ry)] [(.int (lcmpW n2 (0 : Int64)))])) t → Steps p.tables e below (s₁.setTop (mkF m 6 #[.val (.int x1), .val (.long n1), .second, .val (.int x2), .val (.long n2), .second, .val (.ref rx), .val (.ref ry)] [])) t := by
      intro t k
      show Steps p.tables e below (s₁.setTop (mkF m 6 #[.val (.int x1), .val (.long n1), .second, .val (.int x2), .val (.long n2), .second, .val (.ref rx), .val (.ref ry)] [])) _
      refine XS.lload X0.here hx rfl (hb hby d4_6) rfl ?_
      show Steps p.tables e below (s₁.setTop (mkF m 8 #[.val (.int x1), .val (.long n1), .second, .val (.int x2), .val (.long n2), .second, .val (.ref rx), .val (.ref ry)] [(.long n2)])) _
      refine XS.lconst X0.here hx rfl (hb hby d4_8) ?_
      show Steps p.tables e below (s₁.setTop (mkF m 9 #[.val (.int x1), .val (.long n1), .second, .val (.int x2), .val (.long n2), .second, .val (.ref rx), .val (.ref ry)] [(.long (0 : Int64)), (.long n2)])) _
      refine XS.lcmp X0.here hx rfl (hb hby d4_9) rfl ?_
      exact k
    have ch3 : ∀ t, Steps p.tables e below (s₁.setTop (mkF m 10 #[.val (.int x1), .val (.long n1), .second, .val (.int x2), .val (.long n2), .second, .val (.ref rx), .val (.ref ry)] [(.int (lcmpW n2 (0 : Int64)))])) t → Steps p.tables e below (s₁.setTop (mkF m 0 #[.val (.int x1), .val (.long n1), .second, .val (.int x2), .val (.long n2), .second, .val (.ref rx), .val (.ref ry)] [])) t := by
      intro t k
      refine sg1 _ ?_
      show Steps p.tables e below (s₁.setTop (mkF m 3 #[.val (.int x1), .val (.long n1), .second, .val (.int x2), .val (.long n2), .second, .val (.ref rx), .val (.ref ry)] [(.int (lcmpW n1 (0 : Int64)))])) _
      refine sgf3 _ ?_
      show Steps p.tables e below (s₁.setTop (mkF m 6 #[.val (.int x1), .val (.long n1), .second, .val (.int x2), .val (.long n2), .second, .val (.ref rx), .val (.ref ry)] [])) _
      refine sg2 _ ?_
      show Steps p.tables e below (s₁.setTop (mkF m 10 #[.val (.int x1), .val (.long n1), .second, .val (.int x2), .val (.long n2), .second, .val (.ref rx), .val (.ref ry)] [(.int (lcmpW n2 (0 : Int64)))])) _
      exact k
    by_cases hc10 : n2 = (0 : Int64)
    · have sgf10 : ∀ t, Steps p.tables e below (s₁.setTop (mkF m 13 #[.val (.int x1), .val (.long n1), .second, .val (.int x2), .val (.long n2), .second, .val (.ref rx), .val (.ref ry)] [])) t → Steps p.tables e below (s₁.setTop (mkF m 10 #[.val (.int x1), .val (.long n1), .second, .val (.int x2), .val (.long n2), .second, .val (.ref rx), .val (.ref ry)] [(.int (lcmpW n2 (0 : Int64)))])) t := fun t k => by
        refine XS.ifNo X0.here hx rfl (hb hby d4_10) rfl ((if0 _ _).trans (teq ((lw_eq _ _).mpr hc10)).2) ?_
        exact k
      have sg4 : ∀ t, Steps p.tables e below (s₁.setTop (mkF m 14 #[.val (.int x1), .val (.long n1), .second, .val (.int x2), .val (.long n2), .second, .val (.ref rx), .val (.ref ry)] [(.int (0 : Int32))])) t → Steps p.tables e below (s₁.setTop (mkF m 13 #[.val (.int x1), .val (.long n1), .second, .val (.int x2), .val (.long n2), .second, .val (.ref rx), .val (.ref ry)] [])) t := by
        intro t k
        show Steps p.tables e below (s₁.setTop (mkF m 13 #[.val (.int x1), .val (.long n1), .second, .val (.int x2), .val (.long n2), .second, .val (.ref rx), .val (.ref ry)] [])) _
        refine XS.iconst X0.here hx rfl (hb hby d4_13) ?_
        exact k
      obtain ⟨fs, hr, hrun, hended, hW, hsame⟩ := X0.leave (v := some (.int (0 : Int32))) (fun h => by rw [Bd.returns] at h; cases h) (hlocks := hlk)
      refine ⟨_, _, pre0 _ ?_, hrun, hended, _, _, rfl, ?_, ⟨_, rfl⟩, hW, hsame.mono (by decide) (by decide)⟩
      · show Steps p.tables e below (s₁.setTop (mkF m 0 #[.val (.int x1), .val (.long n1), .second, .val (.int x2), .val (.long n2), .second, .val (.ref rx), .val (.ref ry)] [])) _
        refine ch3 _ ?_
        show Steps p.tables e below (s₁.setTop (mkF m 10 #[.val (.int x1), .val (.long n1), .second, .val (.int x2), .val (.long n2), .second, .val (.ref rx), .val (.ref ry)] [(.int (lcmpW n2 (0 : Int64)))])) _
        refine sgf10 _ ?_
        show Steps p.tables e below (s₁.setTop (mkF m 13 #[.val (.int x1), .val (.long n1), .second, .val (.int x2), .val (.long n2), .second, .val (.ref rx), .val (.ref ry)] [])) _
        refine sg4 _ ?_
        show Steps p.tables e below (s₁.setTop (mkF m 14 #[.val (.int x1), .val (.long n1), .second, .val (.int x2), .val (.long n2), .second, .val (.ref rx), .val (.ref ry)] [(.int (0 : Int32))])) _
        exact retI X0 hx Bd.returns (hb hby d4_14) hr
      · show Q_rmC Z x1 n1 x2 n2 rx ry kx ky h0 n0 _ s₁.heap _
        rw [e0]
        exact ⟨(0 : Int32), (0 : Int32), (0 : Int32), (0 : Int64), (0 : Int64), rfl, N0, K0, P0, P1, (Or.inl ⟨hc3, hc10, rfl⟩)⟩
    · have sgf10 : ∀ t, Steps p.tables e below (s₁.setTop (mkF m 15 #[.val (.int x1), .val (.long n1), .second, .val (.int x2), .val (.long n2), .second, .val (.ref rx), .val (.ref ry)] [])) t → Steps p.tables e below (s₁.setTop (mkF m 10 #[.val (.int x1), .val (.long n1), .second, .val (.int x2), .val (.long n2), .second, .val (.ref rx), .val (.ref ry)] [(.int (lcmpW n2 (0 : Int64)))])) t := fun t k => by
        refine XS.ifYes X0.here hx rfl (pc0 := 10) (pc' := 15) rfl (hb hby d4_10) rfl ((if0 _ _).trans (feq (mt (lw_eq _ _).mp hc10)).2) (by decide) (by decide) ?_
        exact k
      have sg5 : ∀ t, Steps p.tables e below (s₁.setTop (mkF m 25 #[.val (.int x1), .val (.long n1), .second, .val (.int x2), .val (.long n2), .second, .val (.ref rx), .val (.ref ry)] [(.int x2), (.int (0 : Int32)), (.ref rx)])) t → Steps p.tables e below (s₁.setTop (mkF m 15 #[.val (.int x1), .val (.long n1), .second, .val (.int x2), .val (.long n2), .second, .val (.ref rx), .val (.ref ry)] [])) t := by
        intro t k
        show Steps p.tables e below (s₁.setTop (mkF m 15 #[.val (.int x1), .val (.long n1), .second, .val (.int x2), .val (.long n2), .second, .val (.ref rx), .val (.ref ry)] [])) _
        refine XS.lloadN X0.here hx rfl (hb hby d4_15) rfl ?_
        show Steps p.tables e below (s₁.setTop (mkF m 16 #[.val (.int x1), .val (.long n1), .second, .val (.int x2), .val (.long n2), .second, .val (.ref rx), .val (.ref ry)] [(.long n1)])) _
        refine XS.lconst X0.here hx rfl (hb hby d4_16) ?_
        show Steps p.tables e below (s₁.setTop (mkF m 17 #[.val (.int x1), .val (.long n1), .second, .val (.int x2), .val (.long n2), .second, .val (.ref rx), .val (.ref ry)] [(.long (0 : Int64)), (.long n1)])) _
        refine XS.lcmp X0.here hx rfl (hb hby d4_17) rfl ?_
        show Steps p.tables e below (s₁.setTop (mkF m 18 #[.val (.int x1), .val (.long n1), .second, .val (.int x2), .val (.long n2), .second, .val (.ref rx), .val (.ref ry)] [(.int (lcmpW n1 (0 : Int64)))])) _
        refine XS.ifNo X0.here hx rfl (hb hby d4_18) rfl ((if0 _ _).trans (teq ((lw_eq _ _).mpr (hc3 : n1 = (0 : Int64)))).2) ?_
        show Steps p.tables e below (s₁.setTop (mkF m 21 #[.val (.int x1), .val (.long n1), .second, .val (.int x2), .val (.long n2), .second, .val (.ref rx), .val (.ref ry)] [])) _
        refine XS.aload X0.here hx rfl (hb hby d4_21) rfl rfl ?_
        show Steps p.tables e below (s₁.setTop (mkF m 23 #[.val (.int x1), .val (.long n1), .second, .val (.int x2), .val (.long n2), .second, .val (.ref rx), .val (.ref ry)] [(.ref rx)])) _
        refine XS.iconst X0.here hx rfl (hb hby d4_23) ?_
        show Steps p.tables e below (s₁.setTop (mkF m 24 #[.val (.int x1), .val (.long n1), .second, .val (.int x2), .val (.long n2), .second, .val (.ref rx), .val (.ref ry)] [(.int (0 : Int32)), (.ref rx)])) _
        refine XS.iloadN X0.here hx rfl (hb hby d4_24) rfl ?_
        exact k
      obtain ⟨cl6, Ar6, q6, Sz6, Nn6, Hs6, G6⟩ := id P0
      have hin6 : ¬ ((0 : Int32) < 0 ∨ cl6.slots.size ≤ ((0 : Int32)).toNatClampNeg) := inb_of Sz6 ⟨by decide, by decide⟩
      obtain ⟨T6, h6, X6, e6, W6, st6⟩ := stI X0 hx hZ e0 Ar6 (j := (0 : Int32)) hin6 (g := (mkF m 25 #[.val (.int x1), .val (.long n1), .second, .val (.int x2), .val (.long n2), .second, .val (.ref rx), .val (.ref ry)] [(.int x2), (.int (0 : Int32)), (.ref rx)])) rfl rfl (hb hby d4_25)
      have V6 : Arv Z h6 rx kx .int (2 : Int32) [(.int x2), (.int (0 : Int32))] (.int (0 : Int32)) := Arv.set Ar6 q6 Sz6 Nn6 Hs6 G6 rfl W6 0 rfl (Nat.le_of_ble_eq_true rfl)
      have N6 := Fr.snoc X6 N0 g_rx
      have f7 : Arv Z h6 ry ky .long (2 : Int32) [(.long (0 : Int64)), (.long (0 : Int64))] (.long (0 : Int64)) := P1.other W6 (Ne.symm ne_rx_ry)
      have z8 : n0 ≤ h6.size := Nat.le_trans Z0 (Keep.of_wr W6).1
      have K9 : Keep h0 h6 [rx, ry] := K0.wr W6 (Or.inl (List.mem_of_getElem? (i := 0) rfl))
      have sg10 : ∀ t, Steps p.tables e below (T6.setTop (mkF m 31 #[.val (.int x1), .val (.long n1), .second, .val (.int x2), .val (.long n2), .second, .val (.ref rx), .val (.ref ry)] [(.long n2), (.int (0 : Int32)), (.ref ry)])) t → Steps p.tables e below (T6.setTop (mkF m 26 #[.val (.int x1), .val (.long n1), .second, .val (.int x2), .val (.long n2), .second, .val (.ref rx), .val (.ref ry)] [])) t := by
        intro t k
        show Steps p.tables e below (T6.setTop (mkF m 26 #[.val (.int x1), .val (.long n1), .second, .val (.int x2), .val (.long n2), .second, .val (.ref rx), .val (.ref ry)] [])) _
        refine XS.aload X6.here hx rfl (hb hby d4_26) rfl rfl ?_
        show Steps p.tables e below (T6.setTop (mkF m 28 #[.val (.int x1), .val (.long n1), .second, .val (.int x2), .val (.long n2), .second, .val (.ref rx), .val (.ref ry)] [(.ref ry)])) _
        refine XS.iconst X6.here hx rfl (hb hby d4_28) ?_
        show Steps p.tables e below (T6.setTop (mkF m 29 #[.val (.int x1), .val (.long n1), .second, .val (.int x2), .val (.long n2), .second, .val (.ref rx), .val (.ref ry)] [(.int (0 : Int32)), (.ref ry)])) _
        refine XS.lload X6.here hx rfl (hb hby d4_29) rfl ?_
        exact k
      obtain ⟨cl11, Ar11, q11, Sz11, Nn11, Hs11, G11⟩ := id f7
      have hin11 : ¬ ((0 : Int32) < 0 ∨ cl11.slots.size ≤ ((0 : Int32)).toNatClampNeg) := inb_of Sz11 ⟨by decide, by decide⟩
      obtain ⟨T11, h11, X11, e11, W11, st11⟩ := stJ X6 hx hZ e6 Ar11 (j := (0 : Int32)) hin11 (g := (mkF m 31 #[.val (.int x1), .val (.long n1), .second, .val (.int x2), .val (.long n2), .second, .val (.ref rx), .val (.ref ry)] [(.long n2), (.int (0 : Int32)), (.ref ry)])) rfl rfl (hb hby d4_31)
      have V11 : Arv Z h11 ry ky .long (2 : Int32) [(.long n2), (.long (0 : Int64))] (.long (0 : Int64)) := Arv.set Ar11 q11 Sz11 Nn11 Hs11 G11 rfl W11 0 rfl (Nat.le_of_ble_eq_true rfl)
      have N11 := Fr.snoc X11 N6 g_ry
      have f12 : Arv Z h11 rx kx .int (2 : Int32) [(.int x2), (.int (0 : Int32))] (.int (0 : Int32)) := V6.other W11 ne_rx_ry
      have z13 : n0 ≤ h11.size := Nat.le_trans z8 (Keep.of_wr W11).1
      have K14 : Keep h0 h11 [rx, ry] := K9.wr W11 (Or.inl (List.mem_of_getElem? (i := 1) rfl))
      have sg15 : ∀ t, Steps p.tables e below (T11.setTop (mkF m 33 #[.val (.int x1), .val (.long n1), .second, .val (.int x2), .val (.long n2), .second, .val (.ref rx), .val (.ref ry)] [(.int (1 : Int32))])) t → Steps p.tables e below (T11.setTop (mkF m 32 #[.val (.int x1), .val (.long n1), .second, .val (.int x2), .val (.long n2), .second, .val (.ref rx), .val (.ref ry)] [])) t := by
        intro t k
        show Steps p.tables e below (T11.setTop (mkF m 32 #[.val (.int x1), .val (.long n1), .second, .val (.int x2), .val (.long n2), .second, .val (.ref rx), .val (.ref ry)] [])) _
        refine XS.iconst X11.here hx rfl (hb hby d4_32) ?_
        exact k
      obtain ⟨fs, hr, hrun, hended, hW, hsame⟩ := X11.leave (v := some (.int (1 : Int32))) (fun h => by rw [Bd.returns] at h; cases h) (hlocks := hlk)
      refine ⟨_, _, pre0 _ ?_, hrun, hended, _, _, rfl, ?_, ⟨_, rfl⟩, hW, hsame.mono (by decide) (by decide)⟩
      · show Steps p.tables e below (s₁.setTop (mkF m 0 #[.val (.int x1), .val (.long n1), .second, .val (.int x2), .val (.long n2), .second, .val (.ref rx), .val (.ref ry)] [])) _
        refine ch3 _ ?_
        show Steps p.tables e below (s₁.setTop (mkF m 10 #[.val (.int x1), .val (.long n1), .second, .val (.int x2), .val (.long n2), .second, .val (.ref rx), .val (.ref ry)] [(.int (lcmpW n2 (0 : Int64)))])) _
        refine sgf10 _ ?_
        show Steps p.tables e below (s₁.setTop (mkF m 15 #[.val (.int x1), .val (.long n1), .second, .val (.int x2), .val (.long n2), .second, .val (.ref rx), .val (.ref ry)] [])) _
        refine sg5 _ ?_
        show Steps p.tables e below (s₁.setTop (mkF m 25 #[.val (.int x1), .val (.long n1), .second, .val (.int x2), .val (.long n2), .second, .val (.ref rx), .val (.ref ry)] [(.int x2), (.int (0 : Int32)), (.ref rx)])) _
        refine st6 _ ?_
        show Steps p.tables e below (T6.setTop (mkF m 26 #[.val (.int x1), .val (.long n1), .second, .val (.int x2), .val (.long n2), .second, .val (.ref rx), .val (.ref ry)] [])) _
        refine sg10 _ ?_
        show Steps p.tables e below (T6.setTop (mkF m 31 #[.val (.int x1), .val (.long n1), .second, .val (.int x2), .val (.long n2), .second, .val (.ref rx), .val (.ref ry)] [(.long n2), (.int (0 : Int32)), (.ref ry)])) _
        refine st11 _ ?_
        show Steps p.tables e below (T11.setTop (mkF m 32 #[.val (.int x1), .val (.long n1), .second, .val (.int x2), .val (.long n2), .second, .val (.ref rx), .val (.ref ry)] [])) _
        refine sg15 _ ?_
        show Steps p.tables e below (T11.setTop (mkF m 33 #[.val (.int x1), .val (.long n1), .second, .val (.int x2), .val (.long n2), .second, .val (.ref rx), .val (.ref ry)] [(.int (1 : Int32))])) _
        exact retI X11 hx Bd.returns (hb hby d4_33) hr
      · show Q_rmC Z x1 n1 x2 n2 rx ry kx ky h0 n0 _ T11.heap _
        rw [e11]
        exact ⟨(1 : Int32), x2, (0 : Int32), n2, (0 : Int64), rfl, N11, K14, f12, V11, (Or.inr (Or.inl ⟨hc3, hc10, rfl, rfl, rfl⟩))⟩
  · have sgf3 : ∀ t, Steps p.tables e below (s₁.setTop (mkF m 15 #[.val (.int x1), .val (.long n1), .second, .val (.int x2), .val (.long n2), .second, .val (.ref rx), .val (.ref ry)] [])) t → Steps p.tables e below (s₁.setTop (mkF m 3 #[.val (.int x1), .val (.long n1), .second, .val (.int x2), .val (.long n2), .second, .val (.ref rx), .val (.ref ry)] [(.int (lcmpW n1 (0 : Int64)))])) t := fun t k => by
      refine XS.ifYes X0.here hx rfl (pc0 := 3) (pc' := 15) rfl (hb hby d4_3) rfl ((if0 _ _).trans (feq (mt (lw_eq _ _).mp hc3)).2) (by decide) (by decide) ?_
      exact k
    have sg16 : ∀ t, Steps p.tables e below (s₁.setTop (mkF m 38 #[.val (.int x1), .val (.long n1), .second, .val (.int x2), .val (.long n2), .second, .val (.ref rx), .val (.ref ry)] [(.int (lcmpW n2 (0 : Int64)))])) t → Steps p.tables e below (s₁.setTop (mkF m 15 #[.val (.int x1), .val (.long n1), .second, .val (.int x2), .val (.long n2), .second, .val (.ref rx), .val (.ref ry)] [])) t := by
      intro t k
      show Steps p.tables e below (s₁.setTop (mkF m 15 #[.val (.int x1), .val (.long n1), .second, .val (.int x2), .val (.long n2), .second, .val (.ref rx), .val (.ref ry)] [])) _
      refine XS.lloadN X0.here hx rfl (hb hby d4_15) rfl ?_
      show Steps p.tables e below (s₁.setTop (mkF m 16 #[.val (.int x1), .val (.long n1), .second, .val (.int x2), .val (.long n2), .second, .val (.ref rx), .val (.ref ry)] [(.long n1)])) _
      refine XS.lconst X0.here hx rfl (hb hby d4_16) ?_
      show Steps p.tables e below (s₁.setTop (mkF m 17 #[.val (.int x1), .val (.long n1), .second, .val (.int x2), .val (.long n2), .second, .val (.ref rx), .val (.ref ry)] [(.long (0 : Int64)), (.long n1)])) _
      refine XS.lcmp X0.here hx rfl (hb hby d4_17) rfl ?_
      show Steps p.tables e below (s₁.setTop (mkF m 18 #[.val (.int x1), .val (.long n1), .second, .val (.int x2), .val (.long n2), .second, .val (.ref rx), .val (.ref ry)] [(.int (lcmpW n1 (0 : Int64)))])) _
      refine XS.ifYes X0.here hx rfl (pc0 := 18) (pc' := 34) rfl (hb hby d4_18) rfl ((if0 _ _).trans (feq (mt (lw_eq _ _).mp (hc3 : ¬ (n1 = (0 : Int64))))).2) (by decide) (by decide) ?_
      show Steps p.tables e below (s₁.setTop (mkF m 34 #[.val (.int x1), .val (.long n1), .second, .val (.int x2), .val (.long n2), .second, .val (.ref rx), .val (.ref ry)] [])) _
      refine XS.lload X0.here hx rfl (hb hby d4_34) rfl ?_
      show Steps p.tables e below (s₁.setTop (mkF m 36 #[.val (.int x1), .val (.long n1), .second, .val (.int x2), .val (.long n2), .second, .val (.ref rx), .val (.ref ry)] [(.long n2)])) _
      refine XS.lconst X0.here hx rfl (hb hby d4_36) ?_
      show Steps p.tables e below (s₁.setTop (mkF m 37 #[.val (.int x1), .val (.long n1), .second, .val (.int x2), .val (.long n2), .second, .val (.ref rx), .val (.ref ry)] [(.long (0 : Int64)), (.long n2)])) _
      refine XS.lcmp X0.here hx rfl (hb hby d4_37) rfl ?_
      exact k
    have ch17 : ∀ t, Steps p.tables e below (s₁.setTop (mkF m 38 #[.val (.int x1), .val (.long n1), .second, .val (.int x2), .val (.long n2), .second, .val (.ref rx), .val (.ref ry)] [(.int (lcmpW n2 (0 : Int64)))])) t → Steps p.tables e below (s₁.setTop (mkF m 0 #[.val (.int x1), .val (.long n1), .second, .val (.int x2), .val (.long n2), .second, .val (.ref rx), .val (.ref ry)] [])) t := by
      intro t k
      refine sg1 _ ?_
      show Steps p.tables e below (s₁.setTop (mkF m 3 #[.val (.int x1), .val (.long n1), .second, .val (.int x2), .val (.long n2), .second, .val (.ref rx), .val (.ref ry)] [(.int (lcmpW n1 (0 : Int64)))])) _
      refine sgf3 _ ?_
      show Steps p.tables e below (s₁.setTop (mkF m 15 #[.val (.int x1), .val (.long n1), .second, .val (.int x2), .val (.long n2), .second, .val (.ref rx), .val (.ref ry)] [])) _
      refine sg16 _ ?_
      show Steps p.tables e below (s₁.setTop (mkF m 38 #[.val (.int x1), .val (.long n1), .second, .val (.int x2), .val (.long n2), .second, .val (.ref rx), .val (.ref ry)] [(.int (lcmpW n2 (0 : Int64)))])) _
      exact k
    by_cases hc38 : n2 = (0 : Int64)
    · have sgf38 : ∀ t, Steps p.tables e below (s₁.setTop (mkF m 41 #[.val (.int x1), .val (.long n1), .second, .val (.int x2), .val (.long n2), .second, .val (.ref rx), .val (.ref ry)] [])) t → Steps p.tables e below (s₁.setTop (mkF m 38 #[.val (.int x1), .val (.long n1), .second, .val (.int x2), .val (.long n2), .second, .val (.ref rx), .val (.ref ry)] [(.int (lcmpW n2 (0 : Int64)))])) t := fun t k => by
        refine XS.ifNo X0.here hx rfl (hb hby d4_38) rfl ((if0 _ _).trans (teq ((lw_eq _ _).mpr hc38)).2) ?_
        exact k
      have sg18 : ∀ t, Steps p.tables e below (s₁.setTop (mkF m 45 #[.val (.int x1), .val (.long n1), .second, .val (.int x2), .val (.long n2), .second, .val (.ref rx), .val (.ref ry)] [(.int x1), (.int (0 : Int32)), (.ref rx)])) t → Steps p.tables e below (s₁.setTop (mkF m 41 #[.val (.int x1), .val (.long n1), .second, .val (.int x2), .val (.long n2), .second, .val (.ref rx), .val (.ref ry)] [])) t := by
        intro t k
        show Steps p.tables e below (s₁.setTop (mkF m 41 #[.val (.int x1), .val (.long n1), .second, .val (.int x2), .val (.long n2), .second, .val (.ref rx), .val (.ref ry)] [])) _
        refine XS.aload X0.here hx rfl (hb hby d4_41) rfl rfl ?_
        show Steps p.tables e below (s₁.setTop (mkF m 43 #[.val (.int x1), .val (.long n1), .second, .val (.int x2), .val (.long n2), .second, .val (.ref rx), .val (.ref ry)] [(.ref rx)])) _
        refine XS.iconst X0.here hx rfl (hb hby d4_43) ?_
        show Steps p.tables e below (s₁.setTop (mkF m 44 #[.val (.int x1), .val (.long n1), .second, .val (.int x2), .val (.long n2), .second, .val (.ref rx), .val (.ref ry)] [(.int (0 : Int32)), (.ref rx)])) _
        refine XS.iloadN X0.here hx rfl (hb hby d4_44) rfl ?_
        exact k
      obtain ⟨cl19, Ar19, q19, Sz19, Nn19, Hs19, G19⟩ := id P0
      have hin19 : ¬ ((0 : Int32) < 0 ∨ cl19.slots.size ≤ ((0 : Int32)).toNatClampNeg) := inb_of Sz19 ⟨by decide, by decide⟩
      obtain ⟨T19, h19, X19, e19, W19, st19⟩ := stI X0 hx hZ e0 Ar19 (j := (0 : Int32)) hin19 (g := (mkF m 45 #[.val (.int x1), .val (.long n1), .second, .val (.int x2), .val (.long n2), .second, .val (.ref rx), .val (.ref ry)] [(.int x1), (.int (0 : Int32)), (.ref rx)])) rfl rfl (hb hby d4_45)
      have V19 : Arv Z h19 rx kx .int (2 : Int32) [(.int x1), (.int (0 : Int32))] (.int (0 : Int32)) := Arv.set Ar19 q19 Sz19 Nn19 Hs19 G19 rfl W19 0 rfl (Nat.le_of_ble_eq_true rfl)
      have N19 := Fr.snoc X19 N0 g_rx
      have f20 : Arv Z h19 ry ky .long (2 : Int32) [(.long (0 : Int64)), (.long (0 : Int64))] (.long (0 : Int64)) := P1.other W19 (Ne.symm ne_rx_ry)
      have z21 : n0 ≤ h19.size := Nat.le_trans Z0 (Keep.of_wr W19).1
      have K22 : Keep h0 h19 [rx, ry] := K0.wr W19 (Or.inl (List.mem_of_getElem? (i := 0) rfl))
      have sg23 : ∀ t, Steps p.tables e below (T19.setTop (mkF m 50 #[.val (.int x1), .val (.long n1), .second, .val (.int x2), .val (.long n2), .second, .val (.ref rx), .val (.ref ry)] [(.long n1), (.int (0 : Int32)), (.ref ry)])) t → Steps p.tables e below (T19.setTop (mkF m 46 #[.val (.int x1), .val (.long n1), .second, .val (.int x2), .val (.long n2), .second, .val (.ref rx), .val (.ref ry)] [])) t := by
        intro t k
        show Steps p.tables e below (T19.setTop (mkF m 46 #[.val (.int x1), .val (.long n1), .second, .val (.int x2), .val (.long n2), .second, .val (.ref rx), .val (.ref ry)] [])) _
        refine XS.aload X19.here hx rfl (hb hby d4_46) rfl rfl ?_
        show Steps p.tables e below (T19.setTop (mkF m 48 #[.val (.int x1), .val (.long n1), .second, .val (.int x2), .val (.long n2), .second, .val (.ref rx), .val (.ref ry)] [(.ref ry)])) _
        refine XS.iconst X19.here hx rfl (hb hby d4_48) ?_
        show Steps p.tables e below (T19.setTop (mkF m 49 #[.val (.int x1), .val (.long n1), .second, .val (.int x2), .val (.long n2), .second, .val (.ref rx), .val (.ref ry)] [(.int (0 : Int32)), (.ref ry)])) _
        refine XS.lloadN X19.here hx rfl (hb hby d4_49) rfl ?_
        exact k
      obtain ⟨cl24, Ar24, q24, Sz24, Nn24, Hs24, G24⟩ := id f20
      have hin24 : ¬ ((0 : Int32) < 0 ∨ cl24.slots.size ≤ ((0 : Int32)).toNatClampNeg) := inb_of Sz24 ⟨by decide, by decide⟩
      obtain ⟨T24, h24, X24, e24, W24, st24⟩ := stJ X19 hx hZ e19 Ar24 (j := (0 : Int32)) hin24 (g := (mkF m 50 #[.val (.int x1), .val (.long n1), .second, .val (.int x2), .val (.long n2), .second, .val (.ref rx), .val (.ref ry)] [(.long n1), (.int (0 : Int32)), (.ref ry)])) rfl rfl (hb hby d4_50)
      have V24 : Arv Z h24 ry ky .long (2 : Int32) [(.long n1), (.long (0 : Int64))] (.long (0 : Int64)) := Arv.set Ar24 q24 Sz24 Nn24 Hs24 G24 rfl W24 0 rfl (Nat.le_of_ble_eq_true rfl)
      have N24 := Fr.snoc X24 N19 g_ry
      have f25 : Arv Z h24 rx kx .int (2 : Int32) [(.int x1), (.int (0 : Int32))] (.int (0 : Int32)) := V19.other W24 ne_rx_ry
      have z26 : n0 ≤ h24.size := Nat.le_trans z21 (Keep.of_wr W24).1
      have K27 : Keep h0 h24 [rx, ry] := K22.wr W24 (Or.inl (List.mem_of_getElem? (i := 1) rfl))
      have sg28 : ∀ t, Steps p.tables e below (T24.setTop (mkF m 52 #[.val (.int x1), .val (.long n1), .second, .val (.int x2), .val (.long n2), .second, .val (.ref rx), .val (.ref ry)] [(.int (1 : Int32))])) t → Steps p.tables e below (T24.setTop (mkF m 51 #[.val (.int x1), .val (.long n1), .second, .val (.int x2), .val (.long n2), .second, .val (.ref rx), .val (.ref ry)] [])) t := by
        intro t k
        show Steps p.tables e below (T24.setTop (mkF m 51 #[.val (.int x1), .val (.long n1), .second, .val (.int x2), .val (.long n2), .second, .val (.ref rx), .val (.ref ry)] [])) _
        refine XS.iconst X24.here hx rfl (hb hby d4_51) ?_
        exact k
      obtain ⟨fs, hr, hrun, hended, hW, hsame⟩ := X24.leave (v := some (.int (1 : Int32))) (fun h => by rw [Bd.returns] at h; cases h) (hlocks := hlk)
      refine ⟨_, _, pre0 _ ?_, hrun, hended, _, _, rfl, ?_, ⟨_, rfl⟩, hW, hsame.mono (by decide) (by decide)⟩
      · show Steps p.tables e below (s₁.setTop (mkF m 0 #[.val (.int x1), .val (.long n1), .second, .val (.int x2), .val (.long n2), .second, .val (.ref rx), .val (.ref ry)] [])) _
        refine ch17 _ ?_
        show Steps p.tables e below (s₁.setTop (mkF m 38 #[.val (.int x1), .val (.long n1), .second, .val (.int x2), .val (.long n2), .second, .val (.ref rx), .val (.ref ry)] [(.int (lcmpW n2 (0 : Int64)))])) _
        refine sgf38 _ ?_
        show Steps p.tables e below (s₁.setTop (mkF m 41 #[.val (.int x1), .val (.long n1), .second, .val (.int x2), .val (.long n2), .second, .val (.ref rx), .val (.ref ry)] [])) _
        refine sg18 _ ?_
        show Steps p.tables e below (s₁.setTop (mkF m 45 #[.val (.int x1), .val (.long n1), .second, .val (.int x2), .val (.long n2), .second, .val (.ref rx), .val (.ref ry)] [(.int x1), (.int (0 : Int32)), (.ref rx)])) _
        refine st19 _ ?_
        show Steps p.tables e below (T19.setTop (mkF m 46 #[.val (.int x1), .val (.long n1), .second, .val (.int x2), .val (.long n2), .second, .val (.ref rx), .val (.ref ry)] [])) _
        refine sg23 _ ?_
        show Steps p.tables e below (T19.setTop (mkF m 50 #[.val (.int x1), .val (.long n1), .second, .val (.int x2), .val (.long n2), .second, .val (.ref rx), .val (.ref ry)] [(.long n1), (.int (0 : Int32)), (.ref ry)])) _
        refine st24 _ ?_
        show Steps p.tables e below (T24.setTop (mkF m 51 #[.val (.int x1), .val (.long n1), .second, .val (.int x2), .val (.long n2), .second, .val (.ref rx), .val (.ref ry)] [])) _
        refine sg28 _ ?_
        show Steps p.tables e below (T24.setTop (mkF m 52 #[.val (.int x1), .val (.long n1), .second, .val (.int x2), .val (.long n2), .second, .val (.ref rx), .val (.ref ry)] [(.int (1 : Int32))])) _
        exact retI X24 hx Bd.returns (hb hby d4_52) hr
      · show Q_rmC Z x1 n1 x2 n2 rx ry kx ky h0 n0 _ T24.heap _
        rw [e24]
        exact ⟨(1 : Int32), x1, (0 : Int32), n1, (0 : Int64), rfl, N24, K27, f25, V24, (Or.inr (Or.inr (Or.inl ⟨hc3, hc38, rfl, rfl, rfl⟩)))⟩
    · have sgf38 : ∀ t, Steps p.tables e below (s₁.setTop (mkF m 53 #[.val (.int x1), .val (.long n1), .second, .val (.int x2), .val (.long n2), .second, .val (.ref rx), .val (.ref ry)] [])) t → Steps p.tables e below (s₁.setTop (mkF m 38 #[.val (.int x1), .val (.long n1), .second, .val (.int x2), .val (.long n2), .second, .val (.ref rx), .val (.ref ry)] [(.int (lcmpW n2 (0 : Int64)))])) t := fun t k => by
        refine XS.ifYes X0.here hx rfl (pc0 := 38) (pc' := 53) rfl (hb hby d4_38) rfl ((if0 _ _).trans (feq (mt (lw_eq _ _).mp hc38)).2) (by decide) (by decide) ?_
        exact k
      have sg29 : ∀ t, Steps p.tables e below (s₁.setTop (mkF m 55 #[.val (.int x1), .val (.long n1), .second, .val (.int x2), .val (.long n2), .second, .val (.ref rx), .val (.ref ry)] [(.int x2), (.int x1)])) t → Steps p.tables e below (s₁.setTop (mkF m 53 #[.val (.int x1), .val (.long n1), .second, .val (.int x2), .val (.long n2), .second, .val (.ref rx), .val (.ref ry)] [])) t := by
        intro t k
        show Steps p.tables e below (s₁.setTop (mkF m 53 #[.val (.int x1), .val (.long n1), .second, .val (.int x2), .val (.long n2), .second, .val (.ref rx), .val (.ref ry)] [])) _
        refine XS.iloadN X0.here hx rfl (hb hby d4_53) rfl ?_
        show Steps p.tables e below (s₁.setTop (mkF m 54 #[.val (.int x1), .val (.long n1), .second, .val (.int x2), .val (.long n2), .second, .val (.ref rx), .val (.ref ry)] [(.int x1)])) _
        refine XS.iloadN X0.here hx rfl (hb hby d4_54) rfl ?_
        exact k
      have ch30 : ∀ t, Steps p.tables e below (s₁.setTop (mkF m 55 #[.val (.int x1), .val (.long n1), .second, .val (.int x2), .val (.long n2), .second, .val (.ref rx), .val (.ref ry)] [(.int x2), (.int x1)])) t → Steps p.tables e below (s₁.setTop (mkF m 0 #[.val (.int x1), .val (.long n1), .second, .val (.int x2), .val (.long n2), .second, .val (.ref rx), .val (.ref ry)] [])) t := by
        intro t k
        refine ch17 _ ?_
        show Steps p.tables e below (s₁.setTop (mkF m 38 #[.val (.int x1), .val (.long n1), .second, .val (.int x2), .val (.long n2), .second, .val (.ref rx), .val (.ref ry)] [(.int (lcmpW n2 (0 : Int64)))])) _
        refine sgf38 _ ?_
        show Steps p.tables e below (s₁.setTop (mkF m 53 #[.val (.int x1), .val (.long n1), .second, .val (.int x2), .val (.long n2), .second, .val (.ref rx), .val (.ref ry)] [])) _
        refine sg29 _ ?_
        show Steps p.tables e below (s₁.setTop (mkF m 55 #[.val (.int x1), .val (.long n1), .second, .val (.int x2), .val (.long n2), .second, .val (.ref rx), .val (.ref ry)] [(.int x2), (.int x1)])) _
        exact k
      by_cases hc55 : x1 = x2
      · have sgf55 : ∀ t, Steps p.tables e below (s₁.setTop (mkF m 58 #[.val (.int x1), .val (.long n1), .second, .val (.int x2), .val (.long n2), .second, .val (.ref rx), .val (.ref ry)] [])) t → Steps p.tables e below (s₁.setTop (mkF m 55 #[.val (.int x1), .val (.long n1), .second, .val (.int x2), .val (.long n2), .second, .val (.ref rx), .val (.ref ry)] [(.int x2), (.int x1)])) t := fun t k => by
          refine XS.icmpNo X0.here hx rfl (hb hby d4_55) rfl (teq hc55).2 ?_
          exact k
        have sg31 : ∀ t, Steps p.tables e below (s₁.setTop (mkF m 62 #[.val (.int x1), .val (.long n1), .second, .val (.int x2), .val (.long n2), .second, .val (.ref rx), .val (.ref ry)] [(.int x1), (.int (0 : Int32)), (.ref rx)])) t → Steps p.tables e below (s₁.setTop (mkF m 58 #[.val (.int x1), .val (.long n1), .second, .val (.int x2), .val (.long n2), .second, .val (.ref rx), .val (.ref ry)] [])) t := by
          intro t k
          show Steps p.tables e below (s₁.setTop (mkF m 58 #[.val (.int x1), .val (.long n1), .second, .val (.int x2), .val (.long n2), .second, .val (.ref rx), .val (.ref ry)] [])) _
          refine XS.aload X0.here hx rfl (hb hby d4_58) rfl rfl ?_
          show Steps p.tables e below (s₁.setTop (mkF m 60 #[.val (.int x1), .val (.long n1), .second, .val (.int x2), .val (.long n2), .second, .val (.ref rx), .val (.ref ry)] [(.ref rx)])) _
          refine XS.iconst X0.here hx rfl (hb hby d4_60) ?_
          show Steps p.tables e below (s₁.setTop (mkF m 61 #[.val (.int x1), .val (.long n1), .second, .val (.int x2), .val (.long n2), .second, .val (.ref rx), .val (.ref ry)] [(.int (0 : Int32)), (.ref rx)])) _
          refine XS.iloadN X0.here hx rfl (hb hby d4_61) rfl ?_
          exact k
        obtain ⟨cl32, Ar32, q32, Sz32, Nn32, Hs32, G32⟩ := id P0
        have hin32 : ¬ ((0 : Int32) < 0 ∨ cl32.slots.size ≤ ((0 : Int32)).toNatClampNeg) := inb_of Sz32 ⟨by decide, by decide⟩
        obtain ⟨T32, h32, X32, e32, W32, st32⟩ := stI X0 hx hZ e0 Ar32 (j := (0 : Int32)) hin32 (g := (mkF m 62 #[.val (.int x1), .val (.long n1), .second, .val (.int x2), .val (.long n2), .second, .val (.ref rx), .val (.ref ry)] [(.int x1), (.int (0 : Int32)), (.ref rx)])) rfl rfl (hb hby d4_62)
        have V32 : Arv Z h32 rx kx .int (2 : Int32) [(.int x1), (.int (0 : Int32))] (.int (0 : Int32)) := Arv.set Ar32 q32 Sz32 Nn32 Hs32 G32 rfl W32 0 rfl (Nat.le_of_ble_eq_true rfl)
        have N32 := Fr.snoc X32 N0 g_rx
        have f33 : Arv Z h32 ry ky .long (2 : Int32) [(.long (0 : Int64)), (.long (0 : Int64))] (.long (0 : Int64)) := P1.other W32 (Ne.symm ne_rx_ry)
        have z34 : n0 ≤ h32.size := Nat.le_trans Z0 (Keep.of_wr W32).1
        have K35 : Keep h0 h32 [rx, ry] := K0.wr W32 (Or.inl (List.mem_of_getElem? (i := 0) rfl))
        have sg36 : ∀ t, Steps p.tables e below (T32.setTop (mkF m 70 #[.val (.int x1), .val (.long n1), .second, .val (.int x2), .val (.long n2), .second, .val (.ref rx), .val (.ref ry)] [(.long (n1 + n2)), (.int (0 : Int32)), (.ref ry)])) t → Steps p.tables e below (T32.setTop (mkF m 63 #[.val (.int x1), .val (.long n1), .second, .val (.int x2), .val (.long n2), .second, .val (.ref rx), .val (.ref ry)] [])) t := by
          intro t k
          show Steps p.tables e below (T32.setTop (mkF m 63 #[.val (.int x1), .val (.long n1), .second, .val (.int x2), .val (.long n2), .second, .val (.ref rx), .val (.ref ry)] [])) _
          refine XS.aload X32.here hx rfl (hb hby d4_63) rfl rfl ?_
          show Steps p.tables e below (T32.setTop (mkF m 65 #[.val (.int x1), .val (.long n1), .second, .val (.int x2), .val (.long n2), .second, .val (.ref rx), .val (.ref ry)] [(.ref ry)])) _
          refine XS.iconst X32.here hx rfl (hb hby d4_65) ?_
          show Steps p.tables e below (T32.setTop (mkF m 66 #[.val (.int x1), .val (.long n1), .second, .val (.int x2), .val (.long n2), .second, .val (.ref rx), .val (.ref ry)] [(.int (0 : Int32)), (.ref ry)])) _
          refine XS.lloadN X32.here hx rfl (hb hby d4_66) rfl ?_
          show Steps p.tables e below (T32.setTop (mkF m 67 #[.val (.int x1), .val (.long n1), .second, .val (.int x2), .val (.long n2), .second, .val (.ref rx), .val (.ref ry)] [(.long n1), (.int (0 : Int32)), (.ref ry)])) _
          refine XS.lload X32.here hx rfl (hb hby d4_67) rfl ?_
          show Steps p.tables e below (T32.setTop (mkF m 69 #[.val (.int x1), .val (.long n1), .second, .val (.int x2), .val (.long n2), .second, .val (.ref rx), .val (.ref ry)] [(.long n2), (.long n1), (.int (0 : Int32)), (.ref ry)])) _
          refine XS.ladd X32.here hx rfl (hb hby d4_69) rfl ?_
          exact k
        obtain ⟨cl37, Ar37, q37, Sz37, Nn37, Hs37, G37⟩ := id f33
        have hin37 : ¬ ((0 : Int32) < 0 ∨ cl37.slots.size ≤ ((0 : Int32)).toNatClampNeg) := inb_of Sz37 ⟨by decide, by decide⟩
        obtain ⟨T37, h37, X37, e37, W37, st37⟩ := stJ X32 hx hZ e32 Ar37 (j := (0 : Int32)) hin37 (g := (mkF m 70 #[.val (.int x1), .val (.long n1), .second, .val (.int x2), .val (.long n2), .second, .val (.ref rx), .val (.ref ry)] [(.long (n1 + n2)), (.int (0 : Int32)), (.ref ry)])) rfl rfl (hb hby d4_70)
        have V37 : Arv Z h37 ry ky .long (2 : Int32) [(.long (n1 + n2)), (.long (0 : Int64))] (.long (0 : Int64)) := Arv.set Ar37 q37 Sz37 Nn37 Hs37 G37 rfl W37 0 rfl (Nat.le_of_ble_eq_true rfl)
        have N37 := Fr.snoc X37 N32 g_ry
        have f38 : Arv Z h37 rx kx .int (2 : Int32) [(.int x1), (.int (0 : Int32))] (.int (0 : Int32)) := V32.other W37 ne_rx_ry
        have z39 : n0 ≤ h37.size := Nat.le_trans z34 (Keep.of_wr W37).1
        have K40 : Keep h0 h37 [rx, ry] := K35.wr W37 (Or.inl (List.mem_of_getElem? (i := 1) rfl))
        have sg41 : ∀ t, Steps p.tables e below (T37.setTop (mkF m 72 #[.val (.int x1), .val (.long n1), .second, .val (.int x2), .val (.long n2), .second, .val (.ref rx), .val (.ref ry)] [(.int (1 : Int32))])) t → Steps p.tables e below (T37.setTop (mkF m 71 #[.val (.int x1), .val (.long n1), .second, .val (.int x2), .val (.long n2), .second, .val (.ref rx), .val (.ref ry)] [])) t := by
          intro t k
          show Steps p.tables e below (T37.setTop (mkF m 71 #[.val (.int x1), .val (.long n1), .second, .val (.int x2), .val (.long n2), .second, .val (.ref rx), .val (.ref ry)] [])) _
          refine XS.iconst X37.here hx rfl (hb hby d4_71) ?_
          exact k
        obtain ⟨fs, hr, hrun, hended, hW, hsame⟩ := X37.leave (v := some (.int (1 : Int32))) (fun h => by rw [Bd.returns] at h; cases h) (hlocks := hlk)
        refine ⟨_, _, pre0 _ ?_, hrun, hended, _, _, rfl, ?_, ⟨_, rfl⟩, hW, hsame.mono (by decide) (by decide)⟩
        · show Steps p.tables e below (s₁.setTop (mkF m 0 #[.val (.int x1), .val (.long n1), .second, .val (.int x2), .val (.long n2), .second, .val (.ref rx), .val (.ref ry)] [])) _
          refine ch30 _ ?_
          show Steps p.tables e below (s₁.setTop (mkF m 55 #[.val (.int x1), .val (.long n1), .second, .val (.int x2), .val (.long n2), .second, .val (.ref rx), .val (.ref ry)] [(.int x2), (.int x1)])) _
          refine sgf55 _ ?_
          show Steps p.tables e below (s₁.setTop (mkF m 58 #[.val (.int x1), .val (.long n1), .second, .val (.int x2), .val (.long n2), .second, .val (.ref rx), .val (.ref ry)] [])) _
          refine sg31 _ ?_
          show Steps p.tables e below (s₁.setTop (mkF m 62 #[.val (.int x1), .val (.long n1), .second, .val (.int x2), .val (.long n2), .second, .val (.ref rx), .val (.ref ry)] [(.int x1), (.int (0 : Int32)), (.ref rx)])) _
          refine st32 _ ?_
          show Steps p.tables e below (T32.setTop (mkF m 63 #[.val (.int x1), .val (.long n1), .second, .val (.int x2), .val (.long n2), .second, .val (.ref rx), .val (.ref ry)] [])) _
          refine sg36 _ ?_
          show Steps p.tables e below (T32.setTop (mkF m 70 #[.val (.int x1), .val (.long n1), .second, .val (.int x2), .val (.long n2), .second, .val (.ref rx), .val (.ref ry)] [(.long (n1 + n2)), (.int (0 : Int32)), (.ref ry)])) _
          refine st37 _ ?_
          show Steps p.tables e below (T37.setTop (mkF m 71 #[.val (.int x1), .val (.long n1), .second, .val (.int x2), .val (.long n2), .second, .val (.ref rx), .val (.ref ry)] [])) _
          refine sg41 _ ?_
          show Steps p.tables e below (T37.setTop (mkF m 72 #[.val (.int x1), .val (.long n1), .second, .val (.int x2), .val (.long n2), .second, .val (.ref rx), .val (.ref ry)] [(.int (1 : Int32))])) _
          exact retI X37 hx Bd.returns (hb hby d4_72) hr
        · show Q_rmC Z x1 n1 x2 n2 rx ry kx ky h0 n0 _ T37.heap _
          rw [e37]
          exact ⟨(1 : Int32), x1, (0 : Int32), (n1 + n2), (0 : Int64), rfl, N37, K40, f38, V37, (Or.inr (Or.inr (Or.inr (Or.inl ⟨hc3, hc38, hc55, rfl, rfl, rfl⟩))))⟩
      · have sgf55 : ∀ t, Steps p.tables e below (s₁.setTop (mkF m 73 #[.val (.int x1), .val (.long n1), .second, .val (.int x2), .val (.long n2), .second, .val (.ref rx), .val (.ref ry)] [])) t → Steps p.tables e below (s₁.setTop (mkF m 55 #[.val (.int x1), .val (.long n1), .second, .val (.int x2), .val (.long n2), .second, .val (.ref rx), .val (.ref ry)] [(.int x2), (.int x1)])) t := fun t k => by
          refine XS.icmpYes X0.here hx rfl (pc0 := 55) (pc' := 73) rfl (hb hby d4_55) rfl (feq hc55).2 (by decide) (by decide) ?_
          exact k
        have sg42 : ∀ t, Steps p.tables e below (s₁.setTop (mkF m 77 #[.val (.int x1), .val (.long n1), .second, .val (.int x2), .val (.long n2), .second, .val (.ref rx), .val (.ref ry)] [(.int x1), (.int (0 : Int32)), (.ref rx)])) t → Steps p.tables e below (s₁.setTop (mkF m 73 #[.val (.int x1), .val (.long n1), .second, .val (.int x2), .val (.long n2), .second, .val (.ref rx), .val (.ref ry)] [])) t := by
          intro t k
          show Steps p.tables e below (s₁.setTop (mkF m 73 #[.val (.int x1), .val (.long n1), .second, .val (.int x2), .val (.long n2), .second, .val (.ref rx), .val (.ref ry)] [])) _
          refine XS.aload X0.here hx rfl (hb hby d4_73) rfl rfl ?_
          show Steps p.tables e below (s₁.setTop (mkF m 75 #[.val (.int x1), .val (.long n1), .second, .val (.int x2), .val (.long n2), .second, .val (.ref rx), .val (.ref ry)] [(.ref rx)])) _
          refine XS.iconst X0.here hx rfl (hb hby d4_75) ?_
          show Steps p.tables e below (s₁.setTop (mkF m 76 #[.val (.int x1), .val (.long n1), .second, .val (.int x2), .val (.long n2), .second, .val (.ref rx), .val (.ref ry)] [(.int (0 : Int32)), (.ref rx)])) _
          refine XS.iloadN X0.here hx rfl (hb hby d4_76) rfl ?_
          exact k
        obtain ⟨cl43, Ar43, q43, Sz43, Nn43, Hs43, G43⟩ := id P0
        have hin43 : ¬ ((0 : Int32) < 0 ∨ cl43.slots.size ≤ ((0 : Int32)).toNatClampNeg) := inb_of Sz43 ⟨by decide, by decide⟩
        obtain ⟨T43, h43, X43, e43, W43, st43⟩ := stI X0 hx hZ e0 Ar43 (j := (0 : Int32)) hin43 (g := (mkF m 77 #[.val (.int x1), .val (.long n1), .second, .val (.int x2), .val (.long n2), .second, .val (.ref rx), .val (.ref ry)] [(.int x1), (.int (0 : Int32)), (.ref rx)])) rfl rfl (hb hby d4_77)
        have V43 : Arv Z h43 rx kx .int (2 : Int32) [(.int x1), (.int (0 : Int32))] (.int (0 : Int32)) := Arv.set Ar43 q43 Sz43 Nn43 Hs43 G43 rfl W43 0 rfl (Nat.le_of_ble_eq_true rfl)
        have N43 := Fr.snoc X43 N0 g_rx
        have f44 : Arv Z h43 ry ky .long (2 : Int32) [(.long (0 : Int64)), (.long (0 : Int64))] (.long (0 : Int64)) := P1.other W43 (Ne.symm ne_rx_ry)
        have z45 : n0 ≤ h43.size := Nat.le_trans Z0 (Keep.of_wr W43).1
        have K46 : Keep h0 h43 [rx, ry] := K0.wr W43 (Or.inl (List.mem_of_getElem? (i := 0) rfl))
        have sg47 : ∀ t, Steps p.tables e below (T43.setTop (mkF m 82 #[.val (.int x1), .val (.long n1), .second, .val (.int x2), .val (.long n2), .second, .val (.ref rx), .val (.ref ry)] [(.long n1), (.int (0 : Int32)), (.ref ry)])) t → Steps p.tables e below (T43.setTop (mkF m 78 #[.val (.int x1), .val (.long n1), .second, .val (.int x2), .val (.long n2), .second, .val (.ref rx), .val (.ref ry)] [])) t := by
          intro t k
          show Steps p.tables e below (T43.setTop (mkF m 78 #[.val (.int x1), .val (.long n1), .second, .val (.int x2), .val (.long n2), .second, .val (.ref rx), .val (.ref ry)] [])) _
          refine XS.aload X43.here hx rfl (hb hby d4_78) rfl rfl ?_
          show Steps p.tables e below (T43.setTop (mkF m 80 #[.val (.int x1), .val (.long n1), .second, .val (.int x2), .val (.long n2), .second, .val (.ref rx), .val (.ref ry)] [(.ref ry)])) _
          refine XS.iconst X43.here hx rfl (hb hby d4_80) ?_
          show Steps p.tables e below (T43.setTop (mkF m 81 #[.val (.int x1), .val (.long n1), .second, .val (.int x2), .val (.long n2), .second, .val (.ref rx), .val (.ref ry)] [(.int (0 : Int32)), (.ref ry)])) _
          refine XS.lloadN X43.here hx rfl (hb hby d4_81) rfl ?_
          exact k
        obtain ⟨cl48, Ar48, q48, Sz48, Nn48, Hs48, G48⟩ := id f44
        have hin48 : ¬ ((0 : Int32) < 0 ∨ cl48.slots.size ≤ ((0 : Int32)).toNatClampNeg) := inb_of Sz48 ⟨by decide, by decide⟩
        obtain ⟨T48, h48, X48, e48, W48, st48⟩ := stJ X43 hx hZ e43 Ar48 (j := (0 : Int32)) hin48 (g := (mkF m 82 #[.val (.int x1), .val (.long n1), .second, .val (.int x2), .val (.long n2), .second, .val (.ref rx), .val (.ref ry)] [(.long n1), (.int (0 : Int32)), (.ref ry)])) rfl rfl (hb hby d4_82)
        have V48 : Arv Z h48 ry ky .long (2 : Int32) [(.long n1), (.long (0 : Int64))] (.long (0 : Int64)) := Arv.set Ar48 q48 Sz48 Nn48 Hs48 G48 rfl W48 0 rfl (Nat.le_of_ble_eq_true rfl)
        have N48 := Fr.snoc X48 N43 g_ry
        have f49 : Arv Z h48 rx kx .int (2 : Int32) [(.int x1), (.int (0 : Int32))] (.int (0 : Int32)) := V43.other W48 ne_rx_ry
        have z50 : n0 ≤ h48.size := Nat.le_trans z45 (Keep.of_wr W48).1
        have K51 : Keep h0 h48 [rx, ry] := K46.wr W48 (Or.inl (List.mem_of_getElem? (i := 1) rfl))
        have sg52 : ∀ t, Steps p.tables e below (T48.setTop (mkF m 87 #[.val (.int x1), .val (.long n1), .second, .val (.int x2), .val (.long n2), .second, .val (.ref rx), .val (.ref ry)] [(.int x2), (.int (1 : Int32)), (.ref rx)])) t → Steps p.tables e below (T48.setTop (mkF m 83 #[.val (.int x1), .val (.long n1), .second, .val (.int x2), .val (.long n2), .second, .val (.ref rx), .val (.ref ry)] [])) t := by
          intro t k
          show Steps p.tables e below (T48.setTop (mkF m 83 #[.val (.int x1), .val (.long n1), .second, .val (.int x2), .val (.long n2), .second, .val (.ref rx), .val (.ref ry)] [])) _
          refine XS.aload X48.here hx rfl (hb hby d4_83) rfl rfl ?_
          show Steps p.tables e below (T48.setTop (mkF m 85 #[.val (.int x1), .val (.long n1), .second, .val (.int x2), .val (.long n2), .second, .val (.ref rx), .val (.ref ry)] [(.ref rx)])) _
          refine XS.iconst X48.here hx rfl (hb hby d4_85) ?_
          show Steps p.tables e below (T48.setTop (mkF m 86 #[.val (.int x1), .val (.long n1), .second, .val (.int x2), .val (.long n2), .second, .val (.ref rx), .val (.ref ry)] [(.int (1 : Int32)), (.ref rx)])) _
          refine XS.iloadN X48.here hx rfl (hb hby d4_86) rfl ?_
          exact k
        obtain ⟨cl53, Ar53, q53, Sz53, Nn53, Hs53, G53⟩ := id f49
        have hin53 : ¬ ((1 : Int32) < 0 ∨ cl53.slots.size ≤ ((1 : Int32)).toNatClampNeg) := inb_of Sz53 ⟨by decide, by decide⟩
        obtain ⟨T53, h53, X53, e53, W53, st53⟩ := stI X48 hx hZ e48 Ar53 (j := (1 : Int32)) hin53 (g := (mkF m 87 #[.val (.int x1), .val (.long n1), .second, .val (.int x2), .val (.long n2), .second, .val (.ref rx), .val (.ref ry)] [(.int x2), (.int (1 : Int32)), (.ref rx)])) rfl rfl (hb hby d4_87)
        have V53 : Arv Z h53 rx kx .int (2 : Int32) [(.int x1), (.int x2)] (.int (0 : Int32)) := Arv.set Ar53 q53 Sz53 Nn53 Hs53 G53 rfl W53 1 rfl (Nat.le_of_ble_eq_true rfl)
        have N53 := Fr.snoc X53 N48 g_rx
        have f54 : Arv Z h53 ry ky .long (2 : Int32) [(.long n1), (.long (0 : Int64))] (.long (0 : Int64)) := V48.other W53 (Ne.symm ne_rx_ry)
        have z55 : n0 ≤ h53.size := Nat.le_trans z50 (Keep.of_wr W53).1
        have K56 : Keep h0 h53 [rx, ry] := K51.wr W53 (Or.inl (List.mem_of_getElem? (i := 0) rfl))
        have sg57 : ∀ t, Steps p.tables e below (T53.setTop (mkF m 93 #[.val (.int x1), .val (.long n1), .second, .val (.int x2), .val (.long n2), .second, .val (.ref rx), .val (.ref ry)] [(.long n2), (.int (1 : Int32)), (.ref ry)])) t → Steps p.tables e below (T53.setTop (mkF m 88 #[.val (.int x1), .val (.long n1), .second, .val (.int x2), .val (.long n2), .second, .val (.ref rx), .val (.ref ry)] [])) t := by
          intro t k
          show Steps p.tables e below (T53.setTop (mkF m 88 #[.val (.int x1), .val (.long n1), .second, .val (.int x2), .val (.long n2), .second, .val (.ref rx), .val (.ref ry)] [])) _
          refine XS.aload X53.here hx rfl (hb hby d4_88) rfl rfl ?_
          show Steps p.tables e below (T53.setTop (mkF m 90 #[.val (.int x1), .val (.long n1), .second, .val (.int x2), .val (.long n2), .second, .val (.ref rx), .val (.ref ry)] [(.ref ry)])) _
          refine XS.iconst X53.here hx rfl (hb hby d4_90) ?_
          show Steps p.tables e below (T53.setTop (mkF m 91 #[.val (.int x1), .val (.long n1), .second, .val (.int x2), .val (.long n2), .second, .val (.ref rx), .val (.ref ry)] [(.int (1 : Int32)), (.ref ry)])) _
          refine XS.lload X53.here hx rfl (hb hby d4_91) rfl ?_
          exact k
        obtain ⟨cl58, Ar58, q58, Sz58, Nn58, Hs58, G58⟩ := id f54
        have hin58 : ¬ ((1 : Int32) < 0 ∨ cl58.slots.size ≤ ((1 : Int32)).toNatClampNeg) := inb_of Sz58 ⟨by decide, by decide⟩
        obtain ⟨T58, h58, X58, e58, W58, st58⟩ := stJ X53 hx hZ e53 Ar58 (j := (1 : Int32)) hin58 (g := (mkF m 93 #[.val (.int x1), .val (.long n1), .second, .val (.int x2), .val (.long n2), .second, .val (.ref rx), .val (.ref ry)] [(.long n2), (.int (1 : Int32)), (.ref ry)])) rfl rfl (hb hby d4_93)
        have V58 : Arv Z h58 ry ky .long (2 : Int32) [(.long n1), (.long n2)] (.long (0 : Int64)) := Arv.set Ar58 q58 Sz58 Nn58 Hs58 G58 rfl W58 1 rfl (Nat.le_of_ble_eq_true rfl)
        have N58 := Fr.snoc X58 N53 g_ry
        have f59 : Arv Z h58 rx kx .int (2 : Int32) [(.int x1), (.int x2)] (.int (0 : Int32)) := V53.other W58 ne_rx_ry
        have z60 : n0 ≤ h58.size := Nat.le_trans z55 (Keep.of_wr W58).1
        have K61 : Keep h0 h58 [rx, ry] := K56.wr W58 (Or.inl (List.mem_of_getElem? (i := 1) rfl))
        have sg62 : ∀ t, Steps p.tables e below (T58.setTop (mkF m 95 #[.val (.int x1), .val (.long n1), .second, .val (.int x2), .val (.long n2), .second, .val (.ref rx), .val (.ref ry)] [(.int (2 : Int32))])) t → Steps p.tables e below (T58.setTop (mkF m 94 #[.val (.int x1), .val (.long n1), .second, .val (.int x2), .val (.long n2), .second, .val (.ref rx), .val (.ref ry)] [])) t := by
          intro t k
          show Steps p.tables e below (T58.setTop (mkF m 94 #[.val (.int x1), .val (.long n1), .second, .val (.int x2), .val (.long n2), .second, .val (.ref rx), .val (.ref ry)] [])) _
          refine XS.iconst X58.here hx rfl (hb hby d4_94) ?_
          exact k
        obtain ⟨fs, hr, hrun, hended, hW, hsame⟩ := X58.leave (v := some (.int (2 : Int32))) (fun h => by rw [Bd.returns] at h; cases h) (hlocks := hlk)
        refine ⟨_, _, pre0 _ ?_, hrun, hended, _, _, rfl, ?_, ⟨_, rfl⟩, hW, hsame.mono (by decide) (by decide)⟩
        · show Steps p.tables e below (s₁.setTop (mkF m 0 #[.val (.int x1), .val (.long n1), .second, .val (.int x2), .val (.long n2), .second, .val (.ref rx), .val (.ref ry)] [])) _
          refine ch30 _ ?_
          show Steps p.tables e below (s₁.setTop (mkF m 55 #[.val (.int x1), .val (.long n1), .second, .val (.int x2), .val (.long n2), .second, .val (.ref rx), .val (.ref ry)] [(.int x2), (.int x1)])) _
          refine sgf55 _ ?_
          show Steps p.tables e below (s₁.setTop (mkF m 73 #[.val (.int x1), .val (.long n1), .second, .val (.int x2), .val (.long n2), .second, .val (.ref rx), .val (.ref ry)] [])) _
          refine sg42 _ ?_
          show Steps p.tables e below (s₁.setTop (mkF m 77 #[.val (.int x1), .val (.long n1), .second, .val (.int x2), .val (.long n2), .second, .val (.ref rx), .val (.ref ry)] [(.int x1), (.int (0 : Int32)), (.ref rx)])) _
          refine st43 _ ?_
          show Steps p.tables e below (T43.setTop (mkF m 78 #[.val (.int x1), .val (.long n1), .second, .val (.int x2), .val (.long n2), .second, .val (.ref rx), .val (.ref ry)] [])) _
          refine sg47 _ ?_
          show Steps p.tables e below (T43.setTop (mkF m 82 #[.val (.int x1), .val (.long n1), .second, .val (.int x2), .val (.long n2), .second, .val (.ref rx), .val (.ref ry)] [(.long n1), (.int (0 : Int32)), (.ref ry)])) _
          refine st48 _ ?_
          show Steps p.tables e below (T48.setTop (mkF m 83 #[.val (.int x1), .val (.long n1), .second, .val (.int x2), .val (.long n2), .second, .val (.ref rx), .val (.ref ry)] [])) _
          refine sg52 _ ?_
          show Steps p.tables e below (T48.setTop (mkF m 87 #[.val (.int x1), .val (.long n1), .second, .val (.int x2), .val (.long n2), .second, .val (.ref rx), .val (.ref ry)] [(.int x2), (.int (1 : Int32)), (.ref rx)])) _
          refine st53 _ ?_
          show Steps p.tables e below (T53.setTop (mkF m 88 #[.val (.int x1), .val (.long n1), .second, .val (.int x2), .val (.long n2), .second, .val (.ref rx), .val (.ref ry)] [])) _
          refine sg57 _ ?_
          show Steps p.tables e below (T53.setTop (mkF m 93 #[.val (.int x1), .val (.long n1), .second, .val (.int x2), .val (.long n2), .second, .val (.ref rx), .val (.ref ry)] [(.long n2), (.int (1 : Int32)), (.ref ry)])) _
          refine st58 _ ?_
          show Steps p.tables e below (T58.setTop (mkF m 94 #[.val (.int x1), .val (.long n1), .second, .val (.int x2), .val (.long n2), .second, .val (.ref rx), .val (.ref ry)] [])) _
          refine sg62 _ ?_
          show Steps p.tables e below (T58.setTop (mkF m 95 #[.val (.int x1), .val (.long n1), .second, .val (.int x2), .val (.long n2), .second, .val (.ref rx), .val (.ref ry)] [(.int (2 : Int32))])) _
          exact retI X58 hx Bd.returns (hb hby d4_95) hr
        · show Q_rmC Z x1 n1 x2 n2 rx ry kx ky h0 n0 _ T58.heap _
          rw [e58]
          exact ⟨(2 : Int32), x1, x2, n1, n2, rfl, N58, K61, f59, V58, (Or.inr (Or.inr (Or.inr (Or.inr ⟨hc3, hc38, hc55, rfl, rfl, rfl, rfl, rfl⟩))))⟩
def Q_rmS (Z : State) (ra : Addr) (rb : Addr) (r1 : Addr) (r2 : Addr) (k1 : ClassId) (k2 : ClassId) (sz : Int32) (s0 : Int32) (s1 : Int32) (c0 : Int64) (c1 : Int64) (y1 : Addr) (y2 : Addr) (j1 : ClassId) (j2 : ClassId) (sy : Int32) (u0 : Int32) (u1 : Int32) (w0 : Int64) (w1 : Int64) (h0 : Heap) (n0 : Nat) (v : Option Value) (h : Heap) (L : List Loc) : Prop := v = some (.int (own_same sz s0 s1 c0 c1 sy u0 u1 w0 w1)) ∧ Fr n0 L ∧ h = h0
theorem ef_rmS (m : MethodId) (x0 : Addr) (x1 : Addr) : entryFrame m #[(.ref x0), (.ref x1)] 3 = mkF m 0 #[.val (.ref x0), .val (.ref x1), .unset] [] := by first | (simp [entryFrame, mkF, argsToLocals, Value.category]; done) | rfl
theorem d5_0 : decode prog_133_method_13_code 0 = .ok (.aload_n 0, 1) := by decide +kernel
theorem d5_1 : decode prog_133_method_13_code 1 = .ok (.getfield 20, 3) := by decide +kernel
theorem d5_4 : decode prog_133_method_13_code 4 = .ok (.aload_n 1, 1) := by decide +kernel
theorem d5_5 : decode prog_133_method_13_code 5 = .ok (.getfield 20, 3) := by decide +kernel
theorem d5_8 : decode prog_133_method_13_code 8 = .ok (.if_icmp .eq 5, 3) := by decide +kernel
theorem d5_11 : decode prog_133_method_13_code 11 = .ok (.iconst 0, 1) := by decide +kernel
theorem d5_12 : decode prog_133_method_13_code 12 = .ok (.ireturn, 1) := by decide +kernel
theorem d5_13 : decode prog_133_method_13_code 13 = .ok (.iconst 0, 1) := by decide +kernel
theorem d5_14 : decode prog_133_method_13_code 14 = .ok (.istore_n 2, 1) := by decide +kernel
theorem d5_15 : decode prog_133_method_13_code 15 = .ok (.iload_n 2, 1) := by decide +kernel
theorem d5_16 : decode prog_133_method_13_code 16 = .ok (.aload_n 0, 1) := by decide +kernel
theorem d5_17 : decode prog_133_method_13_code 17 = .ok (.getfield 20, 3) := by decide +kernel
theorem d5_20 : decode prog_133_method_13_code 20 = .ok (.if_icmp .ge 42, 3) := by decide +kernel
theorem d5_23 : decode prog_133_method_13_code 23 = .ok (.aload_n 0, 1) := by decide +kernel
theorem d5_24 : decode prog_133_method_13_code 24 = .ok (.getfield 7, 3) := by decide +kernel
theorem d5_27 : decode prog_133_method_13_code 27 = .ok (.iload_n 2, 1) := by decide +kernel
theorem d5_28 : decode prog_133_method_13_code 28 = .ok (.iaload, 1) := by decide +kernel
theorem d5_29 : decode prog_133_method_13_code 29 = .ok (.aload_n 1, 1) := by decide +kernel
theorem d5_30 : decode prog_133_method_13_code 30 = .ok (.getfield 7, 3) := by decide +kernel
theorem d5_33 : decode prog_133_method_13_code 33 = .ok (.iload_n 2, 1) := by decide +kernel
theorem d5_34 : decode prog_133_method_13_code 34 = .ok (.iaload, 1) := by decide +kernel
theorem d5_35 : decode prog_133_method_13_code 35 = .ok (.if_icmp .ne 19, 3) := by decide +kernel
theorem d5_38 : decode prog_133_method_13_code 38 = .ok (.aload_n 0, 1) := by decide +kernel
theorem d5_39 : decode prog_133_method_13_code 39 = .ok (.getfield 13, 3) := by decide +kernel
theorem d5_42 : decode prog_133_method_13_code 42 = .ok (.iload_n 2, 1) := by decide +kernel
theorem d5_43 : decode prog_133_method_13_code 43 = .ok (.laload, 1) := by decide +kernel
theorem d5_44 : decode prog_133_method_13_code 44 = .ok (.aload_n 1, 1) := by decide +kernel
theorem d5_45 : decode prog_133_method_13_code 45 = .ok (.getfield 13, 3) := by decide +kernel
theorem d5_48 : decode prog_133_method_13_code 48 = .ok (.iload_n 2, 1) := by decide +kernel
theorem d5_49 : decode prog_133_method_13_code 49 = .ok (.laload, 1) := by decide +kernel
theorem d5_50 : decode prog_133_method_13_code 50 = .ok (.lcmp, 1) := by decide +kernel
theorem d5_51 : decode prog_133_method_13_code 51 = .ok (.ifCond .eq 5, 3) := by decide +kernel
theorem d5_54 : decode prog_133_method_13_code 54 = .ok (.iconst 0, 1) := by decide +kernel
theorem d5_55 : decode prog_133_method_13_code 55 = .ok (.ireturn, 1) := by decide +kernel
theorem d5_56 : decode prog_133_method_13_code 56 = .ok (.iinc 2 1, 3) := by decide +kernel
theorem d5_59 : decode prog_133_method_13_code 59 = .ok (.goto (-44), 3) := by decide +kernel
theorem d5_62 : decode prog_133_method_13_code 62 = .ok (.iconst 1, 1) := by decide +kernel
theorem d5_63 : decode prog_133_method_13_code 63 = .ok (.ireturn, 1) := by decide +kernel
set_option maxRecDepth 65536 in
set_option maxHeartbeats 40000000 in
theorem rmS (l : Launch) (Z : State) (a0 : Array Value) (hw : ∀ d ∈ tables_1, d.before a0 Z = true) (ws : List Jvm.Cond) (ra : Addr) (rb : Addr) (r1 : Addr) (r2 : Addr) (k1 : ClassId) (k2 : ClassId) (sz : Int32) (s0 : Int32) (s1 : Int32) (c0 : Int64) (c1 : Int64) (y1 : Addr) (y2 : Addr) (j1 : ClassId) (j2 : ClassId) (sy : Int32) (u0 : Int32) (u1 : Int32) (w0 : Int64) (w1 : Int64) (h0 : Heap) (n0 : Nat) (Z0 : n0 ≤ h0.size) (P0 : Fld Z h0 ra "querymill/regex/CodePointRuns" "size" "I" (.int sz)) (P1 : Fld Z h0 ra "querymill/regex/CodePointRuns" "sets" "[I" (.ref r1)) (P2 : Fld Z h0 ra "querymill/regex/CodePointRuns" "counts" "[J" (.ref r2)) (P3 : Arv Z h0 r1 k1 .int (4 : Int32) [(.int s0), (.int s1), (.int (0 : Int32)), (.int (0 : Int32))] (.int (0 : Int32))) (P4 : Arv Z h0 r2 k2 .long (4 : Int32) [(.long c0), (.long c1), (.long (0 : Int64)), (.long (0 : Int64))] (.long (0 : Int64))) (P5 : Fld Z h0 rb "querymill/regex/CodePointRuns" "size" "I" (.int sy)) (P6 : Fld Z h0 rb "querymill/regex/CodePointRuns" "sets" "[I" (.ref y1)) (P7 : Fld Z h0 rb "querymill/regex/CodePointRuns" "counts" "[J" (.ref y2)) (P8 : Arv Z h0 y1 j1 .int (4 : Int32) [(.int u0), (.int u1), (.int (0 : Int32)), (.int (0 : Int32))] (.int (0 : Int32))) (P9 : Arv Z h0 y2 j2 .long (4 : Int32) [(.long w0), (.long w1), (.long (0 : Int64)), (.long (0 : Int64))] (.long (0 : Int64))) (hsz : sz = (0 : Int32) ∨ sz = (1 : Int32) ∨ sz = (2 : Int32)) (hsy : sy = (0 : Int32) ∨ sy = (1 : Int32) ∨ sy = (2 : Int32)) :
    MetFree l (⟨"querymill/regex/CodePointRuns", "sameAs", "(Lquerymill/regex/CodePointRuns;)Z"⟩ : MethodName) (head1 (Jvm.Cond.code (⟨"querymill/regex/CodePointRuns", "sameAs", "(Lquerymill/regex/CodePointRuns;)Z"⟩ : MethodName) prog_133_method_13_code 3 (some .boolean) :: ws) ({ frames := 0, cells := 0, slots := 0, locals := 0 } : Room)) (fun a U => a = #[(.ref ra), (.ref rb)] ∧ Z.Warmed39 U.vm ∧ U.heap = h0) (fun _ _ _ _ _ => True) (fun _ U o U' => ∃ v L, o = .returned v ∧ Q_rmS Z ra rb r1 r2 k1 k2 sz s0 s1 c0 c1 y1 y2 j1 j2 sy u0 u1 w0 w1 h0 n0 v U'.heap L ∧ FrameEnd U o U' L ({ frames := 0, cells := 0, slots := 0, locals := 0 } : Room).cells ({ frames := 0, cells := 0, slots := 0, locals := 0 } : Room).slots) := by
  refine MetFree.of_bodySF (plainFor_of_name pn_0) hisR ?_
  intro p e s m args below meth c s₁ Bd hml0 hP hK
  obtain ⟨rfl, hZ, hh⟩ := hP
  have hx := Bd.exec
  have hby := Bd.bytes
  have hml : c.maxLocals = 3 := hml0
  have hown : s.vm.findClass "querymill/regex/CodePointRuns" = some m.cls := findClass_of_methodNamed Bd.named
  have hnm := (name_of_methodNamed Bd.named Bd.method).1
  have hlk : meth.locks = false := by first | exact BodyLoose.notSynchronized Bd | exact Body.notSynchronized Bd
  have X0 : Stand p l e ({ frames := 0, cells := 0, slots := 0, locals := 0 } : Room) s m #[(.ref ra), (.ref rb)] below meth c s₁ [] 0 0 := Stand.of_body Bd
  have e0 : s₁.heap = h0 := by rw [← hh, Bd.state]; rfl
  have N0 := Fr.nil n0
  have pre0 : ∀ t, Steps p.tables e below (s₁.setTop (mkF m 0 #[.val (.ref ra), .val (.ref rb), .unset] [])) t → Steps p.tables e below (s₁.setTop (entryFrame m #[(.ref ra), (.ref rb)] 3)) t := fun t k => castTop (ef_rmS m ra rb) k
  rcases hsz with rfl | rfl | rfl
  · rcases hsy with rfl | rfl | rfl
    · skip
      have sg1 : ∀ t, Steps p.tables e below (s₁.setTop (mkF m 1 #[.val (.ref ra), .val (.ref rb), .unset] [(.ref ra)])) t → Steps p.tables e below (s₁.setTop (mkF m 0 #[.val (.ref ra), .val (.ref rb), .unset] [])) t := by
        intro t k
        show Steps p.tables e below (s₁.setTop (mkF m 0 #[.val (.ref ra), .val (.ref rb), .unset] [])) _
        refine XS.aloadN X0.here hx rfl (hb hby d5_0) rfl rfl ?_
        exact k
      obtain ⟨T2, X2, e2, st2⟩ := getF X0 hx hZ hown (host := "") (Or.inl (hw _ (List.mem_of_getElem? (i := 23) rfl))) Via.refl e0 P0 (g := (mkF m 1 #[.val (.ref ra), .val (.ref rb), .unset] [(.ref ra)])) rfl rfl (hb hby d5_1)
      have sg3 : ∀ t, Steps p.tables e below (T2.setTop (mkF m 5 #[.val (.ref ra), .val (.ref rb), .unset] [(.ref rb), (.int (0 : Int32))])) t → Steps p.tables e below (T2.setTop (mkF m 4 #[.val (.ref ra), .val (.ref rb), .unset] [(.int (0 : Int32))])) t := by
        intro t k
        show Steps p.tables e below (T2.setTop (mkF m 4 #[.val (.ref ra), .val (.ref rb), .unset] [(.int (0 : Int32))])) _
        refine XS.aloadN X2.here hx rfl (hb hby d5_4) rfl rfl ?_
        exact k
      obtain ⟨T4, X4, e4, st4⟩ := getF X2 hx hZ hown (host := "") (Or.inl (hw _ (List.mem_of_getElem? (i := 23) rfl))) Via.refl e2 P5 (g := (mkF m 5 #[.val (.ref ra), .val (.ref rb), .unset] [(.ref rb), (.int (0 : Int32))])) rfl rfl (hb hby d5_5)
      have sg5 : ∀ t, Steps p.tables e below (T4.setTop (mkF m 17 #[.val (.ref ra), .val (.ref rb), .val (.int (0 : Int32))] [(.ref ra), (.int (0 : Int32))])) t → Steps p.tables e below (T4.setTop (mkF m 8 #[.val (.ref ra), .val (.ref rb), .unset] [(.int (0 : Int32)), (.int (0 : Int32))])) t := by
        intro t k
        show Steps p.tables e below (T4.setTop (mkF m 8 #[.val (.ref ra), .val (.ref rb), .unset] [(.int (0 : Int32)), (.int (0 : Int32))])) _
        refine XS.icmpYes X4.here hx rfl (pc0 := 8) (pc' := 13) rfl (hb hby d5_8) rfl (teq (by decide : (0 : Int32) = (0 : Int32))).1 (by decide) (by decide) ?_
        show Steps p.tables e below (T4.setTop (mkF m 13 #[.val (.ref ra), .val (.ref rb), .unset] [])) _
        refine XS.iconst X4.here hx rfl (hb hby d5_13) ?_
        show Steps p.tables e below (T4.setTop (mkF m 14 #[.val (.ref ra), .val (.ref rb), .unset] [(.int (0 : Int32))])) _
        refine XS.istoreN X4.here hx rfl (hb hby d5_14) rfl (l' := #[.val (.ref ra), .val (.ref rb), .val (.int (0 : Int32))]) rfl ?_
        show Steps p.tables e below (T4.setTop (mkF m 15 #[.val (.ref ra), .val (.ref rb), .val (.int (0 : Int32))] [])) _
        refine XS.iloadN X4.here hx rfl (hb hby d5_15) rfl ?_
        show Steps p.tables e below (T4.setTop (mkF m 16 #[.val (.ref ra), .val (.ref rb), .val (.int (0 : Int32))] [(.int (0 : Int32))])) _
        refine XS.aloadN X4.here hx rfl (hb hby d5_16) rfl rfl ?_
        exact k
      obtain ⟨T6, X6, e6, st6⟩ := getF X4 hx hZ hown (host := "") (Or.inl (hw _ (List.mem_of_getElem? (i := 23) rfl))) Via.refl e4 P0 (g := (mkF m 17 #[.val (.ref ra), .val (.ref rb), .val (.int (0 : Int32))] [(.ref ra), (.int (0 : Int32))])) rfl rfl (hb hby d5_17)
      have sg7 : ∀ t, Steps p.tables e below (T6.setTop (mkF m 63 #[.val (.ref ra), .val (.ref rb), .val (.int (0 : Int32))] [(.int (1 : Int32))])) t → Steps p.tables e below (T6.setTop (mkF m 20 #[.val (.ref ra), .val (.ref rb), .val (.int (0 : Int32))] [(.int (0 : Int32)), (.int (0 : Int32))])) t := by
        intro t k
        show Steps p.tables e below (T6.setTop (mkF m 20 #[.val (.ref ra), .val (.ref rb), .val (.int (0 : Int32))] [(.int (0 : Int32)), (.int (0 : Int32))])) _
        refine XS.icmpYes X6.here hx rfl (pc0 := 20) (pc' := 62) rfl (hb hby d5_20) rfl (flt (by decide : ¬ ((0 : Int32) < (0 : Int32)))).2.1 (by decide) (by decide) ?_
        show Steps p.tables e below (T6.setTop (mkF m 62 #[.val (.ref ra), .val (.ref rb), .val (.int (0 : Int32))] [])) _
        refine XS.iconst X6.here hx rfl (hb hby d5_62) ?_
        exact k
      obtain ⟨fs, hr, hrun, hended, hW, hsame⟩ := X6.leave (v := some (.int (1 : Int32))) (fun h => by rw [Bd.returns] at h; cases h) (hlocks := hlk)
      refine ⟨_, _, pre0 _ ?_, hrun, hended, _, _, rfl, ?_, ⟨_, rfl⟩, hW, hsame.mono (by decide) (by decide)⟩
      · show Steps p.tables e below (s₁.setTop (mkF m 0 #[.val (.ref ra), .val (.ref rb), .unset] [])) _
        refine sg1 _ ?_
        show Steps p.tables e below (s₁.setTop (mkF m 1 #[.val (.ref ra), .val (.ref rb), .unset] [(.ref ra)])) _
        refine st2 _ ?_
        show Steps p.tables e below (T2.setTop (mkF m 4 #[.val (.ref ra), .val (.ref rb), .unset] [(.int (0 : Int32))])) _
        refine sg3 _ ?_
        show Steps p.tables e below (T2.setTop (mkF m 5 #[.val (.ref ra), .val (.ref rb), .unset] [(.ref rb), (.int (0 : Int32))])) _
        refine st4 _ ?_
        show Steps p.tables e below (T4.setTop (mkF m 8 #[.val (.ref ra), .val (.ref rb), .unset] [(.int (0 : Int32)), (.int (0 : Int32))])) _
        refine sg5 _ ?_
        show Steps p.tables e below (T4.setTop (mkF m 17 #[.val (.ref ra), .val (.ref rb), .val (.int (0 : Int32))] [(.ref ra), (.int (0 : Int32))])) _
        refine st6 _ ?_
        show Steps p.tables e below (T6.setTop (mkF m 20 #[.val (.ref ra), .val (.ref rb), .val (.int (0 : Int32))] [(.int (0 : Int32)), (.int (0 : Int32))])) _
        refine sg7 _ ?_
        show Steps p.tables e below (T6.setTop (mkF m 63 #[.val (.ref ra), .val (.ref rb), .val (.int (0 : Int32))] [(.int (1 : Int32))])) _
        exact retN X6 hx (t := .boolean) Bd.returns (by simp) (hb hby d5_63) hr
      · show Q_rmS Z ra rb r1 r2 k1 k2 (0 : Int32) s0 s1 c0 c1 y1 y2 j1 j2 (0 : Int32) u0 u1 w0 w1 h0 n0 _ T6.heap _
        rw [e6]
        exact ⟨(by rw [own_same, if_pos rfl, if_pos rfl]), N0, rfl⟩
    · skip
      have sg8 : ∀ t, Steps p.tables e below (s₁.setTop (mkF m 1 #[.val (.ref ra), .val (.ref rb), .unset] [(.ref ra)])) t → Steps p.tables e below (s₁.setTop (mkF m 0 #[.val (.ref ra), .val (.ref rb), .unset] [])) t := by
        intro t k
        show Steps p.tables e below (s₁.setTop (mkF m 0 #[.val (.ref ra), .val (.ref rb), .unset] [])) _
        refine XS.aloadN X0.here hx rfl (hb hby d5_0) rfl rfl ?_
        exact k
      obtain ⟨T9, X9, e9, st9⟩ := getF X0 hx hZ hown (host := "") (Or.inl (hw _ (List.mem_of_getElem? (i := 23) rfl))) Via.refl e0 P0 (g := (mkF m 1 #[.val (.ref ra), .val (.ref rb), .unset] [(.ref ra)])) rfl rfl (hb hby d5_1)
      have sg10 : ∀ t, Steps p.tables e below (T9.setTop (mkF m 5 #[.val (.ref ra), .val (.ref rb), .unset] [(.ref rb), (.int (0 : Int32))])) t → Steps p.tables e below (T9.setTop (mkF m 4 #[.val (.ref ra), .val (.ref rb), .unset] [(.int (0 : Int32))])) t := by
        intro t k
        show Steps p.tables e below (T9.setTop (mkF m 4 #[.val (.ref ra), .val (.ref rb), .unset] [(.int (0 : Int32))])) _
        refine XS.aloadN X9.here hx rfl (hb hby d5_4) rfl rfl ?_
        exact k
      obtain ⟨T11, X11, e11, st11⟩ := getF X9 hx hZ hown (host := "") (Or.inl (hw _ (List.mem_of_getElem? (i := 23) rfl))) Via.refl e9 P5 (g := (mkF m 5 #[.val (.ref ra), .val (.ref rb), .unset] [(.ref rb), (.int (0 : Int32))])) rfl rfl (hb hby d5_5)
      have sg12 : ∀ t, Steps p.tables e below (T11.setTop (mkF m 12 #[.val (.ref ra), .val (.ref rb), .unset] [(.int (0 : Int32))])) t → Steps p.tables e below (T11.setTop (mkF m 8 #[.val (.ref ra), .val (.ref rb), .unset] [(.int (1 : Int32)), (.int (0 : Int32))])) t := by
        intro t k
        show Steps p.tables e below (T11.setTop (mkF m 8 #[.val (.ref ra), .val (.ref rb), .unset] [(.int (1 : Int32)), (.int (0 : Int32))])) _
        refine XS.icmpNo X11.here hx rfl (hb hby d5_8) rfl (feq (by decide : ¬ ((0 : Int32) = (1 : Int32)))).1 ?_
        show Steps p.tables e below (T11.setTop (mkF m 11 #[.val (.ref ra), .val (.ref rb), .unset] [])) _
        refine XS.iconst X11.here hx rfl (hb hby d5_11) ?_
        exact k
      obtain ⟨fs, hr, hrun, hended, hW, hsame⟩ := X11.leave (v := some (.int (0 : Int32))) (fun h => by rw [Bd.returns] at h; cases h) (hlocks := hlk)
      refine ⟨_, _, pre0 _ ?_, hrun, hended, _, _, rfl, ?_, ⟨_, rfl⟩, hW, hsame.mono (by decide) (by decide)⟩
      · show Steps p.tables e below (s₁.setTop (mkF m 0 #[.val (.ref ra), .val (.ref rb), .unset] [])) _
        refine sg8 _ ?_
        show Steps p.tables e below (s₁.setTop (mkF m 1 #[.val (.ref ra), .val (.ref rb), .unset] [(.ref ra)])) _
        refine st9 _ ?_
        show Steps p.tables e below (T9.setTop (mkF m 4 #[.val (.ref ra), .val (.ref rb), .unset] [(.int (0 : Int32))])) _
        refine sg10 _ ?_
        show Steps p.tables e below (T9.setTop (mkF m 5 #[.val (.ref ra), .val (.ref rb), .unset] [(.ref rb), (.int (0 : Int32))])) _
        refine st11 _ ?_
        show Steps p.tables e below (T11.setTop (mkF m 8 #[.val (.ref ra), .val (.ref rb), .unset] [(.int (1 : Int32)), (.int (0 : Int32))])) _
        refine sg12 _ ?_
        show Steps p.tables e below (T11.setTop (mkF m 12 #[.val (.ref ra), .val (.ref rb), .unset] [(.int (0 : Int32))])) _
        exact retN X11 hx (t := .boolean) Bd.returns (by simp) (hb hby d5_12) hr
      · show Q_rmS Z ra rb r1 r2 k1 k2 (0 : Int32) s0 s1 c0 c1 y1 y2 j1 j2 (1 : Int32) u0 u1 w0 w1 h0 n0 _ T11.heap _
        rw [e11]
        exact ⟨(by rw [own_same, if_neg (by decide)]), N0, rfl⟩
    · skip
      have sg13 : ∀ t, Steps p.tables e below (s₁.setTop (mkF m 1 #[.val (.ref ra), .val (.ref rb), .unset] [(.ref ra)])) t → Steps p.tables e below (s₁.setTop (mkF m 0 #[.val (.ref ra), .val (.ref rb), .unset] [])) t := by
        intro t k
        show Steps p.tables e below (s₁.setTop (mkF m 0 #[.val (.ref ra), .val (.ref rb), .unset] [])) _
        refine XS.aloadN X0.here hx rfl (hb hby d5_0) rfl rfl ?_
        exact k
      obtain ⟨T14, X14, e14, st14⟩ := getF X0 hx hZ hown (host := "") (Or.inl (hw _ (List.mem_of_getElem? (i := 23) rfl))) Via.refl e0 P0 (g := (mkF m 1 #[.val (.ref ra), .val (.ref rb), .unset] [(.ref ra)])) rfl rfl (hb hby d5_1)
      have sg15 : ∀ t, Steps p.tables e below (T14.setTop (mkF m 5 #[.val (.ref ra), .val (.ref rb), .unset] [(.ref rb), (.int (0 : Int32))])) t → Steps p.tables e below (T14.setTop (mkF m 4 #[.val (.ref ra), .val (.ref rb), .unset] [(.int (0 : Int32))])) t := by
        intro t k
        show Steps p.tables e below (T14.setTop (mkF m 4 #[.val (.ref ra), .val (.ref rb), .unset] [(.int (0 : Int32))])) _
        refine XS.aloadN X14.here hx rfl (hb hby d5_4) rfl rfl ?_
        exact k
      obtain ⟨T16, X16, e16, st16⟩ := getF X14 hx hZ hown (host := "") (Or.inl (hw _ (List.mem_of_getElem? (i := 23) rfl))) Via.refl e14 P5 (g := (mkF m 5 #[.val (.ref ra), .val (.ref rb), .unset] [(.ref rb), (.int (0 : Int32))])) rfl rfl (hb hby d5_5)
      have sg17 : ∀ t, Steps p.tables e below (T16.setTop (mkF m 12 #[.val (.ref ra), .val (.ref rb), .unset] [(.int (0 : Int32))])) t → Steps p.tables e below (T16.setTop (mkF m 8 #[.val (.ref ra), .val (.ref rb), .unset] [(.int (2 : Int32)), (.int (0 : Int32))])) t := by
        intro t k
        show Steps p.tables e below (T16.setTop (mkF m 8 #[.val (.ref ra), .val (.ref rb), .unset] [(.int (2 : Int32)), (.int (0 : Int32))])) _
        refine XS.icmpNo X16.here hx rfl (hb hby d5_8) rfl (feq (by decide : ¬ ((0 : Int32) = (2 : Int32)))).1 ?_
        show Steps p.tables e below (T16.setTop (mkF m 11 #[.val (.ref ra), .val (.ref rb), .unset] [])) _
        refine XS.iconst X16.here hx rfl (hb hby d5_11) ?_
        exact k
      obtain ⟨fs, hr, hrun, hended, hW, hsame⟩ := X16.leave (v := some (.int (0 : Int32))) (fun h => by rw [Bd.returns] at h; cases h) (hlocks := hlk)
      refine ⟨_, _, pre0 _ ?_, hrun, hended, _, _, rfl, ?_, ⟨_, rfl⟩, hW, hsame.mono (by decide) (by decide)⟩
      · show Steps p.tables e below (s₁.setTop (mkF m 0 #[.val (.ref ra), .val (.ref rb), .unset] [])) _
        refine sg13 _ ?_
        show Steps p.tables e below (s₁.setTop (mkF m 1 #[.val (.ref ra), .val (.ref rb), .unset] [(.ref ra)])) _
        refine st14 _ ?_
        show Steps p.tables e below (T14.setTop (mkF m 4 #[.val (.ref ra), .val (.ref rb), .unset] [(.int (0 : Int32))])) _
        refine sg15 _ ?_
        show Steps p.tables e below (T14.setTop (mkF m 5 #[.val (.ref ra), .val (.ref rb), .unset] [(.ref rb), (.int (0 : Int32))])) _
        refine st16 _ ?_
        show Steps p.tables e below (T16.setTop (mkF m 8 #[.val (.ref ra), .val (.ref rb), .unset] [(.int (2 : Int32)), (.int (0 : Int32))])) _
        refine sg17 _ ?_
        show Steps p.tables e below (T16.setTop (mkF m 12 #[.val (.ref ra), .val (.ref rb), .unset] [(.int (0 : Int32))])) _
        exact retN X16 hx (t := .boolean) Bd.returns (by simp) (hb hby d5_12) hr
      · show Q_rmS Z ra rb r1 r2 k1 k2 (0 : Int32) s0 s1 c0 c1 y1 y2 j1 j2 (2 : Int32) u0 u1 w0 w1 h0 n0 _ T16.heap _
        rw [e16]
        exact ⟨(by rw [own_same, if_neg (by decide)]), N0, rfl⟩
  · rcases hsy with rfl | rfl | rfl
    · skip
      have sg18 : ∀ t, Steps p.tables e below (s₁.setTop (mkF m 1 #[.val (.ref ra), .val (.ref rb), .unset] [(.ref ra)])) t → Steps p.tables e below (s₁.setTop (mkF m 0 #[.val (.ref ra), .val (.ref rb), .unset] [])) t := by
        intro t k
        show Steps p.tables e below (s₁.setTop (mkF m 0 #[.val (.ref ra), .val (.ref rb), .unset] [])) _
        refine XS.aloadN X0.here hx rfl (hb hby d5_0) rfl rfl ?_
        exact k
      obtain ⟨T19, X19, e19, st19⟩ := getF X0 hx hZ hown (host := "") (Or.inl (hw _ (List.mem_of_getElem? (i := 23) rfl))) Via.refl e0 P0 (g := (mkF m 1 #[.val (.ref ra), .val (.ref rb), .unset] [(.ref ra)])) rfl rfl (hb hby d5_1)
      have sg20 : ∀ t, Steps p.tables e below (T19.setTop (mkF m 5 #[.val (.ref ra), .val (.ref rb), .unset] [(.ref rb), (.int (1 : Int32))])) t → Steps p.tables e below (T19.setTop (mkF m 4 #[.val (.ref ra), .val (.ref rb), .unset] [(.int (1 : Int32))])) t := by
        intro t k
        show Steps p.tables e below (T19.setTop (mkF m 4 #[.val (.ref ra), .val (.ref rb), .unset] [(.int (1 : Int32))])) _
        refine XS.aloadN X19.here hx rfl (hb hby d5_4) rfl rfl ?_
        exact k
      obtain ⟨T21, X21, e21, st21⟩ := getF X19 hx hZ hown (host := "") (Or.inl (hw _ (List.mem_of_getElem? (i := 23) rfl))) Via.refl e19 P5 (g := (mkF m 5 #[.val (.ref ra), .val (.ref rb), .unset] [(.ref rb), (.int (1 : Int32))])) rfl rfl (hb hby d5_5)
      have sg22 : ∀ t, Steps p.tables e below (T21.setTop (mkF m 12 #[.val (.ref ra), .val (.ref rb), .unset] [(.int (0 : Int32))])) t → Steps p.tables e below (T21.setTop (mkF m 8 #[.val (.ref ra), .val (.ref rb), .unset] [(.int (0 : Int32)), (.int (1 : Int32))])) t := by
        intro t k
        show Steps p.tables e below (T21.setTop (mkF m 8 #[.val (.ref ra), .val (.ref rb), .unset] [(.int (0 : Int32)), (.int (1 : Int32))])) _
        refine XS.icmpNo X21.here hx rfl (hb hby d5_8) rfl (feq (by decide : ¬ ((1 : Int32) = (0 : Int32)))).1 ?_
        show Steps p.tables e below (T21.setTop (mkF m 11 #[.val (.ref ra), .val (.ref rb), .unset] [])) _
        refine XS.iconst X21.here hx rfl (hb hby d5_11) ?_
        exact k
      obtain ⟨fs, hr, hrun, hended, hW, hsame⟩ := X21.leave (v := some (.int (0 : Int32))) (fun h => by rw [Bd.returns] at h; cases h) (hlocks := hlk)
      refine ⟨_, _, pre0 _ ?_, hrun, hended, _, _, rfl, ?_, ⟨_, rfl⟩, hW, hsame.mono (by decide) (by decide)⟩
      · show Steps p.tables e below (s₁.setTop (mkF m 0 #[.val (.ref ra), .val (.ref rb), .unset] [])) _
        refine sg18 _ ?_
        show Steps p.tables e below (s₁.setTop (mkF m 1 #[.val (.ref ra), .val (.ref rb), .unset] [(.ref ra)])) _
        refine st19 _ ?_
        show Steps p.tables e below (T19.setTop (mkF m 4 #[.val (.ref ra), .val (.ref rb), .unset] [(.int (1 : Int32))])) _
        refine sg20 _ ?_
        show Steps p.tables e below (T19.setTop (mkF m 5 #[.val (.ref ra), .val (.ref rb), .unset] [(.ref rb), (.int (1 : Int32))])) _
        refine st21 _ ?_
        show Steps p.tables e below (T21.setTop (mkF m 8 #[.val (.ref ra), .val (.ref rb), .unset] [(.int (0 : Int32)), (.int (1 : Int32))])) _
        refine sg22 _ ?_
        show Steps p.tables e below (T21.setTop (mkF m 12 #[.val (.ref ra), .val (.ref rb), .unset] [(.int (0 : Int32))])) _
        exact retN X21 hx (t := .boolean) Bd.returns (by simp) (hb hby d5_12) hr
      · show Q_rmS Z ra rb r1 r2 k1 k2 (1 : Int32) s0 s1 c0 c1 y1 y2 j1 j2 (0 : Int32) u0 u1 w0 w1 h0 n0 _ T21.heap _
        rw [e21]
        exact ⟨(by rw [own_same, if_neg (by decide)]), N0, rfl⟩
    · skip
      have sg23 : ∀ t, Steps p.tables e below (s₁.setTop (mkF m 1 #[.val (.ref ra), .val (.ref rb), .unset] [(.ref ra)])) t → Steps p.tables e below (s₁.setTop (mkF m 0 #[.val (.ref ra), .val (.ref rb), .unset] [])) t := by
        intro t k
        show Steps p.tables e below (s₁.setTop (mkF m 0 #[.val (.ref ra), .val (.ref rb), .unset] [])) _
        refine XS.aloadN X0.here hx rfl (hb hby d5_0) rfl rfl ?_
        exact k
      obtain ⟨T24, X24, e24, st24⟩ := getF X0 hx hZ hown (host := "") (Or.inl (hw _ (List.mem_of_getElem? (i := 23) rfl))) Via.refl e0 P0 (g := (mkF m 1 #[.val (.ref ra), .val (.ref rb), .unset] [(.ref ra)])) rfl rfl (hb hby d5_1)
      have sg25 : ∀ t, Steps p.tables e below (T24.setTop (mkF m 5 #[.val (.ref ra), .val (.ref rb), .unset] [(.ref rb), (.int (1 : Int32))])) t → Steps p.tables e below (T24.setTop (mkF m 4 #[.val (.ref ra), .val (.ref rb), .unset] [(.int (1 : Int32))])) t := by
        intro t k
        show Steps p.tables e below (T24.setTop (mkF m 4 #[.val (.ref ra), .val (.ref rb), .unset] [(.int (1 : Int32))])) _
        refine XS.aloadN X24.here hx rfl (hb hby d5_4) rfl rfl ?_
        exact k
      obtain ⟨T26, X26, e26, st26⟩ := getF X24 hx hZ hown (host := "") (Or.inl (hw _ (List.mem_of_getElem? (i := 23) rfl))) Via.refl e24 P5 (g := (mkF m 5 #[.val (.ref ra), .val (.ref rb), .unset] [(.ref rb), (.int (1 : Int32))])) rfl rfl (hb hby d5_5)
      have sg27 : ∀ t, Steps p.tables e below (T26.setTop (mkF m 17 #[.val (.ref ra), .val (.ref rb), .val (.int (0 : Int32))] [(.ref ra), (.int (0 : Int32))])) t → Steps p.tables e below (T26.setTop (mkF m 8 #[.val (.ref ra), .val (.ref rb), .unset] [(.int (1 : Int32)), (.int (1 : Int32))])) t := by
        intro t k
        show Steps p.tables e below (T26.setTop (mkF m 8 #[.val (.ref ra), .val (.ref rb), .unset] [(.int (1 : Int32)), (.int (1 : Int32))])) _
        refine XS.icmpYes X26.here hx rfl (pc0 := 8) (pc' := 13) rfl (hb hby d5_8) rfl (teq (by decide : (1 : Int32) = (1 : Int32))).1 (by decide) (by decide) ?_
        show Steps p.tables e below (T26.setTop (mkF m 13 #[.val (.ref ra), .val (.ref rb), .unset] [])) _
        refine XS.iconst X26.here hx rfl (hb hby d5_13) ?_
        show Steps p.tables e below (T26.setTop (mkF m 14 #[.val (.ref ra), .val (.ref rb), .unset] [(.int (0 : Int32))])) _
        refine XS.istoreN X26.here hx rfl (hb hby d5_14) rfl (l' := #[.val (.ref ra), .val (.ref rb), .val (.int (0 : Int32))]) rfl ?_
        show Steps p.tables e below (T26.setTop (mkF m 15 #[.val (.ref ra), .val (.ref rb), .val (.int (0 : Int32))] [])) _
        refine XS.iloadN X26.here hx rfl (hb hby d5_15) rfl ?_
        show Steps p.tables e below (T26.setTop (mkF m 16 #[.val (.ref ra), .val (.ref rb), .val (.int (0 : Int32))] [(.int (0 : Int32))])) _
        refine XS.aloadN X26.here hx rfl (hb hby d5_16) rfl rfl ?_
        exact k
      obtain ⟨T28, X28, e28, st28⟩ := getF X26 hx hZ hown (host := "") (Or.inl (hw _ (List.mem_of_getElem? (i := 23) rfl))) Via.refl e26 P0 (g := (mkF m 17 #[.val (.ref ra), .val (.ref rb), .val (.int (0 : Int32))] [(.ref ra), (.int (0 : Int32))])) rfl rfl (hb hby d5_17)
      have sg29 : ∀ t, Steps p.tables e below (T28.setTop (mkF m 24 #[.val (.ref ra), .val (.ref rb), .val (.int (0 : Int32))] [(.ref ra)])) t → Steps p.tables e below (T28.setTop (mkF m 20 #[.val (.ref ra), .val (.ref rb), .val (.int (0 : Int32))] [(.int (1 : Int32)), (.int (0 : Int32))])) t := by
        intro t k
        show Steps p.tables e below (T28.setTop (mkF m 20 #[.val (.ref ra), .val (.ref rb), .val (.int (0 : Int32))] [(.int (1 : Int32)), (.int (0 : Int32))])) _
        refine XS.icmpNo X28.here hx rfl (hb hby d5_20) rfl (tlt (by decide : (0 : Int32) < (1 : Int32))).2.1 ?_
        show Steps p.tables e below (T28.setTop (mkF m 23 #[.val (.ref ra), .val (.ref rb), .val (.int (0 : Int32))] [])) _
        refine XS.aloadN X28.here hx rfl (hb hby d5_23) rfl rfl ?_
        exact k
      obtain ⟨T30, X30, e30, st30⟩ := getF X28 hx hZ hown (host := "") (Or.inl (hw _ (List.mem_of_getElem? (i := 12) rfl))) Via.refl e28 P1 (g := (mkF m 24 #[.val (.ref ra), .val (.ref rb), .val (.int (0 : Int32))] [(.ref ra)])) rfl rfl (hb hby d5_24)
      have sg31 : ∀ t, Steps p.tables e below (T30.setTop (mkF m 28 #[.val (.ref ra), .val (.ref rb), .val (.int (0 : Int32))] [(.int (0 : Int32)), (.ref r1)])) t → Steps p.tables e below (T30.setTop (mkF m 27 #[.val (.ref ra), .val (.ref rb), .val (.int (0 : Int32))] [(.ref r1)])) t := by
        intro t k
        show Steps p.tables e below (T30.setTop (mkF m 27 #[.val (.ref ra), .val (.ref rb), .val (.int (0 : Int32))] [(.ref r1)])) _
        refine XS.iloadN X30.here hx rfl (hb hby d5_27) rfl ?_
        exact k
      obtain ⟨cl32, Ar32, q32, Sz32, Nn32, Hs32, G32⟩ := id P3
      have hin32 : ¬ ((0 : Int32) < 0 ∨ cl32.slots.size ≤ ((0 : Int32)).toNatClampNeg) := inb_of Sz32 ⟨by decide, by decide⟩
      have hat32 : cl32.slots[((0 : Int32)).toNatClampNeg]? = some (.int s0) := Has.at Hs32 hin32 rfl
      have st32 : ∀ t, Steps p.tables e below (T30.setTop (mkF m 29 #[.val (.ref ra), .val (.ref rb), .val (.int (0 : Int32))] [(.int s0)])) t → Steps p.tables e below (T30.setTop (mkF m 28 #[.val (.ref ra), .val (.ref rb), .val (.int (0 : Int32))] [(.int (0 : Int32)), (.ref r1)])) t := by
        intro t k
        refine X30.iaload hx (j := (0 : Int32)) (v := (.int s0)) (by rw [e30]; exact Ar32.1) (State.isArrayOf_alike hZ.alike Ar32.2.1) Ar32.2.2 hin32 hat32 (g := (mkF m 28 #[.val (.ref ra), .val (.ref rb), .val (.int (0 : Int32))] [(.int (0 : Int32)), (.ref r1)])) rfl rfl (hb hby d5_28) _ ?_
        exact k
      have sg33 : ∀ t, Steps p.tables e below (T30.setTop (mkF m 30 #[.val (.ref ra), .val (.ref rb), .val (.int (0 : Int32))] [(.ref rb), (.int s0)])) t → Steps p.tables e below (T30.setTop (mkF m 29 #[.val (.ref ra), .val (.ref rb), .val (.int (0 : Int32))] [(.int s0)])) t := by
        intro t k
        show Steps p.tables e below (T30.setTop (mkF m 29 #[.val (.ref ra), .val (.ref rb), .val (.int (0 : Int32))] [(.int s0)])) _
        refine XS.aloadN X30.here hx rfl (hb hby d5_29) rfl rfl ?_
        exact k
      obtain ⟨T34, X34, e34, st34⟩ := getF X30 hx hZ hown (host := "") (Or.inl (hw _ (List.mem_of_getElem? (i := 12) rfl))) Via.refl e30 P6 (g := (mkF m 30 #[.val (.ref ra), .val (.ref rb), .val (.int (0 : Int32))] [(.ref rb), (.int s0)])) rfl rfl (hb hby d5_30)
      have sg35 : ∀ t, Steps p.tables e below (T34.setTop (mkF m 34 #[.val (.ref ra), .val (.ref rb), .val (.int (0 : Int32))] [(.int (0 : Int32)), (.ref y1), (.int s0)])) t → Steps p.tables e below (T34.setTop (mkF m 33 #[.val (.ref ra), .val (.ref rb), .val (.int (0 : Int32))] [(.ref y1), (.int s0)])) t := by
        intro t k
        show Steps p.tables e below (T34.setTop (mkF m 33 #[.val (.ref ra), .val (.ref rb), .val (.int (0 : Int32))] [(.ref y1), (.int s0)])) _
        refine XS.iloadN X34.here hx rfl (hb hby d5_33) rfl ?_
        exact k
      obtain ⟨cl36, Ar36, q36, Sz36, Nn36, Hs36, G36⟩ := id P8
      have hin36 : ¬ ((0 : Int32) < 0 ∨ cl36.slots.size ≤ ((0 : Int32)).toNatClampNeg) := inb_of Sz36 ⟨by decide, by decide⟩
      have hat36 : cl36.slots[((0 : Int32)).toNatClampNeg]? = some (.int u0) := Has.at Hs36 hin36 rfl
      have st36 : ∀ t, Steps p.tables e below (T34.setTop (mkF m 35 #[.val (.ref ra), .val (.ref rb), .val (.int (0 : Int32))] [(.int u0), (.int s0)])) t → Steps p.tables e below (T34.setTop (mkF m 34 #[.val (.ref ra), .val (.ref rb), .val (.int (0 : Int32))] [(.int (0 : Int32)), (.ref y1), (.int s0)])) t := by
        intro t k
        refine X34.iaload hx (j := (0 : Int32)) (v := (.int u0)) (by rw [e34]; exact Ar36.1) (State.isArrayOf_alike hZ.alike Ar36.2.1) Ar36.2.2 hin36 hat36 (g := (mkF m 34 #[.val (.ref ra), .val (.ref rb), .val (.int (0 : Int32))] [(.int (0 : Int32)), (.ref y1), (.int s0)])) rfl rfl (hb hby d5_34) _ ?_
        exact k
      have ch37 : ∀ t, Steps p.tables e below (T34.setTop (mkF m 35 #[.val (.ref ra), .val (.ref rb), .val (.int (0 : Int32))] [(.int u0), (.int s0)])) t → Steps p.tables e below (s₁.setTop (mkF m 0 #[.val (.ref ra), .val (.ref rb), .unset] [])) t := by
        intro t k
        refine sg23 _ ?_
        show Steps p.tables e below (s₁.setTop (mkF m 1 #[.val (.ref ra), .val (.ref rb), .unset] [(.ref ra)])) _
        refine st24 _ ?_
        show Steps p.tables e below (T24.setTop (mkF m 4 #[.val (.ref ra), .val (.ref rb), .unset] [(.int (1 : Int32))])) _
        refine sg25 _ ?_
        show Steps p.tables e below (T24.setTop (mkF m 5 #[.val (.ref ra), .val (.ref rb), .unset] [(.ref rb), (.int (1 : Int32))])) _
        refine st26 _ ?_
        show Steps p.tables e below (T26.setTop (mkF m 8 #[.val (.ref ra), .val (.ref rb), .unset] [(.int (1 : Int32)), (.int (1 : Int32))])) _
        refine sg27 _ ?_
        show Steps p.tables e below (T26.setTop (mkF m 17 #[.val (.ref ra), .val (.ref rb), .val (.int (0 : Int32))] [(.ref ra), (.int (0 : Int32))])) _
        refine st28 _ ?_
        show Steps p.tables e below (T28.setTop (mkF m 20 #[.val (.ref ra), .val (.ref rb), .val (.int (0 : Int32))] [(.int (1 : Int32)), (.int (0 : Int32))])) _
        refine sg29 _ ?_
        show Steps p.tables e below (T28.setTop (mkF m 24 #[.val (.ref ra), .val (.ref rb), .val (.int (0 : Int32))] [(.ref ra)])) _
        refine st30 _ ?_
        show Steps p.tables e below (T30.setTop (mkF m 27 #[.val (.ref ra), .val (.ref rb), .val (.int (0 : Int32))] [(.ref r1)])) _
        refine sg31 _ ?_
        show Steps p.tables e below (T30.setTop (mkF m 28 #[.val (.ref ra), .val (.ref rb), .val (.int (0 : Int32))] [(.int (0 : Int32)), (.ref r1)])) _
        refine st32 _ ?_
        show Steps p.tables e below (T30.setTop (mkF m 29 #[.val (.ref ra), .val (.ref rb), .val (.int (0 : Int32))] [(.int s0)])) _
        refine sg33 _ ?_
        show Steps p.tables e below (T30.setTop (mkF m 30 #[.val (.ref ra), .val (.ref rb), .val (.int (0 : Int32))] [(.ref rb), (.int s0)])) _
        refine st34 _ ?_
        show Steps p.tables e below (T34.setTop (mkF m 33 #[.val (.ref ra), .val (.ref rb), .val (.int (0 : Int32))] [(.ref y1), (.int s0)])) _
        refine sg35 _ ?_
        show Steps p.tables e below (T34.setTop (mkF m 34 #[.val (.ref ra), .val (.ref rb), .val (.int (0 : Int32))] [(.int (0 : Int32)), (.ref y1), (.int s0)])) _
        refine st36 _ ?_
        show Steps p.tables e below (T34.setTop (mkF m 35 #[.val (.ref ra), .val (.ref rb), .val (.int (0 : Int32))] [(.int u0), (.int s0)])) _
        exact k
      by_cases hc35_0 : s0 = u0
      · have sgf35_0 : ∀ t, Steps p.tables e below (T34.setTop (mkF m 38 #[.val (.ref ra), .val (.ref rb), .val (.int (0 : Int32))] [])) t → Steps p.tables e below (T34.setTop (mkF m 35 #[.val (.ref ra), .val (.ref rb), .val (.int (0 : Int32))] [(.int u0), (.int s0)])) t := fun t k => by
          refine XS.icmpNo X34.here hx rfl (hb hby d5_35) rfl (teq hc35_0).2 ?_
          exact k
        have sg38 : ∀ t, Steps p.tables e below (T34.setTop (mkF m 39 #[.val (.ref ra), .val (.ref rb), .val (.int (0 : Int32))] [(.ref ra)])) t → Steps p.tables e below (T34.setTop (mkF m 38 #[.val (.ref ra), .val (.ref rb), .val (.int (0 : Int32))] [])) t := by
          intro t k
          show Steps p.tables e below (T34.setTop (mkF m 38 #[.val (.ref ra), .val (.ref rb), .val (.int (0 : Int32))] [])) _
          refine XS.aloadN X34.here hx rfl (hb hby d5_38) rfl rfl ?_
          exact k
        obtain ⟨T39, X39, e39, st39⟩ := getF X34 hx hZ hown (host := "") (Or.inl (hw _ (List.mem_of_getElem? (i := 14) rfl))) Via.refl e34 P2 (g := (mkF m 39 #[.val (.ref ra), .val (.ref rb), .val (.int (0 : Int32))] [(.ref ra)])) rfl rfl (hb hby d5_39)
        have sg40 : ∀ t, Steps p.tables e below (T39.setTop (mkF m 43 #[.val (.ref ra), .val (.ref rb), .val (.int (0 : Int32))] [(.int (0 : Int32)), (.ref r2)])) t → Steps p.tables e below (T39.setTop (mkF m 42 #[.val (.ref ra), .val (.ref rb), .val (.int (0 : Int32))] [(.ref r2)])) t := by
          intro t k
          show Steps p.tables e below (T39.setTop (mkF m 42 #[.val (.ref ra), .val (.ref rb), .val (.int (0 : Int32))] [(.ref r2)])) _
          refine XS.iloadN X39.here hx rfl (hb hby d5_42) rfl ?_
          exact k
        obtain ⟨cl41, Ar41, q41, Sz41, Nn41, Hs41, G41⟩ := id P4
        have hin41 : ¬ ((0 : Int32) < 0 ∨ cl41.slots.size ≤ ((0 : Int32)).toNatClampNeg) := inb_of Sz41 ⟨by decide, by decide⟩
        have hat41 : cl41.slots[((0 : Int32)).toNatClampNeg]? = some (.long c0) := Has.at Hs41 hin41 rfl
        have st41 : ∀ t, Steps p.tables e below (T39.setTop (mkF m 44 #[.val (.ref ra), .val (.ref rb), .val (.int (0 : Int32))] [(.long c0)])) t → Steps p.tables e below (T39.setTop (mkF m 43 #[.val (.ref ra), .val (.ref rb), .val (.int (0 : Int32))] [(.int (0 : Int32)), (.ref r2)])) t := by
          intro t k
          refine X39.laload hx (j := (0 : Int32)) (v := (.long c0)) (by rw [e39]; exact Ar41.1) (State.isArrayOf_alike hZ.alike Ar41.2.1) Ar41.2.2 hin41 hat41 (g := (mkF m 43 #[.val (.ref ra), .val (.ref rb), .val (.int (0 : Int32))] [(.int (0 : Int32)), (.ref r2)])) rfl rfl (hb hby d5_43) _ ?_
          exact k
        have sg42 : ∀ t, Steps p.tables e below (T39.setTop (mkF m 45 #[.val (.ref ra), .val (.ref rb), .val (.int (0 : Int32))] [(.ref rb), (.long c0)])) t → Steps p.tables e below (T39.setTop (mkF m 44 #[.val (.ref ra), .val (.ref rb), .val (.int (0 : Int32))] [(.long c0)])) t := by
          intro t k
          show Steps p.tables e below (T39.setTop (mkF m 44 #[.val (.ref ra), .val (.ref rb), .val (.int (0 : Int32))] [(.long c0)])) _
          refine XS.aloadN X39.here hx rfl (hb hby d5_44) rfl rfl ?_
          exact k
        obtain ⟨T43, X43, e43, st43⟩ := getF X39 hx hZ hown (host := "") (Or.inl (hw _ (List.mem_of_getElem? (i := 14) rfl))) Via.refl e39 P7 (g := (mkF m 45 #[.val (.ref ra), .val (.ref rb), .val (.int (0 : Int32))] [(.ref rb), (.long c0)])) rfl rfl (hb hby d5_45)
        have sg44 : ∀ t, Steps p.tables e below (T43.setTop (mkF m 49 #[.val (.ref ra), .val (.ref rb), .val (.int (0 : Int32))] [(.int (0 : Int32)), (.ref y2), (.long c0)])) t → Steps p.tables e below (T43.setTop (mkF m 48 #[.val (.ref ra), .val (.ref rb), .val (.int (0 : Int32))] [(.ref y2), (.long c0)])) t := by
          intro t k
          show Steps p.tables e below (T43.setTop (mkF m 48 #[.val (.ref ra), .val (.ref rb), .val (.int (0 : Int32))] [(.ref y2), (.long c0)])) _
          refine XS.iloadN X43.here hx rfl (hb hby d5_48) rfl ?_
          exact k
        obtain ⟨cl45, Ar45, q45, Sz45, Nn45, Hs45, G45⟩ := id P9
        have hin45 : ¬ ((0 : Int32) < 0 ∨ cl45.slots.size ≤ ((0 : Int32)).toNatClampNeg) := inb_of Sz45 ⟨by decide, by decide⟩
        have hat45 : cl45.slots[((0 : Int32)).toNatClampNeg]? = some (.long w0) := Has.at Hs45 hin45 rfl
        have st45 : ∀ t, Steps p.tables e below (T43.setTop (mkF m 50 #[.val (.ref ra), .val (.ref rb), .val (.int (0 : Int32))] [(.long w0), (.long c0)])) t → Steps p.tables e below (T43.setTop (mkF m 49 #[.val (.ref ra), .val (.ref rb), .val (.int (0 : Int32))] [(.int (0 : Int32)), (.ref y2), (.long c0)])) t := by
          intro t k
          refine X43.laload hx (j := (0 : Int32)) (v := (.long w0)) (by rw [e43]; exact Ar45.1) (State.isArrayOf_alike hZ.alike Ar45.2.1) Ar45.2.2 hin45 hat45 (g := (mkF m 49 #[.val (.ref ra), .val (.ref rb), .val (.int (0 : Int32))] [(.int (0 : Int32)), (.ref y2), (.long c0)])) rfl rfl (hb hby d5_49) _ ?_
          exact k
        have sg46 : ∀ t, Steps p.tables e below (T43.setTop (mkF m 51 #[.val (.ref ra), .val (.ref rb), .val (.int (0 : Int32))] [(.int (lcmpW c0 w0))])) t → Steps p.tables e below (T43.setTop (mkF m 50 #[.val (.ref ra), .val (.ref rb), .val (.int (0 : Int32))] [(.long w0), (.long c0)])) t := by
          intro t k
          show Steps p.tables e below (T43.setTop (mkF m 50 #[.val (.ref ra), .val (.ref rb), .val (.int (0 : Int32))] [(.long w0), (.long c0)])) _
          refine XS.lcmp X43.here hx rfl (hb hby d5_50) rfl ?_
          exact k
        have ch47 : ∀ t, Steps p.tables e below (T43.setTop (mkF m 51 #[.val (.ref ra), .val (.ref rb), .val (.int (0 : Int32))] [(.int (lcmpW c0 w0))])) t → Steps p.tables e below (s₁.setTop (mkF m 0 #[.val (.ref ra), .val (.ref rb), .unset] [])) t := by
          intro t k
          refine ch37 _ ?_
          show Steps p.tables e below (T34.setTop (mkF m 35 #[.val (.ref ra), .val (.ref rb), .val (.int (0 : Int32))] [(.int u0), (.int s0)])) _
          refine sgf35_0 _ ?_
          show Steps p.tables e below (T34.setTop (mkF m 38 #[.val (.ref ra), .val (.ref rb), .val (.int (0 : Int32))] [])) _
          refine sg38 _ ?_
          show Steps p.tables e below (T34.setTop (mkF m 39 #[.val (.ref ra), .val (.ref rb), .val (.int (0 : Int32))] [(.ref ra)])) _
          refine st39 _ ?_
          show Steps p.tables e below (T39.setTop (mkF m 42 #[.val (.ref ra), .val (.ref rb), .val (.int (0 : Int32))] [(.ref r2)])) _
          refine sg40 _ ?_
          show Steps p.tables e below (T39.setTop (mkF m 43 #[.val (.ref ra), .val (.ref rb), .val (.int (0 : Int32))] [(.int (0 : Int32)), (.ref r2)])) _
          refine st41 _ ?_
          show Steps p.tables e below (T39.setTop (mkF m 44 #[.val (.ref ra), .val (.ref rb), .val (.int (0 : Int32))] [(.long c0)])) _
          refine sg42 _ ?_
          show Steps p.tables e below (T39.setTop (mkF m 45 #[.val (.ref ra), .val (.ref rb), .val (.int (0 : Int32))] [(.ref rb), (.long c0)])) _
          refine st43 _ ?_
          show Steps p.tables e below (T43.setTop (mkF m 48 #[.val (.ref ra), .val (.ref rb), .val (.int (0 : Int32))] [(.ref y2), (.long c0)])) _
          refine sg44 _ ?_
          show Steps p.tables e below (T43.setTop (mkF m 49 #[.val (.ref ra), .val (.ref rb), .val (.int (0 : Int32))] [(.int (0 : Int32)), (.ref y2), (.long c0)])) _
          refine st45 _ ?_
          show Steps p.tables e below (T43.setTop (mkF m 50 #[.val (.ref ra), .val (.ref rb), .val (.int (0 : Int32))] [(.long w0), (.long c0)])) _
          refine sg46 _ ?_
          show Steps p.tables e below (T43.setTop (mkF m 51 #[.val (.ref ra), .val (.ref rb), .val (.int (0 : Int32))] [(.int (lcmpW c0 w0))])) _
          exact k
        by_cases hc51_1 : c0 = w0
        · have sgf51_1 : ∀ t, Steps p.tables e below (T43.setTop (mkF m 56 #[.val (.ref ra), .val (.ref rb), .val (.int (0 : Int32))] [])) t → Steps p.tables e below (T43.setTop (mkF m 51 #[.val (.ref ra), .val (.ref rb), .val (.int (0 : Int32))] [(.int (lcmpW c0 w0))])) t := fun t k => by
            refine XS.ifYes X43.here hx rfl (pc0 := 51) (pc' := 56) rfl (hb hby d5_51) rfl ((if0 _ _).trans (teq ((lw_eq _ _).mpr hc51_1)).1) (by decide) (by decide) ?_
            exact k
          have sg48 : ∀ t, Steps p.tables e below (T43.setTop (mkF m 17 #[.val (.ref ra), .val (.ref rb), .val (.int (1 : Int32))] [(.ref ra), (.int (1 : Int32))])) t → Steps p.tables e below (T43.setTop (mkF m 56 #[.val (.ref ra), .val (.ref rb), .val (.int (0 : Int32))] [])) t := by
            intro t k
            show Steps p.tables e below (T43.setTop (mkF m 56 #[.val (.ref ra), .val (.ref rb), .val (.int (0 : Int32))] [])) _
            refine XS.iinc X43.here hx rfl (hb hby d5_56) rfl (l' := #[.val (.ref ra), .val (.ref rb), .val (.int (1 : Int32))]) rfl ?_
            show Steps p.tables e below (T43.setTop (mkF m 59 #[.val (.ref ra), .val (.ref rb), .val (.int (1 : Int32))] [])) _
            refine XS.goto X43.here hx rfl (pc0 := 59) (pc' := 15) rfl (hb hby d5_59) (by decide) (by decide) ?_
            show Steps p.tables e below (T43.setTop (mkF m 15 #[.val (.ref ra), .val (.ref rb), .val (.int (1 : Int32))] [])) _
            refine XS.iloadN X43.here hx rfl (hb hby d5_15) rfl ?_
            show Steps p.tables e below (T43.setTop (mkF m 16 #[.val (.ref ra), .val (.ref rb), .val (.int (1 : Int32))] [(.int (1 : Int32))])) _
            refine XS.aloadN X43.here hx rfl (hb hby d5_16) rfl rfl ?_
            exact k
          obtain ⟨T49, X49, e49, st49⟩ := getF X43 hx hZ hown (host := "") (Or.inl (hw _ (List.mem_of_getElem? (i := 23) rfl))) Via.refl e43 P0 (g := (mkF m 17 #[.val (.ref ra), .val (.ref rb), .val (.int (1 : Int32))] [(.ref ra), (.int (1 : Int32))])) rfl rfl (hb hby d5_17)
          have sg50 : ∀ t, Steps p.tables e below (T49.setTop (mkF m 63 #[.val (.ref ra), .val (.ref rb), .val (.int (1 : Int32))] [(.int (1 : Int32))])) t → Steps p.tables e below (T49.setTop (mkF m 20 #[.val (.ref ra), .val (.ref rb), .val (.int (1 : Int32))] [(.int (1 : Int32)), (.int (1 : Int32))])) t := by
            intro t k
            show Steps p.tables e below (T49.setTop (mkF m 20 #[.val (.ref ra), .val (.ref rb), .val (.int (1 : Int32))] [(.int (1 : Int32)), (.int (1 : Int32))])) _
            refine XS.icmpYes X49.here hx rfl (pc0 := 20) (pc' := 62) rfl (hb hby d5_20) rfl (flt (by decide : ¬ ((1 : Int32) < (1 : Int32)))).2.1 (by decide) (by decide) ?_
            show Steps p.tables e below (T49.setTop (mkF m 62 #[.val (.ref ra), .val (.ref rb), .val (.int (1 : Int32))] [])) _
            refine XS.iconst X49.here hx rfl (hb hby d5_62) ?_
            exact k
          obtain ⟨fs, hr, hrun, hended, hW, hsame⟩ := X49.leave (v := some (.int (1 : Int32))) (fun h => by rw [Bd.returns] at h; cases h) (hlocks := hlk)
          refine ⟨_, _, pre0 _ ?_, hrun, hended, _, _, rfl, ?_, ⟨_, rfl⟩, hW, hsame.mono (by decide) (by decide)⟩
          · show Steps p.tables e below (s₁.setTop (mkF m 0 #[.val (.ref ra), .val (.ref rb), .unset] [])) _
            refine ch47 _ ?_
            show Steps p.tables e below (T43.setTop (mkF m 51 #[.val (.ref ra), .val (.ref rb), .val (.int (0 : Int32))] [(.int (lcmpW c0 w0))])) _
            refine sgf51_1 _ ?_
            show Steps p.tables e below (T43.setTop (mkF m 56 #[.val (.ref ra), .val (.ref rb), .val (.int (0 : Int32))] [])) _
            refine sg48 _ ?_
            show Steps p.tables e below (T43.setTop (mkF m 17 #[.val (.ref ra), .val (.ref rb), .val (.int (1 : Int32))] [(.ref ra), (.int (1 : Int32))])) _
            refine st49 _ ?_
            show Steps p.tables e below (T49.setTop (mkF m 20 #[.val (.ref ra), .val (.ref rb), .val (.int (1 : Int32))] [(.int (1 : Int32)), (.int (1 : Int32))])) _
            refine sg50 _ ?_
            show Steps p.tables e below (T49.setTop (mkF m 63 #[.val (.ref ra), .val (.ref rb), .val (.int (1 : Int32))] [(.int (1 : Int32))])) _
            exact retN X49 hx (t := .boolean) Bd.returns (by simp) (hb hby d5_63) hr
          · show Q_rmS Z ra rb r1 r2 k1 k2 (1 : Int32) s0 s1 c0 c1 y1 y2 j1 j2 (1 : Int32) u0 u1 w0 w1 h0 n0 _ T49.heap _
            rw [e49]
            exact ⟨(by rw [own_same, if_pos rfl, if_neg (by decide), if_pos hc35_0, if_pos hc51_1, if_pos rfl]), N0, rfl⟩
        · have sgf51_1 : ∀ t, Steps p.tables e below (T43.setTop (mkF m 54 #[.val (.ref ra), .val (.ref rb), .val (.int (0 : Int32))] [])) t → Steps p.tables e below (T43.setTop (mkF m 51 #[.val (.ref ra), .val (.ref rb), .val (.int (0 : Int32))] [(.int (lcmpW c0 w0))])) t := fun t k => by
            refine XS.ifNo X43.here hx rfl (hb hby d5_51) rfl ((if0 _ _).trans (feq (mt (lw_eq _ _).mp hc51_1)).1) ?_
            exact k
          have sg51 : ∀ t, Steps p.tables e below (T43.setTop (mkF m 55 #[.val (.ref ra), .val (.ref rb), .val (.int (0 : Int32))] [(.int (0 : Int32))])) t → Steps p.tables e below (T43.setTop (mkF m 54 #[.val (.ref ra), .val (.ref rb), .val (.int (0 : Int32))] [])) t := by
            intro t k
            show Steps p.tables e below (T43.setTop (mkF m 54 #[.val (.ref ra), .val (.ref rb), .val (.int (0 : Int32))] [])) _
            refine XS.iconst X43.here hx rfl (hb hby d5_54) ?_
            exact k
          obtain ⟨fs, hr, hrun, hended, hW, hsame⟩ := X43.leave (v := some (.int (0 : Int32))) (fun h => by rw [Bd.returns] at h; cases h) (hlocks := hlk)
          refine ⟨_, _, pre0 _ ?_, hrun, hended, _, _, rfl, ?_, ⟨_, rfl⟩, hW, hsame.mono (by decide) (by decide)⟩
          · show Steps p.tables e below (s₁.setTop (mkF m 0 #[.val (.ref ra), .val (.ref rb), .unset] [])) _
            refine ch47 _ ?_
            show Steps p.tables e below (T43.setTop (mkF m 51 #[.val (.ref ra), .val (.ref rb), .val (.int (0 : Int32))] [(.int (lcmpW c0 w0))])) _
            refine sgf51_1 _ ?_
            show Steps p.tables e below (T43.setTop (mkF m 54 #[.val (.ref ra), .val (.ref rb), .val (.int (0 : Int32))] [])) _
            refine sg51 _ ?_
            show Steps p.tables e below (T43.setTop (mkF m 55 #[.val (.ref ra), .val (.ref rb), .val (.int (0 : Int32))] [(.int (0 : Int32))])) _
            exact retN X43 hx (t := .boolean) Bd.returns (by simp) (hb hby d5_55) hr
          · show Q_rmS Z ra rb r1 r2 k1 k2 (1 : Int32) s0 s1 c0 c1 y1 y2 j1 j2 (1 : Int32) u0 u1 w0 w1 h0 n0 _ T43.heap _
            rw [e43]
            exact ⟨(by rw [own_same, if_pos rfl, if_neg (by decide), if_pos hc35_0, if_neg hc51_1]), N0, rfl⟩
      · have sgf35_0 : ∀ t, Steps p.tables e below (T34.setTop (mkF m 54 #[.val (.ref ra), .val (.ref rb), .val (.int (0 : Int32))] [])) t → Steps p.tables e below (T34.setTop (mkF m 35 #[.val (.ref ra), .val (.ref rb), .val (.int (0 : Int32))] [(.int u0), (.int s0)])) t := fun t k => by
          refine XS.icmpYes X34.here hx rfl (pc0 := 35) (pc' := 54) rfl (hb hby d5_35) rfl (feq hc35_0).2 (by decide) (by decide) ?_
          exact k
        have sg52 : ∀ t, Steps p.tables e below (T34.setTop (mkF m 55 #[.val (.ref ra), .val (.ref rb), .val (.int (0 : Int32))] [(.int (0 : Int32))])) t → Steps p.tables e below (T34.setTop (mkF m 54 #[.val (.ref ra), .val (.ref rb), .val (.int (0 : Int32))] [])) t := by
          intro t k
          show Steps p.tables e below (T34.setTop (mkF m 54 #[.val (.ref ra), .val (.ref rb), .val (.int (0 : Int32))] [])) _
          refine XS.iconst X34.here hx rfl (hb hby d5_54) ?_
          exact k
        obtain ⟨fs, hr, hrun, hended, hW, hsame⟩ := X34.leave (v := some (.int (0 : Int32))) (fun h => by rw [Bd.returns] at h; cases h) (hlocks := hlk)
        refine ⟨_, _, pre0 _ ?_, hrun, hended, _, _, rfl, ?_, ⟨_, rfl⟩, hW, hsame.mono (by decide) (by decide)⟩
        · show Steps p.tables e below (s₁.setTop (mkF m 0 #[.val (.ref ra), .val (.ref rb), .unset] [])) _
          refine ch37 _ ?_
          show Steps p.tables e below (T34.setTop (mkF m 35 #[.val (.ref ra), .val (.ref rb), .val (.int (0 : Int32))] [(.int u0), (.int s0)])) _
          refine sgf35_0 _ ?_
          show Steps p.tables e below (T34.setTop (mkF m 54 #[.val (.ref ra), .val (.ref rb), .val (.int (0 : Int32))] [])) _
          refine sg52 _ ?_
          show Steps p.tables e below (T34.setTop (mkF m 55 #[.val (.ref ra), .val (.ref rb), .val (.int (0 : Int32))] [(.int (0 : Int32))])) _
          exact retN X34 hx (t := .boolean) Bd.returns (by simp) (hb hby d5_55) hr
        · show Q_rmS Z ra rb r1 r2 k1 k2 (1 : Int32) s0 s1 c0 c1 y1 y2 j1 j2 (1 : Int32) u0 u1 w0 w1 h0 n0 _ T34.heap _
          rw [e34]
          exact ⟨(by rw [own_same, if_pos rfl, if_neg (by decide), if_neg hc35_0]), N0, rfl⟩
    · skip
      have sg53 : ∀ t, Steps p.tables e below (s₁.setTop (mkF m 1 #[.val (.ref ra), .val (.ref rb), .unset] [(.ref ra)])) t → Steps p.tables e below (s₁.setTop (mkF m 0 #[.val (.ref ra), .val (.ref rb), .unset] [])) t := by
        intro t k
        show Steps p.tables e below (s₁.setTop (mkF m 0 #[.val (.ref ra), .val (.ref rb), .unset] [])) _
        refine XS.aloadN X0.here hx rfl (hb hby d5_0) rfl rfl ?_
        exact k
      obtain ⟨T54, X54, e54, st54⟩ := getF X0 hx hZ hown (host := "") (Or.inl (hw _ (List.mem_of_getElem? (i := 23) rfl))) Via.refl e0 P0 (g := (mkF m 1 #[.val (.ref ra), .val (.ref rb), .unset] [(.ref ra)])) rfl rfl (hb hby d5_1)
      have sg55 : ∀ t, Steps p.tables e below (T54.setTop (mkF m 5 #[.val (.ref ra), .val (.ref rb), .unset] [(.ref rb), (.int (1 : Int32))])) t → Steps p.tables e below (T54.setTop (mkF m 4 #[.val (.ref ra), .val (.ref rb), .unset] [(.int (1 : Int32))])) t := by
        intro t k
        show Steps p.tables e below (T54.setTop (mkF m 4 #[.val (.ref ra), .val (.ref rb), .unset] [(.int (1 : Int32))])) _
        refine XS.aloadN X54.here hx rfl (hb hby d5_4) rfl rfl ?_
        exact k
      obtain ⟨T56, X56, e56, st56⟩ := getF X54 hx hZ hown (host := "") (Or.inl (hw _ (List.mem_of_getElem? (i := 23) rfl))) Via.refl e54 P5 (g := (mkF m 5 #[.val (.ref ra), .val (.ref rb), .unset] [(.ref rb), (.int (1 : Int32))])) rfl rfl (hb hby d5_5)
      have sg57 : ∀ t, Steps p.tables e below (T56.setTop (mkF m 12 #[.val (.ref ra), .val (.ref rb), .unset] [(.int (0 : Int32))])) t → Steps p.tables e below (T56.setTop (mkF m 8 #[.val (.ref ra), .val (.ref rb), .unset] [(.int (2 : Int32)), (.int (1 : Int32))])) t := by
        intro t k
        show Steps p.tables e below (T56.setTop (mkF m 8 #[.val (.ref ra), .val (.ref rb), .unset] [(.int (2 : Int32)), (.int (1 : Int32))])) _
        refine XS.icmpNo X56.here hx rfl (hb hby d5_8) rfl (feq (by decide : ¬ ((1 : Int32) = (2 : Int32)))).1 ?_
        show Steps p.tables e below (T56.setTop (mkF m 11 #[.val (.ref ra), .val (.ref rb), .unset] [])) _
        refine XS.iconst X56.here hx rfl (hb hby d5_11) ?_
        exact k
      obtain ⟨fs, hr, hrun, hended, hW, hsame⟩ := X56.leave (v := some (.int (0 : Int32))) (fun h => by rw [Bd.returns] at h; cases h) (hlocks := hlk)
      refine ⟨_, _, pre0 _ ?_, hrun, hended, _, _, rfl, ?_, ⟨_, rfl⟩, hW, hsame.mono (by decide) (by decide)⟩
      · show Steps p.tables e below (s₁.setTop (mkF m 0 #[.val (.ref ra), .val (.ref rb), .unset] [])) _
        refine sg53 _ ?_
        show Steps p.tables e below (s₁.setTop (mkF m 1 #[.val (.ref ra), .val (.ref rb), .unset] [(.ref ra)])) _
        refine st54 _ ?_
        show Steps p.tables e below (T54.setTop (mkF m 4 #[.val (.ref ra), .val (.ref rb), .unset] [(.int (1 : Int32))])) _
        refine sg55 _ ?_
        show Steps p.tables e below (T54.setTop (mkF m 5 #[.val (.ref ra), .val (.ref rb), .unset] [(.ref rb), (.int (1 : Int32))])) _
        refine st56 _ ?_
        show Steps p.tables e below (T56.setTop (mkF m 8 #[.val (.ref ra), .val (.ref rb), .unset] [(.int (2 : Int32)), (.int (1 : Int32))])) _
        refine sg57 _ ?_
        show Steps p.tables e below (T56.setTop (mkF m 12 #[.val (.ref ra), .val (.ref rb), .unset] [(.int (0 : Int32))])) _
        exact retN X56 hx (t := .boolean) Bd.returns (by simp) (hb hby d5_12) hr
      · show Q_rmS Z ra rb r1 r2 k1 k2 (1 : Int32) s0 s1 c0 c1 y1 y2 j1 j2 (2 : Int32) u0 u1 w0 w1 h0 n0 _ T56.heap _
        rw [e56]
        exact ⟨(by rw [own_same, if_neg (by decide)]), N0, rfl⟩
  · rcases hsy with rfl | rfl | rfl
    · skip
      have sg58 : ∀ t, Steps p.tables e below (s₁.setTop (mkF m 1 #[.val (.ref ra), .val (.ref rb), .unset] [(.ref ra)])) t → Steps p.tables e below (s₁.setTop (mkF m 0 #[.val (.ref ra), .val (.ref rb), .unset] [])) t := by
        intro t k
        show Steps p.tables e below (s₁.setTop (mkF m 0 #[.val (.ref ra), .val (.ref rb), .unset] [])) _
        refine XS.aloadN X0.here hx rfl (hb hby d5_0) rfl rfl ?_
        exact k
      obtain ⟨T59, X59, e59, st59⟩ := getF X0 hx hZ hown (host := "") (Or.inl (hw _ (List.mem_of_getElem? (i := 23) rfl))) Via.refl e0 P0 (g := (mkF m 1 #[.val (.ref ra), .val (.ref rb), .unset] [(.ref ra)])) rfl rfl (hb hby d5_1)
      have sg60 : ∀ t, Steps p.tables e below (T59.setTop (mkF m 5 #[.val (.ref ra), .val (.ref rb), .unset] [(.ref rb), (.int (2 : Int32))])) t → Steps p.tables e below (T59.setTop (mkF m 4 #[.val (.ref ra), .val (.ref rb), .unset] [(.int (2 : Int32))])) t := by
        intro t k
        show Steps p.tables e below (T59.setTop (mkF m 4 #[.val (.ref ra), .val (.ref rb), .unset] [(.int (2 : Int32))])) _
        refine XS.aloadN X59.here hx rfl (hb hby d5_4) rfl rfl ?_
        exact k
      obtain ⟨T61, X61, e61, st61⟩ := getF X59 hx hZ hown (host := "") (Or.inl (hw _ (List.mem_of_getElem? (i := 23) rfl))) Via.refl e59 P5 (g := (mkF m 5 #[.val (.ref ra), .val (.ref rb), .unset] [(.ref rb), (.int (2 : Int32))])) rfl rfl (hb hby d5_5)
      have sg62 : ∀ t, Steps p.tables e below (T61.setTop (mkF m 12 #[.val (.ref ra), .val (.ref rb), .unset] [(.int (0 : Int32))])) t → Steps p.tables e below (T61.setTop (mkF m 8 #[.val (.ref ra), .val (.ref rb), .unset] [(.int (0 : Int32)), (.int (2 : Int32))])) t := by
        intro t k
        show Steps p.tables e below (T61.setTop (mkF m 8 #[.val (.ref ra), .val (.ref rb), .unset] [(.int (0 : Int32)), (.int (2 : Int32))])) _
        refine XS.icmpNo X61.here hx rfl (hb hby d5_8) rfl (feq (by decide : ¬ ((2 : Int32) = (0 : Int32)))).1 ?_
        show Steps p.tables e below (T61.setTop (mkF m 11 #[.val (.ref ra), .val (.ref rb), .unset] [])) _
        refine XS.iconst X61.here hx rfl (hb hby d5_11) ?_
        exact k
      obtain ⟨fs, hr, hrun, hended, hW, hsame⟩ := X61.leave (v := some (.int (0 : Int32))) (fun h => by rw [Bd.returns] at h; cases h) (hlocks := hlk)
      refine ⟨_, _, pre0 _ ?_, hrun, hended, _, _, rfl, ?_, ⟨_, rfl⟩, hW, hsame.mono (by decide) (by decide)⟩
      · show Steps p.tables e below (s₁.setTop (mkF m 0 #[.val (.ref ra), .val (.ref rb), .unset] [])) _
        refine sg58 _ ?_
        show Steps p.tables e below (s₁.setTop (mkF m 1 #[.val (.ref ra), .val (.ref rb), .unset] [(.ref ra)])) _
        refine st59 _ ?_
        show Steps p.tables e below (T59.setTop (mkF m 4 #[.val (.ref ra), .val (.ref rb), .unset] [(.int (2 : Int32))])) _
        refine sg60 _ ?_
        show Steps p.tables e below (T59.setTop (mkF m 5 #[.val (.ref ra), .val (.ref rb), .unset] [(.ref rb), (.int (2 : Int32))])) _
        refine st61 _ ?_
        show Steps p.tables e below (T61.setTop (mkF m 8 #[.val (.ref ra), .val (.ref rb), .unset] [(.int (0 : Int32)), (.int (2 : Int32))])) _
        refine sg62 _ ?_
        show Steps p.tables e below (T61.setTop (mkF m 12 #[.val (.ref ra), .val (.ref rb), .unset] [(.int (0 : Int32))])) _
        exact retN X61 hx (t := .boolean) Bd.returns (by simp) (hb hby d5_12) hr
      · show Q_rmS Z ra rb r1 r2 k1 k2 (2 : Int32) s0 s1 c0 c1 y1 y2 j1 j2 (0 : Int32) u0 u1 w0 w1 h0 n0 _ T61.heap _
        rw [e61]
        exact ⟨(by rw [own_same, if_neg (by decide)]), N0, rfl⟩
    · skip
      have sg63 : ∀ t, Steps p.tables e below (s₁.setTop (mkF m 1 #[.val (.ref ra), .val (.ref rb), .unset] [(.ref ra)])) t → Steps p.tables e below (s₁.setTop (mkF m 0 #[.val (.ref ra), .val (.ref rb), .unset] [])) t := by
        intro t k
        show Steps p.tables e below (s₁.setTop (mkF m 0 #[.val (.ref ra), .val (.ref rb), .unset] [])) _
        refine XS.aloadN X0.here hx rfl (hb hby d5_0) rfl rfl ?_
        exact k
      obtain ⟨T64, X64, e64, st64⟩ := getF X0 hx hZ hown (host := "") (Or.inl (hw _ (List.mem_of_getElem? (i := 23) rfl))) Via.refl e0 P0 (g := (mkF m 1 #[.val (.ref ra), .val (.ref rb), .unset] [(.ref ra)])) rfl rfl (hb hby d5_1)
      have sg65 : ∀ t, Steps p.tables e below (T64.setTop (mkF m 5 #[.val (.ref ra), .val (.ref rb), .unset] [(.ref rb), (.int (2 : Int32))])) t → Steps p.tables e below (T64.setTop (mkF m 4 #[.val (.ref ra), .val (.ref rb), .unset] [(.int (2 : Int32))])) t := by
        intro t k
        show Steps p.tables e below (T64.setTop (mkF m 4 #[.val (.ref ra), .val (.ref rb), .unset] [(.int (2 : Int32))])) _
        refine XS.aloadN X64.here hx rfl (hb hby d5_4) rfl rfl ?_
        exact k
      obtain ⟨T66, X66, e66, st66⟩ := getF X64 hx hZ hown (host := "") (Or.inl (hw _ (List.mem_of_getElem? (i := 23) rfl))) Via.refl e64 P5 (g := (mkF m 5 #[.val (.ref ra), .val (.ref rb), .unset] [(.ref rb), (.int (2 : Int32))])) rfl rfl (hb hby d5_5)
      have sg67 : ∀ t, Steps p.tables e below (T66.setTop (mkF m 12 #[.val (.ref ra), .val (.ref rb), .unset] [(.int (0 : Int32))])) t → Steps p.tables e below (T66.setTop (mkF m 8 #[.val (.ref ra), .val (.ref rb), .unset] [(.int (1 : Int32)), (.int (2 : Int32))])) t := by
        intro t k
        show Steps p.tables e below (T66.setTop (mkF m 8 #[.val (.ref ra), .val (.ref rb), .unset] [(.int (1 : Int32)), (.int (2 : Int32))])) _
        refine XS.icmpNo X66.here hx rfl (hb hby d5_8) rfl (feq (by decide : ¬ ((2 : Int32) = (1 : Int32)))).1 ?_
        show Steps p.tables e below (T66.setTop (mkF m 11 #[.val (.ref ra), .val (.ref rb), .unset] [])) _
        refine XS.iconst X66.here hx rfl (hb hby d5_11) ?_
        exact k
      obtain ⟨fs, hr, hrun, hended, hW, hsame⟩ := X66.leave (v := some (.int (0 : Int32))) (fun h => by rw [Bd.returns] at h; cases h) (hlocks := hlk)
      refine ⟨_, _, pre0 _ ?_, hrun, hended, _, _, rfl, ?_, ⟨_, rfl⟩, hW, hsame.mono (by decide) (by decide)⟩
      · show Steps p.tables e below (s₁.setTop (mkF m 0 #[.val (.ref ra), .val (.ref rb), .unset] [])) _
        refine sg63 _ ?_
        show Steps p.tables e below (s₁.setTop (mkF m 1 #[.val (.ref ra), .val (.ref rb), .unset] [(.ref ra)])) _
        refine st64 _ ?_
        show Steps p.tables e below (T64.setTop (mkF m 4 #[.val (.ref ra), .val (.ref rb), .unset] [(.int (2 : Int32))])) _
        refine sg65 _ ?_
        show Steps p.tables e below (T64.setTop (mkF m 5 #[.val (.ref ra), .val (.ref rb), .unset] [(.ref rb), (.int (2 : Int32))])) _
        refine st66 _ ?_
        show Steps p.tables e below (T66.setTop (mkF m 8 #[.val (.ref ra), .val (.ref rb), .unset] [(.int (1 : Int32)), (.int (2 : Int32))])) _
        refine sg67 _ ?_
        show Steps p.tables e below (T66.setTop (mkF m 12 #[.val (.ref ra), .val (.ref rb), .unset] [(.int (0 : Int32))])) _
        exact retN X66 hx (t := .boolean) Bd.returns (by simp) (hb hby d5_12) hr
      · show Q_rmS Z ra rb r1 r2 k1 k2 (2 : Int32) s0 s1 c0 c1 y1 y2 j1 j2 (1 : Int32) u0 u1 w0 w1 h0 n0 _ T66.heap _
        rw [e66]
        exact ⟨(by rw [own_same, if_neg (by decide)]), N0, rfl⟩
    · skip
      have sg68 : ∀ t, Steps p.tables e below (s₁.setTop (mkF m 1 #[.val (.ref ra), .val (.ref rb), .unset] [(.ref ra)])) t → Steps p.tables e below (s₁.setTop (mkF m 0 #[.val (.ref ra), .val (.ref rb), .unset] [])) t := by
        intro t k
        show Steps p.tables e below (s₁.setTop (mkF m 0 #[.val (.ref ra), .val (.ref rb), .unset] [])) _
        refine XS.aloadN X0.here hx rfl (hb hby d5_0) rfl rfl ?_
        exact k
      obtain ⟨T69, X69, e69, st69⟩ := getF X0 hx hZ hown (host := "") (Or.inl (hw _ (List.mem_of_getElem? (i := 23) rfl))) Via.refl e0 P0 (g := (mkF m 1 #[.val (.ref ra), .val (.ref rb), .unset] [(.ref ra)])) rfl rfl (hb hby d5_1)
      have sg70 : ∀ t, Steps p.tables e below (T69.setTop (mkF m 5 #[.val (.ref ra), .val (.ref rb), .unset] [(.ref rb), (.int (2 : Int32))])) t → Steps p.tables e below (T69.setTop (mkF m 4 #[.val (.ref ra), .val (.ref rb), .unset] [(.int (2 : Int32))])) t := by
        intro t k
        show Steps p.tables e below (T69.setTop (mkF m 4 #[.val (.ref ra), .val (.ref rb), .unset] [(.int (2 : Int32))])) _
        refine XS.aloadN X69.here hx rfl (hb hby d5_4) rfl rfl ?_
        exact k
      obtain ⟨T71, X71, e71, st71⟩ := getF X69 hx hZ hown (host := "") (Or.inl (hw _ (List.mem_of_getElem? (i := 23) rfl))) Via.refl e69 P5 (g := (mkF m 5 #[.val (.ref ra), .val (.ref rb), .unset] [(.ref rb), (.int (2 : Int32))])) rfl rfl (hb hby d5_5)
      have sg72 : ∀ t, Steps p.tables e below (T71.setTop (mkF m 17 #[.val (.ref ra), .val (.ref rb), .val (.int (0 : Int32))] [(.ref ra), (.int (0 : Int32))])) t → Steps p.tables e below (T71.setTop (mkF m 8 #[.val (.ref ra), .val (.ref rb), .unset] [(.int (2 : Int32)), (.int (2 : Int32))])) t := by
        intro t k
        show Steps p.tables e below (T71.setTop (mkF m 8 #[.val (.ref ra), .val (.ref rb), .unset] [(.int (2 : Int32)), (.int (2 : Int32))])) _
        refine XS.icmpYes X71.here hx rfl (pc0 := 8) (pc' := 13) rfl (hb hby d5_8) rfl (teq (by decide : (2 : Int32) = (2 : Int32))).1 (by decide) (by decide) ?_
        show Steps p.tables e below (T71.setTop (mkF m 13 #[.val (.ref ra), .val (.ref rb), .unset] [])) _
        refine XS.iconst X71.here hx rfl (hb hby d5_13) ?_
        show Steps p.tables e below (T71.setTop (mkF m 14 #[.val (.ref ra), .val (.ref rb), .unset] [(.int (0 : Int32))])) _
        refine XS.istoreN X71.here hx rfl (hb hby d5_14) rfl (l' := #[.val (.ref ra), .val (.ref rb), .val (.int (0 : Int32))]) rfl ?_
        show Steps p.tables e below (T71.setTop (mkF m 15 #[.val (.ref ra), .val (.ref rb), .val (.int (0 : Int32))] [])) _
        refine XS.iloadN X71.here hx rfl (hb hby d5_15) rfl ?_
        show Steps p.tables e below (T71.setTop (mkF m 16 #[.val (.ref ra), .val (.ref rb), .val (.int (0 : Int32))] [(.int (0 : Int32))])) _
        refine XS.aloadN X71.here hx rfl (hb hby d5_16) rfl rfl ?_
        exact k
      obtain ⟨T73, X73, e73, st73⟩ := getF X71 hx hZ hown (host := "") (Or.inl (hw _ (List.mem_of_getElem? (i := 23) rfl))) Via.refl e71 P0 (g := (mkF m 17 #[.val (.ref ra), .val (.ref rb), .val (.int (0 : Int32))] [(.ref ra), (.int (0 : Int32))])) rfl rfl (hb hby d5_17)
      have sg74 : ∀ t, Steps p.tables e below (T73.setTop (mkF m 24 #[.val (.ref ra), .val (.ref rb), .val (.int (0 : Int32))] [(.ref ra)])) t → Steps p.tables e below (T73.setTop (mkF m 20 #[.val (.ref ra), .val (.ref rb), .val (.int (0 : Int32))] [(.int (2 : Int32)), (.int (0 : Int32))])) t := by
        intro t k
        show Steps p.tables e below (T73.setTop (mkF m 20 #[.val (.ref ra), .val (.ref rb), .val (.int (0 : Int32))] [(.int (2 : Int32)), (.int (0 : Int32))])) _
        refine XS.icmpNo X73.here hx rfl (hb hby d5_20) rfl (tlt (by decide : (0 : Int32) < (2 : Int32))).2.1 ?_
        show Steps p.tables e below (T73.setTop (mkF m 23 #[.val (.ref ra), .val (.ref rb), .val (.int (0 : Int32))] [])) _
        refine XS.aloadN X73.here hx rfl (hb hby d5_23) rfl rfl ?_
        exact k
      obtain ⟨T75, X75, e75, st75⟩ := getF X73 hx hZ hown (host := "") (Or.inl (hw _ (List.mem_of_getElem? (i := 12) rfl))) Via.refl e73 P1 (g := (mkF m 24 #[.val (.ref ra), .val (.ref rb), .val (.int (0 : Int32))] [(.ref ra)])) rfl rfl (hb hby d5_24)
      have sg76 : ∀ t, Steps p.tables e below (T75.setTop (mkF m 28 #[.val (.ref ra), .val (.ref rb), .val (.int (0 : Int32))] [(.int (0 : Int32)), (.ref r1)])) t → Steps p.tables e below (T75.setTop (mkF m 27 #[.val (.ref ra), .val (.ref rb), .val (.int (0 : Int32))] [(.ref r1)])) t := by
        intro t k
        show Steps p.tables e below (T75.setTop (mkF m 27 #[.val (.ref ra), .val (.ref rb), .val (.int (0 : Int32))] [(.ref r1)])) _
        refine XS.iloadN X75.here hx rfl (hb hby d5_27) rfl ?_
        exact k
      obtain ⟨cl77, Ar77, q77, Sz77, Nn77, Hs77, G77⟩ := id P3
      have hin77 : ¬ ((0 : Int32) < 0 ∨ cl77.slots.size ≤ ((0 : Int32)).toNatClampNeg) := inb_of Sz77 ⟨by decide, by decide⟩
      have hat77 : cl77.slots[((0 : Int32)).toNatClampNeg]? = some (.int s0) := Has.at Hs77 hin77 rfl
      have st77 : ∀ t, Steps p.tables e below (T75.setTop (mkF m 29 #[.val (.ref ra), .val (.ref rb), .val (.int (0 : Int32))] [(.int s0)])) t → Steps p.tables e below (T75.setTop (mkF m 28 #[.val (.ref ra), .val (.ref rb), .val (.int (0 : Int32))] [(.int (0 : Int32)), (.ref r1)])) t := by
        intro t k
        refine X75.iaload hx (j := (0 : Int32)) (v := (.int s0)) (by rw [e75]; exact Ar77.1) (State.isArrayOf_alike hZ.alike Ar77.2.1) Ar77.2.2 hin77 hat77 (g := (mkF m 28 #[.val (.ref ra), .val (.ref rb), .val (.int (0 : Int32))] [(.int (0 : Int32)), (.ref r1)])) rfl rfl (hb hby d5_28) _ ?_
        exact k
      have sg78 : ∀ t, Steps p.tables e below (T75.setTop (mkF m 30 #[.val (.ref ra), .val (.ref rb), .val (.int (0 : Int32))] [(.ref rb), (.int s0)])) t → Steps p.tables e below (T75.setTop (mkF m 29 #[.val (.ref ra), .val (.ref rb), .val (.int (0 : Int32))] [(.int s0)])) t := by
        intro t k
        show Steps p.tables e below (T75.setTop (mkF m 29 #[.val (.ref ra), .val (.ref rb), .val (.int (0 : Int32))] [(.int s0)])) _
        refine XS.aloadN X75.here hx rfl (hb hby d5_29) rfl rfl ?_
        exact k
      obtain ⟨T79, X79, e79, st79⟩ := getF X75 hx hZ hown (host := "") (Or.inl (hw _ (List.mem_of_getElem? (i := 12) rfl))) Via.refl e75 P6 (g := (mkF m 30 #[.val (.ref ra), .val (.ref rb), .val (.int (0 : Int32))] [(.ref rb), (.int s0)])) rfl rfl (hb hby d5_30)
      have sg80 : ∀ t, Steps p.tables e below (T79.setTop (mkF m 34 #[.val (.ref ra), .val (.ref rb), .val (.int (0 : Int32))] [(.int (0 : Int32)), (.ref y1), (.int s0)])) t → Steps p.tables e below (T79.setTop (mkF m 33 #[.val (.ref ra), .val (.ref rb), .val (.int (0 : Int32))] [(.ref y1), (.int s0)])) t := by
        intro t k
        show Steps p.tables e below (T79.setTop (mkF m 33 #[.val (.ref ra), .val (.ref rb), .val (.int (0 : Int32))] [(.ref y1), (.int s0)])) _
        refine XS.iloadN X79.here hx rfl (hb hby d5_33) rfl ?_
        exact k
      obtain ⟨cl81, Ar81, q81, Sz81, Nn81, Hs81, G81⟩ := id P8
      have hin81 : ¬ ((0 : Int32) < 0 ∨ cl81.slots.size ≤ ((0 : Int32)).toNatClampNeg) := inb_of Sz81 ⟨by decide, by decide⟩
      have hat81 : cl81.slots[((0 : Int32)).toNatClampNeg]? = some (.int u0) := Has.at Hs81 hin81 rfl
      have st81 : ∀ t, Steps p.tables e below (T79.setTop (mkF m 35 #[.val (.ref ra), .val (.ref rb), .val (.int (0 : Int32))] [(.int u0), (.int s0)])) t → Steps p.tables e below (T79.setTop (mkF m 34 #[.val (.ref ra), .val (.ref rb), .val (.int (0 : Int32))] [(.int (0 : Int32)), (.ref y1), (.int s0)])) t := by
        intro t k
        refine X79.iaload hx (j := (0 : Int32)) (v := (.int u0)) (by rw [e79]; exact Ar81.1) (State.isArrayOf_alike hZ.alike Ar81.2.1) Ar81.2.2 hin81 hat81 (g := (mkF m 34 #[.val (.ref ra), .val (.ref rb), .val (.int (0 : Int32))] [(.int (0 : Int32)), (.ref y1), (.int s0)])) rfl rfl (hb hby d5_34) _ ?_
        exact k
      have ch82 : ∀ t, Steps p.tables e below (T79.setTop (mkF m 35 #[.val (.ref ra), .val (.ref rb), .val (.int (0 : Int32))] [(.int u0), (.int s0)])) t → Steps p.tables e below (s₁.setTop (mkF m 0 #[.val (.ref ra), .val (.ref rb), .unset] [])) t := by
        intro t k
        refine sg68 _ ?_
        show Steps p.tables e below (s₁.setTop (mkF m 1 #[.val (.ref ra), .val (.ref rb), .unset] [(.ref ra)])) _
        refine st69 _ ?_
        show Steps p.tables e below (T69.setTop (mkF m 4 #[.val (.ref ra), .val (.ref rb), .unset] [(.int (2 : Int32))])) _
        refine sg70 _ ?_
        show Steps p.tables e below (T69.setTop (mkF m 5 #[.val (.ref ra), .val (.ref rb), .unset] [(.ref rb), (.int (2 : Int32))])) _
        refine st71 _ ?_
        show Steps p.tables e below (T71.setTop (mkF m 8 #[.val (.ref ra), .val (.ref rb), .unset] [(.int (2 : Int32)), (.int (2 : Int32))])) _
        refine sg72 _ ?_
        show Steps p.tables e below (T71.setTop (mkF m 17 #[.val (.ref ra), .val (.ref rb), .val (.int (0 : Int32))] [(.ref ra), (.int (0 : Int32))])) _
        refine st73 _ ?_
        show Steps p.tables e below (T73.setTop (mkF m 20 #[.val (.ref ra), .val (.ref rb), .val (.int (0 : Int32))] [(.int (2 : Int32)), (.int (0 : Int32))])) _
        refine sg74 _ ?_
        show Steps p.tables e below (T73.setTop (mkF m 24 #[.val (.ref ra), .val (.ref rb), .val (.int (0 : Int32))] [(.ref ra)])) _
        refine st75 _ ?_
        show Steps p.tables e below (T75.setTop (mkF m 27 #[.val (.ref ra), .val (.ref rb), .val (.int (0 : Int32))] [(.ref r1)])) _
        refine sg76 _ ?_
        show Steps p.tables e below (T75.setTop (mkF m 28 #[.val (.ref ra), .val (.ref rb), .val (.int (0 : Int32))] [(.int (0 : Int32)), (.ref r1)])) _
        refine st77 _ ?_
        show Steps p.tables e below (T75.setTop (mkF m 29 #[.val (.ref ra), .val (.ref rb), .val (.int (0 : Int32))] [(.int s0)])) _
        refine sg78 _ ?_
        show Steps p.tables e below (T75.setTop (mkF m 30 #[.val (.ref ra), .val (.ref rb), .val (.int (0 : Int32))] [(.ref rb), (.int s0)])) _
        refine st79 _ ?_
        show Steps p.tables e below (T79.setTop (mkF m 33 #[.val (.ref ra), .val (.ref rb), .val (.int (0 : Int32))] [(.ref y1), (.int s0)])) _
        refine sg80 _ ?_
        show Steps p.tables e below (T79.setTop (mkF m 34 #[.val (.ref ra), .val (.ref rb), .val (.int (0 : Int32))] [(.int (0 : Int32)), (.ref y1), (.int s0)])) _
        refine st81 _ ?_
        show Steps p.tables e below (T79.setTop (mkF m 35 #[.val (.ref ra), .val (.ref rb), .val (.int (0 : Int32))] [(.int u0), (.int s0)])) _
        exact k
      by_cases hc35_0 : s0 = u0
      · have sgf35_0 : ∀ t, Steps p.tables e below (T79.setTop (mkF m 38 #[.val (.ref ra), .val (.ref rb), .val (.int (0 : Int32))] [])) t → Steps p.tables e below (T79.setTop (mkF m 35 #[.val (.ref ra), .val (.ref rb), .val (.int (0 : Int32))] [(.int u0), (.int s0)])) t := fun t k => by
          refine XS.icmpNo X79.here hx rfl (hb hby d5_35) rfl (teq hc35_0).2 ?_
          exact k
        have sg83 : ∀ t, Steps p.tables e below (T79.setTop (mkF m 39 #[.val (.ref ra), .val (.ref rb), .val (.int (0 : Int32))] [(.ref ra)])) t → Steps p.tables e below (T79.setTop (mkF m 38 #[.val (.ref ra), .val (.ref rb), .val (.int (0 : Int32))] [])) t := by
          intro t k
          show Steps p.tables e below (T79.setTop (mkF m 38 #[.val (.ref ra), .val (.ref rb), .val (.int (0 : Int32))] [])) _
          refine XS.aloadN X79.here hx rfl (hb hby d5_38) rfl rfl ?_
          exact k
        obtain ⟨T84, X84, e84, st84⟩ := getF X79 hx hZ hown (host := "") (Or.inl (hw _ (List.mem_of_getElem? (i := 14) rfl))) Via.refl e79 P2 (g := (mkF m 39 #[.val (.ref ra), .val (.ref rb), .val (.int (0 : Int32))] [(.ref ra)])) rfl rfl (hb hby d5_39)
        have sg85 : ∀ t, Steps p.tables e below (T84.setTop (mkF m 43 #[.val (.ref ra), .val (.ref rb), .val (.int (0 : Int32))] [(.int (0 : Int32)), (.ref r2)])) t → Steps p.tables e below (T84.setTop (mkF m 42 #[.val (.ref ra), .val (.ref rb), .val (.int (0 : Int32))] [(.ref r2)])) t := by
          intro t k
          show Steps p.tables e below (T84.setTop (mkF m 42 #[.val (.ref ra), .val (.ref rb), .val (.int (0 : Int32))] [(.ref r2)])) _
          refine XS.iloadN X84.here hx rfl (hb hby d5_42) rfl ?_
          exact k
        obtain ⟨cl86, Ar86, q86, Sz86, Nn86, Hs86, G86⟩ := id P4
        have hin86 : ¬ ((0 : Int32) < 0 ∨ cl86.slots.size ≤ ((0 : Int32)).toNatClampNeg) := inb_of Sz86 ⟨by decide, by decide⟩
        have hat86 : cl86.slots[((0 : Int32)).toNatClampNeg]? = some (.long c0) := Has.at Hs86 hin86 rfl
        have st86 : ∀ t, Steps p.tables e below (T84.setTop (mkF m 44 #[.val (.ref ra), .val (.ref rb), .val (.int (0 : Int32))] [(.long c0)])) t → Steps p.tables e below (T84.setTop (mkF m 43 #[.val (.ref ra), .val (.ref rb), .val (.int (0 : Int32))] [(.int (0 : Int32)), (.ref r2)])) t := by
          intro t k
          refine X84.laload hx (j := (0 : Int32)) (v := (.long c0)) (by rw [e84]; exact Ar86.1) (State.isArrayOf_alike hZ.alike Ar86.2.1) Ar86.2.2 hin86 hat86 (g := (mkF m 43 #[.val (.ref ra), .val (.ref rb), .val (.int (0 : Int32))] [(.int (0 : Int32)), (.ref r2)])) rfl rfl (hb hby d5_43) _ ?_
          exact k
        have sg87 : ∀ t, Steps p.tables e below (T84.setTop (mkF m 45 #[.val (.ref ra), .val (.ref rb), .val (.int (0 : Int32))] [(.ref rb), (.long c0)])) t → Steps p.tables e below (T84.setTop (mkF m 44 #[.val (.ref ra), .val (.ref rb), .val (.int (0 : Int32))] [(.long c0)])) t := by
          intro t k
          show Steps p.tables e below (T84.setTop (mkF m 44 #[.val (.ref ra), .val (.ref rb), .val (.int (0 : Int32))] [(.long c0)])) _
          refine XS.aloadN X84.here hx rfl (hb hby d5_44) rfl rfl ?_
          exact k
        obtain ⟨T88, X88, e88, st88⟩ := getF X84 hx hZ hown (host := "") (Or.inl (hw _ (List.mem_of_getElem? (i := 14) rfl))) Via.refl e84 P7 (g := (mkF m 45 #[.val (.ref ra), .val (.ref rb), .val (.int (0 : Int32))] [(.ref rb), (.long c0)])) rfl rfl (hb hby d5_45)
        have sg89 : ∀ t, Steps p.tables e below (T88.setTop (mkF m 49 #[.val (.ref ra), .val (.ref rb), .val (.int (0 : Int32))] [(.int (0 : Int32)), (.ref y2), (.long c0)])) t → Steps p.tables e below (T88.setTop (mkF m 48 #[.val (.ref ra), .val (.ref rb), .val (.int (0 : Int32))] [(.ref y2), (.long c0)])) t := by
          intro t k
          show Steps p.tables e below (T88.setTop (mkF m 48 #[.val (.ref ra), .val (.ref rb), .val (.int (0 : Int32))] [(.ref y2), (.long c0)])) _
          refine XS.iloadN X88.here hx rfl (hb hby d5_48) rfl ?_
          exact k
        obtain ⟨cl90, Ar90, q90, Sz90, Nn90, Hs90, G90⟩ := id P9
        have hin90 : ¬ ((0 : Int32) < 0 ∨ cl90.slots.size ≤ ((0 : Int32)).toNatClampNeg) := inb_of Sz90 ⟨by decide, by decide⟩
        have hat90 : cl90.slots[((0 : Int32)).toNatClampNeg]? = some (.long w0) := Has.at Hs90 hin90 rfl
        have st90 : ∀ t, Steps p.tables e below (T88.setTop (mkF m 50 #[.val (.ref ra), .val (.ref rb), .val (.int (0 : Int32))] [(.long w0), (.long c0)])) t → Steps p.tables e below (T88.setTop (mkF m 49 #[.val (.ref ra), .val (.ref rb), .val (.int (0 : Int32))] [(.int (0 : Int32)), (.ref y2), (.long c0)])) t := by
          intro t k
          refine X88.laload hx (j := (0 : Int32)) (v := (.long w0)) (by rw [e88]; exact Ar90.1) (State.isArrayOf_alike hZ.alike Ar90.2.1) Ar90.2.2 hin90 hat90 (g := (mkF m 49 #[.val (.ref ra), .val (.ref rb), .val (.int (0 : Int32))] [(.int (0 : Int32)), (.ref y2), (.long c0)])) rfl rfl (hb hby d5_49) _ ?_
          exact k
        have sg91 : ∀ t, Steps p.tables e below (T88.setTop (mkF m 51 #[.val (.ref ra), .val (.ref rb), .val (.int (0 : Int32))] [(.int (lcmpW c0 w0))])) t → Steps p.tables e below (T88.setTop (mkF m 50 #[.val (.ref ra), .val (.ref rb), .val (.int (0 : Int32))] [(.long w0), (.long c0)])) t := by
          intro t k
          show Steps p.tables e below (T88.setTop (mkF m 50 #[.val (.ref ra), .val (.ref rb), .val (.int (0 : Int32))] [(.long w0), (.long c0)])) _
          refine XS.lcmp X88.here hx rfl (hb hby d5_50) rfl ?_
          exact k
        have ch92 : ∀ t, Steps p.tables e below (T88.setTop (mkF m 51 #[.val (.ref ra), .val (.ref rb), .val (.int (0 : Int32))] [(.int (lcmpW c0 w0))])) t → Steps p.tables e below (s₁.setTop (mkF m 0 #[.val (.ref ra), .val (.ref rb), .unset] [])) t := by
          intro t k
          refine ch82 _ ?_
          show Steps p.tables e below (T79.setTop (mkF m 35 #[.val (.ref ra), .val (.ref rb), .val (.int (0 : Int32))] [(.int u0), (.int s0)])) _
          refine sgf35_0 _ ?_
          show Steps p.tables e below (T79.setTop (mkF m 38 #[.val (.ref ra), .val (.ref rb), .val (.int (0 : Int32))] [])) _
          refine sg83 _ ?_
          show Steps p.tables e below (T79.setTop (mkF m 39 #[.val (.ref ra), .val (.ref rb), .val (.int (0 : Int32))] [(.ref ra)])) _
          refine st84 _ ?_
          show Steps p.tables e below (T84.setTop (mkF m 42 #[.val (.ref ra), .val (.ref rb), .val (.int (0 : Int32))] [(.ref r2)])) _
          refine sg85 _ ?_
          show Steps p.tables e below (T84.setTop (mkF m 43 #[.val (.ref ra), .val (.ref rb), .val (.int (0 : Int32))] [(.int (0 : Int32)), (.ref r2)])) _
          refine st86 _ ?_
          show Steps p.tables e below (T84.setTop (mkF m 44 #[.val (.ref ra), .val (.ref rb), .val (.int (0 : Int32))] [(.long c0)])) _
          refine sg87 _ ?_
          show Steps p.tables e below (T84.setTop (mkF m 45 #[.val (.ref ra), .val (.ref rb), .val (.int (0 : Int32))] [(.ref rb), (.long c0)])) _
          refine st88 _ ?_
          show Steps p.tables e below (T88.setTop (mkF m 48 #[.val (.ref ra), .val (.ref rb), .val (.int (0 : Int32))] [(.ref y2), (.long c0)])) _
          refine sg89 _ ?_
          show Steps p.tables e below (T88.setTop (mkF m 49 #[.val (.ref ra), .val (.ref rb), .val (.int (0 : Int32))] [(.int (0 : Int32)), (.ref y2), (.long c0)])) _
          refine st90 _ ?_
          show Steps p.tables e below (T88.setTop (mkF m 50 #[.val (.ref ra), .val (.ref rb), .val (.int (0 : Int32))] [(.long w0), (.long c0)])) _
          refine sg91 _ ?_
          show Steps p.tables e below (T88.setTop (mkF m 51 #[.val (.ref ra), .val (.ref rb), .val (.int (0 : Int32))] [(.int (lcmpW c0 w0))])) _
          exact k
        by_cases hc51_1 : c0 = w0
        · have sgf51_1 : ∀ t, Steps p.tables e below (T88.setTop (mkF m 56 #[.val (.ref ra), .val (.ref rb), .val (.int (0 : Int32))] [])) t → Steps p.tables e below (T88.setTop (mkF m 51 #[.val (.ref ra), .val (.ref rb), .val (.int (0 : Int32))] [(.int (lcmpW c0 w0))])) t := fun t k => by
            refine XS.ifYes X88.here hx rfl (pc0 := 51) (pc' := 56) rfl (hb hby d5_51) rfl ((if0 _ _).trans (teq ((lw_eq _ _).mpr hc51_1)).1) (by decide) (by decide) ?_
            exact k
          have sg93 : ∀ t, Steps p.tables e below (T88.setTop (mkF m 17 #[.val (.ref ra), .val (.ref rb), .val (.int (1 : Int32))] [(.ref ra), (.int (1 : Int32))])) t → Steps p.tables e below (T88.setTop (mkF m 56 #[.val (.ref ra), .val (.ref rb), .val (.int (0 : Int32))] [])) t := by
            intro t k
            show Steps p.tables e below (T88.setTop (mkF m 56 #[.val (.ref ra), .val (.ref rb), .val (.int (0 : Int32))] [])) _
            refine XS.iinc X88.here hx rfl (hb hby d5_56) rfl (l' := #[.val (.ref ra), .val (.ref rb), .val (.int (1 : Int32))]) rfl ?_
            show Steps p.tables e below (T88.setTop (mkF m 59 #[.val (.ref ra), .val (.ref rb), .val (.int (1 : Int32))] [])) _
            refine XS.goto X88.here hx rfl (pc0 := 59) (pc' := 15) rfl (hb hby d5_59) (by decide) (by decide) ?_
            show Steps p.tables e below (T88.setTop (mkF m 15 #[.val (.ref ra), .val (.ref rb), .val (.int (1 : Int32))] [])) _
            refine XS.iloadN X88.here hx rfl (hb hby d5_15) rfl ?_
            show Steps p.tables e below (T88.setTop (mkF m 16 #[.val (.ref ra), .val (.ref rb), .val (.int (1 : Int32))] [(.int (1 : Int32))])) _
            refine XS.aloadN X88.here hx rfl (hb hby d5_16) rfl rfl ?_
            exact k
          obtain ⟨T94, X94, e94, st94⟩ := getF X88 hx hZ hown (host := "") (Or.inl (hw _ (List.mem_of_getElem? (i := 23) rfl))) Via.refl e88 P0 (g := (mkF m 17 #[.val (.ref ra), .val (.ref rb), .val (.int (1 : Int32))] [(.ref ra), (.int (1 : Int32))])) rfl rfl (hb hby d5_17)
          have sg95 : ∀ t, Steps p.tables e below (T94.setTop (mkF m 24 #[.val (.ref ra), .val (.ref rb), .val (.int (1 : Int32))] [(.ref ra)])) t → Steps p.tables e below (T94.setTop (mkF m 20 #[.val (.ref ra), .val (.ref rb), .val (.int (1 : Int32))] [(.int (2 : Int32)), (.int (1 : Int32))])) t := by
            intro t k
            show Steps p.tables e below (T94.setTop (mkF m 20 #[.val (.ref ra), .val (.ref rb), .val (.int (1 : Int32))] [(.int (2 : Int32)), (.int (1 : Int32))])) _
            refine XS.icmpNo X94.here hx rfl (hb hby d5_20) rfl (tlt (by decide : (1 : Int32) < (2 : Int32))).2.1 ?_
            show Steps p.tables e below (T94.setTop (mkF m 23 #[.val (.ref ra), .val (.ref rb), .val (.int (1 : Int32))] [])) _
            refine XS.aloadN X94.here hx rfl (hb hby d5_23) rfl rfl ?_
            exact k
          obtain ⟨T96, X96, e96, st96⟩ := getF X94 hx hZ hown (host := "") (Or.inl (hw _ (List.mem_of_getElem? (i := 12) rfl))) Via.refl e94 P1 (g := (mkF m 24 #[.val (.ref ra), .val (.ref rb), .val (.int (1 : Int32))] [(.ref ra)])) rfl rfl (hb hby d5_24)
          have sg97 : ∀ t, Steps p.tables e below (T96.setTop (mkF m 28 #[.val (.ref ra), .val (.ref rb), .val (.int (1 : Int32))] [(.int (1 : Int32)), (.ref r1)])) t → Steps p.tables e below (T96.setTop (mkF m 27 #[.val (.ref ra), .val (.ref rb), .val (.int (1 : Int32))] [(.ref r1)])) t := by
            intro t k
            show Steps p.tables e below (T96.setTop (mkF m 27 #[.val (.ref ra), .val (.ref rb), .val (.int (1 : Int32))] [(.ref r1)])) _
            refine XS.iloadN X96.here hx rfl (hb hby d5_27) rfl ?_
            exact k
          obtain ⟨cl98, Ar98, q98, Sz98, Nn98, Hs98, G98⟩ := id P3
          have hin98 : ¬ ((1 : Int32) < 0 ∨ cl98.slots.size ≤ ((1 : Int32)).toNatClampNeg) := inb_of Sz98 ⟨by decide, by decide⟩
          have hat98 : cl98.slots[((1 : Int32)).toNatClampNeg]? = some (.int s1) := Has.at Hs98 hin98 rfl
          have st98 : ∀ t, Steps p.tables e below (T96.setTop (mkF m 29 #[.val (.ref ra), .val (.ref rb), .val (.int (1 : Int32))] [(.int s1)])) t → Steps p.tables e below (T96.setTop (mkF m 28 #[.val (.ref ra), .val (.ref rb), .val (.int (1 : Int32))] [(.int (1 : Int32)), (.ref r1)])) t := by
            intro t k
            refine X96.iaload hx (j := (1 : Int32)) (v := (.int s1)) (by rw [e96]; exact Ar98.1) (State.isArrayOf_alike hZ.alike Ar98.2.1) Ar98.2.2 hin98 hat98 (g := (mkF m 28 #[.val (.ref ra), .val (.ref rb), .val (.int (1 : Int32))] [(.int (1 : Int32)), (.ref r1)])) rfl rfl (hb hby d5_28) _ ?_
            exact k
          have sg99 : ∀ t, Steps p.tables e below (T96.setTop (mkF m 30 #[.val (.ref ra), .val (.ref rb), .val (.int (1 : Int32))] [(.ref rb), (.int s1)])) t → Steps p.tables e below (T96.setTop (mkF m 29 #[.val (.ref ra), .val (.ref rb), .val (.int (1 : Int32))] [(.int s1)])) t := by
            intro t k
            show Steps p.tables e below (T96.setTop (mkF m 29 #[.val (.ref ra), .val (.ref rb), .val (.int (1 : Int32))] [(.int s1)])) _
            refine XS.aloadN X96.here hx rfl (hb hby d5_29) rfl rfl ?_
            exact k
          obtain ⟨T100, X100, e100, st100⟩ := getF X96 hx hZ hown (host := "") (Or.inl (hw _ (List.mem_of_getElem? (i := 12) rfl))) Via.refl e96 P6 (g := (mkF m 30 #[.val (.ref ra), .val (.ref rb), .val (.int (1 : Int32))] [(.ref rb), (.int s1)])) rfl rfl (hb hby d5_30)
          have sg101 : ∀ t, Steps p.tables e below (T100.setTop (mkF m 34 #[.val (.ref ra), .val (.ref rb), .val (.int (1 : Int32))] [(.int (1 : Int32)), (.ref y1), (.int s1)])) t → Steps p.tables e below (T100.setTop (mkF m 33 #[.val (.ref ra), .val (.ref rb), .val (.int (1 : Int32))] [(.ref y1), (.int s1)])) t := by
            intro t k
            show Steps p.tables e below (T100.setTop (mkF m 33 #[.val (.ref ra), .val (.ref rb), .val (.int (1 : Int32))] [(.ref y1), (.int s1)])) _
            refine XS.iloadN X100.here hx rfl (hb hby d5_33) rfl ?_
            exact k
          obtain ⟨cl102, Ar102, q102, Sz102, Nn102, Hs102, G102⟩ := id P8
          have hin102 : ¬ ((1 : Int32) < 0 ∨ cl102.slots.size ≤ ((1 : Int32)).toNatClampNeg) := inb_of Sz102 ⟨by decide, by decide⟩
          have hat102 : cl102.slots[((1 : Int32)).toNatClampNeg]? = some (.int u1) := Has.at Hs102 hin102 rfl
          have st102 : ∀ t, Steps p.tables e below (T100.setTop (mkF m 35 #[.val (.ref ra), .val (.ref rb), .val (.int (1 : Int32))] [(.int u1), (.int s1)])) t → Steps p.tables e below (T100.setTop (mkF m 34 #[.val (.ref ra), .val (.ref rb), .val (.int (1 : Int32))] [(.int (1 : Int32)), (.ref y1), (.int s1)])) t := by
            intro t k
            refine X100.iaload hx (j := (1 : Int32)) (v := (.int u1)) (by rw [e100]; exact Ar102.1) (State.isArrayOf_alike hZ.alike Ar102.2.1) Ar102.2.2 hin102 hat102 (g := (mkF m 34 #[.val (.ref ra), .val (.ref rb), .val (.int (1 : Int32))] [(.int (1 : Int32)), (.ref y1), (.int s1)])) rfl rfl (hb hby d5_34) _ ?_
            exact k
          have ch103 : ∀ t, Steps p.tables e below (T100.setTop (mkF m 35 #[.val (.ref ra), .val (.ref rb), .val (.int (1 : Int32))] [(.int u1), (.int s1)])) t → Steps p.tables e below (s₁.setTop (mkF m 0 #[.val (.ref ra), .val (.ref rb), .unset] [])) t := by
            intro t k
            refine ch92 _ ?_
            show Steps p.tables e below (T88.setTop (mkF m 51 #[.val (.ref ra), .val (.ref rb), .val (.int (0 : Int32))] [(.int (lcmpW c0 w0))])) _
            refine sgf51_1 _ ?_
            show Steps p.tables e below (T88.setTop (mkF m 56 #[.val (.ref ra), .val (.ref rb), .val (.int (0 : Int32))] [])) _
            refine sg93 _ ?_
            show Steps p.tables e below (T88.setTop (mkF m 17 #[.val (.ref ra), .val (.ref rb), .val (.int (1 : Int32))] [(.ref ra), (.int (1 : Int32))])) _
            refine st94 _ ?_
            show Steps p.tables e below (T94.setTop (mkF m 20 #[.val (.ref ra), .val (.ref rb), .val (.int (1 : Int32))] [(.int (2 : Int32)), (.int (1 : Int32))])) _
            refine sg95 _ ?_
            show Steps p.tables e below (T94.setTop (mkF m 24 #[.val (.ref ra), .val (.ref rb), .val (.int (1 : Int32))] [(.ref ra)])) _
            refine st96 _ ?_
            show Steps p.tables e below (T96.setTop (mkF m 27 #[.val (.ref ra), .val (.ref rb), .val (.int (1 : Int32))] [(.ref r1)])) _
            refine sg97 _ ?_
            show Steps p.tables e below (T96.setTop (mkF m 28 #[.val (.ref ra), .val (.ref rb), .val (.int (1 : Int32))] [(.int (1 : Int32)), (.ref r1)])) _
            refine st98 _ ?_
            show Steps p.tables e below (T96.setTop (mkF m 29 #[.val (.ref ra), .val (.ref rb), .val (.int (1 : Int32))] [(.int s1)])) _
            refine sg99 _ ?_
            show Steps p.tables e below (T96.setTop (mkF m 30 #[.val (.ref ra), .val (.ref rb), .val (.int (1 : Int32))] [(.ref rb), (.int s1)])) _
            refine st100 _ ?_
            show Steps p.tables e below (T100.setTop (mkF m 33 #[.val (.ref ra), .val (.ref rb), .val (.int (1 : Int32))] [(.ref y1), (.int s1)])) _
            refine sg101 _ ?_
            show Steps p.tables e below (T100.setTop (mkF m 34 #[.val (.ref ra), .val (.ref rb), .val (.int (1 : Int32))] [(.int (1 : Int32)), (.ref y1), (.int s1)])) _
            refine st102 _ ?_
            show Steps p.tables e below (T100.setTop (mkF m 35 #[.val (.ref ra), .val (.ref rb), .val (.int (1 : Int32))] [(.int u1), (.int s1)])) _
            exact k
          by_cases hc35_2 : s1 = u1
          · have sgf35_2 : ∀ t, Steps p.tables e below (T100.setTop (mkF m 38 #[.val (.ref ra), .val (.ref rb), .val (.int (1 : Int32))] [])) t → Steps p.tables e below (T100.setTop (mkF m 35 #[.val (.ref ra), .val (.ref rb), .val (.int (1 : Int32))] [(.int u1), (.int s1)])) t := fun t k => by
              refine XS.icmpNo X100.here hx rfl (hb hby d5_35) rfl (teq hc35_2).2 ?_
              exact k
            have sg104 : ∀ t, Steps p.tables e below (T100.setTop (mkF m 39 #[.val (.ref ra), .val (.ref rb), .val (.int (1 : Int32))] [(.ref ra)])) t → Steps p.tables e below (T100.setTop (mkF m 38 #[.val (.ref ra), .val (.ref rb), .val (.int (1 : Int32))] [])) t := by
              intro t k
              show Steps p.tables e below (T100.setTop (mkF m 38 #[.val (.ref ra), .val (.ref rb), .val (.int (1 : Int32))] [])) _
              refine XS.aloadN X100.here hx rfl (hb hby d5_38) rfl rfl ?_
              exact k
            obtain ⟨T105, X105, e105, st105⟩ := getF X100 hx hZ hown (host := "") (Or.inl (hw _ (List.mem_of_getElem? (i := 14) rfl))) Via.refl e100 P2 (g := (mkF m 39 #[.val (.ref ra), .val (.ref rb), .val (.int (1 : Int32))] [(.ref ra)])) rfl rfl (hb hby d5_39)
            have sg106 : ∀ t, Steps p.tables e below (T105.setTop (mkF m 43 #[.val (.ref ra), .val (.ref rb), .val (.int (1 : Int32))] [(.int (1 : Int32)), (.ref r2)])) t → Steps p.tables e below (T105.setTop (mkF m 42 #[.val (.ref ra), .val (.ref rb), .val (.int (1 : Int32))] [(.ref r2)])) t := by
              intro t k
              show Steps p.tables e below (T105.setTop (mkF m 42 #[.val (.ref ra), .val (.ref rb), .val (.int (1 : Int32))] [(.ref r2)])) _
              refine XS.iloadN X105.here hx rfl (hb hby d5_42) rfl ?_
              exact k
            obtain ⟨cl107, Ar107, q107, Sz107, Nn107, Hs107, G107⟩ := id P4
            have hin107 : ¬ ((1 : Int32) < 0 ∨ cl107.slots.size ≤ ((1 : Int32)).toNatClampNeg) := inb_of Sz107 ⟨by decide, by decide⟩
            have hat107 : cl107.slots[((1 : Int32)).toNatClampNeg]? = some (.long c1) := Has.at Hs107 hin107 rfl
            have st107 : ∀ t, Steps p.tables e below (T105.setTop (mkF m 44 #[.val (.ref ra), .val (.ref rb), .val (.int (1 : Int32))] [(.long c1)])) t → Steps p.tables e below (T105.setTop (mkF m 43 #[.val (.ref ra), .val (.ref rb), .val (.int (1 : Int32))] [(.int (1 : Int32)), (.ref r2)])) t := by
              intro t k
              refine X105.laload hx (j := (1 : Int32)) (v := (.long c1)) (by rw [e105]; exact Ar107.1) (State.isArrayOf_alike hZ.alike Ar107.2.1) Ar107.2.2 hin107 hat107 (g := (mkF m 43 #[.val (.ref ra), .val (.ref rb), .val (.int (1 : Int32))] [(.int (1 : Int32)), (.ref r2)])) rfl rfl (hb hby d5_43) _ ?_
              exact k
            have sg108 : ∀ t, Steps p.tables e below (T105.setTop (mkF m 45 #[.val (.ref ra), .val (.ref rb), .val (.int (1 : Int32))] [(.ref rb), (.long c1)])) t → Steps p.tables e below (T105.setTop (mkF m 44 #[.val (.ref ra), .val (.ref rb), .val (.int (1 : Int32))] [(.long c1)])) t := by
              intro t k
              show Steps p.tables e below (T105.setTop (mkF m 44 #[.val (.ref ra), .val (.ref rb), .val (.int (1 : Int32))] [(.long c1)])) _
              refine XS.aloadN X105.here hx rfl (hb hby d5_44) rfl rfl ?_
              exact k
            obtain ⟨T109, X109, e109, st109⟩ := getF X105 hx hZ hown (host := "") (Or.inl (hw _ (List.mem_of_getElem? (i := 14) rfl))) Via.refl e105 P7 (g := (mkF m 45 #[.val (.ref ra), .val (.ref rb), .val (.int (1 : Int32))] [(.ref rb), (.long c1)])) rfl rfl (hb hby d5_45)
            have sg110 : ∀ t, Steps p.tables e below (T109.setTop (mkF m 49 #[.val (.ref ra), .val (.ref rb), .val (.int (1 : Int32))] [(.int (1 : Int32)), (.ref y2), (.long c1)])) t → Steps p.tables e below (T109.setTop (mkF m 48 #[.val (.ref ra), .val (.ref rb), .val (.int (1 : Int32))] [(.ref y2), (.long c1)])) t := by
              intro t k
              show Steps p.tables e below (T109.setTop (mkF m 48 #[.val (.ref ra), .val (.ref rb), .val (.int (1 : Int32))] [(.ref y2), (.long c1)])) _
              refine XS.iloadN X109.here hx rfl (hb hby d5_48) rfl ?_
              exact k
            obtain ⟨cl111, Ar111, q111, Sz111, Nn111, Hs111, G111⟩ := id P9
            have hin111 : ¬ ((1 : Int32) < 0 ∨ cl111.slots.size ≤ ((1 : Int32)).toNatClampNeg) := inb_of Sz111 ⟨by decide, by decide⟩
            have hat111 : cl111.slots[((1 : Int32)).toNatClampNeg]? = some (.long w1) := Has.at Hs111 hin111 rfl
            have st111 : ∀ t, Steps p.tables e below (T109.setTop (mkF m 50 #[.val (.ref ra), .val (.ref rb), .val (.int (1 : Int32))] [(.long w1), (.long c1)])) t → Steps p.tables e below (T109.setTop (mkF m 49 #[.val (.ref ra), .val (.ref rb), .val (.int (1 : Int32))] [(.int (1 : Int32)), (.ref y2), (.long c1)])) t := by
              intro t k
              refine X109.laload hx (j := (1 : Int32)) (v := (.long w1)) (by rw [e109]; exact Ar111.1) (State.isArrayOf_alike hZ.alike Ar111.2.1) Ar111.2.2 hin111 hat111 (g := (mkF m 49 #[.val (.ref ra), .val (.ref rb), .val (.int (1 : Int32))] [(.int (1 : Int32)), (.ref y2), (.long c1)])) rfl rfl (hb hby d5_49) _ ?_
              exact k
            have sg112 : ∀ t, Steps p.tables e below (T109.setTop (mkF m 51 #[.val (.ref ra), .val (.ref rb), .val (.int (1 : Int32))] [(.int (lcmpW c1 w1))])) t → Steps p.tables e below (T109.setTop (mkF m 50 #[.val (.ref ra), .val (.ref rb), .val (.int (1 : Int32))] [(.long w1), (.long c1)])) t := by
              intro t k
              show Steps p.tables e below (T109.setTop (mkF m 50 #[.val (.ref ra), .val (.ref rb), .val (.int (1 : Int32))] [(.long w1), (.long c1)])) _
              refine XS.lcmp X109.here hx rfl (hb hby d5_50) rfl ?_
              exact k
            have ch113 : ∀ t, Steps p.tables e below (T109.setTop (mkF m 51 #[.val (.ref ra), .val (.ref rb), .val (.int (1 : Int32))] [(.int (lcmpW c1 w1))])) t → Steps p.tables e below (s₁.setTop (mkF m 0 #[.val (.ref ra), .val (.ref rb), .unset] [])) t := by
              intro t k
              refine ch103 _ ?_
              show Steps p.tables e below (T100.setTop (mkF m 35 #[.val (.ref ra), .val (.ref rb), .val (.int (1 : Int32))] [(.int u1), (.int s1)])) _
              refine sgf35_2 _ ?_
              show Steps p.tables e below (T100.setTop (mkF m 38 #[.val (.ref ra), .val (.ref rb), .val (.int (1 : Int32))] [])) _
              refine sg104 _ ?_
              show Steps p.tables e below (T100.setTop (mkF m 39 #[.val (.ref ra), .val (.ref rb), .val (.int (1 : Int32))] [(.ref ra)])) _
              refine st105 _ ?_
              show Steps p.tables e below (T105.setTop (mkF m 42 #[.val (.ref ra), .val (.ref rb), .val (.int (1 : Int32))] [(.ref r2)])) _
              refine sg106 _ ?_
              show Steps p.tables e below (T105.setTop (mkF m 43 #[.val (.ref ra), .val (.ref rb), .val (.int (1 : Int32))] [(.int (1 : Int32)), (.ref r2)])) _
              refine st107 _ ?_
              show Steps p.tables e below (T105.setTop (mkF m 44 #[.val (.ref ra), .val (.ref rb), .val (.int (1 : Int32))] [(.long c1)])) _
              refine sg108 _ ?_
              show Steps p.tables e below (T105.setTop (mkF m 45 #[.val (.ref ra), .val (.ref rb), .val (.int (1 : Int32))] [(.ref rb), (.long c1)])) _
              refine st109 _ ?_
              show Steps p.tables e below (T109.setTop (mkF m 48 #[.val (.ref ra), .val (.ref rb), .val (.int (1 : Int32))] [(.ref y2), (.long c1)])) _
              refine sg110 _ ?_
              show Steps p.tables e below (T109.setTop (mkF m 49 #[.val (.ref ra), .val (.ref rb), .val (.int (1 : Int32))] [(.int (1 : Int32)), (.ref y2), (.long c1)])) _
              refine st111 _ ?_
              show Steps p.tables e below (T109.setTop (mkF m 50 #[.val (.ref ra), .val (.ref rb), .val (.int (1 : Int32))] [(.long w1), (.long c1)])) _
              refine sg112 _ ?_
              show Steps p.tables e below (T109.setTop (mkF m 51 #[.val (.ref ra), .val (.ref rb), .val (.int (1 : Int32))] [(.int (lcmpW c1 w1))])) _
              exact k
            by_cases hc51_3 : c1 = w1
            · have sgf51_3 : ∀ t, Steps p.tables e below (T109.setTop (mkF m 56 #[.val (.ref ra), .val (.ref rb), .val (.int (1 : Int32))] [])) t → Steps p.tables e below (T109.setTop (mkF m 51 #[.val (.ref ra), .val (.ref rb), .val (.int (1 : Int32))] [(.int (lcmpW c1 w1))])) t := fun t k => by
                refine XS.ifYes X109.here hx rfl (pc0 := 51) (pc' := 56) rfl (hb hby d5_51) rfl ((if0 _ _).trans (teq ((lw_eq _ _).mpr hc51_3)).1) (by decide) (by decide) ?_
                exact k
              have sg114 : ∀ t, Steps p.tables e below (T109.setTop (mkF m 17 #[.val (.ref ra), .val (.ref rb), .val (.int (2 : Int32))] [(.ref ra), (.int (2 : Int32))])) t → Steps p.tables e below (T109.setTop (mkF m 56 #[.val (.ref ra), .val (.ref rb), .val (.int (1 : Int32))] [])) t := by
                intro t k
                show Steps p.tables e below (T109.setTop (mkF m 56 #[.val (.ref ra), .val (.ref rb), .val (.int (1 : Int32))] [])) _
                refine XS.iinc X109.here hx rfl (hb hby d5_56) rfl (l' := #[.val (.ref ra), .val (.ref rb), .val (.int (2 : Int32))]) rfl ?_
                show Steps p.tables e below (T109.setTop (mkF m 59 #[.val (.ref ra), .val (.ref rb), .val (.int (2 : Int32))] [])) _
                refine XS.goto X109.here hx rfl (pc0 := 59) (pc' := 15) rfl (hb hby d5_59) (by decide) (by decide) ?_
                show Steps p.tables e below (T109.setTop (mkF m 15 #[.val (.ref ra), .val (.ref rb), .val (.int (2 : Int32))] [])) _
                refine XS.iloadN X109.here hx rfl (hb hby d5_15) rfl ?_
                show Steps p.tables e below (T109.setTop (mkF m 16 #[.val (.ref ra), .val (.ref rb), .val (.int (2 : Int32))] [(.int (2 : Int32))])) _
                refine XS.aloadN X109.here hx rfl (hb hby d5_16) rfl rfl ?_
                exact k
              obtain ⟨T115, X115, e115, st115⟩ := getF X109 hx hZ hown (host := "") (Or.inl (hw _ (List.mem_of_getElem? (i := 23) rfl))) Via.refl e109 P0 (g := (mkF m 17 #[.val (.ref ra), .val (.ref rb), .val (.int (2 : Int32))] [(.ref ra), (.int (2 : Int32))])) rfl rfl (hb hby d5_17)
              have sg116 : ∀ t, Steps p.tables e below (T115.setTop (mkF m 63 #[.val (.ref ra), .val (.ref rb), .val (.int (2 : Int32))] [(.int (1 : Int32))])) t → Steps p.tables e below (T115.setTop (mkF m 20 #[.val (.ref ra), .val (.ref rb), .val (.int (2 : Int32))] [(.int (2 : Int32)), (.int (2 : Int32))])) t := by
                intro t k
                show Steps p.tables e below (T115.setTop (mkF m 20 #[.val (.ref ra), .val (.ref rb), .val (.int (2 : Int32))] [(.int (2 : Int32)), (.int (2 : Int32))])) _
                refine XS.icmpYes X115.here hx rfl (pc0 := 20) (pc' := 62) rfl (hb hby d5_20) rfl (flt (by decide : ¬ ((2 : Int32) < (2 : Int32)))).2.1 (by decide) (by decide) ?_
                show Steps p.tables e below (T115.setTop (mkF m 62 #[.val (.ref ra), .val (.ref rb), .val (.int (2 : Int32))] [])) _
                refine XS.iconst X115.here hx rfl (hb hby d5_62) ?_
                exact k
              obtain ⟨fs, hr, hrun, hended, hW, hsame⟩ := X115.leave (v := some (.int (1 : Int32))) (fun h => by rw [Bd.returns] at h; cases h) (hlocks := hlk)
              refine ⟨_, _, pre0 _ ?_, hrun, hended, _, _, rfl, ?_, ⟨_, rfl⟩, hW, hsame.mono (by decide) (by decide)⟩
              · show Steps p.tables e below (s₁.setTop (mkF m 0 #[.val (.ref ra), .val (.ref rb), .unset] [])) _
                refine ch113 _ ?_
                show Steps p.tables e below (T109.setTop (mkF m 51 #[.val (.ref ra), .val (.ref rb), .val (.int (1 : Int32))] [(.int (lcmpW c1 w1))])) _
                refine sgf51_3 _ ?_
                show Steps p.tables e below (T109.setTop (mkF m 56 #[.val (.ref ra), .val (.ref rb), .val (.int (1 : Int32))] [])) _
                refine sg114 _ ?_
                show Steps p.tables e below (T109.setTop (mkF m 17 #[.val (.ref ra), .val (.ref rb), .val (.int (2 : Int32))] [(.ref ra), (.int (2 : Int32))])) _
                refine st115 _ ?_
                show Steps p.tables e below (T115.setTop (mkF m 20 #[.val (.ref ra), .val (.ref rb), .val (.int (2 : Int32))] [(.int (2 : Int32)), (.int (2 : Int32))])) _
                refine sg116 _ ?_
                show Steps p.tables e below (T115.setTop (mkF m 63 #[.val (.ref ra), .val (.ref rb), .val (.int (2 : Int32))] [(.int (1 : Int32))])) _
                exact retN X115 hx (t := .boolean) Bd.returns (by simp) (hb hby d5_63) hr
              · show Q_rmS Z ra rb r1 r2 k1 k2 (2 : Int32) s0 s1 c0 c1 y1 y2 j1 j2 (2 : Int32) u0 u1 w0 w1 h0 n0 _ T115.heap _
                rw [e115]
                exact ⟨(by rw [own_same, if_pos rfl, if_neg (by decide), if_pos hc35_0, if_pos hc51_1, if_neg (by decide), if_pos hc35_2, if_pos hc51_3]), N0, rfl⟩
            · have sgf51_3 : ∀ t, Steps p.tables e below (T109.setTop (mkF m 54 #[.val (.ref ra), .val (.ref rb), .val (.int (1 : Int32))] [])) t → Steps p.tables e below (T109.setTop (mkF m 51 #[.val (.ref ra), .val (.ref rb), .val (.int (1 : Int32))] [(.int (lcmpW c1 w1))])) t := fun t k => by
                refine XS.ifNo X109.here hx rfl (hb hby d5_51) rfl ((if0 _ _).trans (feq (mt (lw_eq _ _).mp hc51_3)).1) ?_
                exact k
              have sg117 : ∀ t, Steps p.tables e below (T109.setTop (mkF m 55 #[.val (.ref ra), .val (.ref rb), .val (.int (1 : Int32))] [(.int (0 : Int32))])) t → Steps p.tables e below (T109.setTop (mkF m 54 #[.val (.ref ra), .val (.ref rb), .val (.int (1 : Int32))] [])) t := by
                intro t k
                show Steps p.tables e below (T109.setTop (mkF m 54 #[.val (.ref ra), .val (.ref rb), .val (.int (1 : Int32))] [])) _
                refine XS.iconst X109.here hx rfl (hb hby d5_54) ?_
                exact k
              obtain ⟨fs, hr, hrun, hended, hW, hsame⟩ := X109.leave (v := some (.int (0 : Int32))) (fun h => by rw [Bd.returns] at h; cases h) (hlocks := hlk)
              refine ⟨_, _, pre0 _ ?_, hrun, hended, _, _, rfl, ?_, ⟨_, rfl⟩, hW, hsame.mono (by decide) (by decide)⟩
              · show Steps p.tables e below (s₁.setTop (mkF m 0 #[.val (.ref ra), .val (.ref rb), .unset] [])) _
                refine ch113 _ ?_
                show Steps p.tables e below (T109.setTop (mkF m 51 #[.val (.ref ra), .val (.ref rb), .val (.int (1 : Int32))] [(.int (lcmpW c1 w1))])) _
                refine sgf51_3 _ ?_
                show Steps p.tables e below (T109.setTop (mkF m 54 #[.val (.ref ra), .val (.ref rb), .val (.int (1 : Int32))] [])) _
                refine sg117 _ ?_
                show Steps p.tables e below (T109.setTop (mkF m 55 #[.val (.ref ra), .val (.ref rb), .val (.int (1 : Int32))] [(.int (0 : Int32))])) _
                exact retN X109 hx (t := .boolean) Bd.returns (by simp) (hb hby d5_55) hr
              · show Q_rmS Z ra rb r1 r2 k1 k2 (2 : Int32) s0 s1 c0 c1 y1 y2 j1 j2 (2 : Int32) u0 u1 w0 w1 h0 n0 _ T109.heap _
                rw [e109]
                exact ⟨(by rw [own_same, if_pos rfl, if_neg (by decide), if_pos hc35_0, if_pos hc51_1, if_neg (by decide), if_pos hc35_2, if_neg hc51_3]), N0, rfl⟩
          · have sgf35_2 : ∀ t, Steps p.tables e below (T100.setTop (mkF m 54 #[.val (.ref ra), .val (.ref rb), .val (.int (1 : Int32))] [])) t → Steps p.tables e below (T100.setTop (mkF m 35 #[.val (.ref ra), .val (.ref rb), .val (.int (1 : Int32))] [(.int u1), (.int s1)])) t := fun t k => by
              refine XS.icmpYes X100.here hx rfl (pc0 := 35) (pc' := 54) rfl (hb hby d5_35) rfl (feq hc35_2).2 (by decide) (by decide) ?_
              exact k
            have sg118 : ∀ t, Steps p.tables e below (T100.setTop (mkF m 55 #[.val (.ref ra), .val (.ref rb), .val (.int (1 : Int32))] [(.int (0 : Int32))])) t → Steps p.tables e below (T100.setTop (mkF m 54 #[.val (.ref ra), .val (.ref rb), .val (.int (1 : Int32))] [])) t := by
              intro t k
              show Steps p.tables e below (T100.setTop (mkF m 54 #[.val (.ref ra), .val (.ref rb), .val (.int (1 : Int32))] [])) _
              refine XS.iconst X100.here hx rfl (hb hby d5_54) ?_
              exact k
            obtain ⟨fs, hr, hrun, hended, hW, hsame⟩ := X100.leave (v := some (.int (0 : Int32))) (fun h => by rw [Bd.returns] at h; cases h) (hlocks := hlk)
            refine ⟨_, _, pre0 _ ?_, hrun, hended, _, _, rfl, ?_, ⟨_, rfl⟩, hW, hsame.mono (by decide) (by decide)⟩
            · show Steps p.tables e below (s₁.setTop (mkF m 0 #[.val (.ref ra), .val (.ref rb), .unset] [])) _
              refine ch103 _ ?_
              show Steps p.tables e below (T100.setTop (mkF m 35 #[.val (.ref ra), .val (.ref rb), .val (.int (1 : Int32))] [(.int u1), (.int s1)])) _
              refine sgf35_2 _ ?_
              show Steps p.tables e below (T100.setTop (mkF m 54 #[.val (.ref ra), .val (.ref rb), .val (.int (1 : Int32))] [])) _
              refine sg118 _ ?_
              show Steps p.tables e below (T100.setTop (mkF m 55 #[.val (.ref ra), .val (.ref rb), .val (.int (1 : Int32))] [(.int (0 : Int32))])) _
              exact retN X100 hx (t := .boolean) Bd.returns (by simp) (hb hby d5_55) hr
            · show Q_rmS Z ra rb r1 r2 k1 k2 (2 : Int32) s0 s1 c0 c1 y1 y2 j1 j2 (2 : Int32) u0 u1 w0 w1 h0 n0 _ T100.heap _
              rw [e100]
              exact ⟨(by rw [own_same, if_pos rfl, if_neg (by decide), if_pos hc35_0, if_pos hc51_1, if_neg (by decide), if_neg hc35_2]), N0, rfl⟩
        · have sgf51_1 : ∀ t, Steps p.tables e below (T88.setTop (mkF m 54 #[.val (.ref ra), .val (.ref rb), .val (.int (0 : Int32))] [])) t → Steps p.tables e below (T88.setTop (mkF m 51 #[.val (.ref ra), .val (.ref rb), .val (.int (0 : Int32))] [(.int (lcmpW c0 w0))])) t := fun t k => by
            refine XS.ifNo X88.here hx rfl (hb hby d5_51) rfl ((if0 _ _).trans (feq (mt (lw_eq _ _).mp hc51_1)).1) ?_
            exact k
          have sg119 : ∀ t, Steps p.tables e below (T88.setTop (mkF m 55 #[.val (.ref ra), .val (.ref rb), .val (.int (0 : Int32))] [(.int (0 : Int32))])) t → Steps p.tables e below (T88.setTop (mkF m 54 #[.val (.ref ra), .val (.ref rb), .val (.int (0 : Int32))] [])) t := by
            intro t k
            show Steps p.tables e below (T88.setTop (mkF m 54 #[.val (.ref ra), .val (.ref rb), .val (.int (0 : Int32))] [])) _
            refine XS.iconst X88.here hx rfl (hb hby d5_54) ?_
            exact k
          obtain ⟨fs, hr, hrun, hended, hW, hsame⟩ := X88.leave (v := some (.int (0 : Int32))) (fun h => by rw [Bd.returns] at h; cases h) (hlocks := hlk)
          refine ⟨_, _, pre0 _ ?_, hrun, hended, _, _, rfl, ?_, ⟨_, rfl⟩, hW, hsame.mono (by decide) (by decide)⟩
          · show Steps p.tables e below (s₁.setTop (mkF m 0 #[.val (.ref ra), .val (.ref rb), .unset] [])) _
            refine ch92 _ ?_
            show Steps p.tables e below (T88.setTop (mkF m 51 #[.val (.ref ra), .val (.ref rb), .val (.int (0 : Int32))] [(.int (lcmpW c0 w0))])) _
            refine sgf51_1 _ ?_
            show Steps p.tables e below (T88.setTop (mkF m 54 #[.val (.ref ra), .val (.ref rb), .val (.int (0 : Int32))] [])) _
            refine sg119 _ ?_
            show Steps p.tables e below (T88.setTop (mkF m 55 #[.val (.ref ra), .val (.ref rb), .val (.int (0 : Int32))] [(.int (0 : Int32))])) _
            exact retN X88 hx (t := .boolean) Bd.returns (by simp) (hb hby d5_55) hr
          · show Q_rmS Z ra rb r1 r2 k1 k2 (2 : Int32) s0 s1 c0 c1 y1 y2 j1 j2 (2 : Int32) u0 u1 w0 w1 h0 n0 _ T88.heap _
            rw [e88]
            exact ⟨(by rw [own_same, if_pos rfl, if_neg (by decide), if_pos hc35_0, if_neg hc51_1]), N0, rfl⟩
      · have sgf35_0 : ∀ t, Steps p.tables e below (T79.setTop (mkF m 54 #[.val (.ref ra), .val (.ref rb), .val (.int (0 : Int32))] [])) t → Steps p.tables e below (T79.setTop (mkF m 35 #[.val (.ref ra), .val (.ref rb), .val (.int (0 : Int32))] [(.int u0), (.int s0)])) t := fun t k => by
          refine XS.icmpYes X79.here hx rfl (pc0 := 35) (pc' := 54) rfl (hb hby d5_35) rfl (feq hc35_0).2 (by decide) (by decide) ?_
          exact k
        have sg120 : ∀ t, Steps p.tables e below (T79.setTop (mkF m 55 #[.val (.ref ra), .val (.ref rb), .val (.int (0 : Int32))] [(.int (0 : Int32))])) t → Steps p.tables e below (T79.setTop (mkF m 54 #[.val (.ref ra), .val (.ref rb), .val (.int (0 : Int32))] [])) t := by
          intro t k
          show Steps p.tables e below (T79.setTop (mkF m 54 #[.val (.ref ra), .val (.ref rb), .val (.int (0 : Int32))] [])) _
          refine XS.iconst X79.here hx rfl (hb hby d5_54) ?_
          exact k
        obtain ⟨fs, hr, hrun, hended, hW, hsame⟩ := X79.leave (v := some (.int (0 : Int32))) (fun h => by rw [Bd.returns] at h; cases h) (hlocks := hlk)
        refine ⟨_, _, pre0 _ ?_, hrun, hended, _, _, rfl, ?_, ⟨_, rfl⟩, hW, hsame.mono (by decide) (by decide)⟩
        · show Steps p.tables e below (s₁.setTop (mkF m 0 #[.val (.ref ra), .val (.ref rb), .unset] [])) _
          refine ch82 _ ?_
          show Steps p.tables e below (T79.setTop (mkF m 35 #[.val (.ref ra), .val (.ref rb), .val (.int (0 : Int32))] [(.int u0), (.int s0)])) _
          refine sgf35_0 _ ?_
          show Steps p.tables e below (T79.setTop (mkF m 54 #[.val (.ref ra), .val (.ref rb), .val (.int (0 : Int32))] [])) _
          refine sg120 _ ?_
          show Steps p.tables e below (T79.setTop (mkF m 55 #[.val (.ref ra), .val (.ref rb), .val (.int (0 : Int32))] [(.int (0 : Int32))])) _
          exact retN X79 hx (t := .boolean) Bd.returns (by simp) (hb hby d5_55) hr
        · show Q_rmS Z ra rb r1 r2 k1 k2 (2 : Int32) s0 s1 c0 c1 y1 y2 j1 j2 (2 : Int32) u0 u1 w0 w1 h0 n0 _ T79.heap _
          rw [e79]
          exact ⟨(by rw [own_same, if_pos rfl, if_neg (by decide), if_neg hc35_0]), N0, rfl⟩
def Q0 (Z : State) (p1 p2 p3 : Int32) (p4 p5 : Int64) (h0 : Heap) (n0 : Nat) (v : Option Value) (h : Heap) (L : List Loc) : Prop := v = some (.int 1) ∧ Fr n0 L
theorem pd_1 : parseMethodDescriptor "(IJ)V" = some ⟨[.int, .long], none⟩ := by decide +kernel
theorem pd_2 : parseMethodDescriptor "(IJIJ[I[J)I" = some ⟨[.int, .long, .int, .long, (.array .int), (.array .long)], some .int⟩ := by decide +kernel
theorem pd_3 : parseMethodDescriptor "(Lquerymill/regex/CodePointRuns;)Z" = some ⟨[(.object "querymill/regex/CodePointRuns")], some .boolean⟩ := by decide +kernel
theorem own_fin (zz87 : Int32) (u087 : Int32) (u187 : Int32) (w087 : Int64) (w187 : Int64) (zz184 : Int32) (u0184 : Int32) (u1184 : Int32) (w0184 : Int64) (w1184 : Int64) (sy202 : Int32) (u0202 : Int32) (u1202 : Int32) (w0202 : Int64) (w1202 : Int64) (sy225 : Int32) (u0225 : Int32) (u1225 : Int32) (w0225 : Int64) (w1225 : Int64) (ha : Agr zz87 u087 u187 w087 w187 sy202 u0202 u1202 w0202 w1202) (hb : Agr zz184 u0184 u1184 w0184 w1184 sy225 u0225 u1225 w0225 w1225) : own_same zz87 u087 u187 w087 w187 zz184 u0184 u1184 w0184 w1184 = (if sy202 = sy225 then (if sy202 < (1 : Int32) then (if sy202 < (2 : Int32) then (1 : Int32) else (if u1202 = u1225 then (if w1202 = w1225 then (1 : Int32) else (0 : Int32)) else (0 : Int32))) else (if u0202 = u0225 then (if w0202 = w0225 then (if sy202 < (2 : Int32) then (1 : Int32) else (if u1202 = u1225 then (if w1202 = w1225 then (1 : Int32) else (0 : Int32)) else (0 : Int32))) else (0 : Int32)) else (0 : Int32))) else (0 : Int32)) := by
  have a01 : ((0 : Int32) = (1 : Int32)) = False := eq_false (by decide)
  have a02 : ((0 : Int32) = (2 : Int32)) = False := eq_false (by decide)
  have a10 : ((1 : Int32) = (0 : Int32)) = False := eq_false (by decide)
  have a12 : ((1 : Int32) = (2 : Int32)) = False := eq_false (by decide)
  have a20 : ((2 : Int32) = (0 : Int32)) = False := eq_false (by decide)
  have a21 : ((2 : Int32) = (1 : Int32)) = False := eq_false (by decide)
  have b01 : ((0 : Int32) < (1 : Int32)) = True := eq_true (by decide)
  have b02 : ((0 : Int32) < (2 : Int32)) = True := eq_true (by decide)
  have b11 : ((1 : Int32) < (1 : Int32)) = False := eq_false (by decide)
  have b12 : ((1 : Int32) < (2 : Int32)) = True := eq_true (by decide)
  have b21 : ((2 : Int32) < (1 : Int32)) = False := eq_false (by decide)
  have b22 : ((2 : Int32) < (2 : Int32)) = False := eq_false (by decide)
  rcases ha with ⟨rfl, rfl⟩ | ⟨rfl, rfl, rfl, rfl⟩ | ⟨rfl, rfl, rfl, rfl, rfl, rfl⟩ <;> rcases hb with ⟨rfl, rfl⟩ | ⟨rfl, rfl, rfl, rfl⟩ | ⟨rfl, rfl, rfl, rfl, rfl, rfl⟩ <;> simp only [own_same, a01, a02, a10, a12, a20, a21, b01, b02, b11, b12, b21, b22, if_true, if_false]
theorem ef_rm0 (m : MethodId) (x0 : Int32) (x1 : Int32) (x2 : Int32) (x3 : Int64) (x4 : Int64) : entryFrame m #[(.int x0), (.int x1), (.int x2), (.long x3), (.long x4)] maxLocals = mkF m 0 #[.val (.int x0), .val (.int x1), .val (.int x2), .val (.long x3), .second, .val (.long x4), .second, .unset, .unset, .unset, .unset, .unset, .unset, .unset, .unset, .unset, .unset, .unset, .unset, .unset, .unset, .unset, .unset, .unset, .unset, .unset, .unset, .unset] [] := by first | (simp [entryFrame, mkF, argsToLocals, Value.category, maxLocals]; done) | rfl
set_option maxRecDepth 65536 in
set_option maxHeartbeats 40000000 in
theorem rm0 (l : Launch) (Z : State) (a0 : Array Value) (hw : ∀ d ∈ tables_1, d.before a0 Z = true) (ws : List Jvm.Cond) (p1 : Int32) (p2 : Int32) (p3 : Int32) (p4 : Int64) (p5 : Int64)  (h0 : Heap) (n0 : Nat) (Z0 : n0 ≤ h0.size)  :
    MetFree l x (head1 (Jvm.Cond.code x code maxLocals ret :: ws) room_1) (fun a U => a = #[(.int p1), (.int p2), (.int p3), (.long p4), (.long p5)] ∧ Z.Warmed39 U.vm ∧ U.heap = h0) (fun _ _ _ _ _ => True) (fun _ U o U' => ∃ v L, o = .returned v ∧ Q0 Z p1 p2 p3 p4 p5 h0 n0 v U'.heap L ∧ FrameEnd U o U' L 32 192) := by
  refine MetFree.of_bodySF (plainFor_of_name pn_1) hisR ?_
  intro p e s m args below meth c s₁ Bd hml0 hP hK
  obtain ⟨rfl, hZ, hh⟩ := hP
  have hx := Bd.exec
  have hby := Bd.bytes
  have hml : c.maxLocals = 28 := hml0
  have hown : s.vm.findClass "querymill/regex/CodePointRunsSameAsPinLaw" = some m.cls := findClass_of_methodNamed Bd.named
  have hnm := (name_of_methodNamed Bd.named Bd.method).1
  have hlk : meth.locks = false := by first | exact BodyLoose.notSynchronized Bd | exact Body.notSynchronized Bd
  have X0 : Stand p l e room_1 s m #[(.int p1), (.int p2), (.int p3), (.long p4), (.long p5)] below meth c s₁ [] 0 0 := Stand.of_body Bd
  have e0 : s₁.heap = h0 := by rw [← hh, Bd.state]; rfl
  have N0 := Fr.nil n0
  have pre0 : ∀ t, Steps p.tables e below (s₁.setTop (mkF m 0 #[.val (.int p1), .val (.int p2), .val (.int p3), .val (.long p4), .second, .val (.long p5), .second, .unset, .unset, .unset, .unset, .unset, .unset, .unset, .unset, .unset, .unset, .unset, .unset, .unset, .unset, .unset, .unset, .unset, .unset, .unset, .unset, .unset] [])) t → Steps p.tables e below (s₁.setTop (entryFrame m #[(.int p1), (.int p2), (.int p3), (.long p4), (.long p5)] maxLocals)) t := fun t k => castTop (ef_rm0 m p1 p2 p3 p4 p5) k
  have sg1 : ∀ t, Steps p.tables e below (s₁.setTop (mkF m 3 #[.val (.int p1), .val (.int p2), .val (.int p3), .val (.long p4), .second, .val (.long p5), .second, .unset, .unset, .unset, .unset, .unset, .unset, .unset, .unset, .unset, .unset, .unset, .unset, .unset, .unset, .unset, .unset, .unset, .unset, .unset, .unset, .unset] [(.int (p3 &&& (1 : Int32)))])) t → Steps p.tables e below (s₁.setTop (mkF m 0 #[.val (.int p1), .val (.int p2), .val (.int p3), .val (.long p4), .second, .val (.long p5), .second, .unset, .unset, .unset, .unset, .unset, .unset, .unset, .unset, .unset, .unset, .unset, .unset, .unset, .unset, .unset, .unset, .unset, .unset, .unset, .unset, .unset] [])) t := by
    intro t k
    show Steps p.tables e below (s₁.setTop (mkF m 0 #[.val (.int p1), .val (.int p2), .val (.int p3), .val (.long p4), .second, .val (.long p5), .second, .unset, .unset, .unset, .unset, .unset, .unset, .unset, .unset, .unset, .unset, .unset, .unset, .unset, .unset, .unset, .unset, .unset, .unset, .unset, .unset, .unset] [])) _
    refine XS.iloadN X0.here hx rfl (hb hby at_0) rfl ?_
    show Steps p.tables e below (s₁.setTop (mkF m 1 #[.val (.int p1), .val (.int p2), .val (.int p3), .val (.long p4), .second, .val (.long p5), .second, .unset, .unset, .unset, .unset, .unset, .unset, .unset, .unset, .unset, .unset, .unset, .unset, .unset, .unset, .unset, .unset, .unset, .unset, .unset, .unset, .unset] [(.int p3)])) _
    refine XS.iconst X0.here hx rfl (hb hby at_1) ?_
    show Steps p.tables e below (s₁.setTop (mkF m 2 #[.val (.int p1), .val (.int p2), .val (.int p3), .val (.long p4), .second, .val (.long p5), .second, .unset, .unset, .unset, .unset, .unset, .unset, .unset, .unset, .unset, .unset, .unset, .unset, .unset, .unset, .unset, .unset, .unset, .unset, .unset, .unset, .unset] [(.int (1 : Int32)), (.int p3)])) _
    refine XS.iand X0.here hx rfl (hb hby at_2) rfl ?_
    exact k
  obtain ⟨xa1, hxa1⟩ : ∃ v : Int32, v = (if (p3 &&& (1 : Int32)) = (0 : Int32) then p1 else p2) := ⟨_, rfl⟩
  have sg2 : ∀ t, Steps p.tables e below (s₁.setTop (mkF m 11 #[.val (.int p1), .val (.int p2), .val (.int p3), .val (.long p4), .second, .val (.long p5), .second, .unset, .unset, .unset, .unset, .unset, .unset, .unset, .unset, .unset, .unset, .unset, .unset, .unset, .unset, .unset, .unset, .unset, .unset, .unset, .unset, .unset] [(.int xa1)])) t → Steps p.tables e below (s₁.setTop (mkF m 3 #[.val (.int p1), .val (.int p2), .val (.int p3), .val (.long p4), .second, .val (.long p5), .second, .unset, .unset, .unset, .unset, .unset, .unset, .unset, .unset, .unset, .unset, .unset, .unset, .unset, .unset, .unset, .unset, .unset, .unset, .unset, .unset, .unset] [(.int (p3 &&& (1 : Int32)))])) t := by
    intro t k
    show Steps p.tables e below (s₁.setTop (mkF m 3 #[.val (.int p1), .val (.int p2), .val (.int p3), .val (.long p4), .second, .val (.long p5), .second, .unset, .unset, .unset, .unset, .unset, .unset, .unset, .unset, .unset, .unset, .unset, .unset, .unset, .unset, .unset, .unset, .unset, .unset, .unset, .unset, .unset] [(.int (p3 &&& (1 : Int32)))])) _
    by_cases hc3 : (p3 &&& (1 : Int32)) = (0 : Int32)
    · refine XS.ifYes X0.here hx rfl (pc0 := 3) (pc' := 10) rfl (hb hby at_3) rfl ((if0 _ _).trans (teq hc3).1) (by decide) (by decide) ?_
      show Steps p.tables e below (s₁.setTop (mkF m 10 #[.val (.int p1), .val (.int p2), .val (.int p3), .val (.long p4), .second, .val (.long p5), .second, .unset, .unset, .unset, .unset, .unset, .unset, .unset, .unset, .unset, .unset, .unset, .unset, .unset, .unset, .unset, .unset, .unset, .unset, .unset, .unset, .unset] [])) _
      refine XS.iloadN X0.here hx rfl (hb hby at_10) rfl ?_
      rw [show xa1 = p1 from by rw [hxa1, if_pos hc3]] at k
      exact k
    · refine XS.ifNo X0.here hx rfl (hb hby at_3) rfl ((if0 _ _).trans (feq hc3).1) ?_
      show Steps p.tables e below (s₁.setTop (mkF m 6 #[.val (.int p1), .val (.int p2), .val (.int p3), .val (.long p4), .second, .val (.long p5), .second, .unset, .unset, .unset, .unset, .unset, .unset, .unset, .unset, .unset, .unset, .unset, .unset, .unset, .unset, .unset, .unset, .unset, .unset, .unset, .unset, .unset] [])) _
      refine XS.iloadN X0.here hx rfl (hb hby at_6) rfl ?_
      show Steps p.tables e below (s₁.setTop (mkF m 7 #[.val (.int p1), .val (.int p2), .val (.int p3), .val (.long p4), .second, .val (.long p5), .second, .unset, .unset, .unset, .unset, .unset, .unset, .unset, .unset, .unset, .unset, .unset, .unset, .unset, .unset, .unset, .unset, .unset, .unset, .unset, .unset, .unset] [(.int p2)])) _
      refine XS.goto X0.here hx rfl (pc0 := 7) (pc' := 11) rfl (hb hby at_7) (by decide) (by decide) ?_
      rw [show xa1 = p2 from by rw [hxa1, if_neg hc3]] at k
      exact k
  have sg3 : ∀ t, Steps p.tables e below (s₁.setTop (mkF m 16 #[.val (.int p1), .val (.int p2), .val (.int p3), .val (.long p4), .second, .val (.long p5), .second, .val (.int xa1), .unset, .unset, .unset, .unset, .unset, .unset, .unset, .unset, .unset, .unset, .unset, .unset, .unset, .unset, .unset, .unset, .unset, .unset, .unset, .unset] [(.int (p3 &&& (2 : Int32)))])) t → Steps p.tables e below (s₁.setTop (mkF m 11 #[.val (.int p1), .val (.int p2), .val (.int p3), .val (.long p4), .second, .val (.long p5), .second, .unset, .unset, .unset, .unset, .unset, .unset, .unset, .unset, .unset, .unset, .unset, .unset, .unset, .unset, .unset, .unset, .unset, .unset, .unset, .unset, .unset] [(.int xa1)])) t := by
    intro t k
    show Steps p.tables e below (s₁.setTop (mkF m 11 #[.val (.int p1), .val (.int p2), .val (.int p3), .val (.long p4), .second, .val (.long p5), .second, .unset, .unset, .unset, .unset, .unset, .unset, .unset, .unset, .unset, .unset, .unset, .unset, .unset, .unset, .unset, .unset, .unset, .unset, .unset, .unset, .unset] [(.int xa1)])) _
    refine XS.istore X0.here hx rfl (hb hby at_11) rfl (l' := #[.val (.int p1), .val (.int p2), .val (.int p3), .val (.long p4), .second, .val (.long p5), .second, .val (.int xa1), .unset, .unset, .unset, .unset, .unset, .unset, .unset, .unset, .unset, .unset, .unset, .unset, .unset, .unset, .unset, .unset, .unset, .unset, .unset, .unset]) rfl ?_
    show Steps p.tables e below (s₁.setTop (mkF m 13 #[.val (.int p1), .val (.int p2), .val (.int p3), .val (.long p4), .second, .val (.long p5), .second, .val (.int xa1), .unset, .unset, .unset, .unset, .unset, .unset, .unset, .unset, .unset, .unset, .unset, .unset, .unset, .unset, .unset, .unset, .unset, .unset, .unset, .unset] [])) _
    refine XS.iloadN X0.here hx rfl (hb hby at_13) rfl ?_
    show Steps p.tables e below (s₁.setTop (mkF m 14 #[.val (.int p1), .val (.int p2), .val (.int p3), .val (.long p4), .second, .val (.long p5), .second, .val (.int xa1), .unset, .unset, .unset, .unset, .unset, .unset, .unset, .unset, .unset, .unset, .unset, .unset, .unset, .unset, .unset, .unset, .unset, .unset, .unset, .unset] [(.int p3)])) _
    refine XS.iconst X0.here hx rfl (hb hby at_14) ?_
    show Steps p.tables e below (s₁.setTop (mkF m 15 #[.val (.int p1), .val (.int p2), .val (.int p3), .val (.long p4), .second, .val (.long p5), .second, .val (.int xa1), .unset, .unset, .unset, .unset, .unset, .unset, .unset, .unset, .unset, .unset, .unset, .unset, .unset, .unset, .unset, .unset, .unset, .unset, .unset, .unset] [(.int (2 : Int32)), (.int p3)])) _
    refine XS.iand X0.here hx rfl (hb hby at_15) rfl ?_
    exact k
  obtain ⟨xa2, hxa2⟩ : ∃ v : Int32, v = (if (p3 &&& (2 : Int32)) = (0 : Int32) then p1 else p2) := ⟨_, rfl⟩
  have sg4 : ∀ t, Steps p.tables e below (s₁.setTop (mkF m 24 #[.val (.int p1), .val (.int p2), .val (.int p3), .val (.long p4), .second, .val (.long p5), .second, .val (.int xa1), .unset, .unset, .unset, .unset, .unset, .unset, .unset, .unset, .unset, .unset, .unset, .unset, .unset, .unset, .unset, .unset, .unset, .unset, .unset, .unset] [(.int xa2)])) t → Steps p.tables e below (s₁.setTop (mkF m 16 #[.val (.int p1), .val (.int p2), .val (.int p3), .val (.long p4), .second, .val (.long p5), .second, .val (.int xa1), .unset, .unset, .unset, .unset, .unset, .unset, .unset, .unset, .unset, .unset, .unset, .unset, .unset, .unset, .unset, .unset, .unset, .unset, .unset, .unset] [(.int (p3 &&& (2 : Int32)))])) t := by
    intro t k
    show Steps p.tables e below (s₁.setTop (mkF m 16 #[.val (.int p1), .val (.int p2), .val (.int p3), .val (.long p4), .second, .val (.long p5), .second, .val (.int xa1), .unset, .unset, .unset, .unset, .unset, .unset, .unset, .unset, .unset, .unset, .unset, .unset, .unset, .unset, .unset, .unset, .unset, .unset, .unset, .unset] [(.int (p3 &&& (2 : Int32)))])) _
    by_cases hc16 : (p3 &&& (2 : Int32)) = (0 : Int32)
    · refine XS.ifYes X0.here hx rfl (pc0 := 16) (pc' := 23) rfl (hb hby at_16) rfl ((if0 _ _).trans (teq hc16).1) (by decide) (by decide) ?_
      show Steps p.tables e below (s₁.setTop (mkF m 23 #[.val (.int p1), .val (.int p2), .val (.int p3), .val (.long p4), .second, .val (.long p5), .second, .val (.int xa1), .unset, .unset, .unset, .unset, .unset, .unset, .unset, .unset, .unset, .unset, .unset, .unset, .unset, .unset, .unset, .unset, .unset, .unset, .unset, .unset] [])) _
      refine XS.iloadN X0.here hx rfl (hb hby at_23) rfl ?_
      rw [show xa2 = p1 from by rw [hxa2, if_pos hc16]] at k
      exact k
    · refine XS.ifNo X0.here hx rfl (hb hby at_16) rfl ((if0 _ _).trans (feq hc16).1) ?_
      show Steps p.tables e below (s₁.setTop (mkF m 19 #[.val (.int p1), .val (.int p2), .val (.int p3), .val (.long p4), .second, .val (.long p5), .second, .val (.int xa1), .unset, .unset, .unset, .unset, .unset, .unset, .unset, .unset, .unset, .unset, .unset, .unset, .unset, .unset, .unset, .unset, .unset, .unset, .unset, .unset] [])) _
      refine XS.iloadN X0.here hx rfl (hb hby at_19) rfl ?_
      show Steps p.tables e below (s₁.setTop (mkF m 20 #[.val (.int p1), .val (.int p2), .val (.int p3), .val (.long p4), .second, .val (.long p5), .second, .val (.int xa1), .unset, .unset, .unset, .unset, .unset, .unset, .unset, .unset, .unset, .unset, .unset, .unset, .unset, .unset, .unset, .unset, .unset, .unset, .unset, .unset] [(.int p2)])) _
      refine XS.goto X0.here hx rfl (pc0 := 20) (pc' := 24) rfl (hb hby at_20) (by decide) (by decide) ?_
      rw [show xa2 = p2 from by rw [hxa2, if_neg hc16]] at k
      exact k
  have sg5 : ∀ t, Steps p.tables e below (s₁.setTop (mkF m 29 #[.val (.int p1), .val (.int p2), .val (.int p3), .val (.long p4), .second, .val (.long p5), .second, .val (.int xa1), .val (.int xa2), .unset, .unset, .unset, .unset, .unset, .unset, .unset, .unset, .unset, .unset, .unset, .unset, .unset, .unset, .unset, .unset, .unset, .unset, .unset] [(.int (p3 &&& (4 : Int32)))])) t → Steps p.tables e below (s₁.setTop (mkF m 24 #[.val (.int p1), .val (.int p2), .val (.int p3), .val (.long p4), .second, .val (.long p5), .second, .val (.int xa1), .unset, .unset, .unset, .unset, .unset, .unset, .unset, .unset, .unset, .unset, .unset, .unset, .unset, .unset, .unset, .unset, .unset, .unset, .unset, .unset] [(.int xa2)])) t := by
    intro t k
    show Steps p.tables e below (s₁.setTop (mkF m 24 #[.val (.int p1), .val (.int p2), .val (.int p3), .val (.long p4), .second, .val (.long p5), .second, .val (.int xa1), .unset, .unset, .unset, .unset, .unset, .unset, .unset, .unset, .unset, .unset, .unset, .unset, .unset, .unset, .unset, .unset, .unset, .unset, .unset, .unset] [(.int xa2)])) _
    refine XS.istore X0.here hx rfl (hb hby at_24) rfl (l' := #[.val (.int p1), .val (.int p2), .val (.int p3), .val (.long p4), .second, .val (.long p5), .second, .val (.int xa1), .val (.int xa2), .unset, .unset, .unset, .unset, .unset, .unset, .unset, .unset, .unset, .unset, .unset, .unset, .unset, .unset, .unset, .unset, .unset, .unset, .unset]) rfl ?_
    show Steps p.tables e below (s₁.setTop (mkF m 26 #[.val (.int p1), .val (.int p2), .val (.int p3), .val (.long p4), .second, .val (.long p5), .second, .val (.int xa1), .val (.int xa2), .unset, .unset, .unset, .unset, .unset, .unset, .unset, .unset, .unset, .unset, .unset, .unset, .unset, .unset, .unset, .unset, .unset, .unset, .unset] [])) _
    refine XS.iloadN X0.here hx rfl (hb hby at_26) rfl ?_
    show Steps p.tables e below (s₁.setTop (mkF m 27 #[.val (.int p1), .val (.int p2), .val (.int p3), .val (.long p4), .second, .val (.long p5), .second, .val (.int xa1), .val (.int xa2), .unset, .unset, .unset, .unset, .unset, .unset, .unset, .unset, .unset, .unset, .unset, .unset, .unset, .unset, .unset, .unset, .unset, .unset, .unset] [(.int p3)])) _
    refine XS.iconst X0.here hx rfl (hb hby at_27) ?_
    show Steps p.tables e below (s₁.setTop (mkF m 28 #[.val (.int p1), .val (.int p2), .val (.int p3), .val (.long p4), .second, .val (.long p5), .second, .val (.int xa1), .val (.int xa2), .unset, .unset, .unset, .unset, .unset, .unset, .unset, .unset, .unset, .unset, .unset, .unset, .unset, .unset, .unset, .unset, .unset, .unset, .unset] [(.int (4 : Int32)), (.int p3)])) _
    refine XS.iand X0.here hx rfl (hb hby at_28) rfl ?_
    exact k
  obtain ⟨xb1, hxb1⟩ : ∃ v : Int32, v = (if (p3 &&& (4 : Int32)) = (0 : Int32) then p1 else p2) := ⟨_, rfl⟩
  have sg6 : ∀ t, Steps p.tables e below (s₁.setTop (mkF m 37 #[.val (.int p1), .val (.int p2), .val (.int p3), .val (.long p4), .second, .val (.long p5), .second, .val (.int xa1), .val (.int xa2), .unset, .unset, .unset, .unset, .unset, .unset, .unset, .unset, .unset, .unset, .unset, .unset, .unset, .unset, .unset, .unset, .unset, .unset, .unset] [(.int xb1)])) t → Steps p.tables e below (s₁.setTop (mkF m 29 #[.val (.int p1), .val (.int p2), .val (.int p3), .val (.long p4), .second, .val (.long p5), .second, .val (.int xa1), .val (.int xa2), .unset, .unset, .unset, .unset, .unset, .unset, .unset, .unset, .unset, .unset, .unset, .unset, .unset, .unset, .unset, .unset, .unset, .unset, .unset] [(.int (p3 &&& (4 : Int32)))])) t := by
    intro t k
    show Steps p.tables e below (s₁.setTop (mkF m 29 #[.val (.int p1), .val (.int p2), .val (.int p3), .val (.long p4), .second, .val (.long p5), .second, .val (.int xa1), .val (.int xa2), .unset, .unset, .unset, .unset, .unset, .unset, .unset, .unset, .unset, .unset, .unset, .unset, .unset, .unset, .unset, .unset, .unset, .unset, .unset] [(.int (p3 &&& (4 : Int32)))])) _
    by_cases hc29 : (p3 &&& (4 : Int32)) = (0 : Int32)
    · refine XS.ifYes X0.here hx rfl (pc0 := 29) (pc' := 36) rfl (hb hby at_29) rfl ((if0 _ _).trans (teq hc29).1) (by decide) (by decide) ?_
      show Steps p.tables e below (s₁.setTop (mkF m 36 #[.val (.int p1), .val (.int p2), .val (.int p3), .val (.long p4), .second, .val (.long p5), .second, .val (.int xa1), .val (.int xa2), .unset, .unset, .unset, .unset, .unset, .unset, .unset, .unset, .unset, .unset, .unset, .unset, .unset, .unset, .unset, .unset, .unset, .unset, .unset] [])) _
      refine XS.iloadN X0.here hx rfl (hb hby at_36) rfl ?_
      rw [show xb1 = p1 from by rw [hxb1, if_pos hc29]] at k
      exact k
    · refine XS.ifNo X0.here hx rfl (hb hby at_29) rfl ((if0 _ _).trans (feq hc29).1) ?_
      show Steps p.tables e below (s₁.setTop (mkF m 32 #[.val (.int p1), .val (.int p2), .val (.int p3), .val (.long p4), .second, .val (.long p5), .second, .val (.int xa1), .val (.int xa2), .unset, .unset, .unset, .unset, .unset, .unset, .unset, .unset, .unset, .unset, .unset, .unset, .unset, .unset, .unset, .unset, .unset, .unset, .unset] [])) _
      refine XS.iloadN X0.here hx rfl (hb hby at_32) rfl ?_
      show Steps p.tables e below (s₁.setTop (mkF m 33 #[.val (.int p1), .val (.int p2), .val (.int p3), .val (.long p4), .second, .val (.long p5), .second, .val (.int xa1), .val (.int xa2), .unset, .unset, .unset, .unset, .unset, .unset, .unset, .unset, .unset, .unset, .unset, .unset, .unset, .unset, .unset, .unset, .unset, .unset, .unset] [(.int p2)])) _
      refine XS.goto X0.here hx rfl (pc0 := 33) (pc' := 37) rfl (hb hby at_33) (by decide) (by decide) ?_
      rw [show xb1 = p2 from by rw [hxb1, if_neg hc29]] at k
      exact k
  have sg7 : ∀ t, Steps p.tables e below (s₁.setTop (mkF m 43 #[.val (.int p1), .val (.int p2), .val (.int p3), .val (.long p4), .second, .val (.long p5), .second, .val (.int xa1), .val (.int xa2), .val (.int xb1), .unset, .unset, .unset, .unset, .unset, .unset, .unset, .unset, .unset, .unset, .unset, .unset, .unset, .unset, .unset, .unset, .unset, .unset] [(.int (p3 &&& (8 : Int32)))])) t → Steps p.tables e below (s₁.setTop (mkF m 37 #[.val (.int p1), .val (.int p2), .val (.int p3), .val (.long p4), .second, .val (.long p5), .second, .val (.int xa1), .val (.int xa2), .unset, .unset, .unset, .unset, .unset, .unset, .unset, .unset, .unset, .unset, .unset, .unset, .unset, .unset, .unset, .unset, .unset, .unset, .unset] [(.int xb1)])) t := by
    intro t k
    show Steps p.tables e below (s₁.setTop (mkF m 37 #[.val (.int p1), .val (.int p2), .val (.int p3), .val (.long p4), .second, .val (.long p5), .second, .val (.int xa1), .val (.int xa2), .unset, .unset, .unset, .unset, .unset, .unset, .unset, .unset, .unset, .unset, .unset, .unset, .unset, .unset, .unset, .unset, .unset, .unset, .unset] [(.int xb1)])) _
    refine XS.istore X0.here hx rfl (hb hby at_37) rfl (l' := #[.val (.int p1), .val (.int p2), .val (.int p3), .val (.long p4), .second, .val (.long p5), .second, .val (.int xa1), .val (.int xa2), .val (.int xb1), .unset, .unset, .unset, .unset, .unset, .unset, .unset, .unset, .unset, .unset, .unset, .unset, .unset, .unset, .unset, .unset, .unset, .unset]) rfl ?_
    show Steps p.tables e below (s₁.setTop (mkF m 39 #[.val (.int p1), .val (.int p2), .val (.int p3), .val (.long p4), .second, .val (.long p5), .second, .val (.int xa1), .val (.int xa2), .val (.int xb1), .unset, .unset, .unset, .unset, .unset, .unset, .unset, .unset, .unset, .unset, .unset, .unset, .unset, .unset, .unset, .unset, .unset, .unset] [])) _
    refine XS.iloadN X0.here hx rfl (hb hby at_39) rfl ?_
    show Steps p.tables e below (s₁.setTop (mkF m 40 #[.val (.int p1), .val (.int p2), .val (.int p3), .val (.long p4), .second, .val (.long p5), .second, .val (.int xa1), .val (.int xa2), .val (.int xb1), .unset, .unset, .unset, .unset, .unset, .unset, .unset, .unset, .unset, .unset, .unset, .unset, .unset, .unset, .unset, .unset, .unset, .unset] [(.int p3)])) _
    refine XS.bipush X0.here hx rfl (hb hby at_40) ?_
    show Steps p.tables e below (s₁.setTop (mkF m 42 #[.val (.int p1), .val (.int p2), .val (.int p3), .val (.long p4), .second, .val (.long p5), .second, .val (.int xa1), .val (.int xa2), .val (.int xb1), .unset, .unset, .unset, .unset, .unset, .unset, .unset, .unset, .unset, .unset, .unset, .unset, .unset, .unset, .unset, .unset, .unset, .unset] [(.int (8 : Int32)), (.int p3)])) _
    refine XS.iand X0.here hx rfl (hb hby at_42) rfl ?_
    exact k
  obtain ⟨xb2, hxb2⟩ : ∃ v : Int32, v = (if (p3 &&& (8 : Int32)) = (0 : Int32) then p1 else p2) := ⟨_, rfl⟩
  have sg8 : ∀ t, Steps p.tables e below (s₁.setTop (mkF m 51 #[.val (.int p1), .val (.int p2), .val (.int p3), .val (.long p4), .second, .val (.long p5), .second, .val (.int xa1), .val (.int xa2), .val (.int xb1), .unset, .unset, .unset, .unset, .unset, .unset, .unset, .unset, .unset, .unset, .unset, .unset, .unset, .unset, .unset, .unset, .unset, .unset] [(.int xb2)])) t → Steps p.tables e below (s₁.setTop (mkF m 43 #[.val (.int p1), .val (.int p2), .val (.int p3), .val (.long p4), .second, .val (.long p5), .second, .val (.int xa1), .val (.int xa2), .val (.int xb1), .unset, .unset, .unset, .unset, .unset, .unset, .unset, .unset, .unset, .unset, .unset, .unset, .unset, .unset, .unset, .unset, .unset, .unset] [(.int (p3 &&& (8 : Int32)))])) t := by
    intro t k
    show Steps p.tables e below (s₁.setTop (mkF m 43 #[.val (.int p1), .val (.int p2), .val (.int p3), .val (.long p4), .second, .val (.long p5), .second, .val (.int xa1), .val (.int xa2), .val (.int xb1), .unset, .unset, .unset, .unset, .unset, .unset, .unset, .unset, .unset, .unset, .unset, .unset, .unset, .unset, .unset, .unset, .unset, .unset] [(.int (p3 &&& (8 : Int32)))])) _
    by_cases hc43 : (p3 &&& (8 : Int32)) = (0 : Int32)
    · refine XS.ifYes X0.here hx rfl (pc0 := 43) (pc' := 50) rfl (hb hby at_43) rfl ((if0 _ _).trans (teq hc43).1) (by decide) (by decide) ?_
      show Steps p.tables e below (s₁.setTop (mkF m 50 #[.val (.int p1), .val (.int p2), .val (.int p3), .val (.long p4), .second, .val (.long p5), .second, .val (.int xa1), .val (.int xa2), .val (.int xb1), .unset, .unset, .unset, .unset, .unset, .unset, .unset, .unset, .unset, .unset, .unset, .unset, .unset, .unset, .unset, .unset, .unset, .unset] [])) _
      refine XS.iloadN X0.here hx rfl (hb hby at_50) rfl ?_
      rw [show xb2 = p1 from by rw [hxb2, if_pos hc43]] at k
      exact k
    · refine XS.ifNo X0.here hx rfl (hb hby at_43) rfl ((if0 _ _).trans (feq hc43).1) ?_
      show Steps p.tables e below (s₁.setTop (mkF m 46 #[.val (.int p1), .val (.int p2), .val (.int p3), .val (.long p4), .second, .val (.long p5), .second, .val (.int xa1), .val (.int xa2), .val (.int xb1), .unset, .unset, .unset, .unset, .unset, .unset, .unset, .unset, .unset, .unset, .unset, .unset, .unset, .unset, .unset, .unset, .unset, .unset] [])) _
      refine XS.iloadN X0.here hx rfl (hb hby at_46) rfl ?_
      show Steps p.tables e below (s₁.setTop (mkF m 47 #[.val (.int p1), .val (.int p2), .val (.int p3), .val (.long p4), .second, .val (.long p5), .second, .val (.int xa1), .val (.int xa2), .val (.int xb1), .unset, .unset, .unset, .unset, .unset, .unset, .unset, .unset, .unset, .unset, .unset, .unset, .unset, .unset, .unset, .unset, .unset, .unset] [(.int p2)])) _
      refine XS.goto X0.here hx rfl (pc0 := 47) (pc' := 51) rfl (hb hby at_47) (by decide) (by decide) ?_
      rw [show xb2 = p2 from by rw [hxb2, if_neg hc43]] at k
      exact k
  have sg9 : ∀ t, Steps p.tables e below (s₁.setTop (mkF m 103 #[.val (.int p1), .val (.int p2), .val (.int p3), .val (.long p4), .second, .val (.long p5), .second, .val (.int xa1), .val (.int xa2), .val (.int xb1), .val (.int xb2), .val (.long (p4 &&& (4611686018427387903 : Int64))), .second, .val (.long (p5 &&& (4611686018427387903 : Int64))), .second, .val (.long ((((p4 &&& (4611686018427387903 : Int64)) + (((p3 >>> ((4 : Int32) &&& 31)) &&& (3 : Int32)).toInt64)) - (1 : Int64)) &&& (4611686018427387903 : Int64))), .second, .val (.long ((((p5 &&& (4611686018427387903 : Int64)) + (((p3 >>> ((6 : Int32) &&& 31)) &&& (3 : Int32)).toInt64)) - (1 : Int64)) &&& (4611686018427387903 : Int64))), .second, .unset, .unset, .unset, .unset, .unset, .unset, .unset, .unset, .unset] [])) t → Steps p.tables e below (s₁.setTop (mkF m 51 #[.val (.int p1), .val (.int p2), .val (.int p3), .val (.long p4), .second, .val (.long p5), .second, .val (.int xa1), .val (.int xa2), .val (.int xb1), .unset, .unset, .unset, .unset, .unset, .unset, .unset, .unset, .unset, .unset, .unset, .unset, .unset, .unset, .unset, .unset, .unset, .unset] [(.int xb2)])) t := by
    intro t k
    show Steps p.tables e below (s₁.setTop (mkF m 51 #[.val (.int p1), .val (.int p2), .val (.int p3), .val (.long p4), .second, .val (.long p5), .second, .val (.int xa1), .val (.int xa2), .val (.int xb1), .unset, .unset, .unset, .unset, .unset, .unset, .unset, .unset, .unset, .unset, .unset, .unset, .unset, .unset, .unset, .unset, .unset, .unset] [(.int xb2)])) _
    refine XS.istore X0.here hx rfl (hb hby at_51) rfl (l' := #[.val (.int p1), .val (.int p2), .val (.int p3), .val (.long p4), .second, .val (.long p5), .second, .val (.int xa1), .val (.int xa2), .val (.int xb1), .val (.int xb2), .unset, .unset, .unset, .unset, .unset, .unset, .unset, .unset, .unset, .unset, .unset, .unset, .unset, .unset, .unset, .unset, .unset]) rfl ?_
    show Steps p.tables e below (s₁.setTop (mkF m 53 #[.val (.int p1), .val (.int p2), .val (.int p3), .val (.long p4), .second, .val (.long p5), .second, .val (.int xa1), .val (.int xa2), .val (.int xb1), .val (.int xb2), .unset, .unset, .unset, .unset, .unset, .unset, .unset, .unset, .unset, .unset, .unset, .unset, .unset, .unset, .unset, .unset, .unset] [])) _
    refine XS.lloadN X0.here hx rfl (hb hby at_53) rfl ?_
    show Steps p.tables e below (s₁.setTop (mkF m 54 #[.val (.int p1), .val (.int p2), .val (.int p3), .val (.long p4), .second, .val (.long p5), .second, .val (.int xa1), .val (.int xa2), .val (.int xb1), .val (.int xb2), .unset, .unset, .unset, .unset, .unset, .unset, .unset, .unset, .unset, .unset, .unset, .unset, .unset, .unset, .unset, .unset, .unset] [(.long p4)])) _
    refine X0.ldc2Long hx hown (mvT hZ (hw _ (List.mem_of_getElem? (i := 0) rfl))) (g := (mkF m 54 #[.val (.int p1), .val (.int p2), .val (.int p3), .val (.long p4), .second, .val (.long p5), .second, .val (.int xa1), .val (.int xa2), .val (.int xb1), .val (.int xb2), .unset, .unset, .unset, .unset, .unset, .unset, .unset, .unset, .unset, .unset, .unset, .unset, .unset, .unset, .unset, .unset, .unset] [(.long p4)])) rfl (hb hby at_54) _ ?_
    show Steps p.tables e below (s₁.setTop (mkF m 57 #[.val (.int p1), .val (.int p2), .val (.int p3), .val (.long p4), .second, .val (.long p5), .second, .val (.int xa1), .val (.int xa2), .val (.int xb1), .val (.int xb2), .unset, .unset, .unset, .unset, .unset, .unset, .unset, .unset, .unset, .unset, .unset, .unset, .unset, .unset, .unset, .unset, .unset] [(.long (4611686018427387903 : Int64)), (.long p4)])) _
    refine XS.land X0.here hx rfl (hb hby at_57) rfl ?_
    show Steps p.tables e below (s₁.setTop (mkF m 58 #[.val (.int p1), .val (.int p2), .val (.int p3), .val (.long p4), .second, .val (.long p5), .second, .val (.int xa1), .val (.int xa2), .val (.int xb1), .val (.int xb2), .unset, .unset, .unset, .unset, .unset, .unset, .unset, .unset, .unset, .unset, .unset, .unset, .unset, .unset, .unset, .unset, .unset] [(.long (p4 &&& (4611686018427387903 : Int64)))])) _
    refine XS.lstore X0.here hx rfl (hb hby at_58) rfl (l' := #[.val (.int p1), .val (.int p2), .val (.int p3), .val (.long p4), .second, .val (.long p5), .second, .val (.int xa1), .val (.int xa2), .val (.int xb1), .val (.int xb2), .val (.long (p4 &&& (4611686018427387903 : Int64))), .second, .unset, .unset, .unset, .unset, .unset, .unset, .unset, .unset, .unset, .unset, .unset, .unset, .unset, .unset, .unset]) rfl ?_
    show Steps p.tables e below (s₁.setTop (mkF m 60 #[.val (.int p1), .val (.int p2), .val (.int p3), .val (.long p4), .second, .val (.long p5), .second, .val (.int xa1), .val (.int xa2), .val (.int xb1), .val (.int xb2), .val (.long (p4 &&& (4611686018427387903 : Int64))), .second, .unset, .unset, .unset, .unset, .unset, .unset, .unset, .unset, .unset, .unset, .unset, .unset, .unset, .unset, .unset] [])) _
    refine XS.lload X0.here hx rfl (hb hby at_60) rfl ?_
    show Steps p.tables e below (s₁.setTop (mkF m 62 #[.val (.int p1), .val (.int p2), .val (.int p3), .val (.long p4), .second, .val (.long p5), .second, .val (.int xa1), .val (.int xa2), .val (.int xb1), .val (.int xb2), .val (.long (p4 &&& (4611686018427387903 : Int64))), .second, .unset, .unset, .unset, .unset, .unset, .unset, .unset, .unset, .unset, .unset, .unset, .unset, .unset, .unset, .unset] [(.long p5)])) _
    refine X0.ldc2Long hx hown (mvT hZ (hw _ (List.mem_of_getElem? (i := 0) rfl))) (g := (mkF m 62 #[.val (.int p1), .val (.int p2), .val (.int p3), .val (.long p4), .second, .val (.long p5), .second, .val (.int xa1), .val (.int xa2), .val (.int xb1), .val (.int xb2), .val (.long (p4 &&& (4611686018427387903 : Int64))), .second, .unset, .unset, .unset, .unset, .unset, .unset, .unset, .unset, .unset, .unset, .unset, .unset, .unset, .unset, .unset] [(.long p5)])) rfl (hb hby at_62) _ ?_
    show Steps p.tables e below (s₁.setTop (mkF m 65 #[.val (.int p1), .val (.int p2), .val (.int p3), .val (.long p4), .second, .val (.long p5), .second, .val (.int xa1), .val (.int xa2), .val (.int xb1), .val (.int xb2), .val (.long (p4 &&& (4611686018427387903 : Int64))), .second, .unset, .unset, .unset, .unset, .unset, .unset, .unset, .unset, .unset, .unset, .unset, .unset, .unset, .unset, .unset] [(.long (4611686018427387903 : Int64)), (.long p5)])) _
    refine XS.land X0.here hx rfl (hb hby at_65) rfl ?_
    show Steps p.tables e below (s₁.setTop (mkF m 66 #[.val (.int p1), .val (.int p2), .val (.int p3), .val (.long p4), .second, .val (.long p5), .second, .val (.int xa1), .val (.int xa2), .val (.int xb1), .val (.int xb2), .val (.long (p4 &&& (4611686018427387903 : Int64))), .second, .unset, .unset, .unset, .unset, .unset, .unset, .unset, .unset, .unset, .unset, .unset, .unset, .unset, .unset, .unset] [(.long (p5 &&& (4611686018427387903 : Int64)))])) _
    refine XS.lstore X0.here hx rfl (hb hby at_66) rfl (l' := #[.val (.int p1), .val (.int p2), .val (.int p3), .val (.long p4), .second, .val (.long p5), .second, .val (.int xa1), .val (.int xa2), .val (.int xb1), .val (.int xb2), .val (.long (p4 &&& (4611686018427387903 : Int64))), .second, .val (.long (p5 &&& (4611686018427387903 : Int64))), .second, .unset, .unset, .unset, .unset, .unset, .unset, .unset, .unset, .unset, .unset, .unset, .unset, .unset]) rfl ?_
    show Steps p.tables e below (s₁.setTop (mkF m 68 #[.val (.int p1), .val (.int p2), .val (.int p3), .val (.long p4), .second, .val (.long p5), .second, .val (.int xa1), .val (.int xa2), .val (.int xb1), .val (.int xb2), .val (.long (p4 &&& (4611686018427387903 : Int64))), .second, .val (.long (p5 &&& (4611686018427387903 : Int64))), .second, .unset, .unset, .unset, .unset, .unset, .unset, .unset, .unset, .unset, .unset, .unset, .unset, .unset] [])) _
    refine XS.lload X0.here hx rfl (hb hby at_68) rfl ?_
    show Steps p.tables e below (s₁.setTop (mkF m 70 #[.val (.int p1), .val (.int p2), .val (.int p3), .val (.long p4), .second, .val (.long p5), .second, .val (.int xa1), .val (.int xa2), .val (.int xb1), .val (.int xb2), .val (.long (p4 &&& (4611686018427387903 : Int64))), .second, .val (.long (p5 &&& (4611686018427387903 : Int64))), .second, .unset, .unset, .unset, .unset, .unset, .unset, .unset, .unset, .unset, .unset, .unset, .unset, .unset] [(.long (p4 &&& (4611686018427387903 : Int64)))])) _
    refine XS.iloadN X0.here hx rfl (hb hby at_70) rfl ?_
    show Steps p.tables e below (s₁.setTop (mkF m 71 #[.val (.int p1), .val (.int p2), .val (.int p3), .val (.long p4), .second, .val (.long p5), .second, .val (.int xa1), .val (.int xa2), .val (.int xb1), .val (.int xb2), .val (.long (p4 &&& (4611686018427387903 : Int64))), .second, .val (.long (p5 &&& (4611686018427387903 : Int64))), .second, .unset, .unset, .unset, .unset, .unset, .unset, .unset, .unset, .unset, .unset, .unset, .unset, .unset] [(.int p3), (.long (p4 &&& (4611686018427387903 : Int64)))])) _
    refine XS.iconst X0.here hx rfl (hb hby at_71) ?_
    show Steps p.tables e below (s₁.setTop (mkF m 72 #[.val (.int p1), .val (.int p2), .val (.int p3), .val (.long p4), .second, .val (.long p5), .second, .val (.int xa1), .val (.int xa2), .val (.int xb1), .val (.int xb2), .val (.long (p4 &&& (4611686018427387903 : Int64))), .second, .val (.long (p5 &&& (4611686018427387903 : Int64))), .second, .unset, .unset, .unset, .unset, .unset, .unset, .unset, .unset, .unset, .unset, .unset, .unset, .unset] [(.int (4 : Int32)), (.int p3), (.long (p4 &&& (4611686018427387903 : Int64)))])) _
    refine XS.ishr X0.here hx rfl (hb hby at_72) rfl ?_
    show Steps p.tables e below (s₁.setTop (mkF m 73 #[.val (.int p1), .val (.int p2), .val (.int p3), .val (.long p4), .second, .val (.long p5), .second, .val (.int xa1), .val (.int xa2), .val (.int xb1), .val (.int xb2), .val (.long (p4 &&& (4611686018427387903 : Int64))), .second, .val (.long (p5 &&& (4611686018427387903 : Int64))), .second, .unset, .unset, .unset, .unset, .unset, .unset, .unset, .unset, .unset, .unset, .unset, .unset, .unset] [(.int (p3 >>> ((4 : Int32) &&& 31))), (.long (p4 &&& (4611686018427387903 : Int64)))])) _
    refine XS.iconst X0.here hx rfl (hb hby at_73) ?_
    show Steps p.tables e below (s₁.setTop (mkF m 74 #[.val (.int p1), .val (.int p2), .val (.int p3), .val (.long p4), .second, .val (.long p5), .second, .val (.int xa1), .val (.int xa2), .val (.int xb1), .val (.int xb2), .val (.long (p4 &&& (4611686018427387903 : Int64))), .second, .val (.long (p5 &&& (4611686018427387903 : Int64))), .second, .unset, .unset, .unset, .unset, .unset, .unset, .unset, .unset, .unset, .unset, .unset, .unset, .unset] [(.int (3 : Int32)), (.int (p3 >>> ((4 : Int32) &&& 31))), (.long (p4 &&& (4611686018427387903 : Int64)))])) _
    refine XS.iand X0.here hx rfl (hb hby at_74) rfl ?_
    show Steps p.tables e below (s₁.setTop (mkF m 75 #[.val (.int p1), .val (.int p2), .val (.int p3), .val (.long p4), .second, .val (.long p5), .second, .val (.int xa1), .val (.int xa2), .val (.int xb1), .val (.int xb2), .val (.long (p4 &&& (4611686018427387903 : Int64))), .second, .val (.long (p5 &&& (4611686018427387903 : Int64))), .second, .unset, .unset, .unset, .unset, .unset, .unset, .unset, .unset, .unset, .unset, .unset, .unset, .unset] [(.int ((p3 >>> ((4 : Int32) &&& 31)) &&& (3 : Int32))), (.long (p4 &&& (4611686018427387903 : Int64)))])) _
    refine XS.i2l X0.here hx rfl (hb hby at_75) rfl ?_
    show Steps p.tables e below (s₁.setTop (mkF m 76 #[.val (.int p1), .val (.int p2), .val (.int p3), .val (.long p4), .second, .val (.long p5), .second, .val (.int xa1), .val (.int xa2), .val (.int xb1), .val (.int xb2), .val (.long (p4 &&& (4611686018427387903 : Int64))), .second, .val (.long (p5 &&& (4611686018427387903 : Int64))), .second, .unset, .unset, .unset, .unset, .unset, .unset, .unset, .unset, .unset, .unset, .unset, .unset, .unset] [(.long (((p3 >>> ((4 : Int32) &&& 31)) &&& (3 : Int32)).toInt64)), (.long (p4 &&& (4611686018427387903 : Int64)))])) _
    refine XS.ladd X0.here hx rfl (hb hby at_76) rfl ?_
    show Steps p.tables e below (s₁.setTop (mkF m 77 #[.val (.int p1), .val (.int p2), .val (.int p3), .val (.long p4), .second, .val (.long p5), .second, .val (.int xa1), .val (.int xa2), .val (.int xb1), .val (.int xb2), .val (.long (p4 &&& (4611686018427387903 : Int64))), .second, .val (.long (p5 &&& (4611686018427387903 : Int64))), .second, .unset, .unset, .unset, .unset, .unset, .unset, .unset, .unset, .unset, .unset, .unset, .unset, .unset] [(.long ((p4 &&& (4611686018427387903 : Int64)) + (((p3 >>> ((4 : Int32) &&& 31)) &&& (3 : Int32)).toInt64)))])) _
    refine XS.lconst X0.here hx rfl (hb hby at_77) ?_
    show Steps p.tables e below (s₁.setTop (mkF m 78 #[.val (.int p1), .val (.int p2), .val (.int p3), .val (.long p4), .second, .val (.long p5), .second, .val (.int xa1), .val (.int xa2), .val (.int xb1), .val (.int xb2), .val (.long (p4 &&& (4611686018427387903 : Int64))), .second, .val (.long (p5 &&& (4611686018427387903 : Int64))), .second, .unset, .unset, .unset, .unset, .unset, .unset, .unset, .unset, .unset, .unset, .unset, .unset, .unset] [(.long (1 : Int64)), (.long ((p4 &&& (4611686018427387903 : Int64)) + (((p3 >>> ((4 : Int32) &&& 31)) &&& (3 : Int32)).toInt64)))])) _
    refine XS.lsub X0.here hx rfl (hb hby at_78) rfl ?_
    show Steps p.tables e below (s₁.setTop (mkF m 79 #[.val (.int p1), .val (.int p2), .val (.int p3), .val (.long p4), .second, .val (.long p5), .second, .val (.int xa1), .val (.int xa2), .val (.int xb1), .val (.int xb2), .val (.long (p4 &&& (4611686018427387903 : Int64))), .second, .val (.long (p5 &&& (4611686018427387903 : Int64))), .second, .unset, .unset, .unset, .unset, .unset, .unset, .unset, .unset, .unset, .unset, .unset, .unset, .unset] [(.long (((p4 &&& (4611686018427387903 : Int64)) + (((p3 >>> ((4 : Int32) &&& 31)) &&& (3 : Int32)).toInt64)) - (1 : Int64)))])) _
    refine X0.ldc2Long hx hown (mvT hZ (hw _ (List.mem_of_getElem? (i := 0) rfl))) (g := (mkF m 79 #[.val (.int p1), .val (.int p2), .val (.int p3), .val (.long p4), .second, .val (.long p5), .second, .val (.int xa1), .val (.int xa2), .val (.int xb1), .val (.int xb2), .val (.long (p4 &&& (4611686018427387903 : Int64))), .second, .val (.long (p5 &&& (4611686018427387903 : Int64))), .second, .unset, .unset, .unset, .unset, .unset, .unset, .unset, .unset, .unset, .unset, .unset, .unset, .unset] [(.long (((p4 &&& (4611686018427387903 : Int64)) + (((p3 >>> ((4 : Int32) &&& 31)) &&& (3 : Int32)).toInt64)) - (1 : Int64)))])) rfl (hb hby at_79) _ ?_
    show Steps p.tables e below (s₁.setTop (mkF m 82 #[.val (.int p1), .val (.int p2), .val (.int p3), .val (.long p4), .second, .val (.long p5), .second, .val (.int xa1), .val (.int xa2), .val (.int xb1), .val (.int xb2), .val (.long (p4 &&& (4611686018427387903 : Int64))), .second, .val (.long (p5 &&& (4611686018427387903 : Int64))), .second, .unset, .unset, .unset, .unset, .unset, .unset, .unset, .unset, .unset, .unset, .unset, .unset, .unset] [(.long (4611686018427387903 : Int64)), (.long (((p4 &&& (4611686018427387903 : Int64)) + (((p3 >>> ((4 : Int32) &&& 31)) &&& (3 : Int32)).toInt64)) - (1 : Int64)))])) _
    refine XS.land X0.here hx rfl (hb hby at_82) rfl ?_
    show Steps p.tables e below (s₁.setTop (mkF m 83 #[.val (.int p1), .val (.int p2), .val (.int p3), .val (.long p4), .second, .val (.long p5), .second, .val (.int xa1), .val (.int xa2), .val (.int xb1), .val (.int xb2), .val (.long (p4 &&& (4611686018427387903 : Int64))), .second, .val (.long (p5 &&& (4611686018427387903 : Int64))), .second, .unset, .unset, .unset, .unset, .unset, .unset, .unset, .unset, .unset, .unset, .unset, .unset, .unset] [(.long ((((p4 &&& (4611686018427387903 : Int64)) + (((p3 >>> ((4 : Int32) &&& 31)) &&& (3 : Int32)).toInt64)) - (1 : Int64)) &&& (4611686018427387903 : Int64)))])) _
    refine XS.lstore X0.here hx rfl (hb hby at_83) rfl (l' := #[.val (.int p1), .val (.int p2), .val (.int p3), .val (.long p4), .second, .val (.long p5), .second, .val (.int xa1), .val (.int xa2), .val (.int xb1), .val (.int xb2), .val (.long (p4 &&& (4611686018427387903 : Int64))), .second, .val (.long (p5 &&& (4611686018427387903 : Int64))), .second, .val (.long ((((p4 &&& (4611686018427387903 : Int64)) + (((p3 >>> ((4 : Int32) &&& 31)) &&& (3 : Int32)).toInt64)) - (1 : Int64)) &&& (4611686018427387903 : Int64))), .second, .unset, .unset, .unset, .unset, .unset, .unset, .unset, .unset, .unset, .unset, .unset]) rfl ?_
    show Steps p.tables e below (s₁.setTop (mkF m 85 #[.val (.int p1), .val (.int p2), .val (.int p3), .val (.long p4), .second, .val (.long p5), .second, .val (.int xa1), .val (.int xa2), .val (.int xb1), .val (.int xb2), .val (.long (p4 &&& (4611686018427387903 : Int64))), .second, .val (.long (p5 &&& (4611686018427387903 : Int64))), .second, .val (.long ((((p4 &&& (4611686018427387903 : Int64)) + (((p3 >>> ((4 : Int32) &&& 31)) &&& (3 : Int32)).toInt64)) - (1 : Int64)) &&& (4611686018427387903 : Int64))), .second, .unset, .unset, .unset, .unset, .unset, .unset, .unset, .unset, .unset, .unset, .unset] [])) _
    refine XS.lload X0.here hx rfl (hb hby at_85) rfl ?_
    show Steps p.tables e below (s₁.setTop (mkF m 87 #[.val (.int p1), .val (.int p2), .val (.int p3), .val (.long p4), .second, .val (.long p5), .second, .val (.int xa1), .val (.int xa2), .val (.int xb1), .val (.int xb2), .val (.long (p4 &&& (4611686018427387903 : Int64))), .second, .val (.long (p5 &&& (4611686018427387903 : Int64))), .second, .val (.long ((((p4 &&& (4611686018427387903 : Int64)) + (((p3 >>> ((4 : Int32) &&& 31)) &&& (3 : Int32)).toInt64)) - (1 : Int64)) &&& (4611686018427387903 : Int64))), .second, .unset, .unset, .unset, .unset, .unset, .unset, .unset, .unset, .unset, .unset, .unset] [(.long (p5 &&& (4611686018427387903 : Int64)))])) _
    refine XS.iloadN X0.here hx rfl (hb hby at_87) rfl ?_
    show Steps p.tables e below (s₁.setTop (mkF m 88 #[.val (.int p1), .val (.int p2), .val (.int p3), .val (.long p4), .second, .val (.long p5), .second, .val (.int xa1), .val (.int xa2), .val (.int xb1), .val (.int xb2), .val (.long (p4 &&& (4611686018427387903 : Int64))), .second, .val (.long (p5 &&& (4611686018427387903 : Int64))), .second, .val (.long ((((p4 &&& (4611686018427387903 : Int64)) + (((p3 >>> ((4 : Int32) &&& 31)) &&& (3 : Int32)).toInt64)) - (1 : Int64)) &&& (4611686018427387903 : Int64))), .second, .unset, .unset, .unset, .unset, .unset, .unset, .unset, .unset, .unset, .unset, .unset] [(.int p3), (.long (p5 &&& (4611686018427387903 : Int64)))])) _
    refine XS.bipush X0.here hx rfl (hb hby at_88) ?_
    show Steps p.tables e below (s₁.setTop (mkF m 90 #[.val (.int p1), .val (.int p2), .val (.int p3), .val (.long p4), .second, .val (.long p5), .second, .val (.int xa1), .val (.int xa2), .val (.int xb1), .val (.int xb2), .val (.long (p4 &&& (4611686018427387903 : Int64))), .second, .val (.long (p5 &&& (4611686018427387903 : Int64))), .second, .val (.long ((((p4 &&& (4611686018427387903 : Int64)) + (((p3 >>> ((4 : Int32) &&& 31)) &&& (3 : Int32)).toInt64)) - (1 : Int64)) &&& (4611686018427387903 : Int64))), .second, .unset, .unset, .unset, .unset, .unset, .unset, .unset, .unset, .unset, .unset, .unset] [(.int (6 : Int32)), (.int p3), (.long (p5 &&& (4611686018427387903 : Int64)))])) _
    refine XS.ishr X0.here hx rfl (hb hby at_90) rfl ?_
    show Steps p.tables e below (s₁.setTop (mkF m 91 #[.val (.int p1), .val (.int p2), .val (.int p3), .val (.long p4), .second, .val (.long p5), .second, .val (.int xa1), .val (.int xa2), .val (.int xb1), .val (.int xb2), .val (.long (p4 &&& (4611686018427387903 : Int64))), .second, .val (.long (p5 &&& (4611686018427387903 : Int64))), .second, .val (.long ((((p4 &&& (4611686018427387903 : Int64)) + (((p3 >>> ((4 : Int32) &&& 31)) &&& (3 : Int32)).toInt64)) - (1 : Int64)) &&& (4611686018427387903 : Int64))), .second, .unset, .unset, .unset, .unset, .unset, .unset, .unset, .unset, .unset, .unset, .unset] [(.int (p3 >>> ((6 : Int32) &&& 31))), (.long (p5 &&& (4611686018427387903 : Int64)))])) _
    refine XS.iconst X0.here hx rfl (hb hby at_91) ?_
    show Steps p.tables e below (s₁.setTop (mkF m 92 #[.val (.int p1), .val (.int p2), .val (.int p3), .val (.long p4), .second, .val (.long p5), .second, .val (.int xa1), .val (.int xa2), .val (.int xb1), .val (.int xb2), .val (.long (p4 &&& (4611686018427387903 : Int64))), .second, .val (.long (p5 &&& (4611686018427387903 : Int64))), .second, .val (.long ((((p4 &&& (4611686018427387903 : Int64)) + (((p3 >>> ((4 : Int32) &&& 31)) &&& (3 : Int32)).toInt64)) - (1 : Int64)) &&& (4611686018427387903 : Int64))), .second, .unset, .unset, .unset, .unset, .unset, .unset, .unset, .unset, .unset, .unset, .unset] [(.int (3 : Int32)), (.int (p3 >>> ((6 : Int32) &&& 31))), (.long (p5 &&& (4611686018427387903 : Int64)))])) _
    refine XS.iand X0.here hx rfl (hb hby at_92) rfl ?_
    show Steps p.tables e below (s₁.setTop (mkF m 93 #[.val (.int p1), .val (.int p2), .val (.int p3), .val (.long p4), .second, .val (.long p5), .second, .val (.int xa1), .val (.int xa2), .val (.int xb1), .val (.int xb2), .val (.long (p4 &&& (4611686018427387903 : Int64))), .second, .val (.long (p5 &&& (4611686018427387903 : Int64))), .second, .val (.long ((((p4 &&& (4611686018427387903 : Int64)) + (((p3 >>> ((4 : Int32) &&& 31)) &&& (3 : Int32)).toInt64)) - (1 : Int64)) &&& (4611686018427387903 : Int64))), .second, .unset, .unset, .unset, .unset, .unset, .unset, .unset, .unset, .unset, .unset, .unset] [(.int ((p3 >>> ((6 : Int32) &&& 31)) &&& (3 : Int32))), (.long (p5 &&& (4611686018427387903 : Int64)))])) _
    refine XS.i2l X0.here hx rfl (hb hby at_93) rfl ?_
    show Steps p.tables e below (s₁.setTop (mkF m 94 #[.val (.int p1), .val (.int p2), .val (.int p3), .val (.long p4), .second, .val (.long p5), .second, .val (.int xa1), .val (.int xa2), .val (.int xb1), .val (.int xb2), .val (.long (p4 &&& (4611686018427387903 : Int64))), .second, .val (.long (p5 &&& (4611686018427387903 : Int64))), .second, .val (.long ((((p4 &&& (4611686018427387903 : Int64)) + (((p3 >>> ((4 : Int32) &&& 31)) &&& (3 : Int32)).toInt64)) - (1 : Int64)) &&& (4611686018427387903 : Int64))), .second, .unset, .unset, .unset, .unset, .unset, .unset, .unset, .unset, .unset, .unset, .unset] [(.long (((p3 >>> ((6 : Int32) &&& 31)) &&& (3 : Int32)).toInt64)), (.long (p5 &&& (4611686018427387903 : Int64)))])) _
    refine XS.ladd X0.here hx rfl (hb hby at_94) rfl ?_
    show Steps p.tables e below (s₁.setTop (mkF m 95 #[.val (.int p1), .val (.int p2), .val (.int p3), .val (.long p4), .second, .val (.long p5), .second, .val (.int xa1), .val (.int xa2), .val (.int xb1), .val (.int xb2), .val (.long (p4 &&& (4611686018427387903 : Int64))), .second, .val (.long (p5 &&& (4611686018427387903 : Int64))), .second, .val (.long ((((p4 &&& (4611686018427387903 : Int64)) + (((p3 >>> ((4 : Int32) &&& 31)) &&& (3 : Int32)).toInt64)) - (1 : Int64)) &&& (4611686018427387903 : Int64))), .second, .unset, .unset, .unset, .unset, .unset, .unset, .unset, .unset, .unset, .unset, .unset] [(.long ((p5 &&& (4611686018427387903 : Int64)) + (((p3 >>> ((6 : Int32) &&& 31)) &&& (3 : Int32)).toInt64)))])) _
    refine XS.lconst X0.here hx rfl (hb hby at_95) ?_
    show Steps p.tables e below (s₁.setTop (mkF m 96 #[.val (.int p1), .val (.int p2), .val (.int p3), .val (.long p4), .second, .val (.long p5), .second, .val (.int xa1), .val (.int xa2), .val (.int xb1), .val (.int xb2), .val (.long (p4 &&& (4611686018427387903 : Int64))), .second, .val (.long (p5 &&& (4611686018427387903 : Int64))), .second, .val (.long ((((p4 &&& (4611686018427387903 : Int64)) + (((p3 >>> ((4 : Int32) &&& 31)) &&& (3 : Int32)).toInt64)) - (1 : Int64)) &&& (4611686018427387903 : Int64))), .second, .unset, .unset, .unset, .unset, .unset, .unset, .unset, .unset, .unset, .unset, .unset] [(.long (1 : Int64)), (.long ((p5 &&& (4611686018427387903 : Int64)) + (((p3 >>> ((6 : Int32) &&& 31)) &&& (3 : Int32)).toInt64)))])) _
    refine XS.lsub X0.here hx rfl (hb hby at_96) rfl ?_
    show Steps p.tables e below (s₁.setTop (mkF m 97 #[.val (.int p1), .val (.int p2), .val (.int p3), .val (.long p4), .second, .val (.long p5), .second, .val (.int xa1), .val (.int xa2), .val (.int xb1), .val (.int xb2), .val (.long (p4 &&& (4611686018427387903 : Int64))), .second, .val (.long (p5 &&& (4611686018427387903 : Int64))), .second, .val (.long ((((p4 &&& (4611686018427387903 : Int64)) + (((p3 >>> ((4 : Int32) &&& 31)) &&& (3 : Int32)).toInt64)) - (1 : Int64)) &&& (4611686018427387903 : Int64))), .second, .unset, .unset, .unset, .unset, .unset, .unset, .unset, .unset, .unset, .unset, .unset] [(.long (((p5 &&& (4611686018427387903 : Int64)) + (((p3 >>> ((6 : Int32) &&& 31)) &&& (3 : Int32)).toInt64)) - (1 : Int64)))])) _
    refine X0.ldc2Long hx hown (mvT hZ (hw _ (List.mem_of_getElem? (i := 0) rfl))) (g := (mkF m 97 #[.val (.int p1), .val (.int p2), .val (.int p3), .val (.long p4), .second, .val (.long p5), .second, .val (.int xa1), .val (.int xa2), .val (.int xb1), .val (.int xb2), .val (.long (p4 &&& (4611686018427387903 : Int64))), .second, .val (.long (p5 &&& (4611686018427387903 : Int64))), .second, .val (.long ((((p4 &&& (4611686018427387903 : Int64)) + (((p3 >>> ((4 : Int32) &&& 31)) &&& (3 : Int32)).toInt64)) - (1 : Int64)) &&& (4611686018427387903 : Int64))), .second, .unset, .unset, .unset, .unset, .unset, .unset, .unset, .unset, .unset, .unset, .unset] [(.long (((p5 &&& (4611686018427387903 : Int64)) + (((p3 >>> ((6 : Int32) &&& 31)) &&& (3 : Int32)).toInt64)) - (1 : Int64)))])) rfl (hb hby at_97) _ ?_
    show Steps p.tables e below (s₁.setTop (mkF m 100 #[.val (.int p1), .val (.int p2), .val (.int p3), .val (.long p4), .second, .val (.long p5), .second, .val (.int xa1), .val (.int xa2), .val (.int xb1), .val (.int xb2), .val (.long (p4 &&& (4611686018427387903 : Int64))), .second, .val (.long (p5 &&& (4611686018427387903 : Int64))), .second, .val (.long ((((p4 &&& (4611686018427387903 : Int64)) + (((p3 >>> ((4 : Int32) &&& 31)) &&& (3 : Int32)).toInt64)) - (1 : Int64)) &&& (4611686018427387903 : Int64))), .second, .unset, .unset, .unset, .unset, .unset, .unset, .unset, .unset, .unset, .unset, .unset] [(.long (4611686018427387903 : Int64)), (.long (((p5 &&& (4611686018427387903 : Int64)) + (((p3 >>> ((6 : Int32) &&& 31)) &&& (3 : Int32)).toInt64)) - (1 : Int64)))])) _
    refine XS.land X0.here hx rfl (hb hby at_100) rfl ?_
    show Steps p.tables e below (s₁.setTop (mkF m 101 #[.val (.int p1), .val (.int p2), .val (.int p3), .val (.long p4), .second, .val (.long p5), .second, .val (.int xa1), .val (.int xa2), .val (.int xb1), .val (.int xb2), .val (.long (p4 &&& (4611686018427387903 : Int64))), .second, .val (.long (p5 &&& (4611686018427387903 : Int64))), .second, .val (.long ((((p4 &&& (4611686018427387903 : Int64)) + (((p3 >>> ((4 : Int32) &&& 31)) &&& (3 : Int32)).toInt64)) - (1 : Int64)) &&& (4611686018427387903 : Int64))), .second, .unset, .unset, .unset, .unset, .unset, .unset, .unset, .unset, .unset, .unset, .unset] [(.long ((((p5 &&& (4611686018427387903 : Int64)) + (((p3 >>> ((6 : Int32) &&& 31)) &&& (3 : Int32)).toInt64)) - (1 : Int64)) &&& (4611686018427387903 : Int64)))])) _
    refine XS.lstore X0.here hx rfl (hb hby at_101) rfl (l' := #[.val (.int p1), .val (.int p2), .val (.int p3), .val (.long p4), .second, .val (.long p5), .second, .val (.int xa1), .val (.int xa2), .val (.int xb1), .val (.int xb2), .val (.long (p4 &&& (4611686018427387903 : Int64))), .second, .val (.long (p5 &&& (4611686018427387903 : Int64))), .second, .val (.long ((((p4 &&& (4611686018427387903 : Int64)) + (((p3 >>> ((4 : Int32) &&& 31)) &&& (3 : Int32)).toInt64)) - (1 : Int64)) &&& (4611686018427387903 : Int64))), .second, .val (.long ((((p5 &&& (4611686018427387903 : Int64)) + (((p3 >>> ((6 : Int32) &&& 31)) &&& (3 : Int32)).toInt64)) - (1 : Int64)) &&& (4611686018427387903 : Int64))), .second, .unset, .unset, .unset, .unset, .unset, .unset, .unset, .unset, .unset]) rfl ?_
    exact k
  have ch10 : ∀ t, Steps p.tables e below (s₁.setTop (mkF m 103 #[.val (.int p1), .val (.int p2), .val (.int p3), .val (.long p4), .second, .val (.long p5), .second, .val (.int xa1), .val (.int xa2), .val (.int xb1), .val (.int xb2), .val (.long (p4 &&& (4611686018427387903 : Int64))), .second, .val (.long (p5 &&& (4611686018427387903 : Int64))), .second, .val (.long ((((p4 &&& (4611686018427387903 : Int64)) + (((p3 >>> ((4 : Int32) &&& 31)) &&& (3 : Int32)).toInt64)) - (1 : Int64)) &&& (4611686018427387903 : Int64))), .second, .val (.long ((((p5 &&& (4611686018427387903 : Int64)) + (((p3 >>> ((6 : Int32) &&& 31)) &&& (3 : Int32)).toInt64)) - (1 : Int64)) &&& (4611686018427387903 : Int64))), .second, .unset, .unset, .unset, .unset, .unset, .unset, .unset, .unset, .unset] [])) t → Steps p.tables e below (s₁.setTop (mkF m 0 #[.val (.int p1), .val (.int p2), .val (.int p3), .val (.long p4), .second, .val (.long p5), .second, .unset, .unset, .unset, .unset, .unset, .unset, .unset, .unset, .unset, .unset, .unset, .unset, .unset, .unset, .unset, .unset, .unset, .unset, .unset, .unset, .unset] [])) t := by
    intro t k
    refine sg1 _ ?_
    show Steps p.tables e below (s₁.setTop (mkF m 3 #[.val (.int p1), .val (.int p2), .val (.int p3), .val (.long p4), .second, .val (.long p5), .second, .unset, .unset, .unset, .unset, .unset, .unset, .unset, .unset, .unset, .unset, .unset, .unset, .unset, .unset, .unset, .unset, .unset, .unset, .unset, .unset, .unset] [(.int (p3 &&& (1 : Int32)))])) _
    refine sg2 _ ?_
    show Steps p.tables e below (s₁.setTop (mkF m 11 #[.val (.int p1), .val (.int p2), .val (.int p3), .val (.long p4), .second, .val (.long p5), .second, .unset, .unset, .unset, .unset, .unset, .unset, .unset, .unset, .unset, .unset, .unset, .unset, .unset, .unset, .unset, .unset, .unset, .unset, .unset, .unset, .unset] [(.int xa1)])) _
    refine sg3 _ ?_
    show Steps p.tables e below (s₁.setTop (mkF m 16 #[.val (.int p1), .val (.int p2), .val (.int p3), .val (.long p4), .second, .val (.long p5), .second, .val (.int xa1), .unset, .unset, .unset, .unset, .unset, .unset, .unset, .unset, .unset, .unset, .unset, .unset, .unset, .unset, .unset, .unset, .unset, .unset, .unset, .unset] [(.int (p3 &&& (2 : Int32)))])) _
    refine sg4 _ ?_
    show Steps p.tables e below (s₁.setTop (mkF m 24 #[.val (.int p1), .val (.int p2), .val (.int p3), .val (.long p4), .second, .val (.long p5), .second, .val (.int xa1), .unset, .unset, .unset, .unset, .unset, .unset, .unset, .unset, .unset, .unset, .unset, .unset, .unset, .unset, .unset, .unset, .unset, .unset, .unset, .unset] [(.int xa2)])) _
    refine sg5 _ ?_
    show Steps p.tables e below (s₁.setTop (mkF m 29 #[.val (.int p1), .val (.int p2), .val (.int p3), .val (.long p4), .second, .val (.long p5), .second, .val (.int xa1), .val (.int xa2), .unset, .unset, .unset, .unset, .unset, .unset, .unset, .unset, .unset, .unset, .unset, .unset, .unset, .unset, .unset, .unset, .unset, .unset, .unset] [(.int (p3 &&& (4 : Int32)))])) _
    refine sg6 _ ?_
    show Steps p.tables e below (s₁.setTop (mkF m 37 #[.val (.int p1), .val (.int p2), .val (.int p3), .val (.long p4), .second, .val (.long p5), .second, .val (.int xa1), .val (.int xa2), .unset, .unset, .unset, .unset, .unset, .unset, .unset, .unset, .unset, .unset, .unset, .unset, .unset, .unset, .unset, .unset, .unset, .unset, .unset] [(.int xb1)])) _
    refine sg7 _ ?_
    show Steps p.tables e below (s₁.setTop (mkF m 43 #[.val (.int p1), .val (.int p2), .val (.int p3), .val (.long p4), .second, .val (.long p5), .second, .val (.int xa1), .val (.int xa2), .val (.int xb1), .unset, .unset, .unset, .unset, .unset, .unset, .unset, .unset, .unset, .unset, .unset, .unset, .unset, .unset, .unset, .unset, .unset, .unset] [(.int (p3 &&& (8 : Int32)))])) _
    refine sg8 _ ?_
    show Steps p.tables e below (s₁.setTop (mkF m 51 #[.val (.int p1), .val (.int p2), .val (.int p3), .val (.long p4), .second, .val (.long p5), .second, .val (.int xa1), .val (.int xa2), .val (.int xb1), .unset, .unset, .unset, .unset, .unset, .unset, .unset, .unset, .unset, .unset, .unset, .unset, .unset, .unset, .unset, .unset, .unset, .unset] [(.int xb2)])) _
    refine sg9 _ ?_
    show Steps p.tables e below (s₁.setTop (mkF m 103 #[.val (.int p1), .val (.int p2), .val (.int p3), .val (.long p4), .second, .val (.long p5), .second, .val (.int xa1), .val (.int xa2), .val (.int xb1), .val (.int xb2), .val (.long (p4 &&& (4611686018427387903 : Int64))), .second, .val (.long (p5 &&& (4611686018427387903 : Int64))), .second, .val (.long ((((p4 &&& (4611686018427387903 : Int64)) + (((p3 >>> ((4 : Int32) &&& 31)) &&& (3 : Int32)).toInt64)) - (1 : Int64)) &&& (4611686018427387903 : Int64))), .second, .val (.long ((((p5 &&& (4611686018427387903 : Int64)) + (((p3 >>> ((6 : Int32) &&& 31)) &&& (3 : Int32)).toInt64)) - (1 : Int64)) &&& (4611686018427387903 : Int64))), .second, .unset, .unset, .unset, .unset, .unset, .unset, .unset, .unset, .unset] [])) _
    exact k
  obtain ⟨na1, hna1⟩ : ∃ z : Int64, z = (p4 &&& (4611686018427387903 : Int64)) := ⟨_, rfl⟩
  rw [← hna1] at ch10
  obtain ⟨na2, hna2⟩ : ∃ z : Int64, z = (p5 &&& (4611686018427387903 : Int64)) := ⟨_, rfl⟩
  rw [← hna2] at ch10
  obtain ⟨nb1, hnb1⟩ : ∃ z : Int64, z = (((na1 + (((p3 >>> ((4 : Int32) &&& 31)) &&& (3 : Int32)).toInt64)) - (1 : Int64)) &&& (4611686018427387903 : Int64)) := ⟨_, rfl⟩
  rw [← hnb1] at ch10
  obtain ⟨nb2, hnb2⟩ : ∃ z : Int64, z = (((na2 + (((p3 >>> ((6 : Int32) &&& 31)) &&& (3 : Int32)).toInt64)) - (1 : Int64)) &&& (4611686018427387903 : Int64)) := ⟨_, rfl⟩
  rw [← hnb2] at ch10
  have sg11 : ∀ t, Steps p.tables e below (s₁.setTop (mkF m 104 #[.val (.int p1), .val (.int p2), .val (.int p3), .val (.long p4), .second, .val (.long p5), .second, .val (.int xa1), .val (.int xa2), .val (.int xb1), .val (.int xb2), .val (.long na1), .second, .val (.long na2), .second, .val (.long nb1), .second, .val (.long nb2), .second, .unset, .unset, .unset, .unset, .unset, .unset, .unset, .unset, .unset] [(.int (2 : Int32))])) t → Steps p.tables e below (s₁.setTop (mkF m 103 #[.val (.int p1), .val (.int p2), .val (.int p3), .val (.long p4), .second, .val (.long p5), .second, .val (.int xa1), .val (.int xa2), .val (.int xb1), .val (.int xb2), .val (.long na1), .second, .val (.long na2), .second, .val (.long nb1), .second, .val (.long nb2), .second, .unset, .unset, .unset, .unset, .unset, .unset, .unset, .unset, .unset] [])) t := by
    intro t k
    show Steps p.tables e below (s₁.setTop (mkF m 103 #[.val (.int p1), .val (.int p2), .val (.int p3), .val (.long p4), .second, .val (.long p5), .second, .val (.int xa1), .val (.int xa2), .val (.int xb1), .val (.int xb2), .val (.long na1), .second, .val (.long na2), .second, .val (.long nb1), .second, .val (.long nb2), .second, .unset, .unset, .unset, .unset, .unset, .unset, .unset, .unset, .unset] [])) _
    refine XS.iconst X0.here hx rfl (hb hby at_103) ?_
    exact k
  obtain ⟨T12, h12, k12, X12, e12, E12, A12, st12⟩ := newP X0 hx hZ (hw _ (List.mem_of_getElem? (i := 1) rfl)) e0 (g := (mkF m 104 #[.val (.int p1), .val (.int p2), .val (.int p3), .val (.long p4), .second, .val (.long p5), .second, .val (.int xa1), .val (.int xa2), .val (.int xb1), .val (.int xb2), .val (.long na1), .second, .val (.long na2), .second, .val (.long nb1), .second, .val (.long nb2), .second, .unset, .unset, .unset, .unset, .unset, .unset, .unset, .unset, .unset] [(.int (2 : Int32))])) rfl (hb hby at_104) rfl (by decide) (cap := 2) (by decide) (by decide) (by decide) (by decide)
  obtain ⟨b12, g12⟩ : ∃ z, z = h0.size := ⟨_, rfl⟩
  rw [← g12] at A12 st12
  have gn_b12 : n0 ≤ b12 := Nat.le_trans Z0 (Nat.le_of_eq g12.symm)
  have z13 : n0 ≤ h12.size := Nat.le_trans Z0 E12.1
  have f14 : Arv Z h12 b12 k12 .int (2 : Int32) [(.int (0 : Int32)), (.int (0 : Int32))] (.int (0 : Int32)) := (Arv.new A12 (by decide)).pad (pad_rep [] (.int (0 : Int32)) 2)
  have sg15 : ∀ t, Steps p.tables e below (T12.setTop (mkF m 109 #[.val (.int p1), .val (.int p2), .val (.int p3), .val (.long p4), .second, .val (.long p5), .second, .val (.int xa1), .val (.int xa2), .val (.int xb1), .val (.int xb2), .val (.long na1), .second, .val (.long na2), .second, .val (.long nb1), .second, .val (.long nb2), .second, .val (.ref b12), .unset, .unset, .unset, .unset, .unset, .unset, .unset, .unset] [(.int (2 : Int32))])) t → Steps p.tables e below (T12.setTop (mkF m 106 #[.val (.int p1), .val (.int p2), .val (.int p3), .val (.long p4), .second, .val (.long p5), .second, .val (.int xa1), .val (.int xa2), .val (.int xb1), .val (.int xb2), .val (.long na1), .second, .val (.long na2), .second, .val (.long nb1), .second, .val (.long nb2), .second, .unset, .unset, .unset, .unset, .unset, .unset, .unset, .unset, .unset] [(.ref b12)])) t := by
    intro t k
    show Steps p.tables e below (T12.setTop (mkF m 106 #[.val (.int p1), .val (.int p2), .val (.int p3), .val (.long p4), .second, .val (.long p5), .second, .val (.int xa1), .val (.int xa2), .val (.int xb1), .val (.int xb2), .val (.long na1), .second, .val (.long na2), .second, .val (.long nb1), .second, .val (.long nb2), .second, .unset, .unset, .unset, .unset, .unset, .unset, .unset, .unset, .unset] [(.ref b12)])) _
    refine XS.astore X12.here hx rfl (hb hby at_106) rfl rfl (l' := #[.val (.int p1), .val (.int p2), .val (.int p3), .val (.long p4), .second, .val (.long p5), .second, .val (.int xa1), .val (.int xa2), .val (.int xb1), .val (.int xb2), .val (.long na1), .second, .val (.long na2), .second, .val (.long nb1), .second, .val (.long nb2), .second, .val (.ref b12), .unset, .unset, .unset, .unset, .unset, .unset, .unset, .unset]) rfl ?_
    show Steps p.tables e below (T12.setTop (mkF m 108 #[.val (.int p1), .val (.int p2), .val (.int p3), .val (.long p4), .second, .val (.long p5), .second, .val (.int xa1), .val (.int xa2), .val (.int xb1), .val (.int xb2), .val (.long na1), .second, .val (.long na2), .second, .val (.long nb1), .second, .val (.long nb2), .second, .val (.ref b12), .unset, .unset, .unset, .unset, .unset, .unset, .unset, .unset] [])) _
    refine XS.iconst X12.here hx rfl (hb hby at_108) ?_
    exact k
  obtain ⟨T16, h16, k16, X16, e16, E16, A16, st16⟩ := newP X12 hx hZ (hw _ (List.mem_of_getElem? (i := 2) rfl)) e12 (g := (mkF m 109 #[.val (.int p1), .val (.int p2), .val (.int p3), .val (.long p4), .second, .val (.long p5), .second, .val (.int xa1), .val (.int xa2), .val (.int xb1), .val (.int xb2), .val (.long na1), .second, .val (.long na2), .second, .val (.long nb1), .second, .val (.long nb2), .second, .val (.ref b12), .unset, .unset, .unset, .unset, .unset, .unset, .unset, .unset] [(.int (2 : Int32))])) rfl (hb hby at_109) rfl (by decide) (cap := 2) (by decide) (by decide) (by decide) (by decide)
  obtain ⟨b16, g16⟩ : ∃ z, z = h12.size := ⟨_, rfl⟩
  rw [← g16] at A16 st16
  have ne17 : b12 ≠ b16 := Nat.ne_of_lt (Nat.lt_of_lt_of_le f14.lt (Nat.le_of_eq g16.symm))
  have gn_b16 : n0 ≤ b16 := Nat.le_trans z13 (Nat.le_of_eq g16.symm)
  have f18 : Arv Z h16 b12 k12 .int (2 : Int32) [(.int (0 : Int32)), (.int (0 : Int32))] (.int (0 : Int32)) := f14.ext E16
  have z19 : n0 ≤ h16.size := Nat.le_trans z13 E16.1
  have f20 : Arv Z h16 b16 k16 .long (2 : Int32) [(.long (0 : Int64)), (.long (0 : Int64))] (.long (0 : Int64)) := (Arv.new A16 (by decide)).pad (pad_rep [] (.long (0 : Int64)) 2)
  have sg21 : ∀ t, Steps p.tables e below (T16.setTop (mkF m 114 #[.val (.int p1), .val (.int p2), .val (.int p3), .val (.long p4), .second, .val (.long p5), .second, .val (.int xa1), .val (.int xa2), .val (.int xb1), .val (.int xb2), .val (.long na1), .second, .val (.long na2), .second, .val (.long nb1), .second, .val (.long nb2), .second, .val (.ref b12), .val (.ref b16), .unset, .unset, .unset, .unset, .unset, .unset, .unset] [(.int (2 : Int32))])) t → Steps p.tables e below (T16.setTop (mkF m 111 #[.val (.int p1), .val (.int p2), .val (.int p3), .val (.long p4), .second, .val (.long p5), .second, .val (.int xa1), .val (.int xa2), .val (.int xb1), .val (.int xb2), .val (.long na1), .second, .val (.long na2), .second, .val (.long nb1), .second, .val (.long nb2), .second, .val (.ref b12), .unset, .unset, .unset, .unset, .unset, .unset, .unset, .unset] [(.ref b16)])) t := by
    intro t k
    show Steps p.tables e below (T16.setTop (mkF m 111 #[.val (.int p1), .val (.int p2), .val (.int p3), .val (.long p4), .second, .val (.long p5), .second, .val (.int xa1), .val (.int xa2), .val (.int xb1), .val (.int xb2), .val (.long na1), .second, .val (.long na2), .second, .val (.long nb1), .second, .val (.long nb2), .second, .val (.ref b12), .unset, .unset, .unset, .unset, .unset, .unset, .unset, .unset] [(.ref b16)])) _
    refine XS.astore X16.here hx rfl (hb hby at_111) rfl rfl (l' := #[.val (.int p1), .val (.int p2), .val (.int p3), .val (.long p4), .second, .val (.long p5), .second, .val (.int xa1), .val (.int xa2), .val (.int xb1), .val (.int xb2), .val (.long na1), .second, .val (.long na2), .second, .val (.long nb1), .second, .val (.long nb2), .second, .val (.ref b12), .val (.ref b16), .unset, .unset, .unset, .unset, .unset, .unset, .unset]) rfl ?_
    show Steps p.tables e below (T16.setTop (mkF m 113 #[.val (.int p1), .val (.int p2), .val (.int p3), .val (.long p4), .second, .val (.long p5), .second, .val (.int xa1), .val (.int xa2), .val (.int xb1), .val (.int xb2), .val (.long na1), .second, .val (.long na2), .second, .val (.long nb1), .second, .val (.long nb2), .second, .val (.ref b12), .val (.ref b16), .unset, .unset, .unset, .unset, .unset, .unset, .unset] [])) _
    refine XS.iconst X16.here hx rfl (hb hby at_113) ?_
    exact k
  obtain ⟨T22, h22, k22, X22, e22, E22, A22, st22⟩ := newP X16 hx hZ (hw _ (List.mem_of_getElem? (i := 1) rfl)) e16 (g := (mkF m 114 #[.val (.int p1), .val (.int p2), .val (.int p3), .val (.long p4), .second, .val (.long p5), .second, .val (.int xa1), .val (.int xa2), .val (.int xb1), .val (.int xb2), .val (.long na1), .second, .val (.long na2), .second, .val (.long nb1), .second, .val (.long nb2), .second, .val (.ref b12), .val (.ref b16), .unset, .unset, .unset, .unset, .unset, .unset, .unset] [(.int (2 : Int32))])) rfl (hb hby at_114) rfl (by decide) (cap := 2) (by decide) (by decide) (by decide) (by decide)
  obtain ⟨b22, g22⟩ : ∃ z, z = h16.size := ⟨_, rfl⟩
  rw [← g22] at A22 st22
  have ne23 : b12 ≠ b22 := Nat.ne_of_lt (Nat.lt_of_lt_of_le f18.lt (Nat.le_of_eq g22.symm))
  have ne24 : b16 ≠ b22 := Nat.ne_of_lt (Nat.lt_of_lt_of_le f20.lt (Nat.le_of_eq g22.symm))
  have gn_b22 : n0 ≤ b22 := Nat.le_trans z19 (Nat.le_of_eq g22.symm)
  have f25 : Arv Z h22 b12 k12 .int (2 : Int32) [(.int (0 : Int32)), (.int (0 : Int32))] (.int (0 : Int32)) := f18.ext E22
  have f26 : Arv Z h22 b16 k16 .long (2 : Int32) [(.long (0 : Int64)), (.long (0 : Int64))] (.long (0 : Int64)) := f20.ext E22
  have z27 : n0 ≤ h22.size := Nat.le_trans z19 E22.1
  have f28 : Arv Z h22 b22 k22 .int (2 : Int32) [(.int (0 : Int32)), (.int (0 : Int32))] (.int (0 : Int32)) := (Arv.new A22 (by decide)).pad (pad_rep [] (.int (0 : Int32)) 2)
  have sg29 : ∀ t, Steps p.tables e below (T22.setTop (mkF m 119 #[.val (.int p1), .val (.int p2), .val (.int p3), .val (.long p4), .second, .val (.long p5), .second, .val (.int xa1), .val (.int xa2), .val (.int xb1), .val (.int xb2), .val (.long na1), .second, .val (.long na2), .second, .val (.long nb1), .second, .val (.long nb2), .second, .val (.ref b12), .val (.ref b16), .val (.ref b22), .unset, .unset, .unset, .unset, .unset, .unset] [(.int (2 : Int32))])) t → Steps p.tables e below (T22.setTop (mkF m 116 #[.val (.int p1), .val (.int p2), .val (.int p3), .val (.long p4), .second, .val (.long p5), .second, .val (.int xa1), .val (.int xa2), .val (.int xb1), .val (.int xb2), .val (.long na1), .second, .val (.long na2), .second, .val (.long nb1), .second, .val (.long nb2), .second, .val (.ref b12), .val (.ref b16), .unset, .unset, .unset, .unset, .unset, .unset, .unset] [(.ref b22)])) t := by
    intro t k
    show Steps p.tables e below (T22.setTop (mkF m 116 #[.val (.int p1), .val (.int p2), .val (.int p3), .val (.long p4), .second, .val (.long p5), .second, .val (.int xa1), .val (.int xa2), .val (.int xb1), .val (.int xb2), .val (.long na1), .second, .val (.long na2), .second, .val (.long nb1), .second, .val (.long nb2), .second, .val (.ref b12), .val (.ref b16), .unset, .unset, .unset, .unset, .unset, .unset, .unset] [(.ref b22)])) _
    refine XS.astore X22.here hx rfl (hb hby at_116) rfl rfl (l' := #[.val (.int p1), .val (.int p2), .val (.int p3), .val (.long p4), .second, .val (.long p5), .second, .val (.int xa1), .val (.int xa2), .val (.int xb1), .val (.int xb2), .val (.long na1), .second, .val (.long na2), .second, .val (.long nb1), .second, .val (.long nb2), .second, .val (.ref b12), .val (.ref b16), .val (.ref b22), .unset, .unset, .unset, .unset, .unset, .unset]) rfl ?_
    show Steps p.tables e below (T22.setTop (mkF m 118 #[.val (.int p1), .val (.int p2), .val (.int p3), .val (.long p4), .second, .val (.long p5), .second, .val (.int xa1), .val (.int xa2), .val (.int xb1), .val (.int xb2), .val (.long na1), .second, .val (.long na2), .second, .val (.long nb1), .second, .val (.long nb2), .second, .val (.ref b12), .val (.ref b16), .val (.ref b22), .unset, .unset, .unset, .unset, .unset, .unset] [])) _
    refine XS.iconst X22.here hx rfl (hb hby at_118) ?_
    exact k
  obtain ⟨T30, h30, k30, X30, e30, E30, A30, st30⟩ := newP X22 hx hZ (hw _ (List.mem_of_getElem? (i := 2) rfl)) e22 (g := (mkF m 119 #[.val (.int p1), .val (.int p2), .val (.int p3), .val (.long p4), .second, .val (.long p5), .second, .val (.int xa1), .val (.int xa2), .val (.int xb1), .val (.int xb2), .val (.long na1), .second, .val (.long na2), .second, .val (.long nb1), .second, .val (.long nb2), .second, .val (.ref b12), .val (.ref b16), .val (.ref b22), .unset, .unset, .unset, .unset, .unset, .unset] [(.int (2 : Int32))])) rfl (hb hby at_119) rfl (by decide) (cap := 2) (by decide) (by decide) (by decide) (by decide)
  obtain ⟨b30, g30⟩ : ∃ z, z = h22.size := ⟨_, rfl⟩
  rw [← g30] at A30 st30
  have ne31 : b12 ≠ b30 := Nat.ne_of_lt (Nat.lt_of_lt_of_le f25.lt (Nat.le_of_eq g30.symm))
  have ne32 : b16 ≠ b30 := Nat.ne_of_lt (Nat.lt_of_lt_of_le f26.lt (Nat.le_of_eq g30.symm))
  have ne33 : b22 ≠ b30 := Nat.ne_of_lt (Nat.lt_of_lt_of_le f28.lt (Nat.le_of_eq g30.symm))
  have gn_b30 : n0 ≤ b30 := Nat.le_trans z27 (Nat.le_of_eq g30.symm)
  have f34 : Arv Z h30 b12 k12 .int (2 : Int32) [(.int (0 : Int32)), (.int (0 : Int32))] (.int (0 : Int32)) := f25.ext E30
  have f35 : Arv Z h30 b16 k16 .long (2 : Int32) [(.long (0 : Int64)), (.long (0 : Int64))] (.long (0 : Int64)) := f26.ext E30
  have f36 : Arv Z h30 b22 k22 .int (2 : Int32) [(.int (0 : Int32)), (.int (0 : Int32))] (.int (0 : Int32)) := f28.ext E30
  have z37 : n0 ≤ h30.size := Nat.le_trans z27 E30.1
  have f38 : Arv Z h30 b30 k30 .long (2 : Int32) [(.long (0 : Int64)), (.long (0 : Int64))] (.long (0 : Int64)) := (Arv.new A30 (by decide)).pad (pad_rep [] (.long (0 : Int64)) 2)
  have sg39 : ∀ t, Steps p.tables e below (T30.setTop (mkF m 123 #[.val (.int p1), .val (.int p2), .val (.int p3), .val (.long p4), .second, .val (.long p5), .second, .val (.int xa1), .val (.int xa2), .val (.int xb1), .val (.int xb2), .val (.long na1), .second, .val (.long na2), .second, .val (.long nb1), .second, .val (.long nb2), .second, .val (.ref b12), .val (.ref b16), .val (.ref b22), .val (.ref b30), .unset, .unset, .unset, .unset, .unset] [])) t → Steps p.tables e below (T30.setTop (mkF m 121 #[.val (.int p1), .val (.int p2), .val (.int p3), .val (.long p4), .second, .val (.long p5), .second, .val (.int xa1), .val (.int xa2), .val (.int xb1), .val (.int xb2), .val (.long na1), .second, .val (.long na2), .second, .val (.long nb1), .second, .val (.long nb2), .second, .val (.ref b12), .val (.ref b16), .val (.ref b22), .unset, .unset, .unset, .unset, .unset, .unset] [(.ref b30)])) t := by
    intro t k
    show Steps p.tables e below (T30.setTop (mkF m 121 #[.val (.int p1), .val (.int p2), .val (.int p3), .val (.long p4), .second, .val (.long p5), .second, .val (.int xa1), .val (.int xa2), .val (.int xb1), .val (.int xb2), .val (.long na1), .second, .val (.long na2), .second, .val (.long nb1), .second, .val (.long nb2), .second, .val (.ref b12), .val (.ref b16), .val (.ref b22), .unset, .unset, .unset, .unset, .unset, .unset] [(.ref b30)])) _
    refine XS.astore X30.here hx rfl (hb hby at_121) rfl rfl (l' := #[.val (.int p1), .val (.int p2), .val (.int p3), .val (.long p4), .second, .val (.long p5), .second, .val (.int xa1), .val (.int xa2), .val (.int xb1), .val (.int xb2), .val (.long na1), .second, .val (.long na2), .second, .val (.long nb1), .second, .val (.long nb2), .second, .val (.ref b12), .val (.ref b16), .val (.ref b22), .val (.ref b30), .unset, .unset, .unset, .unset, .unset]) rfl ?_
    exact k
  obtain ⟨T40, h40, X40, e40, E40, A40, D40, -, st40⟩ := newO X30 hx hZ hown (hw _ (List.mem_of_getElem? (i := 3) rfl)) (hw _ (List.mem_of_getElem? (i := 4) rfl)) (hw _ (List.mem_of_getElem? (i := 5) rfl)) e30 (g := (mkF m 123 #[.val (.int p1), .val (.int p2), .val (.int p3), .val (.long p4), .second, .val (.long p5), .second, .val (.int xa1), .val (.int xa2), .val (.int xb1), .val (.int xb2), .val (.long na1), .second, .val (.long na2), .second, .val (.long nb1), .second, .val (.long nb2), .second, .val (.ref b12), .val (.ref b16), .val (.ref b22), .val (.ref b30), .unset, .unset, .unset, .unset, .unset] [])) rfl (hb hby at_123) (by decide) (by decide)
  obtain ⟨b40, g40⟩ : ∃ z, z = h30.size := ⟨_, rfl⟩
  rw [← g40] at A40 D40 st40
  have ne41 : b12 ≠ b40 := Nat.ne_of_lt (Nat.lt_of_lt_of_le f34.lt (Nat.le_of_eq g40.symm))
  have ne42 : b16 ≠ b40 := Nat.ne_of_lt (Nat.lt_of_lt_of_le f35.lt (Nat.le_of_eq g40.symm))
  have ne43 : b22 ≠ b40 := Nat.ne_of_lt (Nat.lt_of_lt_of_le f36.lt (Nat.le_of_eq g40.symm))
  have ne44 : b30 ≠ b40 := Nat.ne_of_lt (Nat.lt_of_lt_of_le f38.lt (Nat.le_of_eq g40.symm))
  have gn_b40 : n0 ≤ b40 := Nat.le_trans z37 (Nat.le_of_eq g40.symm)
  have f45 : Arv Z h40 b12 k12 .int (2 : Int32) [(.int (0 : Int32)), (.int (0 : Int32))] (.int (0 : Int32)) := f34.ext E40
  have f46 : Arv Z h40 b16 k16 .long (2 : Int32) [(.long (0 : Int64)), (.long (0 : Int64))] (.long (0 : Int64)) := f35.ext E40
  have f47 : Arv Z h40 b22 k22 .int (2 : Int32) [(.int (0 : Int32)), (.int (0 : Int32))] (.int (0 : Int32)) := f36.ext E40
  have f48 : Arv Z h40 b30 k30 .long (2 : Int32) [(.long (0 : Int64)), (.long (0 : Int64))] (.long (0 : Int64)) := f38.ext E40
  have z49 : n0 ≤ h40.size := Nat.le_trans z37 E40.1
  have f50 : Fld Z h40 b40 "querymill/regex/CodePointRuns" "sets" "[I" .null := D40 (Or.inl (hw _ (List.mem_of_getElem? (i := 13) rfl))) (ty := (.array .int)) (by decide)
  have f51 : Fld Z h40 b40 "querymill/regex/CodePointRuns" "counts" "[J" .null := D40 (Or.inl (hw _ (List.mem_of_getElem? (i := 15) rfl))) (ty := (.array .long)) (by decide)
  have f52 : Fld Z h40 b40 "querymill/regex/CodePointRuns" "starts" "[J" .null := D40 (Or.inl (hw _ (List.mem_of_getElem? (i := 17) rfl))) (ty := (.array .long)) (by decide)
  have f53 : Fld Z h40 b40 "querymill/regex/CodePointRuns" "size" "I" (.int (0 : Int32)) := D40 (Or.inl (hw _ (List.mem_of_getElem? (i := 24) rfl))) (ty := .int) (by decide)
  have f54 : Fld Z h40 b40 "querymill/regex/CodePointRuns" "length" "J" (.long (0 : Int64)) := D40 (Or.inl (hw _ (List.mem_of_getElem? (i := 26) rfl))) (ty := .long) (by decide)
  have sg55 : ∀ t, Steps p.tables e below (T40.setTop (mkF m 127 #[.val (.int p1), .val (.int p2), .val (.int p3), .val (.long p4), .second, .val (.long p5), .second, .val (.int xa1), .val (.int xa2), .val (.int xb1), .val (.int xb2), .val (.long na1), .second, .val (.long na2), .second, .val (.long nb1), .second, .val (.long nb2), .second, .val (.ref b12), .val (.ref b16), .val (.ref b22), .val (.ref b30), .unset, .unset, .unset, .unset, .unset] [(.ref b40), (.ref b40)])) t → Steps p.tables e below (T40.setTop (mkF m 126 #[.val (.int p1), .val (.int p2), .val (.int p3), .val (.long p4), .second, .val (.long p5), .second, .val (.int xa1), .val (.int xa2), .val (.int xb1), .val (.int xb2), .val (.long na1), .second, .val (.long na2), .second, .val (.long nb1), .second, .val (.long nb2), .second, .val (.ref b12), .val (.ref b16), .val (.ref b22), .val (.ref b30), .unset, .unset, .unset, .unset, .unset] [(.ref b40)])) t := by
    intro t k
    show Steps p.tables e below (T40.setTop (mkF m 126 #[.val (.int p1), .val (.int p2), .val (.int p3), .val (.long p4), .second, .val (.long p5), .second, .val (.int xa1), .val (.int xa2), .val (.int xb1), .val (.int xb2), .val (.long na1), .second, .val (.long na2), .second, .val (.long nb1), .second, .val (.long nb2), .second, .val (.ref b12), .val (.ref b16), .val (.ref b22), .val (.ref b30), .unset, .unset, .unset, .unset, .unset] [(.ref b40)])) _
    refine XS.dup X40.here hx rfl (hb hby at_126) rfl rfl ?_
    exact k
  obtain ⟨_, _, ⟨T56, L56, k56, n56⟩, -, X56, ⟨Lc56, hQ56, l56, y56, z56⟩, st56⟩ := X40.specialBack hx (y := (⟨"querymill/regex/CodePointRuns", "<init>", "()V"⟩ : MethodName)) rfl hown (mvT hZ (hw _ (List.mem_of_getElem? (i := 6) rfl))) (mvT hZ (hw _ (List.mem_of_getElem? (i := 7) rfl))) (mvT hZ (hw _ (List.mem_of_getElem? (i := 8) rfl))) (by decide) (backOf (W := 1) (rmI l Z a0 hw [] b40 h40 n0 z49 A40 f53 f54 f50 f51 f52 gn_b40) hZ (hw _ (List.mem_of_getElem? (i := 8) rfl)) (hw _ (List.mem_of_getElem? (i := 5) rfl)) (by decide) (by decide)) (g := (mkF m 127 #[.val (.int p1), .val (.int p2), .val (.int p3), .val (.long p4), .second, .val (.long p5), .second, .val (.int xa1), .val (.int xa2), .val (.int xb1), .val (.int xb2), .val (.long na1), .second, .val (.long na2), .second, .val (.long nb1), .second, .val (.long nb2), .second, .val (.ref b12), .val (.ref b16), .val (.ref b22), .val (.ref b30), .unset, .unset, .unset, .unset, .unset] [(.ref b40), (.ref b40)])) rfl (by rw [hml]; rfl) (Steps.refl _) (a := b40) (argsL := []) (rest := [(.ref b40)]) (lenOf pd_0 rfl) rfl (by show 2 * 0 + _ ≤ _; exact Nat.le_of_eq rfl) (hb hby at_127) (fun _ _ => ⟨rfl, e40, (by decide : 5 + 3 ≤ _), (by decide : 13 + 12 ≤ _)⟩)
  dsimp only [Pt.U, Pt.locs, Pt.cells, Pt.slots] at X56 l56 y56 z56 st56 hQ56
  subst l56 y56 z56
  obtain ⟨r156, r256, r356, k156, k256, k356, rfl, N56q, KQ56, Q56f0, Q56f1, Q56f2, Q56f3, Q56f4, Q56f5, Q56f6, Q56f7, Q56_fr_r1, Q56_fr_r2, Q56_fr_r3, Q56_ne_r1_r2, Q56_ne_r1_r3, Q56_ne_r2_r3⟩ := hQ56
  have N56 := Fr.app N0 N56q
  have ne57 : b12 ≠ r156 := Nat.ne_of_lt (Nat.lt_of_lt_of_le f45.lt Q56_fr_r1)
  have ne58 : b16 ≠ r156 := Nat.ne_of_lt (Nat.lt_of_lt_of_le f46.lt Q56_fr_r1)
  have ne59 : b22 ≠ r156 := Nat.ne_of_lt (Nat.lt_of_lt_of_le f47.lt Q56_fr_r1)
  have ne60 : b30 ≠ r156 := Nat.ne_of_lt (Nat.lt_of_lt_of_le f48.lt Q56_fr_r1)
  have ne61 : b40 ≠ r156 := Nat.ne_of_lt (Nat.lt_of_lt_of_le A40.lt Q56_fr_r1)
  have gn_r156 : n0 ≤ r156 := Nat.le_trans z49 Q56_fr_r1
  have ne62 : b12 ≠ r256 := Nat.ne_of_lt (Nat.lt_of_lt_of_le f45.lt Q56_fr_r2)
  have ne63 : b16 ≠ r256 := Nat.ne_of_lt (Nat.lt_of_lt_of_le f46.lt Q56_fr_r2)
  have ne64 : b22 ≠ r256 := Nat.ne_of_lt (Nat.lt_of_lt_of_le f47.lt Q56_fr_r2)
  have ne65 : b30 ≠ r256 := Nat.ne_of_lt (Nat.lt_of_lt_of_le f48.lt Q56_fr_r2)
  have ne66 : b40 ≠ r256 := Nat.ne_of_lt (Nat.lt_of_lt_of_le A40.lt Q56_fr_r2)
  have gn_r256 : n0 ≤ r256 := Nat.le_trans z49 Q56_fr_r2
  have ne67 : b12 ≠ r356 := Nat.ne_of_lt (Nat.lt_of_lt_of_le f45.lt Q56_fr_r3)
  have ne68 : b16 ≠ r356 := Nat.ne_of_lt (Nat.lt_of_lt_of_le f46.lt Q56_fr_r3)
  have ne69 : b22 ≠ r356 := Nat.ne_of_lt (Nat.lt_of_lt_of_le f47.lt Q56_fr_r3)
  have ne70 : b30 ≠ r356 := Nat.ne_of_lt (Nat.lt_of_lt_of_le f48.lt Q56_fr_r3)
  have ne71 : b40 ≠ r356 := Nat.ne_of_lt (Nat.lt_of_lt_of_le A40.lt Q56_fr_r3)
  have gn_r356 : n0 ≤ r356 := Nat.le_trans z49 Q56_fr_r3
  have f72 : Arv Z T56.heap b12 k12 .int (2 : Int32) [(.int (0 : Int32)), (.int (0 : Int32))] (.int (0 : Int32)) := f45.keep KQ56 (ninS ne41 nin0)
  have f73 : Arv Z T56.heap b16 k16 .long (2 : Int32) [(.long (0 : Int64)), (.long (0 : Int64))] (.long (0 : Int64)) := f46.keep KQ56 (ninS ne42 nin0)
  have f74 : Arv Z T56.heap b22 k22 .int (2 : Int32) [(.int (0 : Int32)), (.int (0 : Int32))] (.int (0 : Int32)) := f47.keep KQ56 (ninS ne43 nin0)
  have f75 : Arv Z T56.heap b30 k30 .long (2 : Int32) [(.long (0 : Int64)), (.long (0 : Int64))] (.long (0 : Int64)) := f48.keep KQ56 (ninS ne44 nin0)
  have f76 : Exa Z T56.heap b40 "querymill/regex/CodePointRuns" := A40.keep KQ56
  have z77 : n0 ≤ T56.heap.size := Nat.le_trans z49 KQ56.1
  have sg78 : ∀ t, Steps p.tables e below (T56.setTop (mkF m 138 #[.val (.int p1), .val (.int p2), .val (.int p3), .val (.long p4), .second, .val (.long p5), .second, .val (.int xa1), .val (.int xa2), .val (.int xb1), .val (.int xb2), .val (.long na1), .second, .val (.long na2), .second, .val (.long nb1), .second, .val (.long nb2), .second, .val (.ref b12), .val (.ref b16), .val (.ref b22), .val (.ref b30), .val (.ref b40), .unset, .unset, .unset, .unset] [(.long na1), (.int xa1), (.ref b40)])) t → Steps p.tables e below (T56.setTop (mkF m 130 #[.val (.int p1), .val (.int p2), .val (.int p3), .val (.long p4), .second, .val (.long p5), .second, .val (.int xa1), .val (.int xa2), .val (.int xb1), .val (.int xb2), .val (.long na1), .second, .val (.long na2), .second, .val (.long nb1), .second, .val (.long nb2), .second, .val (.ref b12), .val (.ref b16), .val (.ref b22), .val (.ref b30), .unset, .unset, .unset, .unset, .unset] [(.ref b40)])) t := by
    intro t k
    show Steps p.tables e below (T56.setTop (mkF m 130 #[.val (.int p1), .val (.int p2), .val (.int p3), .val (.long p4), .second, .val (.long p5), .second, .val (.int xa1), .val (.int xa2), .val (.int xb1), .val (.int xb2), .val (.long na1), .second, .val (.long na2), .second, .val (.long nb1), .second, .val (.long nb2), .second, .val (.ref b12), .val (.ref b16), .val (.ref b22), .val (.ref b30), .unset, .unset, .unset, .unset, .unset] [(.ref b40)])) _
    refine XS.astore X56.here hx rfl (hb hby at_130) rfl rfl (l' := #[.val (.int p1), .val (.int p2), .val (.int p3), .val (.long p4), .second, .val (.long p5), .second, .val (.int xa1), .val (.int xa2), .val (.int xb1), .val (.int xb2), .val (.long na1), .second, .val (.long na2), .second, .val (.long nb1), .second, .val (.long nb2), .second, .val (.ref b12), .val (.ref b16), .val (.ref b22), .val (.ref b30), .val (.ref b40), .unset, .unset, .unset, .unset]) rfl ?_
    show Steps p.tables e below (T56.setTop (mkF m 132 #[.val (.int p1), .val (.int p2), .val (.int p3), .val (.long p4), .second, .val (.long p5), .second, .val (.int xa1), .val (.int xa2), .val (.int xb1), .val (.int xb2), .val (.long na1), .second, .val (.long na2), .second, .val (.long nb1), .second, .val (.long nb2), .second, .val (.ref b12), .val (.ref b16), .val (.ref b22), .val (.ref b30), .val (.ref b40), .unset, .unset, .unset, .unset] [])) _
    refine XS.aload X56.here hx rfl (hb hby at_132) rfl rfl ?_
    show Steps p.tables e below (T56.setTop (mkF m 134 #[.val (.int p1), .val (.int p2), .val (.int p3), .val (.long p4), .second, .val (.long p5), .second, .val (.int xa1), .val (.int xa2), .val (.int xb1), .val (.int xb2), .val (.long na1), .second, .val (.long na2), .second, .val (.long nb1), .second, .val (.long nb2), .second, .val (.ref b12), .val (.ref b16), .val (.ref b22), .val (.ref b30), .val (.ref b40), .unset, .unset, .unset, .unset] [(.ref b40)])) _
    refine XS.iload X56.here hx rfl (hb hby at_134) rfl ?_
    show Steps p.tables e below (T56.setTop (mkF m 136 #[.val (.int p1), .val (.int p2), .val (.int p3), .val (.long p4), .second, .val (.long p5), .second, .val (.int xa1), .val (.int xa2), .val (.int xb1), .val (.int xb2), .val (.long na1), .second, .val (.long na2), .second, .val (.long nb1), .second, .val (.long nb2), .second, .val (.ref b12), .val (.ref b16), .val (.ref b22), .val (.ref b30), .val (.ref b40), .unset, .unset, .unset, .unset] [(.int xa1), (.ref b40)])) _
    refine XS.lload X56.here hx rfl (hb hby at_136) rfl ?_
    exact k
  obtain ⟨cq79, kq79, q79a, q79b, q79c⟩ := isOf hZ rfl f76
  obtain ⟨_, _, ⟨T79, L79, k79, n79⟩, -, X79, ⟨Lc79, hQ79, l79, y79, z79⟩, st79⟩ := X56.virtualBack hx (y := (⟨"querymill/regex/CodePointRuns", "add", "(IJ)V"⟩ : MethodName)) (z := (⟨"querymill/regex/CodePointRuns", "add", "(IJ)V"⟩ : MethodName)) hown (mvT hZ (hw _ (List.mem_of_getElem? (i := 18) rfl))) (mvT hZ (hw _ (List.mem_of_getElem? (i := 19) rfl))) (notFace_of_selects (args := #[]) (mvT hZ (hw _ (List.mem_of_getElem? (i := 21) rfl)))) (mvT hZ (hw _ (List.mem_of_getElem? (i := 21) rfl))) (mvT hZ (hw _ (List.mem_of_getElem? (i := 20) rfl))) (by decide) (backOf (W := 0) (rmA l Z a0 hw [] b40 xa1 na1 r156 r256 r356 k156 k256 k356 (0 : Int32) (0 : Int32) (0 : Int32) (0 : Int64) (0 : Int64) (0 : Int64) (0 : Int64) (0 : Int64) T56.heap n0 z77 f76 Q56f0 Q56f1 Q56f2 Q56f3 Q56f4 Q56f5 Q56f6 Q56f7 gn_b40 gn_r156 gn_r256 gn_r356 ne61 ne66 ne71 Q56_ne_r1_r2 Q56_ne_r1_r3 Q56_ne_r2_r3 (Or.inl rfl)) hZ (hw _ (List.mem_of_getElem? (i := 22) rfl)) (hw _ (List.mem_of_getElem? (i := 5) rfl)) (by decide) (by decide)) q79a q79c (g := (mkF m 138 #[.val (.int p1), .val (.int p2), .val (.int p3), .val (.long p4), .second, .val (.long p5), .second, .val (.int xa1), .val (.int xa2), .val (.int xb1), .val (.int xb2), .val (.long na1), .second, .val (.long na2), .second, .val (.long nb1), .second, .val (.long nb2), .second, .val (.ref b12), .val (.ref b16), .val (.ref b22), .val (.ref b30), .val (.ref b40), .unset, .unset, .unset, .unset] [(.long na1), (.int xa1), (.ref b40)])) rfl (by rw [hml]; rfl) (Steps.refl _) (argsL := [(.int xa1), (.long na1)]) (rest := []) (lenOf pd_1 rfl) rfl (by show 2 * 0 + _ ≤ _; exact Nat.le_of_eq rfl) (hb hby at_138) (fun _ _ => ⟨rfl, rfl, (by decide : 8 + 0 ≤ _), (by decide : 25 + 0 ≤ _)⟩)
  dsimp only [Pt.U, Pt.locs, Pt.cells, Pt.slots] at X79 l79 y79 z79 st79 hQ79
  subst l79 y79 z79
  obtain ⟨zz79, u079, u179, w079, w179, v079, v179, lm79, rfl, N79q, KQ79, Q79f0, Q79f1, Q79f2, Q79f3, Q79f4, Q79f5, Q79f6, Q79f7, Q79_rel⟩ := hQ79
  have N79 := Fr.app N56 N79q
  have f80 : Arv Z T79.heap b12 k12 .int (2 : Int32) [(.int (0 : Int32)), (.int (0 : Int32))] (.int (0 : Int32)) := f72.keep KQ79 (ninS ne41 (ninS ne57 (ninS ne62 (ninS ne67 nin0))))
  have f81 : Arv Z T79.heap b16 k16 .long (2 : Int32) [(.long (0 : Int64)), (.long (0 : Int64))] (.long (0 : Int64)) := f73.keep KQ79 (ninS ne42 (ninS ne58 (ninS ne63 (ninS ne68 nin0))))
  have f82 : Arv Z T79.heap b22 k22 .int (2 : Int32) [(.int (0 : Int32)), (.int (0 : Int32))] (.int (0 : Int32)) := f74.keep KQ79 (ninS ne43 (ninS ne59 (ninS ne64 (ninS ne69 nin0))))
  have f83 : Arv Z T79.heap b30 k30 .long (2 : Int32) [(.long (0 : Int64)), (.long (0 : Int64))] (.long (0 : Int64)) := f75.keep KQ79 (ninS ne44 (ninS ne60 (ninS ne65 (ninS ne70 nin0))))
  have f84 : Exa Z T79.heap b40 "querymill/regex/CodePointRuns" := f76.keep KQ79
  have z85 : n0 ≤ T79.heap.size := Nat.le_trans z77 KQ79.1
  have sg86 : ∀ t, Steps p.tables e below (T79.setTop (mkF m 147 #[.val (.int p1), .val (.int p2), .val (.int p3), .val (.long p4), .second, .val (.long p5), .second, .val (.int xa1), .val (.int xa2), .val (.int xb1), .val (.int xb2), .val (.long na1), .second, .val (.long na2), .second, .val (.long nb1), .second, .val (.long nb2), .second, .val (.ref b12), .val (.ref b16), .val (.ref b22), .val (.ref b30), .val (.ref b40), .unset, .unset, .unset, .unset] [(.long na2), (.int xa2), (.ref b40)])) t → Steps p.tables e below (T79.setTop (mkF m 141 #[.val (.int p1), .val (.int p2), .val (.int p3), .val (.long p4), .second, .val (.long p5), .second, .val (.int xa1), .val (.int xa2), .val (.int xb1), .val (.int xb2), .val (.long na1), .second, .val (.long na2), .second, .val (.long nb1), .second, .val (.long nb2), .second, .val (.ref b12), .val (.ref b16), .val (.ref b22), .val (.ref b30), .val (.ref b40), .unset, .unset, .unset, .unset] [])) t := by
    intro t k
    show Steps p.tables e below (T79.setTop (mkF m 141 #[.val (.int p1), .val (.int p2), .val (.int p3), .val (.long p4), .second, .val (.long p5), .second, .val (.int xa1), .val (.int xa2), .val (.int xb1), .val (.int xb2), .val (.long na1), .second, .val (.long na2), .second, .val (.long nb1), .second, .val (.long nb2), .second, .val (.ref b12), .val (.ref b16), .val (.ref b22), .val (.ref b30), .val (.ref b40), .unset, .unset, .unset, .unset] [])) _
    refine XS.aload X79.here hx rfl (hb hby at_141) rfl rfl ?_
    show Steps p.tables e below (T79.setTop (mkF m 143 #[.val (.int p1), .val (.int p2), .val (.int p3), .val (.long p4), .second, .val (.long p5), .second, .val (.int xa1), .val (.int xa2), .val (.int xb1), .val (.int xb2), .val (.long na1), .second, .val (.long na2), .second, .val (.long nb1), .second, .val (.long nb2), .second, .val (.ref b12), .val (.ref b16), .val (.ref b22), .val (.ref b30), .val (.ref b40), .unset, .unset, .unset, .unset] [(.ref b40)])) _
    refine XS.iload X79.here hx rfl (hb hby at_143) rfl ?_
    show Steps p.tables e below (T79.setTop (mkF m 145 #[.val (.int p1), .val (.int p2), .val (.int p3), .val (.long p4), .second, .val (.long p5), .second, .val (.int xa1), .val (.int xa2), .val (.int xb1), .val (.int xb2), .val (.long na1), .second, .val (.long na2), .second, .val (.long nb1), .second, .val (.long nb2), .second, .val (.ref b12), .val (.ref b16), .val (.ref b22), .val (.ref b30), .val (.ref b40), .unset, .unset, .unset, .unset] [(.int xa2), (.ref b40)])) _
    refine XS.lload X79.here hx rfl (hb hby at_145) rfl ?_
    exact k
  obtain ⟨cq87, kq87, q87a, q87b, q87c⟩ := isOf hZ rfl f84
  obtain ⟨_, _, ⟨T87, L87, k87, n87⟩, -, X87, ⟨Lc87, hQ87, l87, y87, z87⟩, st87⟩ := X79.virtualBack hx (y := (⟨"querymill/regex/CodePointRuns", "add", "(IJ)V"⟩ : MethodName)) (z := (⟨"querymill/regex/CodePointRuns", "add", "(IJ)V"⟩ : MethodName)) hown (mvT hZ (hw _ (List.mem_of_getElem? (i := 18) rfl))) (mvT hZ (hw _ (List.mem_of_getElem? (i := 19) rfl))) (notFace_of_selects (args := #[]) (mvT hZ (hw _ (List.mem_of_getElem? (i := 21) rfl)))) (mvT hZ (hw _ (List.mem_of_getElem? (i := 21) rfl))) (mvT hZ (hw _ (List.mem_of_getElem? (i := 20) rfl))) (by decide) (backOf (W := 0) (rmA l Z a0 hw [] b40 xa2 na2 r156 r256 r356 k156 k256 k356 zz79 u079 u179 w079 w179 v079 v179 lm79 T79.heap n0 z85 f84 Q79f0 Q79f1 Q79f2 Q79f3 Q79f4 Q79f5 Q79f6 Q79f7 gn_b40 gn_r156 gn_r256 gn_r356 ne61 ne66 ne71 Q56_ne_r1_r2 Q56_ne_r1_r3 Q56_ne_r2_r3 (Add.size Q79_rel)) hZ (hw _ (List.mem_of_getElem? (i := 22) rfl)) (hw _ (List.mem_of_getElem? (i := 5) rfl)) (by decide) (by decide)) q87a q87c (g := (mkF m 147 #[.val (.int p1), .val (.int p2), .val (.int p3), .val (.long p4), .second, .val (.long p5), .second, .val (.int xa1), .val (.int xa2), .val (.int xb1), .val (.int xb2), .val (.long na1), .second, .val (.long na2), .second, .val (.long nb1), .second, .val (.long nb2), .second, .val (.ref b12), .val (.ref b16), .val (.ref b22), .val (.ref b30), .val (.ref b40), .unset, .unset, .unset, .unset] [(.long na2), (.int xa2), (.ref b40)])) rfl (by rw [hml]; rfl) (Steps.refl _) (argsL := [(.int xa2), (.long na2)]) (rest := []) (lenOf pd_1 rfl) rfl (by show 2 * 0 + _ ≤ _; exact Nat.le_of_eq rfl) (hb hby at_147) (fun _ _ => ⟨rfl, rfl, (by decide : 8 + 0 ≤ _), (by decide : 25 + 0 ≤ _)⟩)
  dsimp only [Pt.U, Pt.locs, Pt.cells, Pt.slots] at X87 l87 y87 z87 st87 hQ87
  subst l87 y87 z87
  obtain ⟨zz87, u087, u187, w087, w187, v087, v187, lm87, rfl, N87q, KQ87, Q87f0, Q87f1, Q87f2, Q87f3, Q87f4, Q87f5, Q87f6, Q87f7, Q87_rel⟩ := hQ87
  have N87 := Fr.app N79 N87q
  have f88 : Arv Z T87.heap b12 k12 .int (2 : Int32) [(.int (0 : Int32)), (.int (0 : Int32))] (.int (0 : Int32)) := f80.keep KQ87 (ninS ne41 (ninS ne57 (ninS ne62 (ninS ne67 nin0))))
  have f89 : Arv Z T87.heap b16 k16 .long (2 : Int32) [(.long (0 : Int64)), (.long (0 : Int64))] (.long (0 : Int64)) := f81.keep KQ87 (ninS ne42 (ninS ne58 (ninS ne63 (ninS ne68 nin0))))
  have f90 : Arv Z T87.heap b22 k22 .int (2 : Int32) [(.int (0 : Int32)), (.int (0 : Int32))] (.int (0 : Int32)) := f82.keep KQ87 (ninS ne43 (ninS ne59 (ninS ne64 (ninS ne69 nin0))))
  have f91 : Arv Z T87.heap b30 k30 .long (2 : Int32) [(.long (0 : Int64)), (.long (0 : Int64))] (.long (0 : Int64)) := f83.keep KQ87 (ninS ne44 (ninS ne60 (ninS ne65 (ninS ne70 nin0))))
  have f92 : Exa Z T87.heap b40 "querymill/regex/CodePointRuns" := f84.keep KQ87
  have z93 : n0 ≤ T87.heap.size := Nat.le_trans z85 KQ87.1
  obtain ⟨T94, h94, X94, e94, E94, A94, D94, -, st94⟩ := newO X87 hx hZ hown (hw _ (List.mem_of_getElem? (i := 3) rfl)) (hw _ (List.mem_of_getElem? (i := 4) rfl)) (hw _ (List.mem_of_getElem? (i := 5) rfl)) rfl (g := (mkF m 150 #[.val (.int p1), .val (.int p2), .val (.int p3), .val (.long p4), .second, .val (.long p5), .second, .val (.int xa1), .val (.int xa2), .val (.int xb1), .val (.int xb2), .val (.long na1), .second, .val (.long na2), .second, .val (.long nb1), .second, .val (.long nb2), .second, .val (.ref b12), .val (.ref b16), .val (.ref b22), .val (.ref b30), .val (.ref b40), .unset, .unset, .unset, .unset] [])) rfl (hb hby at_150) (by decide) (by decide)
  obtain ⟨b94, g94⟩ : ∃ z, z = T87.heap.size := ⟨_, rfl⟩
  rw [← g94] at A94 D94 st94
  have ne95 : b12 ≠ b94 := Nat.ne_of_lt (Nat.lt_of_lt_of_le f88.lt (Nat.le_of_eq g94.symm))
  have ne96 : b16 ≠ b94 := Nat.ne_of_lt (Nat.lt_of_lt_of_le f89.lt (Nat.le_of_eq g94.symm))
  have ne97 : b22 ≠ b94 := Nat.ne_of_lt (Nat.lt_of_lt_of_le f90.lt (Nat.le_of_eq g94.symm))
  have ne98 : b30 ≠ b94 := Nat.ne_of_lt (Nat.lt_of_lt_of_le f91.lt (Nat.le_of_eq g94.symm))
  have ne99 : b40 ≠ b94 := Nat.ne_of_lt (Nat.lt_of_lt_of_le f92.lt (Nat.le_of_eq g94.symm))
  have ne100 : r156 ≠ b94 := Nat.ne_of_lt (Nat.lt_of_lt_of_le Q87f5.lt (Nat.le_of_eq g94.symm))
  have ne101 : r256 ≠ b94 := Nat.ne_of_lt (Nat.lt_of_lt_of_le Q87f6.lt (Nat.le_of_eq g94.symm))
  have ne102 : r356 ≠ b94 := Nat.ne_of_lt (Nat.lt_of_lt_of_le Q87f7.lt (Nat.le_of_eq g94.symm))
  have gn_b94 : n0 ≤ b94 := Nat.le_trans z93 (Nat.le_of_eq g94.symm)
  have f103 : Arv Z h94 b12 k12 .int (2 : Int32) [(.int (0 : Int32)), (.int (0 : Int32))] (.int (0 : Int32)) := f88.ext E94
  have f104 : Arv Z h94 b16 k16 .long (2 : Int32) [(.long (0 : Int64)), (.long (0 : Int64))] (.long (0 : Int64)) := f89.ext E94
  have f105 : Arv Z h94 b22 k22 .int (2 : Int32) [(.int (0 : Int32)), (.int (0 : Int32))] (.int (0 : Int32)) := f90.ext E94
  have f106 : Arv Z h94 b30 k30 .long (2 : Int32) [(.long (0 : Int64)), (.long (0 : Int64))] (.long (0 : Int64)) := f91.ext E94
  have f107 : Exa Z h94 b40 "querymill/regex/CodePointRuns" := f92.ext E94
  have f108 : Fld Z h94 b40 "querymill/regex/CodePointRuns" "size" "I" (.int zz87) := Q87f0.ext E94
  have f109 : Fld Z h94 b40 "querymill/regex/CodePointRuns" "length" "J" (.long lm87) := Q87f1.ext E94
  have f110 : Fld Z h94 b40 "querymill/regex/CodePointRuns" "sets" "[I" (.ref r156) := Q87f2.ext E94
  have f111 : Fld Z h94 b40 "querymill/regex/CodePointRuns" "counts" "[J" (.ref r256) := Q87f3.ext E94
  have f112 : Fld Z h94 b40 "querymill/regex/CodePointRuns" "starts" "[J" (.ref r356) := Q87f4.ext E94
  have f113 : Arv Z h94 r156 k156 .int (4 : Int32) [(.int u087), (.int u187), (.int (0 : Int32)), (.int (0 : Int32))] (.int (0 : Int32)) := Q87f5.ext E94
  have f114 : Arv Z h94 r256 k256 .long (4 : Int32) [(.long w087), (.long w187), (.long (0 : Int64)), (.long (0 : Int64))] (.long (0 : Int64)) := Q87f6.ext E94
  have f115 : Arv Z h94 r356 k356 .long (4 : Int32) [(.long v087), (.long v187), (.long (0 : Int64)), (.long (0 : Int64))] (.long (0 : Int64)) := Q87f7.ext E94
  have z116 : n0 ≤ h94.size := Nat.le_trans z93 E94.1
  have f117 : Fld Z h94 b94 "querymill/regex/CodePointRuns" "sets" "[I" .null := D94 (Or.inl (hw _ (List.mem_of_getElem? (i := 13) rfl))) (ty := (.array .int)) (by decide)
  have f118 : Fld Z h94 b94 "querymill/regex/CodePointRuns" "counts" "[J" .null := D94 (Or.inl (hw _ (List.mem_of_getElem? (i := 15) rfl))) (ty := (.array .long)) (by decide)
  have f119 : Fld Z h94 b94 "querymill/regex/CodePointRuns" "starts" "[J" .null := D94 (Or.inl (hw _ (List.mem_of_getElem? (i := 17) rfl))) (ty := (.array .long)) (by decide)
  have f120 : Fld Z h94 b94 "querymill/regex/CodePointRuns" "size" "I" (.int (0 : Int32)) := D94 (Or.inl (hw _ (List.mem_of_getElem? (i := 24) rfl))) (ty := .int) (by decide)
  have f121 : Fld Z h94 b94 "querymill/regex/CodePointRuns" "length" "J" (.long (0 : Int64)) := D94 (Or.inl (hw _ (List.mem_of_getElem? (i := 26) rfl))) (ty := .long) (by decide)
  have sg122 : ∀ t, Steps p.tables e below (T94.setTop (mkF m 154 #[.val (.int p1), .val (.int p2), .val (.int p3), .val (.long p4), .second, .val (.long p5), .second, .val (.int xa1), .val (.int xa2), .val (.int xb1), .val (.int xb2), .val (.long na1), .second, .val (.long na2), .second, .val (.long nb1), .second, .val (.long nb2), .second, .val (.ref b12), .val (.ref b16), .val (.ref b22), .val (.ref b30), .val (.ref b40), .unset, .unset, .unset, .unset] [(.ref b94), (.ref b94)])) t → Steps p.tables e below (T94.setTop (mkF m 153 #[.val (.int p1), .val (.int p2), .val (.int p3), .val (.long p4), .second, .val (.long p5), .second, .val (.int xa1), .val (.int xa2), .val (.int xb1), .val (.int xb2), .val (.long na1), .second, .val (.long na2), .second, .val (.long nb1), .second, .val (.long nb2), .second, .val (.ref b12), .val (.ref b16), .val (.ref b22), .val (.ref b30), .val (.ref b40), .unset, .unset, .unset, .unset] [(.ref b94)])) t := by
    intro t k
    show Steps p.tables e below (T94.setTop (mkF m 153 #[.val (.int p1), .val (.int p2), .val (.int p3), .val (.long p4), .second, .val (.long p5), .second, .val (.int xa1), .val (.int xa2), .val (.int xb1), .val (.int xb2), .val (.long na1), .second, .val (.long na2), .second, .val (.long nb1), .second, .val (.long nb2), .second, .val (.ref b12), .val (.ref b16), .val (.ref b22), .val (.ref b30), .val (.ref b40), .unset, .unset, .unset, .unset] [(.ref b94)])) _
    refine XS.dup X94.here hx rfl (hb hby at_153) rfl rfl ?_
    exact k
  obtain ⟨_, _, ⟨T123, L123, k123, n123⟩, -, X123, ⟨Lc123, hQ123, l123, y123, z123⟩, st123⟩ := X94.specialBack hx (y := (⟨"querymill/regex/CodePointRuns", "<init>", "()V"⟩ : MethodName)) rfl hown (mvT hZ (hw _ (List.mem_of_getElem? (i := 6) rfl))) (mvT hZ (hw _ (List.mem_of_getElem? (i := 7) rfl))) (mvT hZ (hw _ (List.mem_of_getElem? (i := 8) rfl))) (by decide) (backOf (W := 1) (rmI l Z a0 hw [] b94 h94 n0 z116 A94 f120 f121 f117 f118 f119 gn_b94) hZ (hw _ (List.mem_of_getElem? (i := 8) rfl)) (hw _ (List.mem_of_getElem? (i := 5) rfl)) (by decide) (by decide)) (g := (mkF m 154 #[.val (.int p1), .val (.int p2), .val (.int p3), .val (.long p4), .second, .val (.long p5), .second, .val (.int xa1), .val (.int xa2), .val (.int xb1), .val (.int xb2), .val (.long na1), .second, .val (.long na2), .second, .val (.long nb1), .second, .val (.long nb2), .second, .val (.ref b12), .val (.ref b16), .val (.ref b22), .val (.ref b30), .val (.ref b40), .unset, .unset, .unset, .unset] [(.ref b94), (.ref b94)])) rfl (by rw [hml]; rfl) (Steps.refl _) (a := b94) (argsL := []) (rest := [(.ref b94)]) (lenOf pd_0 rfl) rfl (by show 2 * 0 + _ ≤ _; exact Nat.le_of_eq rfl) (hb hby at_154) (fun _ _ => ⟨rfl, e94, (by decide : 9 + 3 ≤ _), (by decide : 30 + 12 ≤ _)⟩)
  dsimp only [Pt.U, Pt.locs, Pt.cells, Pt.slots] at X123 l123 y123 z123 st123 hQ123
  subst l123 y123 z123
  obtain ⟨r1123, r2123, r3123, k1123, k2123, k3123, rfl, N123q, KQ123, Q123f0, Q123f1, Q123f2, Q123f3, Q123f4, Q123f5, Q123f6, Q123f7, Q123_fr_r1, Q123_fr_r2, Q123_fr_r3, Q123_ne_r1_r2, Q123_ne_r1_r3, Q123_ne_r2_r3⟩ := hQ123
  have N123 := Fr.app N87 N123q
  have ne124 : b12 ≠ r1123 := Nat.ne_of_lt (Nat.lt_of_lt_of_le f103.lt Q123_fr_r1)
  have ne125 : b16 ≠ r1123 := Nat.ne_of_lt (Nat.lt_of_lt_of_le f104.lt Q123_fr_r1)
  have ne126 : b22 ≠ r1123 := Nat.ne_of_lt (Nat.lt_of_lt_of_le f105.lt Q123_fr_r1)
  have ne127 : b30 ≠ r1123 := Nat.ne_of_lt (Nat.lt_of_lt_of_le f106.lt Q123_fr_r1)
  have ne128 : b40 ≠ r1123 := Nat.ne_of_lt (Nat.lt_of_lt_of_le f107.lt Q123_fr_r1)
  have ne129 : r156 ≠ r1123 := Nat.ne_of_lt (Nat.lt_of_lt_of_le f113.lt Q123_fr_r1)
  have ne130 : r256 ≠ r1123 := Nat.ne_of_lt (Nat.lt_of_lt_of_le f114.lt Q123_fr_r1)
  have ne131 : r356 ≠ r1123 := Nat.ne_of_lt (Nat.lt_of_lt_of_le f115.lt Q123_fr_r1)
  have ne132 : b94 ≠ r1123 := Nat.ne_of_lt (Nat.lt_of_lt_of_le A94.lt Q123_fr_r1)
  have gn_r1123 : n0 ≤ r1123 := Nat.le_trans z116 Q123_fr_r1
  have ne133 : b12 ≠ r2123 := Nat.ne_of_lt (Nat.lt_of_lt_of_le f103.lt Q123_fr_r2)
  have ne134 : b16 ≠ r2123 := Nat.ne_of_lt (Nat.lt_of_lt_of_le f104.lt Q123_fr_r2)
  have ne135 : b22 ≠ r2123 := Nat.ne_of_lt (Nat.lt_of_lt_of_le f105.lt Q123_fr_r2)
  have ne136 : b30 ≠ r2123 := Nat.ne_of_lt (Nat.lt_of_lt_of_le f106.lt Q123_fr_r2)
  have ne137 : b40 ≠ r2123 := Nat.ne_of_lt (Nat.lt_of_lt_of_le f107.lt Q123_fr_r2)
  have ne138 : r156 ≠ r2123 := Nat.ne_of_lt (Nat.lt_of_lt_of_le f113.lt Q123_fr_r2)
  have ne139 : r256 ≠ r2123 := Nat.ne_of_lt (Nat.lt_of_lt_of_le f114.lt Q123_fr_r2)
  have ne140 : r356 ≠ r2123 := Nat.ne_of_lt (Nat.lt_of_lt_of_le f115.lt Q123_fr_r2)
  have ne141 : b94 ≠ r2123 := Nat.ne_of_lt (Nat.lt_of_lt_of_le A94.lt Q123_fr_r2)
  have gn_r2123 : n0 ≤ r2123 := Nat.le_trans z116 Q123_fr_r2
  have ne142 : b12 ≠ r3123 := Nat.ne_of_lt (Nat.lt_of_lt_of_le f103.lt Q123_fr_r3)
  have ne143 : b16 ≠ r3123 := Nat.ne_of_lt (Nat.lt_of_lt_of_le f104.lt Q123_fr_r3)
  have ne144 : b22 ≠ r3123 := Nat.ne_of_lt (Nat.lt_of_lt_of_le f105.lt Q123_fr_r3)
  have ne145 : b30 ≠ r3123 := Nat.ne_of_lt (Nat.lt_of_lt_of_le f106.lt Q123_fr_r3)
  have ne146 : b40 ≠ r3123 := Nat.ne_of_lt (Nat.lt_of_lt_of_le f107.lt Q123_fr_r3)
  have ne147 : r156 ≠ r3123 := Nat.ne_of_lt (Nat.lt_of_lt_of_le f113.lt Q123_fr_r3)
  have ne148 : r256 ≠ r3123 := Nat.ne_of_lt (Nat.lt_of_lt_of_le f114.lt Q123_fr_r3)
  have ne149 : r356 ≠ r3123 := Nat.ne_of_lt (Nat.lt_of_lt_of_le f115.lt Q123_fr_r3)
  have ne150 : b94 ≠ r3123 := Nat.ne_of_lt (Nat.lt_of_lt_of_le A94.lt Q123_fr_r3)
  have gn_r3123 : n0 ≤ r3123 := Nat.le_trans z116 Q123_fr_r3
  have f151 : Arv Z T123.heap b12 k12 .int (2 : Int32) [(.int (0 : Int32)), (.int (0 : Int32))] (.int (0 : Int32)) := f103.keep KQ123 (ninS ne95 nin0)
  have f152 : Arv Z T123.heap b16 k16 .long (2 : Int32) [(.long (0 : Int64)), (.long (0 : Int64))] (.long (0 : Int64)) := f104.keep KQ123 (ninS ne96 nin0)
  have f153 : Arv Z T123.heap b22 k22 .int (2 : Int32) [(.int (0 : Int32)), (.int (0 : Int32))] (.int (0 : Int32)) := f105.keep KQ123 (ninS ne97 nin0)
  have f154 : Arv Z T123.heap b30 k30 .long (2 : Int32) [(.long (0 : Int64)), (.long (0 : Int64))] (.long (0 : Int64)) := f106.keep KQ123 (ninS ne98 nin0)
  have f155 : Exa Z T123.heap b40 "querymill/regex/CodePointRuns" := f107.keep KQ123
  have f156 : Fld Z T123.heap b40 "querymill/regex/CodePointRuns" "size" "I" (.int zz87) := f108.keep KQ123 (ninS ne99 nin0)
  have f157 : Fld Z T123.heap b40 "querymill/regex/CodePointRuns" "length" "J" (.long lm87) := f109.keep KQ123 (ninS ne99 nin0)
  have f158 : Fld Z T123.heap b40 "querymill/regex/CodePointRuns" "sets" "[I" (.ref r156) := f110.keep KQ123 (ninS ne99 nin0)
  have f159 : Fld Z T123.heap b40 "querymill/regex/CodePointRuns" "counts" "[J" (.ref r256) := f111.keep KQ123 (ninS ne99 nin0)
  have f160 : Fld Z T123.heap b40 "querymill/regex/CodePointRuns" "starts" "[J" (.ref r356) := f112.keep KQ123 (ninS ne99 nin0)
  have f161 : Arv Z T123.heap r156 k156 .int (4 : Int32) [(.int u087), (.int u187), (.int (0 : Int32)), (.int (0 : Int32))] (.int (0 : Int32)) := f113.keep KQ123 (ninS ne100 nin0)
  have f162 : Arv Z T123.heap r256 k256 .long (4 : Int32) [(.long w087), (.long w187), (.long (0 : Int64)), (.long (0 : Int64))] (.long (0 : Int64)) := f114.keep KQ123 (ninS ne101 nin0)
  have f163 : Arv Z T123.heap r356 k356 .long (4 : Int32) [(.long v087), (.long v187), (.long (0 : Int64)), (.long (0 : Int64))] (.long (0 : Int64)) := f115.keep KQ123 (ninS ne102 nin0)
  have f164 : Exa Z T123.heap b94 "querymill/regex/CodePointRuns" := A94.keep KQ123
  have z165 : n0 ≤ T123.heap.size := Nat.le_trans z116 KQ123.1
  have sg166 : ∀ t, Steps p.tables e below (T123.setTop (mkF m 165 #[.val (.int p1), .val (.int p2), .val (.int p3), .val (.long p4), .second, .val (.long p5), .second, .val (.int xa1), .val (.int xa2), .val (.int xb1), .val (.int xb2), .val (.long na1), .second, .val (.long na2), .second, .val (.long nb1), .second, .val (.long nb2), .second, .val (.ref b12), .val (.ref b16), .val (.ref b22), .val (.ref b30), .val (.ref b40), .val (.ref b94), .unset, .unset, .unset] [(.long nb1), (.int xb1), (.ref b94)])) t → Steps p.tables e below (T123.setTop (mkF m 157 #[.val (.int p1), .val (.int p2), .val (.int p3), .val (.long p4), .second, .val (.long p5), .second, .val (.int xa1), .val (.int xa2), .val (.int xb1), .val (.int xb2), .val (.long na1), .second, .val (.long na2), .second, .val (.long nb1), .second, .val (.long nb2), .second, .val (.ref b12), .val (.ref b16), .val (.ref b22), .val (.ref b30), .val (.ref b40), .unset, .unset, .unset, .unset] [(.ref b94)])) t := by
    intro t k
    show Steps p.tables e below (T123.setTop (mkF m 157 #[.val (.int p1), .val (.int p2), .val (.int p3), .val (.long p4), .second, .val (.long p5), .second, .val (.int xa1), .val (.int xa2), .val (.int xb1), .val (.int xb2), .val (.long na1), .second, .val (.long na2), .second, .val (.long nb1), .second, .val (.long nb2), .second, .val (.ref b12), .val (.ref b16), .val (.ref b22), .val (.ref b30), .val (.ref b40), .unset, .unset, .unset, .unset] [(.ref b94)])) _
    refine XS.astore X123.here hx rfl (hb hby at_157) rfl rfl (l' := #[.val (.int p1), .val (.int p2), .val (.int p3), .val (.long p4), .second, .val (.long p5), .second, .val (.int xa1), .val (.int xa2), .val (.int xb1), .val (.int xb2), .val (.long na1), .second, .val (.long na2), .second, .val (.long nb1), .second, .val (.long nb2), .second, .val (.ref b12), .val (.ref b16), .val (.ref b22), .val (.ref b30), .val (.ref b40), .val (.ref b94), .unset, .unset, .unset]) rfl ?_
    show Steps p.tables e below (T123.setTop (mkF m 159 #[.val (.int p1), .val (.int p2), .val (.int p3), .val (.long p4), .second, .val (.long p5), .second, .val (.int xa1), .val (.int xa2), .val (.int xb1), .val (.int xb2), .val (.long na1), .second, .val (.long na2), .second, .val (.long nb1), .second, .val (.long nb2), .second, .val (.ref b12), .val (.ref b16), .val (.ref b22), .val (.ref b30), .val (.ref b40), .val (.ref b94), .unset, .unset, .unset] [])) _
    refine XS.aload X123.here hx rfl (hb hby at_159) rfl rfl ?_
    show Steps p.tables e below (T123.setTop (mkF m 161 #[.val (.int p1), .val (.int p2), .val (.int p3), .val (.long p4), .second, .val (.long p5), .second, .val (.int xa1), .val (.int xa2), .val (.int xb1), .val (.int xb2), .val (.long na1), .second, .val (.long na2), .second, .val (.long nb1), .second, .val (.long nb2), .second, .val (.ref b12), .val (.ref b16), .val (.ref b22), .val (.ref b30), .val (.ref b40), .val (.ref b94), .unset, .unset, .unset] [(.ref b94)])) _
    refine XS.iload X123.here hx rfl (hb hby at_161) rfl ?_
    show Steps p.tables e below (T123.setTop (mkF m 163 #[.val (.int p1), .val (.int p2), .val (.int p3), .val (.long p4), .second, .val (.long p5), .second, .val (.int xa1), .val (.int xa2), .val (.int xb1), .val (.int xb2), .val (.long na1), .second, .val (.long na2), .second, .val (.long nb1), .second, .val (.long nb2), .second, .val (.ref b12), .val (.ref b16), .val (.ref b22), .val (.ref b30), .val (.ref b40), .val (.ref b94), .unset, .unset, .unset] [(.int xb1), (.ref b94)])) _
    refine XS.lload X123.here hx rfl (hb hby at_163) rfl ?_
    exact k
  obtain ⟨cq167, kq167, q167a, q167b, q167c⟩ := isOf hZ rfl f164
  obtain ⟨_, _, ⟨T167, L167, k167, n167⟩, -, X167, ⟨Lc167, hQ167, l167, y167, z167⟩, st167⟩ := X123.virtualBack hx (y := (⟨"querymill/regex/CodePointRuns", "add", "(IJ)V"⟩ : MethodName)) (z := (⟨"querymill/regex/CodePointRuns", "add", "(IJ)V"⟩ : MethodName)) hown (mvT hZ (hw _ (List.mem_of_getElem? (i := 18) rfl))) (mvT hZ (hw _ (List.mem_of_getElem? (i := 19) rfl))) (notFace_of_selects (args := #[]) (mvT hZ (hw _ (List.mem_of_getElem? (i := 21) rfl)))) (mvT hZ (hw _ (List.mem_of_getElem? (i := 21) rfl))) (mvT hZ (hw _ (List.mem_of_getElem? (i := 20) rfl))) (by decide) (backOf (W := 0) (rmA l Z a0 hw [] b94 xb1 nb1 r1123 r2123 r3123 k1123 k2123 k3123 (0 : Int32) (0 : Int32) (0 : Int32) (0 : Int64) (0 : Int64) (0 : Int64) (0 : Int64) (0 : Int64) T123.heap n0 z165 f164 Q123f0 Q123f1 Q123f2 Q123f3 Q123f4 Q123f5 Q123f6 Q123f7 gn_b94 gn_r1123 gn_r2123 gn_r3123 ne132 ne141 ne150 Q123_ne_r1_r2 Q123_ne_r1_r3 Q123_ne_r2_r3 (Or.inl rfl)) hZ (hw _ (List.mem_of_getElem? (i := 22) rfl)) (hw _ (List.mem_of_getElem? (i := 5) rfl)) (by decide) (by decide)) q167a q167c (g := (mkF m 165 #[.val (.int p1), .val (.int p2), .val (.int p3), .val (.long p4), .second, .val (.long p5), .second, .val (.int xa1), .val (.int xa2), .val (.int xb1), .val (.int xb2), .val (.long na1), .second, .val (.long na2), .second, .val (.long nb1), .second, .val (.long nb2), .second, .val (.ref b12), .val (.ref b16), .val (.ref b22), .val (.ref b30), .val (.ref b40), .val (.ref b94), .unset, .unset, .unset] [(.long nb1), (.int xb1), (.ref b94)])) rfl (by rw [hml]; rfl) (Steps.refl _) (argsL := [(.int xb1), (.long nb1)]) (rest := []) (lenOf pd_1 rfl) rfl (by show 2 * 0 + _ ≤ _; exact Nat.le_of_eq rfl) (hb hby at_165) (fun _ _ => ⟨rfl, rfl, (by decide : 12 + 0 ≤ _), (by decide : 42 + 0 ≤ _)⟩)
  dsimp only [Pt.U, Pt.locs, Pt.cells, Pt.slots] at X167 l167 y167 z167 st167 hQ167
  subst l167 y167 z167
  obtain ⟨zz167, u0167, u1167, w0167, w1167, v0167, v1167, lm167, rfl, N167q, KQ167, Q167f0, Q167f1, Q167f2, Q167f3, Q167f4, Q167f5, Q167f6, Q167f7, Q167_rel⟩ := hQ167
  have N167 := Fr.app N123 N167q
  have f168 : Arv Z T167.heap b12 k12 .int (2 : Int32) [(.int (0 : Int32)), (.int (0 : Int32))] (.int (0 : Int32)) := f151.keep KQ167 (ninS ne95 (ninS ne124 (ninS ne133 (ninS ne142 nin0))))
  have f169 : Arv Z T167.heap b16 k16 .long (2 : Int32) [(.long (0 : Int64)), (.long (0 : Int64))] (.long (0 : Int64)) := f152.keep KQ167 (ninS ne96 (ninS ne125 (ninS ne134 (ninS ne143 nin0))))
  have f170 : Arv Z T167.heap b22 k22 .int (2 : Int32) [(.int (0 : Int32)), (.int (0 : Int32))] (.int (0 : Int32)) := f153.keep KQ167 (ninS ne97 (ninS ne126 (ninS ne135 (ninS ne144 nin0))))
  have f171 : Arv Z T167.heap b30 k30 .long (2 : Int32) [(.long (0 : Int64)), (.long (0 : Int64))] (.long (0 : Int64)) := f154.keep KQ167 (ninS ne98 (ninS ne127 (ninS ne136 (ninS ne145 nin0))))
  have f172 : Exa Z T167.heap b40 "querymill/regex/CodePointRuns" := f155.keep KQ167
  have f173 : Fld Z T167.heap b40 "querymill/regex/CodePointRuns" "size" "I" (.int zz87) := f156.keep KQ167 (ninS ne99 (ninS ne128 (ninS ne137 (ninS ne146 nin0))))
  have f174 : Fld Z T167.heap b40 "querymill/regex/CodePointRuns" "length" "J" (.long lm87) := f157.keep KQ167 (ninS ne99 (ninS ne128 (ninS ne137 (ninS ne146 nin0))))
  have f175 : Fld Z T167.heap b40 "querymill/regex/CodePointRuns" "sets" "[I" (.ref r156) := f158.keep KQ167 (ninS ne99 (ninS ne128 (ninS ne137 (ninS ne146 nin0))))
  have f176 : Fld Z T167.heap b40 "querymill/regex/CodePointRuns" "counts" "[J" (.ref r256) := f159.keep KQ167 (ninS ne99 (ninS ne128 (ninS ne137 (ninS ne146 nin0))))
  have f177 : Fld Z T167.heap b40 "querymill/regex/CodePointRuns" "starts" "[J" (.ref r356) := f160.keep KQ167 (ninS ne99 (ninS ne128 (ninS ne137 (ninS ne146 nin0))))
  have f178 : Arv Z T167.heap r156 k156 .int (4 : Int32) [(.int u087), (.int u187), (.int (0 : Int32)), (.int (0 : Int32))] (.int (0 : Int32)) := f161.keep KQ167 (ninS ne100 (ninS ne129 (ninS ne138 (ninS ne147 nin0))))
  have f179 : Arv Z T167.heap r256 k256 .long (4 : Int32) [(.long w087), (.long w187), (.long (0 : Int64)), (.long (0 : Int64))] (.long (0 : Int64)) := f162.keep KQ167 (ninS ne101 (ninS ne130 (ninS ne139 (ninS ne148 nin0))))
  have f180 : Arv Z T167.heap r356 k356 .long (4 : Int32) [(.long v087), (.long v187), (.long (0 : Int64)), (.long (0 : Int64))] (.long (0 : Int64)) := f163.keep KQ167 (ninS ne102 (ninS ne131 (ninS ne140 (ninS ne149 nin0))))
  have f181 : Exa Z T167.heap b94 "querymill/regex/CodePointRuns" := f164.keep KQ167
  have z182 : n0 ≤ T167.heap.size := Nat.le_trans z165 KQ167.1
  have sg183 : ∀ t, Steps p.tables e below (T167.setTop (mkF m 174 #[.val (.int p1), .val (.int p2), .val (.int p3), .val (.long p4), .second, .val (.long p5), .second, .val (.int xa1), .val (.int xa2), .val (.int xb1), .val (.int xb2), .val (.long na1), .second, .val (.long na2), .second, .val (.long nb1), .second, .val (.long nb2), .second, .val (.ref b12), .val (.ref b16), .val (.ref b22), .val (.ref b30), .val (.ref b40), .val (.ref b94), .unset, .unset, .unset] [(.long nb2), (.int xb2), (.ref b94)])) t → Steps p.tables e below (T167.setTop (mkF m 168 #[.val (.int p1), .val (.int p2), .val (.int p3), .val (.long p4), .second, .val (.long p5), .second, .val (.int xa1), .val (.int xa2), .val (.int xb1), .val (.int xb2), .val (.long na1), .second, .val (.long na2), .second, .val (.long nb1), .second, .val (.long nb2), .second, .val (.ref b12), .val (.ref b16), .val (.ref b22), .val (.ref b30), .val (.ref b40), .val (.ref b94), .unset, .unset, .unset] [])) t := by
    intro t k
    show Steps p.tables e below (T167.setTop (mkF m 168 #[.val (.int p1), .val (.int p2), .val (.int p3), .val (.long p4), .second, .val (.long p5), .second, .val (.int xa1), .val (.int xa2), .val (.int xb1), .val (.int xb2), .val (.long na1), .second, .val (.long na2), .second, .val (.long nb1), .second, .val (.long nb2), .second, .val (.ref b12), .val (.ref b16), .val (.ref b22), .val (.ref b30), .val (.ref b40), .val (.ref b94), .unset, .unset, .unset] [])) _
    refine XS.aload X167.here hx rfl (hb hby at_168) rfl rfl ?_
    show Steps p.tables e below (T167.setTop (mkF m 170 #[.val (.int p1), .val (.int p2), .val (.int p3), .val (.long p4), .second, .val (.long p5), .second, .val (.int xa1), .val (.int xa2), .val (.int xb1), .val (.int xb2), .val (.long na1), .second, .val (.long na2), .second, .val (.long nb1), .second, .val (.long nb2), .second, .val (.ref b12), .val (.ref b16), .val (.ref b22), .val (.ref b30), .val (.ref b40), .val (.ref b94), .unset, .unset, .unset] [(.ref b94)])) _
    refine XS.iload X167.here hx rfl (hb hby at_170) rfl ?_
    show Steps p.tables e below (T167.setTop (mkF m 172 #[.val (.int p1), .val (.int p2), .val (.int p3), .val (.long p4), .second, .val (.long p5), .second, .val (.int xa1), .val (.int xa2), .val (.int xb1), .val (.int xb2), .val (.long na1), .second, .val (.long na2), .second, .val (.long nb1), .second, .val (.long nb2), .second, .val (.ref b12), .val (.ref b16), .val (.ref b22), .val (.ref b30), .val (.ref b40), .val (.ref b94), .unset, .unset, .unset] [(.int xb2), (.ref b94)])) _
    refine XS.lload X167.here hx rfl (hb hby at_172) rfl ?_
    exact k
  obtain ⟨cq184, kq184, q184a, q184b, q184c⟩ := isOf hZ rfl f181
  obtain ⟨_, _, ⟨T184, L184, k184, n184⟩, -, X184, ⟨Lc184, hQ184, l184, y184, z184⟩, st184⟩ := X167.virtualBack hx (y := (⟨"querymill/regex/CodePointRuns", "add", "(IJ)V"⟩ : MethodName)) (z := (⟨"querymill/regex/CodePointRuns", "add", "(IJ)V"⟩ : MethodName)) hown (mvT hZ (hw _ (List.mem_of_getElem? (i := 18) rfl))) (mvT hZ (hw _ (List.mem_of_getElem? (i := 19) rfl))) (notFace_of_selects (args := #[]) (mvT hZ (hw _ (List.mem_of_getElem? (i := 21) rfl)))) (mvT hZ (hw _ (List.mem_of_getElem? (i := 21) rfl))) (mvT hZ (hw _ (List.mem_of_getElem? (i := 20) rfl))) (by decide) (backOf (W := 0) (rmA l Z a0 hw [] b94 xb2 nb2 r1123 r2123 r3123 k1123 k2123 k3123 zz167 u0167 u1167 w0167 w1167 v0167 v1167 lm167 T167.heap n0 z182 f181 Q167f0 Q167f1 Q167f2 Q167f3 Q167f4 Q167f5 Q167f6 Q167f7 gn_b94 gn_r1123 gn_r2123 gn_r3123 ne132 ne141 ne150 Q123_ne_r1_r2 Q123_ne_r1_r3 Q123_ne_r2_r3 (Add.size Q167_rel)) hZ (hw _ (List.mem_of_getElem? (i := 22) rfl)) (hw _ (List.mem_of_getElem? (i := 5) rfl)) (by decide) (by decide)) q184a q184c (g := (mkF m 174 #[.val (.int p1), .val (.int p2), .val (.int p3), .val (.long p4), .second, .val (.long p5), .second, .val (.int xa1), .val (.int xa2), .val (.int xb1), .val (.int xb2), .val (.long na1), .second, .val (.long na2), .second, .val (.long nb1), .second, .val (.long nb2), .second, .val (.ref b12), .val (.ref b16), .val (.ref b22), .val (.ref b30), .val (.ref b40), .val (.ref b94), .unset, .unset, .unset] [(.long nb2), (.int xb2), (.ref b94)])) rfl (by rw [hml]; rfl) (Steps.refl _) (argsL := [(.int xb2), (.long nb2)]) (rest := []) (lenOf pd_1 rfl) rfl (by show 2 * 0 + _ ≤ _; exact Nat.le_of_eq rfl) (hb hby at_174) (fun _ _ => ⟨rfl, rfl, (by decide : 12 + 0 ≤ _), (by decide : 42 + 0 ≤ _)⟩)
  dsimp only [Pt.U, Pt.locs, Pt.cells, Pt.slots] at X184 l184 y184 z184 st184 hQ184
  subst l184 y184 z184
  obtain ⟨zz184, u0184, u1184, w0184, w1184, v0184, v1184, lm184, rfl, N184q, KQ184, Q184f0, Q184f1, Q184f2, Q184f3, Q184f4, Q184f5, Q184f6, Q184f7, Q184_rel⟩ := hQ184
  have N184 := Fr.app N167 N184q
  have f185 : Arv Z T184.heap b12 k12 .int (2 : Int32) [(.int (0 : Int32)), (.int (0 : Int32))] (.int (0 : Int32)) := f168.keep KQ184 (ninS ne95 (ninS ne124 (ninS ne133 (ninS ne142 nin0))))
  have f186 : Arv Z T184.heap b16 k16 .long (2 : Int32) [(.long (0 : Int64)), (.long (0 : Int64))] (.long (0 : Int64)) := f169.keep KQ184 (ninS ne96 (ninS ne125 (ninS ne134 (ninS ne143 nin0))))
  have f187 : Arv Z T184.heap b22 k22 .int (2 : Int32) [(.int (0 : Int32)), (.int (0 : Int32))] (.int (0 : Int32)) := f170.keep KQ184 (ninS ne97 (ninS ne126 (ninS ne135 (ninS ne144 nin0))))
  have f188 : Arv Z T184.heap b30 k30 .long (2 : Int32) [(.long (0 : Int64)), (.long (0 : Int64))] (.long (0 : Int64)) := f171.keep KQ184 (ninS ne98 (ninS ne127 (ninS ne136 (ninS ne145 nin0))))
  have f189 : Exa Z T184.heap b40 "querymill/regex/CodePointRuns" := f172.keep KQ184
  have f190 : Fld Z T184.heap b40 "querymill/regex/CodePointRuns" "size" "I" (.int zz87) := f173.keep KQ184 (ninS ne99 (ninS ne128 (ninS ne137 (ninS ne146 nin0))))
  have f191 : Fld Z T184.heap b40 "querymill/regex/CodePointRuns" "length" "J" (.long lm87) := f174.keep KQ184 (ninS ne99 (ninS ne128 (ninS ne137 (ninS ne146 nin0))))
  have f192 : Fld Z T184.heap b40 "querymill/regex/CodePointRuns" "sets" "[I" (.ref r156) := f175.keep KQ184 (ninS ne99 (ninS ne128 (ninS ne137 (ninS ne146 nin0))))
  have f193 : Fld Z T184.heap b40 "querymill/regex/CodePointRuns" "counts" "[J" (.ref r256) := f176.keep KQ184 (ninS ne99 (ninS ne128 (ninS ne137 (ninS ne146 nin0))))
  have f194 : Fld Z T184.heap b40 "querymill/regex/CodePointRuns" "starts" "[J" (.ref r356) := f177.keep KQ184 (ninS ne99 (ninS ne128 (ninS ne137 (ninS ne146 nin0))))
  have f195 : Arv Z T184.heap r156 k156 .int (4 : Int32) [(.int u087), (.int u187), (.int (0 : Int32)), (.int (0 : Int32))] (.int (0 : Int32)) := f178.keep KQ184 (ninS ne100 (ninS ne129 (ninS ne138 (ninS ne147 nin0))))
  have f196 : Arv Z T184.heap r256 k256 .long (4 : Int32) [(.long w087), (.long w187), (.long (0 : Int64)), (.long (0 : Int64))] (.long (0 : Int64)) := f179.keep KQ184 (ninS ne101 (ninS ne130 (ninS ne139 (ninS ne148 nin0))))
  have f197 : Arv Z T184.heap r356 k356 .long (4 : Int32) [(.long v087), (.long v187), (.long (0 : Int64)), (.long (0 : Int64))] (.long (0 : Int64)) := f180.keep KQ184 (ninS ne102 (ninS ne131 (ninS ne140 (ninS ne149 nin0))))
  have f198 : Exa Z T184.heap b94 "querymill/regex/CodePointRuns" := f181.keep KQ184
  have z199 : n0 ≤ T184.heap.size := Nat.le_trans z182 KQ184.1
  obtain ⟨lo200, X184, N184⟩ := own_abs X184 N184
  have sg201 : ∀ t, Steps p.tables e below (T184.setTop (mkF m 189 #[.val (.int p1), .val (.int p2), .val (.int p3), .val (.long p4), .second, .val (.long p5), .second, .val (.int xa1), .val (.int xa2), .val (.int xb1), .val (.int xb2), .val (.long na1), .second, .val (.long na2), .second, .val (.long nb1), .second, .val (.long nb2), .second, .val (.ref b12), .val (.ref b16), .val (.ref b22), .val (.ref b30), .val (.ref b40), .val (.ref b94), .unset, .unset, .unset] [(.ref b16), (.ref b12), (.long na2), (.int xa2), (.long na1), (.int xa1)])) t → Steps p.tables e below (T184.setTop (mkF m 177 #[.val (.int p1), .val (.int p2), .val (.int p3), .val (.long p4), .second, .val (.long p5), .second, .val (.int xa1), .val (.int xa2), .val (.int xb1), .val (.int xb2), .val (.long na1), .second, .val (.long na2), .second, .val (.long nb1), .second, .val (.long nb2), .second, .val (.ref b12), .val (.ref b16), .val (.ref b22), .val (.ref b30), .val (.ref b40), .val (.ref b94), .unset, .unset, .unset] [])) t := by
    intro t k
    show Steps p.tables e below (T184.setTop (mkF m 177 #[.val (.int p1), .val (.int p2), .val (.int p3), .val (.long p4), .second, .val (.long p5), .second, .val (.int xa1), .val (.int xa2), .val (.int xb1), .val (.int xb2), .val (.long na1), .second, .val (.long na2), .second, .val (.long nb1), .second, .val (.long nb2), .second, .val (.ref b12), .val (.ref b16), .val (.ref b22), .val (.ref b30), .val (.ref b40), .val (.ref b94), .unset, .unset, .unset] [])) _
    refine XS.iload X184.here hx rfl (hb hby at_177) rfl ?_
    show Steps p.tables e below (T184.setTop (mkF m 179 #[.val (.int p1), .val (.int p2), .val (.int p3), .val (.long p4), .second, .val (.long p5), .second, .val (.int xa1), .val (.int xa2), .val (.int xb1), .val (.int xb2), .val (.long na1), .second, .val (.long na2), .second, .val (.long nb1), .second, .val (.long nb2), .second, .val (.ref b12), .val (.ref b16), .val (.ref b22), .val (.ref b30), .val (.ref b40), .val (.ref b94), .unset, .unset, .unset] [(.int xa1)])) _
    refine XS.lload X184.here hx rfl (hb hby at_179) rfl ?_
    show Steps p.tables e below (T184.setTop (mkF m 181 #[.val (.int p1), .val (.int p2), .val (.int p3), .val (.long p4), .second, .val (.long p5), .second, .val (.int xa1), .val (.int xa2), .val (.int xb1), .val (.int xb2), .val (.long na1), .second, .val (.long na2), .second, .val (.long nb1), .second, .val (.long nb2), .second, .val (.ref b12), .val (.ref b16), .val (.ref b22), .val (.ref b30), .val (.ref b40), .val (.ref b94), .unset, .unset, .unset] [(.long na1), (.int xa1)])) _
    refine XS.iload X184.here hx rfl (hb hby at_181) rfl ?_
    show Steps p.tables e below (T184.setTop (mkF m 183 #[.val (.int p1), .val (.int p2), .val (.int p3), .val (.long p4), .second, .val (.long p5), .second, .val (.int xa1), .val (.int xa2), .val (.int xb1), .val (.int xb2), .val (.long na1), .second, .val (.long na2), .second, .val (.long nb1), .second, .val (.long nb2), .second, .val (.ref b12), .val (.ref b16), .val (.ref b22), .val (.ref b30), .val (.ref b40), .val (.ref b94), .unset, .unset, .unset] [(.int xa2), (.long na1), (.int xa1)])) _
    refine XS.lload X184.here hx rfl (hb hby at_183) rfl ?_
    show Steps p.tables e below (T184.setTop (mkF m 185 #[.val (.int p1), .val (.int p2), .val (.int p3), .val (.long p4), .second, .val (.long p5), .second, .val (.int xa1), .val (.int xa2), .val (.int xb1), .val (.int xb2), .val (.long na1), .second, .val (.long na2), .second, .val (.long nb1), .second, .val (.long nb2), .second, .val (.ref b12), .val (.ref b16), .val (.ref b22), .val (.ref b30), .val (.ref b40), .val (.ref b94), .unset, .unset, .unset] [(.long na2), (.int xa2), (.long na1), (.int xa1)])) _
    refine XS.aload X184.here hx rfl (hb hby at_185) rfl rfl ?_
    show Steps p.tables e below (T184.setTop (mkF m 187 #[.val (.int p1), .val (.int p2), .val (.int p3), .val (.long p4), .second, .val (.long p5), .second, .val (.int xa1), .val (.int xa2), .val (.int xb1), .val (.int xb2), .val (.long na1), .second, .val (.long na2), .second, .val (.long nb1), .second, .val (.long nb2), .second, .val (.ref b12), .val (.ref b16), .val (.ref b22), .val (.ref b30), .val (.ref b40), .val (.ref b94), .unset, .unset, .unset] [(.ref b12), (.long na2), (.int xa2), (.long na1), (.int xa1)])) _
    refine XS.aload X184.here hx rfl (hb hby at_187) rfl rfl ?_
    exact k
  obtain ⟨_, _, ⟨T202, L202, k202, n202⟩, -, X202, ⟨Lc202, hQ202, l202, y202, z202⟩, st202⟩ := Jvm.LawKit.callS X184 hx (y := (⟨"querymill/regex/CodePointRunsSameAsPinLaw", "canon", "(IJIJ[I[J)I"⟩ : MethodName)) hown (mvT hZ (hw _ (List.mem_of_getElem? (i := 27) rfl))) (mvT hZ (hw _ (List.mem_of_getElem? (i := 28) rfl))) (mvT hZ (hw _ (List.mem_of_getElem? (i := 29) rfl))) (mvT hZ (hw _ (List.mem_of_getElem? (i := 30) rfl))) (by decide) (backOf (W := 0) (rmC l Z a0 hw [] xa1 na1 xa2 na2 b12 b16 k12 k16 T184.heap n0 z199 f185 f186 gn_b12 gn_b16 ne17) hZ (hw _ (List.mem_of_getElem? (i := 30) rfl)) (hw _ (List.mem_of_getElem? (i := 29) rfl)) (by decide) (by decide)) (g := (mkF m 189 #[.val (.int p1), .val (.int p2), .val (.int p3), .val (.long p4), .second, .val (.long p5), .second, .val (.int xa1), .val (.int xa2), .val (.int xb1), .val (.int xb2), .val (.long na1), .second, .val (.long na2), .second, .val (.long nb1), .second, .val (.long nb2), .second, .val (.ref b12), .val (.ref b16), .val (.ref b22), .val (.ref b30), .val (.ref b40), .val (.ref b94), .unset, .unset, .unset] [(.ref b16), (.ref b12), (.long na2), (.int xa2), (.long na1), (.int xa1)])) rfl (by rw [hml]; rfl) (argsL := [(.int xa1), (.long na1), (.int xa2), (.long na2), (.ref b12), (.ref b16)]) (rest := []) (lenOf pd_2 rfl) rfl (by show 2 * 0 + _ ≤ _; exact Nat.le_of_eq rfl) (hb hby at_189) (fun _ _ => ⟨rfl, rfl, (by decide : 12 + 0 ≤ _), (by decide : 42 + 0 ≤ _)⟩)
  dsimp only [Pt.U, Pt.locs, Pt.cells, Pt.slots] at X202 l202 y202 z202 st202 hQ202
  subst l202 y202 z202
  obtain ⟨sy202, u0202, u1202, w0202, w1202, rfl, N202q, KQ202, Q202f0, Q202f1, Q202_rel⟩ := hQ202
  have N202 := Fr.app N184 N202q
  have f203 : Arv Z T202.heap b22 k22 .int (2 : Int32) [(.int (0 : Int32)), (.int (0 : Int32))] (.int (0 : Int32)) := f187.keep KQ202 (ninS (Ne.symm ne23) (ninS (Ne.symm ne24) nin0))
  have f204 : Arv Z T202.heap b30 k30 .long (2 : Int32) [(.long (0 : Int64)), (.long (0 : Int64))] (.long (0 : Int64)) := f188.keep KQ202 (ninS (Ne.symm ne31) (ninS (Ne.symm ne32) nin0))
  have f205 : Exa Z T202.heap b40 "querymill/regex/CodePointRuns" := f189.keep KQ202
  have f206 : Fld Z T202.heap b40 "querymill/regex/CodePointRuns" "size" "I" (.int zz87) := f190.keep KQ202 (ninS (Ne.symm ne41) (ninS (Ne.symm ne42) nin0))
  have f207 : Fld Z T202.heap b40 "querymill/regex/CodePointRuns" "length" "J" (.long lm87) := f191.keep KQ202 (ninS (Ne.symm ne41) (ninS (Ne.symm ne42) nin0))
  have f208 : Fld Z T202.heap b40 "querymill/regex/CodePointRuns" "sets" "[I" (.ref r156) := f192.keep KQ202 (ninS (Ne.symm ne41) (ninS (Ne.symm ne42) nin0))
  have f209 : Fld Z T202.heap b40 "querymill/regex/CodePointRuns" "counts" "[J" (.ref r256) := f193.keep KQ202 (ninS (Ne.symm ne41) (ninS (Ne.symm ne42) nin0))
  have f210 : Fld Z T202.heap b40 "querymill/regex/CodePointRuns" "starts" "[J" (.ref r356) := f194.keep KQ202 (ninS (Ne.symm ne41) (ninS (Ne.symm ne42) nin0))
  have f211 : Arv Z T202.heap r156 k156 .int (4 : Int32) [(.int u087), (.int u187), (.int (0 : Int32)), (.int (0 : Int32))] (.int (0 : Int32)) := f195.keep KQ202 (ninS (Ne.symm ne57) (ninS (Ne.symm ne58) nin0))
  have f212 : Arv Z T202.heap r256 k256 .long (4 : Int32) [(.long w087), (.long w187), (.long (0 : Int64)), (.long (0 : Int64))] (.long (0 : Int64)) := f196.keep KQ202 (ninS (Ne.symm ne62) (ninS (Ne.symm ne63) nin0))
  have f213 : Arv Z T202.heap r356 k356 .long (4 : Int32) [(.long v087), (.long v187), (.long (0 : Int64)), (.long (0 : Int64))] (.long (0 : Int64)) := f197.keep KQ202 (ninS (Ne.symm ne67) (ninS (Ne.symm ne68) nin0))
  have f214 : Exa Z T202.heap b94 "querymill/regex/CodePointRuns" := f198.keep KQ202
  have f215 : Fld Z T202.heap b94 "querymill/regex/CodePointRuns" "size" "I" (.int zz184) := Q184f0.keep KQ202 (ninS (Ne.symm ne95) (ninS (Ne.symm ne96) nin0))
  have f216 : Fld Z T202.heap b94 "querymill/regex/CodePointRuns" "length" "J" (.long lm184) := Q184f1.keep KQ202 (ninS (Ne.symm ne95) (ninS (Ne.symm ne96) nin0))
  have f217 : Fld Z T202.heap b94 "querymill/regex/CodePointRuns" "sets" "[I" (.ref r1123) := Q184f2.keep KQ202 (ninS (Ne.symm ne95) (ninS (Ne.symm ne96) nin0))
  have f218 : Fld Z T202.heap b94 "querymill/regex/CodePointRuns" "counts" "[J" (.ref r2123) := Q184f3.keep KQ202 (ninS (Ne.symm ne95) (ninS (Ne.symm ne96) nin0))
  have f219 : Fld Z T202.heap b94 "querymill/regex/CodePointRuns" "starts" "[J" (.ref r3123) := Q184f4.keep KQ202 (ninS (Ne.symm ne95) (ninS (Ne.symm ne96) nin0))
  have f220 : Arv Z T202.heap r1123 k1123 .int (4 : Int32) [(.int u0184), (.int u1184), (.int (0 : Int32)), (.int (0 : Int32))] (.int (0 : Int32)) := Q184f5.keep KQ202 (ninS (Ne.symm ne124) (ninS (Ne.symm ne125) nin0))
  have f221 : Arv Z T202.heap r2123 k2123 .long (4 : Int32) [(.long w0184), (.long w1184), (.long (0 : Int64)), (.long (0 : Int64))] (.long (0 : Int64)) := Q184f6.keep KQ202 (ninS (Ne.symm ne133) (ninS (Ne.symm ne134) nin0))
  have f222 : Arv Z T202.heap r3123 k3123 .long (4 : Int32) [(.long v0184), (.long v1184), (.long (0 : Int64)), (.long (0 : Int64))] (.long (0 : Int64)) := Q184f7.keep KQ202 (ninS (Ne.symm ne142) (ninS (Ne.symm ne143) nin0))
  have z223 : n0 ≤ T202.heap.size := Nat.le_trans z199 KQ202.1
  have sg224 : ∀ t, Steps p.tables e below (T202.setTop (mkF m 206 #[.val (.int p1), .val (.int p2), .val (.int p3), .val (.long p4), .second, .val (.long p5), .second, .val (.int xa1), .val (.int xa2), .val (.int xb1), .val (.int xb2), .val (.long na1), .second, .val (.long na2), .second, .val (.long nb1), .second, .val (.long nb2), .second, .val (.ref b12), .val (.ref b16), .val (.ref b22), .val (.ref b30), .val (.ref b40), .val (.ref b94), .val (.int sy202), .unset, .unset] [(.ref b30), (.ref b22), (.long nb2), (.int xb2), (.long nb1), (.int xb1)])) t → Steps p.tables e below (T202.setTop (mkF m 192 #[.val (.int p1), .val (.int p2), .val (.int p3), .val (.long p4), .second, .val (.long p5), .second, .val (.int xa1), .val (.int xa2), .val (.int xb1), .val (.int xb2), .val (.long na1), .second, .val (.long na2), .second, .val (.long nb1), .second, .val (.long nb2), .second, .val (.ref b12), .val (.ref b16), .val (.ref b22), .val (.ref b30), .val (.ref b40), .val (.ref b94), .unset, .unset, .unset] [(.int sy202)])) t := by
    intro t k
    show Steps p.tables e below (T202.setTop (mkF m 192 #[.val (.int p1), .val (.int p2), .val (.int p3), .val (.long p4), .second, .val (.long p5), .second, .val (.int xa1), .val (.int xa2), .val (.int xb1), .val (.int xb2), .val (.long na1), .second, .val (.long na2), .second, .val (.long nb1), .second, .val (.long nb2), .second, .val (.ref b12), .val (.ref b16), .val (.ref b22), .val (.ref b30), .val (.ref b40), .val (.ref b94), .unset, .unset, .unset] [(.int sy202)])) _
    refine XS.istore X202.here hx rfl (hb hby at_192) rfl (l' := #[.val (.int p1), .val (.int p2), .val (.int p3), .val (.long p4), .second, .val (.long p5), .second, .val (.int xa1), .val (.int xa2), .val (.int xb1), .val (.int xb2), .val (.long na1), .second, .val (.long na2), .second, .val (.long nb1), .second, .val (.long nb2), .second, .val (.ref b12), .val (.ref b16), .val (.ref b22), .val (.ref b30), .val (.ref b40), .val (.ref b94), .val (.int sy202), .unset, .unset]) rfl ?_
    show Steps p.tables e below (T202.setTop (mkF m 194 #[.val (.int p1), .val (.int p2), .val (.int p3), .val (.long p4), .second, .val (.long p5), .second, .val (.int xa1), .val (.int xa2), .val (.int xb1), .val (.int xb2), .val (.long na1), .second, .val (.long na2), .second, .val (.long nb1), .second, .val (.long nb2), .second, .val (.ref b12), .val (.ref b16), .val (.ref b22), .val (.ref b30), .val (.ref b40), .val (.ref b94), .val (.int sy202), .unset, .unset] [])) _
    refine XS.iload X202.here hx rfl (hb hby at_194) rfl ?_
    show Steps p.tables e below (T202.setTop (mkF m 196 #[.val (.int p1), .val (.int p2), .val (.int p3), .val (.long p4), .second, .val (.long p5), .second, .val (.int xa1), .val (.int xa2), .val (.int xb1), .val (.int xb2), .val (.long na1), .second, .val (.long na2), .second, .val (.long nb1), .second, .val (.long nb2), .second, .val (.ref b12), .val (.ref b16), .val (.ref b22), .val (.ref b30), .val (.ref b40), .val (.ref b94), .val (.int sy202), .unset, .unset] [(.int xb1)])) _
    refine XS.lload X202.here hx rfl (hb hby at_196) rfl ?_
    show Steps p.tables e below (T202.setTop (mkF m 198 #[.val (.int p1), .val (.int p2), .val (.int p3), .val (.long p4), .second, .val (.long p5), .second, .val (.int xa1), .val (.int xa2), .val (.int xb1), .val (.int xb2), .val (.long na1), .second, .val (.long na2), .second, .val (.long nb1), .second, .val (.long nb2), .second, .val (.ref b12), .val (.ref b16), .val (.ref b22), .val (.ref b30), .val (.ref b40), .val (.ref b94), .val (.int sy202), .unset, .unset] [(.long nb1), (.int xb1)])) _
    refine XS.iload X202.here hx rfl (hb hby at_198) rfl ?_
    show Steps p.tables e below (T202.setTop (mkF m 200 #[.val (.int p1), .val (.int p2), .val (.int p3), .val (.long p4), .second, .val (.long p5), .second, .val (.int xa1), .val (.int xa2), .val (.int xb1), .val (.int xb2), .val (.long na1), .second, .val (.long na2), .second, .val (.long nb1), .second, .val (.long nb2), .second, .val (.ref b12), .val (.ref b16), .val (.ref b22), .val (.ref b30), .val (.ref b40), .val (.ref b94), .val (.int sy202), .unset, .unset] [(.int xb2), (.long nb1), (.int xb1)])) _
    refine XS.lload X202.here hx rfl (hb hby at_200) rfl ?_
    show Steps p.tables e below (T202.setTop (mkF m 202 #[.val (.int p1), .val (.int p2), .val (.int p3), .val (.long p4), .second, .val (.long p5), .second, .val (.int xa1), .val (.int xa2), .val (.int xb1), .val (.int xb2), .val (.long na1), .second, .val (.long na2), .second, .val (.long nb1), .second, .val (.long nb2), .second, .val (.ref b12), .val (.ref b16), .val (.ref b22), .val (.ref b30), .val (.ref b40), .val (.ref b94), .val (.int sy202), .unset, .unset] [(.long nb2), (.int xb2), (.long nb1), (.int xb1)])) _
    refine XS.aload X202.here hx rfl (hb hby at_202) rfl rfl ?_
    show Steps p.tables e below (T202.setTop (mkF m 204 #[.val (.int p1), .val (.int p2), .val (.int p3), .val (.long p4), .second, .val (.long p5), .second, .val (.int xa1), .val (.int xa2), .val (.int xb1), .val (.int xb2), .val (.long na1), .second, .val (.long na2), .second, .val (.long nb1), .second, .val (.long nb2), .second, .val (.ref b12), .val (.ref b16), .val (.ref b22), .val (.ref b30), .val (.ref b40), .val (.ref b94), .val (.int sy202), .unset, .unset] [(.ref b22), (.long nb2), (.int xb2), (.long nb1), (.int xb1)])) _
    refine XS.aload X202.here hx rfl (hb hby at_204) rfl rfl ?_
    exact k
  obtain ⟨_, _, ⟨T225, L225, k225, n225⟩, -, X225, ⟨Lc225, hQ225, l225, y225, z225⟩, st225⟩ := Jvm.LawKit.callS X202 hx (y := (⟨"querymill/regex/CodePointRunsSameAsPinLaw", "canon", "(IJIJ[I[J)I"⟩ : MethodName)) hown (mvT hZ (hw _ (List.mem_of_getElem? (i := 27) rfl))) (mvT hZ (hw _ (List.mem_of_getElem? (i := 28) rfl))) (mvT hZ (hw _ (List.mem_of_getElem? (i := 29) rfl))) (mvT hZ (hw _ (List.mem_of_getElem? (i := 30) rfl))) (by decide) (backOf (W := 0) (rmC l Z a0 hw [] xb1 nb1 xb2 nb2 b22 b30 k22 k30 T202.heap n0 z223 f203 f204 gn_b22 gn_b30 ne33) hZ (hw _ (List.mem_of_getElem? (i := 30) rfl)) (hw _ (List.mem_of_getElem? (i := 29) rfl)) (by decide) (by decide)) (g := (mkF m 206 #[.val (.int p1), .val (.int p2), .val (.int p3), .val (.long p4), .second, .val (.long p5), .second, .val (.int xa1), .val (.int xa2), .val (.int xb1), .val (.int xb2), .val (.long na1), .second, .val (.long na2), .second, .val (.long nb1), .second, .val (.long nb2), .second, .val (.ref b12), .val (.ref b16), .val (.ref b22), .val (.ref b30), .val (.ref b40), .val (.ref b94), .val (.int sy202), .unset, .unset] [(.ref b30), (.ref b22), (.long nb2), (.int xb2), (.long nb1), (.int xb1)])) rfl (by rw [hml]; rfl) (argsL := [(.int xb1), (.long nb1), (.int xb2), (.long nb2), (.ref b22), (.ref b30)]) (rest := []) (lenOf pd_2 rfl) rfl (by show 2 * 0 + _ ≤ _; exact Nat.le_of_eq rfl) (hb hby at_206) (fun _ _ => ⟨rfl, rfl, (by decide : 12 + 0 ≤ _), (by decide : 42 + 0 ≤ _)⟩)
  dsimp only [Pt.U, Pt.locs, Pt.cells, Pt.slots] at X225 l225 y225 z225 st225 hQ225
  subst l225 y225 z225
  obtain ⟨sy225, u0225, u1225, w0225, w1225, rfl, N225q, KQ225, Q225f0, Q225f1, Q225_rel⟩ := hQ225
  have N225 := Fr.app N202 N225q
  have f226 : Exa Z T225.heap b40 "querymill/regex/CodePointRuns" := f205.keep KQ225
  have f227 : Fld Z T225.heap b40 "querymill/regex/CodePointRuns" "size" "I" (.int zz87) := f206.keep KQ225 (ninS (Ne.symm ne43) (ninS (Ne.symm ne44) nin0))
  have f228 : Fld Z T225.heap b40 "querymill/regex/CodePointRuns" "length" "J" (.long lm87) := f207.keep KQ225 (ninS (Ne.symm ne43) (ninS (Ne.symm ne44) nin0))
  have f229 : Fld Z T225.heap b40 "querymill/regex/CodePointRuns" "sets" "[I" (.ref r156) := f208.keep KQ225 (ninS (Ne.symm ne43) (ninS (Ne.symm ne44) nin0))
  have f230 : Fld Z T225.heap b40 "querymill/regex/CodePointRuns" "counts" "[J" (.ref r256) := f209.keep KQ225 (ninS (Ne.symm ne43) (ninS (Ne.symm ne44) nin0))
  have f231 : Fld Z T225.heap b40 "querymill/regex/CodePointRuns" "starts" "[J" (.ref r356) := f210.keep KQ225 (ninS (Ne.symm ne43) (ninS (Ne.symm ne44) nin0))
  have f232 : Arv Z T225.heap r156 k156 .int (4 : Int32) [(.int u087), (.int u187), (.int (0 : Int32)), (.int (0 : Int32))] (.int (0 : Int32)) := f211.keep KQ225 (ninS (Ne.symm ne59) (ninS (Ne.symm ne60) nin0))
  have f233 : Arv Z T225.heap r256 k256 .long (4 : Int32) [(.long w087), (.long w187), (.long (0 : Int64)), (.long (0 : Int64))] (.long (0 : Int64)) := f212.keep KQ225 (ninS (Ne.symm ne64) (ninS (Ne.symm ne65) nin0))
  have f234 : Arv Z T225.heap r356 k356 .long (4 : Int32) [(.long v087), (.long v187), (.long (0 : Int64)), (.long (0 : Int64))] (.long (0 : Int64)) := f213.keep KQ225 (ninS (Ne.symm ne69) (ninS (Ne.symm ne70) nin0))
  have f235 : Exa Z T225.heap b94 "querymill/regex/CodePointRuns" := f214.keep KQ225
  have f236 : Fld Z T225.heap b94 "querymill/regex/CodePointRuns" "size" "I" (.int zz184) := f215.keep KQ225 (ninS (Ne.symm ne97) (ninS (Ne.symm ne98) nin0))
  have f237 : Fld Z T225.heap b94 "querymill/regex/CodePointRuns" "length" "J" (.long lm184) := f216.keep KQ225 (ninS (Ne.symm ne97) (ninS (Ne.symm ne98) nin0))
  have f238 : Fld Z T225.heap b94 "querymill/regex/CodePointRuns" "sets" "[I" (.ref r1123) := f217.keep KQ225 (ninS (Ne.symm ne97) (ninS (Ne.symm ne98) nin0))
  have f239 : Fld Z T225.heap b94 "querymill/regex/CodePointRuns" "counts" "[J" (.ref r2123) := f218.keep KQ225 (ninS (Ne.symm ne97) (ninS (Ne.symm ne98) nin0))
  have f240 : Fld Z T225.heap b94 "querymill/regex/CodePointRuns" "starts" "[J" (.ref r3123) := f219.keep KQ225 (ninS (Ne.symm ne97) (ninS (Ne.symm ne98) nin0))
  have f241 : Arv Z T225.heap r1123 k1123 .int (4 : Int32) [(.int u0184), (.int u1184), (.int (0 : Int32)), (.int (0 : Int32))] (.int (0 : Int32)) := f220.keep KQ225 (ninS (Ne.symm ne126) (ninS (Ne.symm ne127) nin0))
  have f242 : Arv Z T225.heap r2123 k2123 .long (4 : Int32) [(.long w0184), (.long w1184), (.long (0 : Int64)), (.long (0 : Int64))] (.long (0 : Int64)) := f221.keep KQ225 (ninS (Ne.symm ne135) (ninS (Ne.symm ne136) nin0))
  have f243 : Arv Z T225.heap r3123 k3123 .long (4 : Int32) [(.long v0184), (.long v1184), (.long (0 : Int64)), (.long (0 : Int64))] (.long (0 : Int64)) := f222.keep KQ225 (ninS (Ne.symm ne144) (ninS (Ne.symm ne145) nin0))
  have f244 : Arv Z T225.heap b12 k12 .int (2 : Int32) [(.int u0202), (.int u1202)] (.int (0 : Int32)) := Q202f0.keep KQ225 (ninS ne23 (ninS ne31 nin0))
  have f245 : Arv Z T225.heap b16 k16 .long (2 : Int32) [(.long w0202), (.long w1202)] (.long (0 : Int64)) := Q202f1.keep KQ225 (ninS ne24 (ninS ne32 nin0))
  have z246 : n0 ≤ T225.heap.size := Nat.le_trans z223 KQ225.1
  have sg247 : ∀ t, Steps p.tables e below (T225.setTop (mkF m 215 #[.val (.int p1), .val (.int p2), .val (.int p3), .val (.long p4), .second, .val (.long p5), .second, .val (.int xa1), .val (.int xa2), .val (.int xb1), .val (.int xb2), .val (.long na1), .second, .val (.long na2), .second, .val (.long nb1), .second, .val (.long nb2), .second, .val (.ref b12), .val (.ref b16), .val (.ref b22), .val (.ref b30), .val (.ref b40), .val (.ref b94), .val (.int sy202), .val (.int sy225), .unset] [(.int sy225), (.int sy202)])) t → Steps p.tables e below (T225.setTop (mkF m 209 #[.val (.int p1), .val (.int p2), .val (.int p3), .val (.long p4), .second, .val (.long p5), .second, .val (.int xa1), .val (.int xa2), .val (.int xb1), .val (.int xb2), .val (.long na1), .second, .val (.long na2), .second, .val (.long nb1), .second, .val (.long nb2), .second, .val (.ref b12), .val (.ref b16), .val (.ref b22), .val (.ref b30), .val (.ref b40), .val (.ref b94), .val (.int sy202), .unset, .unset] [(.int sy225)])) t := by
    intro t k
    show Steps p.tables e below (T225.setTop (mkF m 209 #[.val (.int p1), .val (.int p2), .val (.int p3), .val (.long p4), .second, .val (.long p5), .second, .val (.int xa1), .val (.int xa2), .val (.int xb1), .val (.int xb2), .val (.long na1), .second, .val (.long na2), .second, .val (.long nb1), .second, .val (.long nb2), .second, .val (.ref b12), .val (.ref b16), .val (.ref b22), .val (.ref b30), .val (.ref b40), .val (.ref b94), .val (.int sy202), .unset, .unset] [(.int sy225)])) _
    refine XS.istore X225.here hx rfl (hb hby at_209) rfl (l' := #[.val (.int p1), .val (.int p2), .val (.int p3), .val (.long p4), .second, .val (.long p5), .second, .val (.int xa1), .val (.int xa2), .val (.int xb1), .val (.int xb2), .val (.long na1), .second, .val (.long na2), .second, .val (.long nb1), .second, .val (.long nb2), .second, .val (.ref b12), .val (.ref b16), .val (.ref b22), .val (.ref b30), .val (.ref b40), .val (.ref b94), .val (.int sy202), .val (.int sy225), .unset]) rfl ?_
    show Steps p.tables e below (T225.setTop (mkF m 211 #[.val (.int p1), .val (.int p2), .val (.int p3), .val (.long p4), .second, .val (.long p5), .second, .val (.int xa1), .val (.int xa2), .val (.int xb1), .val (.int xb2), .val (.long na1), .second, .val (.long na2), .second, .val (.long nb1), .second, .val (.long nb2), .second, .val (.ref b12), .val (.ref b16), .val (.ref b22), .val (.ref b30), .val (.ref b40), .val (.ref b94), .val (.int sy202), .val (.int sy225), .unset] [])) _
    refine XS.iload X225.here hx rfl (hb hby at_211) rfl ?_
    show Steps p.tables e below (T225.setTop (mkF m 213 #[.val (.int p1), .val (.int p2), .val (.int p3), .val (.long p4), .second, .val (.long p5), .second, .val (.int xa1), .val (.int xa2), .val (.int xb1), .val (.int xb2), .val (.long na1), .second, .val (.long na2), .second, .val (.long nb1), .second, .val (.long nb2), .second, .val (.ref b12), .val (.ref b16), .val (.ref b22), .val (.ref b30), .val (.ref b40), .val (.ref b94), .val (.int sy202), .val (.int sy225), .unset] [(.int sy202)])) _
    refine XS.iload X225.here hx rfl (hb hby at_213) rfl ?_
    exact k
  obtain ⟨cl_b12, Ar_b12, q_b12, Sz_b12, Nn_b12, Hs_b12, G_b12⟩ := id f244
  obtain ⟨cl_b16, Ar_b16, q_b16, Sz_b16, Nn_b16, Hs_b16, G_b16⟩ := id f245
  obtain ⟨cl_b22, Ar_b22, q_b22, Sz_b22, Nn_b22, Hs_b22, G_b22⟩ := id Q225f0
  obtain ⟨cl_b30, Ar_b30, q_b30, Sz_b30, Nn_b30, Hs_b30, G_b30⟩ := id Q225f1
  obtain ⟨vb, hvb⟩ : ∃ v : Int32, v = (if sy202 = sy225 then (if sy202 < (1 : Int32) then (if sy202 < (2 : Int32) then (1 : Int32) else (if u1202 = u1225 then (if w1202 = w1225 then (1 : Int32) else (0 : Int32)) else (0 : Int32))) else (if u0202 = u0225 then (if w0202 = w0225 then (if sy202 < (2 : Int32) then (1 : Int32) else (if u1202 = u1225 then (if w1202 = w1225 then (1 : Int32) else (0 : Int32)) else (0 : Int32))) else (0 : Int32)) else (0 : Int32))) else (0 : Int32)) := ⟨_, rfl⟩
  have sg248 : ∀ t, Steps p.tables e below (T225.setTop (mkF m 281 #[.val (.int p1), .val (.int p2), .val (.int p3), .val (.long p4), .second, .val (.long p5), .second, .val (.int xa1), .val (.int xa2), .val (.int xb1), .val (.int xb2), .val (.long na1), .second, .val (.long na2), .second, .val (.long nb1), .second, .val (.long nb2), .second, .val (.ref b12), .val (.ref b16), .val (.ref b22), .val (.ref b30), .val (.ref b40), .val (.ref b94), .val (.int sy202), .val (.int sy225), .unset] [(.int vb)])) t → Steps p.tables e below (T225.setTop (mkF m 215 #[.val (.int p1), .val (.int p2), .val (.int p3), .val (.long p4), .second, .val (.long p5), .second, .val (.int xa1), .val (.int xa2), .val (.int xb1), .val (.int xb2), .val (.long na1), .second, .val (.long na2), .second, .val (.long nb1), .second, .val (.long nb2), .second, .val (.ref b12), .val (.ref b16), .val (.ref b22), .val (.ref b30), .val (.ref b40), .val (.ref b94), .val (.int sy202), .val (.int sy225), .unset] [(.int sy225), (.int sy202)])) t := by
    intro t k
    show Steps p.tables e below (T225.setTop (mkF m 215 #[.val (.int p1), .val (.int p2), .val (.int p3), .val (.long p4), .second, .val (.long p5), .second, .val (.int xa1), .val (.int xa2), .val (.int xb1), .val (.int xb2), .val (.long na1), .second, .val (.long na2), .second, .val (.long nb1), .second, .val (.long nb2), .second, .val (.ref b12), .val (.ref b16), .val (.ref b22), .val (.ref b30), .val (.ref b40), .val (.ref b94), .val (.int sy202), .val (.int sy225), .unset] [(.int sy225), (.int sy202)])) _
    by_cases hc215 : sy202 = sy225
    · refine XS.icmpNo X225.here hx rfl (hb hby at_215) rfl (teq hc215).2 ?_
      show Steps p.tables e below (T225.setTop (mkF m 218 #[.val (.int p1), .val (.int p2), .val (.int p3), .val (.long p4), .second, .val (.long p5), .second, .val (.int xa1), .val (.int xa2), .val (.int xb1), .val (.int xb2), .val (.long na1), .second, .val (.long na2), .second, .val (.long nb1), .second, .val (.long nb2), .second, .val (.ref b12), .val (.ref b16), .val (.ref b22), .val (.ref b30), .val (.ref b40), .val (.ref b94), .val (.int sy202), .val (.int sy225), .unset] [])) _
      refine XS.iload X225.here hx rfl (hb hby at_218) rfl ?_
      show Steps p.tables e below (T225.setTop (mkF m 220 #[.val (.int p1), .val (.int p2), .val (.int p3), .val (.long p4), .second, .val (.long p5), .second, .val (.int xa1), .val (.int xa2), .val (.int xb1), .val (.int xb2), .val (.long na1), .second, .val (.long na2), .second, .val (.long nb1), .second, .val (.long nb2), .second, .val (.ref b12), .val (.ref b16), .val (.ref b22), .val (.ref b30), .val (.ref b40), .val (.ref b94), .val (.int sy202), .val (.int sy225), .unset] [(.int sy202)])) _
      refine XS.iconst X225.here hx rfl (hb hby at_220) ?_
      show Steps p.tables e below (T225.setTop (mkF m 221 #[.val (.int p1), .val (.int p2), .val (.int p3), .val (.long p4), .second, .val (.long p5), .second, .val (.int xa1), .val (.int xa2), .val (.int xb1), .val (.int xb2), .val (.long na1), .second, .val (.long na2), .second, .val (.long nb1), .second, .val (.long nb2), .second, .val (.ref b12), .val (.ref b16), .val (.ref b22), .val (.ref b30), .val (.ref b40), .val (.ref b94), .val (.int sy202), .val (.int sy225), .unset] [(.int (1 : Int32)), (.int sy202)])) _
      by_cases hc221 : sy202 < (1 : Int32)
      · refine XS.icmpYes X225.here hx rfl (pc0 := 221) (pc' := 247) rfl (hb hby at_221) rfl (tlt hc221).1 (by decide) (by decide) ?_
        show Steps p.tables e below (T225.setTop (mkF m 247 #[.val (.int p1), .val (.int p2), .val (.int p3), .val (.long p4), .second, .val (.long p5), .second, .val (.int xa1), .val (.int xa2), .val (.int xb1), .val (.int xb2), .val (.long na1), .second, .val (.long na2), .second, .val (.long nb1), .second, .val (.long nb2), .second, .val (.ref b12), .val (.ref b16), .val (.ref b22), .val (.ref b30), .val (.ref b40), .val (.ref b94), .val (.int sy202), .val (.int sy225), .unset] [])) _
        refine XS.iload X225.here hx rfl (hb hby at_247) rfl ?_
        show Steps p.tables e below (T225.setTop (mkF m 249 #[.val (.int p1), .val (.int p2), .val (.int p3), .val (.long p4), .second, .val (.long p5), .second, .val (.int xa1), .val (.int xa2), .val (.int xb1), .val (.int xb2), .val (.long na1), .second, .val (.long na2), .second, .val (.long nb1), .second, .val (.long nb2), .second, .val (.ref b12), .val (.ref b16), .val (.ref b22), .val (.ref b30), .val (.ref b40), .val (.ref b94), .val (.int sy202), .val (.int sy225), .unset] [(.int sy202)])) _
        refine XS.iconst X225.here hx rfl (hb hby at_249) ?_
        show Steps p.tables e below (T225.setTop (mkF m 250 #[.val (.int p1), .val (.int p2), .val (.int p3), .val (.long p4), .second, .val (.long p5), .second, .val (.int xa1), .val (.int xa2), .val (.int xb1), .val (.int xb2), .val (.long na1), .second, .val (.long na2), .second, .val (.long nb1), .second, .val (.long nb2), .second, .val (.ref b12), .val (.ref b16), .val (.ref b22), .val (.ref b30), .val (.ref b40), .val (.ref b94), .val (.int sy202), .val (.int sy225), .unset] [(.int (2 : Int32)), (.int sy202)])) _
        by_cases hc250 : sy202 < (2 : Int32)
        · refine XS.icmpYes X225.here hx rfl (pc0 := 250) (pc' := 276) rfl (hb hby at_250) rfl (tlt hc250).1 (by decide) (by decide) ?_
          show Steps p.tables e below (T225.setTop (mkF m 276 #[.val (.int p1), .val (.int p2), .val (.int p3), .val (.long p4), .second, .val (.long p5), .second, .val (.int xa1), .val (.int xa2), .val (.int xb1), .val (.int xb2), .val (.long na1), .second, .val (.long na2), .second, .val (.long nb1), .second, .val (.long nb2), .second, .val (.ref b12), .val (.ref b16), .val (.ref b22), .val (.ref b30), .val (.ref b40), .val (.ref b94), .val (.int sy202), .val (.int sy225), .unset] [])) _
          refine XS.iconst X225.here hx rfl (hb hby at_276) ?_
          show Steps p.tables e below (T225.setTop (mkF m 277 #[.val (.int p1), .val (.int p2), .val (.int p3), .val (.long p4), .second, .val (.long p5), .second, .val (.int xa1), .val (.int xa2), .val (.int xb1), .val (.int xb2), .val (.long na1), .second, .val (.long na2), .second, .val (.long nb1), .second, .val (.long nb2), .second, .val (.ref b12), .val (.ref b16), .val (.ref b22), .val (.ref b30), .val (.ref b40), .val (.ref b94), .val (.int sy202), .val (.int sy225), .unset] [(.int (1 : Int32))])) _
          refine XS.goto X225.here hx rfl (pc0 := 277) (pc' := 281) rfl (hb hby at_277) (by decide) (by decide) ?_
          rw [show vb = (1 : Int32) from by rw [hvb, if_pos hc215, if_pos hc221, if_pos hc250]] at k
          exact k
        · refine XS.icmpNo X225.here hx rfl (hb hby at_250) rfl (flt hc250).1 ?_
          show Steps p.tables e below (T225.setTop (mkF m 253 #[.val (.int p1), .val (.int p2), .val (.int p3), .val (.long p4), .second, .val (.long p5), .second, .val (.int xa1), .val (.int xa2), .val (.int xb1), .val (.int xb2), .val (.long na1), .second, .val (.long na2), .second, .val (.long nb1), .second, .val (.long nb2), .second, .val (.ref b12), .val (.ref b16), .val (.ref b22), .val (.ref b30), .val (.ref b40), .val (.ref b94), .val (.int sy202), .val (.int sy225), .unset] [])) _
          refine XS.aload X225.here hx rfl (hb hby at_253) rfl rfl ?_
          show Steps p.tables e below (T225.setTop (mkF m 255 #[.val (.int p1), .val (.int p2), .val (.int p3), .val (.long p4), .second, .val (.long p5), .second, .val (.int xa1), .val (.int xa2), .val (.int xb1), .val (.int xb2), .val (.long na1), .second, .val (.long na2), .second, .val (.long nb1), .second, .val (.long nb2), .second, .val (.ref b12), .val (.ref b16), .val (.ref b22), .val (.ref b30), .val (.ref b40), .val (.ref b94), .val (.int sy202), .val (.int sy225), .unset] [(.ref b12)])) _
          refine XS.iconst X225.here hx rfl (hb hby at_255) ?_
          show Steps p.tables e below (T225.setTop (mkF m 256 #[.val (.int p1), .val (.int p2), .val (.int p3), .val (.long p4), .second, .val (.long p5), .second, .val (.int xa1), .val (.int xa2), .val (.int xb1), .val (.int xb2), .val (.long na1), .second, .val (.long na2), .second, .val (.long nb1), .second, .val (.long nb2), .second, .val (.ref b12), .val (.ref b16), .val (.ref b22), .val (.ref b30), .val (.ref b40), .val (.ref b94), .val (.int sy202), .val (.int sy225), .unset] [(.int (1 : Int32)), (.ref b12)])) _
          refine X225.iaload hx (j := (1 : Int32)) (v := (.int u1202)) Ar_b12.1 (State.isArrayOf_alike hZ.alike Ar_b12.2.1) Ar_b12.2.2 (inb_of Sz_b12 ⟨by decide, by decide⟩) (Has.at Hs_b12 (inb_of Sz_b12 ⟨by decide, by decide⟩) rfl) (g := (mkF m 256 #[.val (.int p1), .val (.int p2), .val (.int p3), .val (.long p4), .second, .val (.long p5), .second, .val (.int xa1), .val (.int xa2), .val (.int xb1), .val (.int xb2), .val (.long na1), .second, .val (.long na2), .second, .val (.long nb1), .second, .val (.long nb2), .second, .val (.ref b12), .val (.ref b16), .val (.ref b22), .val (.ref b30), .val (.ref b40), .val (.ref b94), .val (.int sy202), .val (.int sy225), .unset] [(.int (1 : Int32)), (.ref b12)])) rfl rfl (hb hby at_256) _ ?_
          show Steps p.tables e below (T225.setTop (mkF m 257 #[.val (.int p1), .val (.int p2), .val (.int p3), .val (.long p4), .second, .val (.long p5), .second, .val (.int xa1), .val (.int xa2), .val (.int xb1), .val (.int xb2), .val (.long na1), .second, .val (.long na2), .second, .val (.long nb1), .second, .val (.long nb2), .second, .val (.ref b12), .val (.ref b16), .val (.ref b22), .val (.ref b30), .val (.ref b40), .val (.ref b94), .val (.int sy202), .val (.int sy225), .unset] [(.int u1202)])) _
          refine XS.aload X225.here hx rfl (hb hby at_257) rfl rfl ?_
          show Steps p.tables e below (T225.setTop (mkF m 259 #[.val (.int p1), .val (.int p2), .val (.int p3), .val (.long p4), .second, .val (.long p5), .second, .val (.int xa1), .val (.int xa2), .val (.int xb1), .val (.int xb2), .val (.long na1), .second, .val (.long na2), .second, .val (.long nb1), .second, .val (.long nb2), .second, .val (.ref b12), .val (.ref b16), .val (.ref b22), .val (.ref b30), .val (.ref b40), .val (.ref b94), .val (.int sy202), .val (.int sy225), .unset] [(.ref b22), (.int u1202)])) _
          refine XS.iconst X225.here hx rfl (hb hby at_259) ?_
          show Steps p.tables e below (T225.setTop (mkF m 260 #[.val (.int p1), .val (.int p2), .val (.int p3), .val (.long p4), .second, .val (.long p5), .second, .val (.int xa1), .val (.int xa2), .val (.int xb1), .val (.int xb2), .val (.long na1), .second, .val (.long na2), .second, .val (.long nb1), .second, .val (.long nb2), .second, .val (.ref b12), .val (.ref b16), .val (.ref b22), .val (.ref b30), .val (.ref b40), .val (.ref b94), .val (.int sy202), .val (.int sy225), .unset] [(.int (1 : Int32)), (.ref b22), (.int u1202)])) _
          refine X225.iaload hx (j := (1 : Int32)) (v := (.int u1225)) Ar_b22.1 (State.isArrayOf_alike hZ.alike Ar_b22.2.1) Ar_b22.2.2 (inb_of Sz_b22 ⟨by decide, by decide⟩) (Has.at Hs_b22 (inb_of Sz_b22 ⟨by decide, by decide⟩) rfl) (g := (mkF m 260 #[.val (.int p1), .val (.int p2), .val (.int p3), .val (.long p4), .second, .val (.long p5), .second, .val (.int xa1), .val (.int xa2), .val (.int xb1), .val (.int xb2), .val (.long na1), .second, .val (.long na2), .second, .val (.long nb1), .second, .val (.long nb2), .second, .val (.ref b12), .val (.ref b16), .val (.ref b22), .val (.ref b30), .val (.ref b40), .val (.ref b94), .val (.int sy202), .val (.int sy225), .unset] [(.int (1 : Int32)), (.ref b22), (.int u1202)])) rfl rfl (hb hby at_260) _ ?_
          show Steps p.tables e below (T225.setTop (mkF m 261 #[.val (.int p1), .val (.int p2), .val (.int p3), .val (.long p4), .second, .val (.long p5), .second, .val (.int xa1), .val (.int xa2), .val (.int xb1), .val (.int xb2), .val (.long na1), .second, .val (.long na2), .second, .val (.long nb1), .second, .val (.long nb2), .second, .val (.ref b12), .val (.ref b16), .val (.ref b22), .val (.ref b30), .val (.ref b40), .val (.ref b94), .val (.int sy202), .val (.int sy225), .unset] [(.int u1225), (.int u1202)])) _
          by_cases hc261 : u1202 = u1225
          · refine XS.icmpNo X225.here hx rfl (hb hby at_261) rfl (teq hc261).2 ?_
            show Steps p.tables e below (T225.setTop (mkF m 264 #[.val (.int p1), .val (.int p2), .val (.int p3), .val (.long p4), .second, .val (.long p5), .second, .val (.int xa1), .val (.int xa2), .val (.int xb1), .val (.int xb2), .val (.long na1), .second, .val (.long na2), .second, .val (.long nb1), .second, .val (.long nb2), .second, .val (.ref b12), .val (.ref b16), .val (.ref b22), .val (.ref b30), .val (.ref b40), .val (.ref b94), .val (.int sy202), .val (.int sy225), .unset] [])) _
            refine XS.aload X225.here hx rfl (hb hby at_264) rfl rfl ?_
            show Steps p.tables e below (T225.setTop (mkF m 266 #[.val (.int p1), .val (.int p2), .val (.int p3), .val (.long p4), .second, .val (.long p5), .second, .val (.int xa1), .val (.int xa2), .val (.int xb1), .val (.int xb2), .val (.long na1), .second, .val (.long na2), .second, .val (.long nb1), .second, .val (.long nb2), .second, .val (.ref b12), .val (.ref b16), .val (.ref b22), .val (.ref b30), .val (.ref b40), .val (.ref b94), .val (.int sy202), .val (.int sy225), .unset] [(.ref b16)])) _
            refine XS.iconst X225.here hx rfl (hb hby at_266) ?_
            show Steps p.tables e below (T225.setTop (mkF m 267 #[.val (.int p1), .val (.int p2), .val (.int p3), .val (.long p4), .second, .val (.long p5), .second, .val (.int xa1), .val (.int xa2), .val (.int xb1), .val (.int xb2), .val (.long na1), .second, .val (.long na2), .second, .val (.long nb1), .second, .val (.long nb2), .second, .val (.ref b12), .val (.ref b16), .val (.ref b22), .val (.ref b30), .val (.ref b40), .val (.ref b94), .val (.int sy202), .val (.int sy225), .unset] [(.int (1 : Int32)), (.ref b16)])) _
            refine X225.laload hx (j := (1 : Int32)) (v := (.long w1202)) Ar_b16.1 (State.isArrayOf_alike hZ.alike Ar_b16.2.1) Ar_b16.2.2 (inb_of Sz_b16 ⟨by decide, by decide⟩) (Has.at Hs_b16 (inb_of Sz_b16 ⟨by decide, by decide⟩) rfl) (g := (mkF m 267 #[.val (.int p1), .val (.int p2), .val (.int p3), .val (.long p4), .second, .val (.long p5), .second, .val (.int xa1), .val (.int xa2), .val (.int xb1), .val (.int xb2), .val (.long na1), .second, .val (.long na2), .second, .val (.long nb1), .second, .val (.long nb2), .second, .val (.ref b12), .val (.ref b16), .val (.ref b22), .val (.ref b30), .val (.ref b40), .val (.ref b94), .val (.int sy202), .val (.int sy225), .unset] [(.int (1 : Int32)), (.ref b16)])) rfl rfl (hb hby at_267) _ ?_
            show Steps p.tables e below (T225.setTop (mkF m 268 #[.val (.int p1), .val (.int p2), .val (.int p3), .val (.long p4), .second, .val (.long p5), .second, .val (.int xa1), .val (.int xa2), .val (.int xb1), .val (.int xb2), .val (.long na1), .second, .val (.long na2), .second, .val (.long nb1), .second, .val (.long nb2), .second, .val (.ref b12), .val (.ref b16), .val (.ref b22), .val (.ref b30), .val (.ref b40), .val (.ref b94), .val (.int sy202), .val (.int sy225), .unset] [(.long w1202)])) _
            refine XS.aload X225.here hx rfl (hb hby at_268) rfl rfl ?_
            show Steps p.tables e below (T225.setTop (mkF m 270 #[.val (.int p1), .val (.int p2), .val (.int p3), .val (.long p4), .second, .val (.long p5), .second, .val (.int xa1), .val (.int xa2), .val (.int xb1), .val (.int xb2), .val (.long na1), .second, .val (.long na2), .second, .val (.long nb1), .second, .val (.long nb2), .second, .val (.ref b12), .val (.ref b16), .val (.ref b22), .val (.ref b30), .val (.ref b40), .val (.ref b94), .val (.int sy202), .val (.int sy225), .unset] [(.ref b30), (.long w1202)])) _
            refine XS.iconst X225.here hx rfl (hb hby at_270) ?_
            show Steps p.tables e below (T225.setTop (mkF m 271 #[.val (.int p1), .val (.int p2), .val (.int p3), .val (.long p4), .second, .val (.long p5), .second, .val (.int xa1), .val (.int xa2), .val (.int xb1), .val (.int xb2), .val (.long na1), .second, .val (.long na2), .second, .val (.long nb1), .second, .val (.long nb2), .second, .val (.ref b12), .val (.ref b16), .val (.ref b22), .val (.ref b30), .val (.ref b40), .val (.ref b94), .val (.int sy202), .val (.int sy225), .unset] [(.int (1 : Int32)), (.ref b30), (.long w1202)])) _
            refine X225.laload hx (j := (1 : Int32)) (v := (.long w1225)) Ar_b30.1 (State.isArrayOf_alike hZ.alike Ar_b30.2.1) Ar_b30.2.2 (inb_of Sz_b30 ⟨by decide, by decide⟩) (Has.at Hs_b30 (inb_of Sz_b30 ⟨by decide, by decide⟩) rfl) (g := (mkF m 271 #[.val (.int p1), .val (.int p2), .val (.int p3), .val (.long p4), .second, .val (.long p5), .second, .val (.int xa1), .val (.int xa2), .val (.int xb1), .val (.int xb2), .val (.long na1), .second, .val (.long na2), .second, .val (.long nb1), .second, .val (.long nb2), .second, .val (.ref b12), .val (.ref b16), .val (.ref b22), .val (.ref b30), .val (.ref b40), .val (.ref b94), .val (.int sy202), .val (.int sy225), .unset] [(.int (1 : Int32)), (.ref b30), (.long w1202)])) rfl rfl (hb hby at_271) _ ?_
            show Steps p.tables e below (T225.setTop (mkF m 272 #[.val (.int p1), .val (.int p2), .val (.int p3), .val (.long p4), .second, .val (.long p5), .second, .val (.int xa1), .val (.int xa2), .val (.int xb1), .val (.int xb2), .val (.long na1), .second, .val (.long na2), .second, .val (.long nb1), .second, .val (.long nb2), .second, .val (.ref b12), .val (.ref b16), .val (.ref b22), .val (.ref b30), .val (.ref b40), .val (.ref b94), .val (.int sy202), .val (.int sy225), .unset] [(.long w1225), (.long w1202)])) _
            refine XS.lcmp X225.here hx rfl (hb hby at_272) rfl ?_
            show Steps p.tables e below (T225.setTop (mkF m 273 #[.val (.int p1), .val (.int p2), .val (.int p3), .val (.long p4), .second, .val (.long p5), .second, .val (.int xa1), .val (.int xa2), .val (.int xb1), .val (.int xb2), .val (.long na1), .second, .val (.long na2), .second, .val (.long nb1), .second, .val (.long nb2), .second, .val (.ref b12), .val (.ref b16), .val (.ref b22), .val (.ref b30), .val (.ref b40), .val (.ref b94), .val (.int sy202), .val (.int sy225), .unset] [(.int (lcmpW w1202 w1225))])) _
            by_cases hc273 : w1202 = w1225
            · refine XS.ifNo X225.here hx rfl (hb hby at_273) rfl ((if0 _ _).trans (teq ((lw_eq _ _).mpr hc273)).2) ?_
              show Steps p.tables e below (T225.setTop (mkF m 276 #[.val (.int p1), .val (.int p2), .val (.int p3), .val (.long p4), .second, .val (.long p5), .second, .val (.int xa1), .val (.int xa2), .val (.int xb1), .val (.int xb2), .val (.long na1), .second, .val (.long na2), .second, .val (.long nb1), .second, .val (.long nb2), .second, .val (.ref b12), .val (.ref b16), .val (.ref b22), .val (.ref b30), .val (.ref b40), .val (.ref b94), .val (.int sy202), .val (.int sy225), .unset] [])) _
              refine XS.iconst X225.here hx rfl (hb hby at_276) ?_
              show Steps p.tables e below (T225.setTop (mkF m 277 #[.val (.int p1), .val (.int p2), .val (.int p3), .val (.long p4), .second, .val (.long p5), .second, .val (.int xa1), .val (.int xa2), .val (.int xb1), .val (.int xb2), .val (.long na1), .second, .val (.long na2), .second, .val (.long nb1), .second, .val (.long nb2), .second, .val (.ref b12), .val (.ref b16), .val (.ref b22), .val (.ref b30), .val (.ref b40), .val (.ref b94), .val (.int sy202), .val (.int sy225), .unset] [(.int (1 : Int32))])) _
              refine XS.goto X225.here hx rfl (pc0 := 277) (pc' := 281) rfl (hb hby at_277) (by decide) (by decide) ?_
              rw [show vb = (1 : Int32) from by rw [hvb, if_pos hc215, if_pos hc221, if_neg hc250, if_pos hc261, if_pos hc273]] at k
              exact k
            · refine XS.ifYes X225.here hx rfl (pc0 := 273) (pc' := 280) rfl (hb hby at_273) rfl ((if0 _ _).trans (feq (mt (lw_eq _ _).mp hc273)).2) (by decide) (by decide) ?_
              show Steps p.tables e below (T225.setTop (mkF m 280 #[.val (.int p1), .val (.int p2), .val (.int p3), .val (.long p4), .second, .val (.long p5), .second, .val (.int xa1), .val (.int xa2), .val (.int xb1), .val (.int xb2), .val (.long na1), .second, .val (.long na2), .second, .val (.long nb1), .second, .val (.long nb2), .second, .val (.ref b12), .val (.ref b16), .val (.ref b22), .val (.ref b30), .val (.ref b40), .val (.ref b94), .val (.int sy202), .val (.int sy225), .unset] [])) _
              refine XS.iconst X225.here hx rfl (hb hby at_280) ?_
              rw [show vb = (0 : Int32) from by rw [hvb, if_pos hc215, if_pos hc221, if_neg hc250, if_pos hc261, if_neg hc273]] at k
              exact k
          · refine XS.icmpYes X225.here hx rfl (pc0 := 261) (pc' := 280) rfl (hb hby at_261) rfl (feq hc261).2 (by decide) (by decide) ?_
            show Steps p.tables e below (T225.setTop (mkF m 280 #[.val (.int p1), .val (.int p2), .val (.int p3), .val (.long p4), .second, .val (.long p5), .second, .val (.int xa1), .val (.int xa2), .val (.int xb1), .val (.int xb2), .val (.long na1), .second, .val (.long na2), .second, .val (.long nb1), .second, .val (.long nb2), .second, .val (.ref b12), .val (.ref b16), .val (.ref b22), .val (.ref b30), .val (.ref b40), .val (.ref b94), .val (.int sy202), .val (.int sy225), .unset] [])) _
            refine XS.iconst X225.here hx rfl (hb hby at_280) ?_
            rw [show vb = (0 : Int32) from by rw [hvb, if_pos hc215, if_pos hc221, if_neg hc250, if_neg hc261]] at k
            exact k
      · refine XS.icmpNo X225.here hx rfl (hb hby at_221) rfl (flt hc221).1 ?_
        show Steps p.tables e below (T225.setTop (mkF m 224 #[.val (.int p1), .val (.int p2), .val (.int p3), .val (.long p4), .second, .val (.long p5), .second, .val (.int xa1), .val (.int xa2), .val (.int xb1), .val (.int xb2), .val (.long na1), .second, .val (.long na2), .second, .val (.long nb1), .second, .val (.long nb2), .second, .val (.ref b12), .val (.ref b16), .val (.ref b22), .val (.ref b30), .val (.ref b40), .val (.ref b94), .val (.int sy202), .val (.int sy225), .unset] [])) _
        refine XS.aload X225.here hx rfl (hb hby at_224) rfl rfl ?_
        show Steps p.tables e below (T225.setTop (mkF m 226 #[.val (.int p1), .val (.int p2), .val (.int p3), .val (.long p4), .second, .val (.long p5), .second, .val (.int xa1), .val (.int xa2), .val (.int xb1), .val (.int xb2), .val (.long na1), .second, .val (.long na2), .second, .val (.long nb1), .second, .val (.long nb2), .second, .val (.ref b12), .val (.ref b16), .val (.ref b22), .val (.ref b30), .val (.ref b40), .val (.ref b94), .val (.int sy202), .val (.int sy225), .unset] [(.ref b12)])) _
        refine XS.iconst X225.here hx rfl (hb hby at_226) ?_
        show Steps p.tables e below (T225.setTop (mkF m 227 #[.val (.int p1), .val (.int p2), .val (.int p3), .val (.long p4), .second, .val (.long p5), .second, .val (.int xa1), .val (.int xa2), .val (.int xb1), .val (.int xb2), .val (.long na1), .second, .val (.long na2), .second, .val (.long nb1), .second, .val (.long nb2), .second, .val (.ref b12), .val (.ref b16), .val (.ref b22), .val (.ref b30), .val (.ref b40), .val (.ref b94), .val (.int sy202), .val (.int sy225), .unset] [(.int (0 : Int32)), (.ref b12)])) _
        refine X225.iaload hx (j := (0 : Int32)) (v := (.int u0202)) Ar_b12.1 (State.isArrayOf_alike hZ.alike Ar_b12.2.1) Ar_b12.2.2 (inb_of Sz_b12 ⟨by decide, by decide⟩) (Has.at Hs_b12 (inb_of Sz_b12 ⟨by decide, by decide⟩) rfl) (g := (mkF m 227 #[.val (.int p1), .val (.int p2), .val (.int p3), .val (.long p4), .second, .val (.long p5), .second, .val (.int xa1), .val (.int xa2), .val (.int xb1), .val (.int xb2), .val (.long na1), .second, .val (.long na2), .second, .val (.long nb1), .second, .val (.long nb2), .second, .val (.ref b12), .val (.ref b16), .val (.ref b22), .val (.ref b30), .val (.ref b40), .val (.ref b94), .val (.int sy202), .val (.int sy225), .unset] [(.int (0 : Int32)), (.ref b12)])) rfl rfl (hb hby at_227) _ ?_
        show Steps p.tables e below (T225.setTop (mkF m 228 #[.val (.int p1), .val (.int p2), .val (.int p3), .val (.long p4), .second, .val (.long p5), .second, .val (.int xa1), .val (.int xa2), .val (.int xb1), .val (.int xb2), .val (.long na1), .second, .val (.long na2), .second, .val (.long nb1), .second, .val (.long nb2), .second, .val (.ref b12), .val (.ref b16), .val (.ref b22), .val (.ref b30), .val (.ref b40), .val (.ref b94), .val (.int sy202), .val (.int sy225), .unset] [(.int u0202)])) _
        refine XS.aload X225.here hx rfl (hb hby at_228) rfl rfl ?_
        show Steps p.tables e below (T225.setTop (mkF m 230 #[.val (.int p1), .val (.int p2), .val (.int p3), .val (.long p4), .second, .val (.long p5), .second, .val (.int xa1), .val (.int xa2), .val (.int xb1), .val (.int xb2), .val (.long na1), .second, .val (.long na2), .second, .val (.long nb1), .second, .val (.long nb2), .second, .val (.ref b12), .val (.ref b16), .val (.ref b22), .val (.ref b30), .val (.ref b40), .val (.ref b94), .val (.int sy202), .val (.int sy225), .unset] [(.ref b22), (.int u0202)])) _
        refine XS.iconst X225.here hx rfl (hb hby at_230) ?_
        show Steps p.tables e below (T225.setTop (mkF m 231 #[.val (.int p1), .val (.int p2), .val (.int p3), .val (.long p4), .second, .val (.long p5), .second, .val (.int xa1), .val (.int xa2), .val (.int xb1), .val (.int xb2), .val (.long na1), .second, .val (.long na2), .second, .val (.long nb1), .second, .val (.long nb2), .second, .val (.ref b12), .val (.ref b16), .val (.ref b22), .val (.ref b30), .val (.ref b40), .val (.ref b94), .val (.int sy202), .val (.int sy225), .unset] [(.int (0 : Int32)), (.ref b22), (.int u0202)])) _
        refine X225.iaload hx (j := (0 : Int32)) (v := (.int u0225)) Ar_b22.1 (State.isArrayOf_alike hZ.alike Ar_b22.2.1) Ar_b22.2.2 (inb_of Sz_b22 ⟨by decide, by decide⟩) (Has.at Hs_b22 (inb_of Sz_b22 ⟨by decide, by decide⟩) rfl) (g := (mkF m 231 #[.val (.int p1), .val (.int p2), .val (.int p3), .val (.long p4), .second, .val (.long p5), .second, .val (.int xa1), .val (.int xa2), .val (.int xb1), .val (.int xb2), .val (.long na1), .second, .val (.long na2), .second, .val (.long nb1), .second, .val (.long nb2), .second, .val (.ref b12), .val (.ref b16), .val (.ref b22), .val (.ref b30), .val (.ref b40), .val (.ref b94), .val (.int sy202), .val (.int sy225), .unset] [(.int (0 : Int32)), (.ref b22), (.int u0202)])) rfl rfl (hb hby at_231) _ ?_
        show Steps p.tables e below (T225.setTop (mkF m 232 #[.val (.int p1), .val (.int p2), .val (.int p3), .val (.long p4), .second, .val (.long p5), .second, .val (.int xa1), .val (.int xa2), .val (.int xb1), .val (.int xb2), .val (.long na1), .second, .val (.long na2), .second, .val (.long nb1), .second, .val (.long nb2), .second, .val (.ref b12), .val (.ref b16), .val (.ref b22), .val (.ref b30), .val (.ref b40), .val (.ref b94), .val (.int sy202), .val (.int sy225), .unset] [(.int u0225), (.int u0202)])) _
        by_cases hc232 : u0202 = u0225
        · refine XS.icmpNo X225.here hx rfl (hb hby at_232) rfl (teq hc232).2 ?_
          show Steps p.tables e below (T225.setTop (mkF m 235 #[.val (.int p1), .val (.int p2), .val (.int p3), .val (.long p4), .second, .val (.long p5), .second, .val (.int xa1), .val (.int xa2), .val (.int xb1), .val (.int xb2), .val (.long na1), .second, .val (.long na2), .second, .val (.long nb1), .second, .val (.long nb2), .second, .val (.ref b12), .val (.ref b16), .val (.ref b22), .val (.ref b30), .val (.ref b40), .val (.ref b94), .val (.int sy202), .val (.int sy225), .unset] [])) _
          refine XS.aload X225.here hx rfl (hb hby at_235) rfl rfl ?_
          show Steps p.tables e below (T225.setTop (mkF m 237 #[.val (.int p1), .val (.int p2), .val (.int p3), .val (.long p4), .second, .val (.long p5), .second, .val (.int xa1), .val (.int xa2), .val (.int xb1), .val (.int xb2), .val (.long na1), .second, .val (.long na2), .second, .val (.long nb1), .second, .val (.long nb2), .second, .val (.ref b12), .val (.ref b16), .val (.ref b22), .val (.ref b30), .val (.ref b40), .val (.ref b94), .val (.int sy202), .val (.int sy225), .unset] [(.ref b16)])) _
          refine XS.iconst X225.here hx rfl (hb hby at_237) ?_
          show Steps p.tables e below (T225.setTop (mkF m 238 #[.val (.int p1), .val (.int p2), .val (.int p3), .val (.long p4), .second, .val (.long p5), .second, .val (.int xa1), .val (.int xa2), .val (.int xb1), .val (.int xb2), .val (.long na1), .second, .val (.long na2), .second, .val (.long nb1), .second, .val (.long nb2), .second, .val (.ref b12), .val (.ref b16), .val (.ref b22), .val (.ref b30), .val (.ref b40), .val (.ref b94), .val (.int sy202), .val (.int sy225), .unset] [(.int (0 : Int32)), (.ref b16)])) _
          refine X225.laload hx (j := (0 : Int32)) (v := (.long w0202)) Ar_b16.1 (State.isArrayOf_alike hZ.alike Ar_b16.2.1) Ar_b16.2.2 (inb_of Sz_b16 ⟨by decide, by decide⟩) (Has.at Hs_b16 (inb_of Sz_b16 ⟨by decide, by decide⟩) rfl) (g := (mkF m 238 #[.val (.int p1), .val (.int p2), .val (.int p3), .val (.long p4), .second, .val (.long p5), .second, .val (.int xa1), .val (.int xa2), .val (.int xb1), .val (.int xb2), .val (.long na1), .second, .val (.long na2), .second, .val (.long nb1), .second, .val (.long nb2), .second, .val (.ref b12), .val (.ref b16), .val (.ref b22), .val (.ref b30), .val (.ref b40), .val (.ref b94), .val (.int sy202), .val (.int sy225), .unset] [(.int (0 : Int32)), (.ref b16)])) rfl rfl (hb hby at_238) _ ?_
          show Steps p.tables e below (T225.setTop (mkF m 239 #[.val (.int p1), .val (.int p2), .val (.int p3), .val (.long p4), .second, .val (.long p5), .second, .val (.int xa1), .val (.int xa2), .val (.int xb1), .val (.int xb2), .val (.long na1), .second, .val (.long na2), .second, .val (.long nb1), .second, .val (.long nb2), .second, .val (.ref b12), .val (.ref b16), .val (.ref b22), .val (.ref b30), .val (.ref b40), .val (.ref b94), .val (.int sy202), .val (.int sy225), .unset] [(.long w0202)])) _
          refine XS.aload X225.here hx rfl (hb hby at_239) rfl rfl ?_
          show Steps p.tables e below (T225.setTop (mkF m 241 #[.val (.int p1), .val (.int p2), .val (.int p3), .val (.long p4), .second, .val (.long p5), .second, .val (.int xa1), .val (.int xa2), .val (.int xb1), .val (.int xb2), .val (.long na1), .second, .val (.long na2), .second, .val (.long nb1), .second, .val (.long nb2), .second, .val (.ref b12), .val (.ref b16), .val (.ref b22), .val (.ref b30), .val (.ref b40), .val (.ref b94), .val (.int sy202), .val (.int sy225), .unset] [(.ref b30), (.long w0202)])) _
          refine XS.iconst X225.here hx rfl (hb hby at_241) ?_
          show Steps p.tables e below (T225.setTop (mkF m 242 #[.val (.int p1), .val (.int p2), .val (.int p3), .val (.long p4), .second, .val (.long p5), .second, .val (.int xa1), .val (.int xa2), .val (.int xb1), .val (.int xb2), .val (.long na1), .second, .val (.long na2), .second, .val (.long nb1), .second, .val (.long nb2), .second, .val (.ref b12), .val (.ref b16), .val (.ref b22), .val (.ref b30), .val (.ref b40), .val (.ref b94), .val (.int sy202), .val (.int sy225), .unset] [(.int (0 : Int32)), (.ref b30), (.long w0202)])) _
          refine X225.laload hx (j := (0 : Int32)) (v := (.long w0225)) Ar_b30.1 (State.isArrayOf_alike hZ.alike Ar_b30.2.1) Ar_b30.2.2 (inb_of Sz_b30 ⟨by decide, by decide⟩) (Has.at Hs_b30 (inb_of Sz_b30 ⟨by decide, by decide⟩) rfl) (g := (mkF m 242 #[.val (.int p1), .val (.int p2), .val (.int p3), .val (.long p4), .second, .val (.long p5), .second, .val (.int xa1), .val (.int xa2), .val (.int xb1), .val (.int xb2), .val (.long na1), .second, .val (.long na2), .second, .val (.long nb1), .second, .val (.long nb2), .second, .val (.ref b12), .val (.ref b16), .val (.ref b22), .val (.ref b30), .val (.ref b40), .val (.ref b94), .val (.int sy202), .val (.int sy225), .unset] [(.int (0 : Int32)), (.ref b30), (.long w0202)])) rfl rfl (hb hby at_242) _ ?_
          show Steps p.tables e below (T225.setTop (mkF m 243 #[.val (.int p1), .val (.int p2), .val (.int p3), .val (.long p4), .second, .val (.long p5), .second, .val (.int xa1), .val (.int xa2), .val (.int xb1), .val (.int xb2), .val (.long na1), .second, .val (.long na2), .second, .val (.long nb1), .second, .val (.long nb2), .second, .val (.ref b12), .val (.ref b16), .val (.ref b22), .val (.ref b30), .val (.ref b40), .val (.ref b94), .val (.int sy202), .val (.int sy225), .unset] [(.long w0225), (.long w0202)])) _
          refine XS.lcmp X225.here hx rfl (hb hby at_243) rfl ?_
          show Steps p.tables e below (T225.setTop (mkF m 244 #[.val (.int p1), .val (.int p2), .val (.int p3), .val (.long p4), .second, .val (.long p5), .second, .val (.int xa1), .val (.int xa2), .val (.int xb1), .val (.int xb2), .val (.long na1), .second, .val (.long na2), .second, .val (.long nb1), .second, .val (.long nb2), .second, .val (.ref b12), .val (.ref b16), .val (.ref b22), .val (.ref b30), .val (.ref b40), .val (.ref b94), .val (.int sy202), .val (.int sy225), .unset] [(.int (lcmpW w0202 w0225))])) _
          by_cases hc244 : w0202 = w0225
          · refine XS.ifNo X225.here hx rfl (hb hby at_244) rfl ((if0 _ _).trans (teq ((lw_eq _ _).mpr hc244)).2) ?_
            show Steps p.tables e below (T225.setTop (mkF m 247 #[.val (.int p1), .val (.int p2), .val (.int p3), .val (.long p4), .second, .val (.long p5), .second, .val (.int xa1), .val (.int xa2), .val (.int xb1), .val (.int xb2), .val (.long na1), .second, .val (.long na2), .second, .val (.long nb1), .second, .val (.long nb2), .second, .val (.ref b12), .val (.ref b16), .val (.ref b22), .val (.ref b30), .val (.ref b40), .val (.ref b94), .val (.int sy202), .val (.int sy225), .unset] [])) _
            refine XS.iload X225.here hx rfl (hb hby at_247) rfl ?_
            show Steps p.tables e below (T225.setTop (mkF m 249 #[.val (.int p1), .val (.int p2), .val (.int p3), .val (.long p4), .second, .val (.long p5), .second, .val (.int xa1), .val (.int xa2), .val (.int xb1), .val (.int xb2), .val (.long na1), .second, .val (.long na2), .second, .val (.long nb1), .second, .val (.long nb2), .second, .val (.ref b12), .val (.ref b16), .val (.ref b22), .val (.ref b30), .val (.ref b40), .val (.ref b94), .val (.int sy202), .val (.int sy225), .unset] [(.int sy202)])) _
            refine XS.iconst X225.here hx rfl (hb hby at_249) ?_
            show Steps p.tables e below (T225.setTop (mkF m 250 #[.val (.int p1), .val (.int p2), .val (.int p3), .val (.long p4), .second, .val (.long p5), .second, .val (.int xa1), .val (.int xa2), .val (.int xb1), .val (.int xb2), .val (.long na1), .second, .val (.long na2), .second, .val (.long nb1), .second, .val (.long nb2), .second, .val (.ref b12), .val (.ref b16), .val (.ref b22), .val (.ref b30), .val (.ref b40), .val (.ref b94), .val (.int sy202), .val (.int sy225), .unset] [(.int (2 : Int32)), (.int sy202)])) _
            by_cases hc250 : sy202 < (2 : Int32)
            · refine XS.icmpYes X225.here hx rfl (pc0 := 250) (pc' := 276) rfl (hb hby at_250) rfl (tlt hc250).1 (by decide) (by decide) ?_
              show Steps p.tables e below (T225.setTop (mkF m 276 #[.val (.int p1), .val (.int p2), .val (.int p3), .val (.long p4), .second, .val (.long p5), .second, .val (.int xa1), .val (.int xa2), .val (.int xb1), .val (.int xb2), .val (.long na1), .second, .val (.long na2), .second, .val (.long nb1), .second, .val (.long nb2), .second, .val (.ref b12), .val (.ref b16), .val (.ref b22), .val (.ref b30), .val (.ref b40), .val (.ref b94), .val (.int sy202), .val (.int sy225), .unset] [])) _
              refine XS.iconst X225.here hx rfl (hb hby at_276) ?_
              show Steps p.tables e below (T225.setTop (mkF m 277 #[.val (.int p1), .val (.int p2), .val (.int p3), .val (.long p4), .second, .val (.long p5), .second, .val (.int xa1), .val (.int xa2), .val (.int xb1), .val (.int xb2), .val (.long na1), .second, .val (.long na2), .second, .val (.long nb1), .second, .val (.long nb2), .second, .val (.ref b12), .val (.ref b16), .val (.ref b22), .val (.ref b30), .val (.ref b40), .val (.ref b94), .val (.int sy202), .val (.int sy225), .unset] [(.int (1 : Int32))])) _
              refine XS.goto X225.here hx rfl (pc0 := 277) (pc' := 281) rfl (hb hby at_277) (by decide) (by decide) ?_
              rw [show vb = (1 : Int32) from by rw [hvb, if_pos hc215, if_neg hc221, if_pos hc232, if_pos hc244, if_pos hc250]] at k
              exact k
            · refine XS.icmpNo X225.here hx rfl (hb hby at_250) rfl (flt hc250).1 ?_
              show Steps p.tables e below (T225.setTop (mkF m 253 #[.val (.int p1), .val (.int p2), .val (.int p3), .val (.long p4), .second, .val (.long p5), .second, .val (.int xa1), .val (.int xa2), .val (.int xb1), .val (.int xb2), .val (.long na1), .second, .val (.long na2), .second, .val (.long nb1), .second, .val (.long nb2), .second, .val (.ref b12), .val (.ref b16), .val (.ref b22), .val (.ref b30), .val (.ref b40), .val (.ref b94), .val (.int sy202), .val (.int sy225), .unset] [])) _
              refine XS.aload X225.here hx rfl (hb hby at_253) rfl rfl ?_
              show Steps p.tables e below (T225.setTop (mkF m 255 #[.val (.int p1), .val (.int p2), .val (.int p3), .val (.long p4), .second, .val (.long p5), .second, .val (.int xa1), .val (.int xa2), .val (.int xb1), .val (.int xb2), .val (.long na1), .second, .val (.long na2), .second, .val (.long nb1), .second, .val (.long nb2), .second, .val (.ref b12), .val (.ref b16), .val (.ref b22), .val (.ref b30), .val (.ref b40), .val (.ref b94), .val (.int sy202), .val (.int sy225), .unset] [(.ref b12)])) _
              refine XS.iconst X225.here hx rfl (hb hby at_255) ?_
              show Steps p.tables e below (T225.setTop (mkF m 256 #[.val (.int p1), .val (.int p2), .val (.int p3), .val (.long p4), .second, .val (.long p5), .second, .val (.int xa1), .val (.int xa2), .val (.int xb1), .val (.int xb2), .val (.long na1), .second, .val (.long na2), .second, .val (.long nb1), .second, .val (.long nb2), .second, .val (.ref b12), .val (.ref b16), .val (.ref b22), .val (.ref b30), .val (.ref b40), .val (.ref b94), .val (.int sy202), .val (.int sy225), .unset] [(.int (1 : Int32)), (.ref b12)])) _
              refine X225.iaload hx (j := (1 : Int32)) (v := (.int u1202)) Ar_b12.1 (State.isArrayOf_alike hZ.alike Ar_b12.2.1) Ar_b12.2.2 (inb_of Sz_b12 ⟨by decide, by decide⟩) (Has.at Hs_b12 (inb_of Sz_b12 ⟨by decide, by decide⟩) rfl) (g := (mkF m 256 #[.val (.int p1), .val (.int p2), .val (.int p3), .val (.long p4), .second, .val (.long p5), .second, .val (.int xa1), .val (.int xa2), .val (.int xb1), .val (.int xb2), .val (.long na1), .second, .val (.long na2), .second, .val (.long nb1), .second, .val (.long nb2), .second, .val (.ref b12), .val (.ref b16), .val (.ref b22), .val (.ref b30), .val (.ref b40), .val (.ref b94), .val (.int sy202), .val (.int sy225), .unset] [(.int (1 : Int32)), (.ref b12)])) rfl rfl (hb hby at_256) _ ?_
              show Steps p.tables e below (T225.setTop (mkF m 257 #[.val (.int p1), .val (.int p2), .val (.int p3), .val (.long p4), .second, .val (.long p5), .second, .val (.int xa1), .val (.int xa2), .val (.int xb1), .val (.int xb2), .val (.long na1), .second, .val (.long na2), .second, .val (.long nb1), .second, .val (.long nb2), .second, .val (.ref b12), .val (.ref b16), .val (.ref b22), .val (.ref b30), .val (.ref b40), .val (.ref b94), .val (.int sy202), .val (.int sy225), .unset] [(.int u1202)])) _
              refine XS.aload X225.here hx rfl (hb hby at_257) rfl rfl ?_
              show Steps p.tables e below (T225.setTop (mkF m 259 #[.val (.int p1), .val (.int p2), .val (.int p3), .val (.long p4), .second, .val (.long p5), .second, .val (.int xa1), .val (.int xa2), .val (.int xb1), .val (.int xb2), .val (.long na1), .second, .val (.long na2), .second, .val (.long nb1), .second, .val (.long nb2), .second, .val (.ref b12), .val (.ref b16), .val (.ref b22), .val (.ref b30), .val (.ref b40), .val (.ref b94), .val (.int sy202), .val (.int sy225), .unset] [(.ref b22), (.int u1202)])) _
              refine XS.iconst X225.here hx rfl (hb hby at_259) ?_
              show Steps p.tables e below (T225.setTop (mkF m 260 #[.val (.int p1), .val (.int p2), .val (.int p3), .val (.long p4), .second, .val (.long p5), .second, .val (.int xa1), .val (.int xa2), .val (.int xb1), .val (.int xb2), .val (.long na1), .second, .val (.long na2), .second, .val (.long nb1), .second, .val (.long nb2), .second, .val (.ref b12), .val (.ref b16), .val (.ref b22), .val (.ref b30), .val (.ref b40), .val (.ref b94), .val (.int sy202), .val (.int sy225), .unset] [(.int (1 : Int32)), (.ref b22), (.int u1202)])) _
              refine X225.iaload hx (j := (1 : Int32)) (v := (.int u1225)) Ar_b22.1 (State.isArrayOf_alike hZ.alike Ar_b22.2.1) Ar_b22.2.2 (inb_of Sz_b22 ⟨by decide, by decide⟩) (Has.at Hs_b22 (inb_of Sz_b22 ⟨by decide, by decide⟩) rfl) (g := (mkF m 260 #[.val (.int p1), .val (.int p2), .val (.int p3), .val (.long p4), .second, .val (.long p5), .second, .val (.int xa1), .val (.int xa2), .val (.int xb1), .val (.int xb2), .val (.long na1), .second, .val (.long na2), .second, .val (.long nb1), .second, .val (.long nb2), .second, .val (.ref b12), .val (.ref b16), .val (.ref b22), .val (.ref b30), .val (.ref b40), .val (.ref b94), .val (.int sy202), .val (.int sy225), .unset] [(.int (1 : Int32)), (.ref b22), (.int u1202)])) rfl rfl (hb hby at_260) _ ?_
              show Steps p.tables e below (T225.setTop (mkF m 261 #[.val (.int p1), .val (.int p2), .val (.int p3), .val (.long p4), .second, .val (.long p5), .second, .val (.int xa1), .val (.int xa2), .val (.int xb1), .val (.int xb2), .val (.long na1), .second, .val (.long na2), .second, .val (.long nb1), .second, .val (.long nb2), .second, .val (.ref b12), .val (.ref b16), .val (.ref b22), .val (.ref b30), .val (.ref b40), .val (.ref b94), .val (.int sy202), .val (.int sy225), .unset] [(.int u1225), (.int u1202)])) _
              by_cases hc261 : u1202 = u1225
              · refine XS.icmpNo X225.here hx rfl (hb hby at_261) rfl (teq hc261).2 ?_
                show Steps p.tables e below (T225.setTop (mkF m 264 #[.val (.int p1), .val (.int p2), .val (.int p3), .val (.long p4), .second, .val (.long p5), .second, .val (.int xa1), .val (.int xa2), .val (.int xb1), .val (.int xb2), .val (.long na1), .second, .val (.long na2), .second, .val (.long nb1), .second, .val (.long nb2), .second, .val (.ref b12), .val (.ref b16), .val (.ref b22), .val (.ref b30), .val (.ref b40), .val (.ref b94), .val (.int sy202), .val (.int sy225), .unset] [])) _
                refine XS.aload X225.here hx rfl (hb hby at_264) rfl rfl ?_
                show Steps p.tables e below (T225.setTop (mkF m 266 #[.val (.int p1), .val (.int p2), .val (.int p3), .val (.long p4), .second, .val (.long p5), .second, .val (.int xa1), .val (.int xa2), .val (.int xb1), .val (.int xb2), .val (.long na1), .second, .val (.long na2), .second, .val (.long nb1), .second, .val (.long nb2), .second, .val (.ref b12), .val (.ref b16), .val (.ref b22), .val (.ref b30), .val (.ref b40), .val (.ref b94), .val (.int sy202), .val (.int sy225), .unset] [(.ref b16)])) _
                refine XS.iconst X225.here hx rfl (hb hby at_266) ?_
                show Steps p.tables e below (T225.setTop (mkF m 267 #[.val (.int p1), .val (.int p2), .val (.int p3), .val (.long p4), .second, .val (.long p5), .second, .val (.int xa1), .val (.int xa2), .val (.int xb1), .val (.int xb2), .val (.long na1), .second, .val (.long na2), .second, .val (.long nb1), .second, .val (.long nb2), .second, .val (.ref b12), .val (.ref b16), .val (.ref b22), .val (.ref b30), .val (.ref b40), .val (.ref b94), .val (.int sy202), .val (.int sy225), .unset] [(.int (1 : Int32)), (.ref b16)])) _
                refine X225.laload hx (j := (1 : Int32)) (v := (.long w1202)) Ar_b16.1 (State.isArrayOf_alike hZ.alike Ar_b16.2.1) Ar_b16.2.2 (inb_of Sz_b16 ⟨by decide, by decide⟩) (Has.at Hs_b16 (inb_of Sz_b16 ⟨by decide, by decide⟩) rfl) (g := (mkF m 267 #[.val (.int p1), .val (.int p2), .val (.int p3), .val (.long p4), .second, .val (.long p5), .second, .val (.int xa1), .val (.int xa2), .val (.int xb1), .val (.int xb2), .val (.long na1), .second, .val (.long na2), .second, .val (.long nb1), .second, .val (.long nb2), .second, .val (.ref b12), .val (.ref b16), .val (.ref b22), .val (.ref b30), .val (.ref b40), .val (.ref b94), .val (.int sy202), .val (.int sy225), .unset] [(.int (1 : Int32)), (.ref b16)])) rfl rfl (hb hby at_267) _ ?_
                show Steps p.tables e below (T225.setTop (mkF m 268 #[.val (.int p1), .val (.int p2), .val (.int p3), .val (.long p4), .second, .val (.long p5), .second, .val (.int xa1), .val (.int xa2), .val (.int xb1), .val (.int xb2), .val (.long na1), .second, .val (.long na2), .second, .val (.long nb1), .second, .val (.long nb2), .second, .val (.ref b12), .val (.ref b16), .val (.ref b22), .val (.ref b30), .val (.ref b40), .val (.ref b94), .val (.int sy202), .val (.int sy225), .unset] [(.long w1202)])) _
                refine XS.aload X225.here hx rfl (hb hby at_268) rfl rfl ?_
                show Steps p.tables e below (T225.setTop (mkF m 270 #[.val (.int p1), .val (.int p2), .val (.int p3), .val (.long p4), .second, .val (.long p5), .second, .val (.int xa1), .val (.int xa2), .val (.int xb1), .val (.int xb2), .val (.long na1), .second, .val (.long na2), .second, .val (.long nb1), .second, .val (.long nb2), .second, .val (.ref b12), .val (.ref b16), .val (.ref b22), .val (.ref b30), .val (.ref b40), .val (.ref b94), .val (.int sy202), .val (.int sy225), .unset] [(.ref b30), (.long w1202)])) _
                refine XS.iconst X225.here hx rfl (hb hby at_270) ?_
                show Steps p.tables e below (T225.setTop (mkF m 271 #[.val (.int p1), .val (.int p2), .val (.int p3), .val (.long p4), .second, .val (.long p5), .second, .val (.int xa1), .val (.int xa2), .val (.int xb1), .val (.int xb2), .val (.long na1), .second, .val (.long na2), .second, .val (.long nb1), .second, .val (.long nb2), .second, .val (.ref b12), .val (.ref b16), .val (.ref b22), .val (.ref b30), .val (.ref b40), .val (.ref b94), .val (.int sy202), .val (.int sy225), .unset] [(.int (1 : Int32)), (.ref b30), (.long w1202)])) _
                refine X225.laload hx (j := (1 : Int32)) (v := (.long w1225)) Ar_b30.1 (State.isArrayOf_alike hZ.alike Ar_b30.2.1) Ar_b30.2.2 (inb_of Sz_b30 ⟨by decide, by decide⟩) (Has.at Hs_b30 (inb_of Sz_b30 ⟨by decide, by decide⟩) rfl) (g := (mkF m 271 #[.val (.int p1), .val (.int p2), .val (.int p3), .val (.long p4), .second, .val (.long p5), .second, .val (.int xa1), .val (.int xa2), .val (.int xb1), .val (.int xb2), .val (.long na1), .second, .val (.long na2), .second, .val (.long nb1), .second, .val (.long nb2), .second, .val (.ref b12), .val (.ref b16), .val (.ref b22), .val (.ref b30), .val (.ref b40), .val (.ref b94), .val (.int sy202), .val (.int sy225), .unset] [(.int (1 : Int32)), (.ref b30), (.long w1202)])) rfl rfl (hb hby at_271) _ ?_
                show Steps p.tables e below (T225.setTop (mkF m 272 #[.val (.int p1), .val (.int p2), .val (.int p3), .val (.long p4), .second, .val (.long p5), .second, .val (.int xa1), .val (.int xa2), .val (.int xb1), .val (.int xb2), .val (.long na1), .second, .val (.long na2), .second, .val (.long nb1), .second, .val (.long nb2), .second, .val (.ref b12), .val (.ref b16), .val (.ref b22), .val (.ref b30), .val (.ref b40), .val (.ref b94), .val (.int sy202), .val (.int sy225), .unset] [(.long w1225), (.long w1202)])) _
                refine XS.lcmp X225.here hx rfl (hb hby at_272) rfl ?_
                show Steps p.tables e below (T225.setTop (mkF m 273 #[.val (.int p1), .val (.int p2), .val (.int p3), .val (.long p4), .second, .val (.long p5), .second, .val (.int xa1), .val (.int xa2), .val (.int xb1), .val (.int xb2), .val (.long na1), .second, .val (.long na2), .second, .val (.long nb1), .second, .val (.long nb2), .second, .val (.ref b12), .val (.ref b16), .val (.ref b22), .val (.ref b30), .val (.ref b40), .val (.ref b94), .val (.int sy202), .val (.int sy225), .unset] [(.int (lcmpW w1202 w1225))])) _
                by_cases hc273 : w1202 = w1225
                · refine XS.ifNo X225.here hx rfl (hb hby at_273) rfl ((if0 _ _).trans (teq ((lw_eq _ _).mpr hc273)).2) ?_
                  show Steps p.tables e below (T225.setTop (mkF m 276 #[.val (.int p1), .val (.int p2), .val (.int p3), .val (.long p4), .second, .val (.long p5), .second, .val (.int xa1), .val (.int xa2), .val (.int xb1), .val (.int xb2), .val (.long na1), .second, .val (.long na2), .second, .val (.long nb1), .second, .val (.long nb2), .second, .val (.ref b12), .val (.ref b16), .val (.ref b22), .val (.ref b30), .val (.ref b40), .val (.ref b94), .val (.int sy202), .val (.int sy225), .unset] [])) _
                  refine XS.iconst X225.here hx rfl (hb hby at_276) ?_
                  show Steps p.tables e below (T225.setTop (mkF m 277 #[.val (.int p1), .val (.int p2), .val (.int p3), .val (.long p4), .second, .val (.long p5), .second, .val (.int xa1), .val (.int xa2), .val (.int xb1), .val (.int xb2), .val (.long na1), .second, .val (.long na2), .second, .val (.long nb1), .second, .val (.long nb2), .second, .val (.ref b12), .val (.ref b16), .val (.ref b22), .val (.ref b30), .val (.ref b40), .val (.ref b94), .val (.int sy202), .val (.int sy225), .unset] [(.int (1 : Int32))])) _
                  refine XS.goto X225.here hx rfl (pc0 := 277) (pc' := 281) rfl (hb hby at_277) (by decide) (by decide) ?_
                  rw [show vb = (1 : Int32) from by rw [hvb, if_pos hc215, if_neg hc221, if_pos hc232, if_pos hc244, if_neg hc250, if_pos hc261, if_pos hc273]] at k
                  exact k
                · refine XS.ifYes X225.here hx rfl (pc0 := 273) (pc' := 280) rfl (hb hby at_273) rfl ((if0 _ _).trans (feq (mt (lw_eq _ _).mp hc273)).2) (by decide) (by decide) ?_
                  show Steps p.tables e below (T225.setTop (mkF m 280 #[.val (.int p1), .val (.int p2), .val (.int p3), .val (.long p4), .second, .val (.long p5), .second, .val (.int xa1), .val (.int xa2), .val (.int xb1), .val (.int xb2), .val (.long na1), .second, .val (.long na2), .second, .val (.long nb1), .second, .val (.long nb2), .second, .val (.ref b12), .val (.ref b16), .val (.ref b22), .val (.ref b30), .val (.ref b40), .val (.ref b94), .val (.int sy202), .val (.int sy225), .unset] [])) _
                  refine XS.iconst X225.here hx rfl (hb hby at_280) ?_
                  rw [show vb = (0 : Int32) from by rw [hvb, if_pos hc215, if_neg hc221, if_pos hc232, if_pos hc244, if_neg hc250, if_pos hc261, if_neg hc273]] at k
                  exact k
              · refine XS.icmpYes X225.here hx rfl (pc0 := 261) (pc' := 280) rfl (hb hby at_261) rfl (feq hc261).2 (by decide) (by decide) ?_
                show Steps p.tables e below (T225.setTop (mkF m 280 #[.val (.int p1), .val (.int p2), .val (.int p3), .val (.long p4), .second, .val (.long p5), .second, .val (.int xa1), .val (.int xa2), .val (.int xb1), .val (.int xb2), .val (.long na1), .second, .val (.long na2), .second, .val (.long nb1), .second, .val (.long nb2), .second, .val (.ref b12), .val (.ref b16), .val (.ref b22), .val (.ref b30), .val (.ref b40), .val (.ref b94), .val (.int sy202), .val (.int sy225), .unset] [])) _
                refine XS.iconst X225.here hx rfl (hb hby at_280) ?_
                rw [show vb = (0 : Int32) from by rw [hvb, if_pos hc215, if_neg hc221, if_pos hc232, if_pos hc244, if_neg hc250, if_neg hc261]] at k
                exact k
          · refine XS.ifYes X225.here hx rfl (pc0 := 244) (pc' := 280) rfl (hb hby at_244) rfl ((if0 _ _).trans (feq (mt (lw_eq _ _).mp hc244)).2) (by decide) (by decide) ?_
            show Steps p.tables e below (T225.setTop (mkF m 280 #[.val (.int p1), .val (.int p2), .val (.int p3), .val (.long p4), .second, .val (.long p5), .second, .val (.int xa1), .val (.int xa2), .val (.int xb1), .val (.int xb2), .val (.long na1), .second, .val (.long na2), .second, .val (.long nb1), .second, .val (.long nb2), .second, .val (.ref b12), .val (.ref b16), .val (.ref b22), .val (.ref b30), .val (.ref b40), .val (.ref b94), .val (.int sy202), .val (.int sy225), .unset] [])) _
            refine XS.iconst X225.here hx rfl (hb hby at_280) ?_
            rw [show vb = (0 : Int32) from by rw [hvb, if_pos hc215, if_neg hc221, if_pos hc232, if_neg hc244]] at k
            exact k
        · refine XS.icmpYes X225.here hx rfl (pc0 := 232) (pc' := 280) rfl (hb hby at_232) rfl (feq hc232).2 (by decide) (by decide) ?_
          show Steps p.tables e below (T225.setTop (mkF m 280 #[.val (.int p1), .val (.int p2), .val (.int p3), .val (.long p4), .second, .val (.long p5), .second, .val (.int xa1), .val (.int xa2), .val (.int xb1), .val (.int xb2), .val (.long na1), .second, .val (.long na2), .second, .val (.long nb1), .second, .val (.long nb2), .second, .val (.ref b12), .val (.ref b16), .val (.ref b22), .val (.ref b30), .val (.ref b40), .val (.ref b94), .val (.int sy202), .val (.int sy225), .unset] [])) _
          refine XS.iconst X225.here hx rfl (hb hby at_280) ?_
          rw [show vb = (0 : Int32) from by rw [hvb, if_pos hc215, if_neg hc221, if_neg hc232]] at k
          exact k
    · refine XS.icmpYes X225.here hx rfl (pc0 := 215) (pc' := 280) rfl (hb hby at_215) rfl (feq hc215).2 (by decide) (by decide) ?_
      show Steps p.tables e below (T225.setTop (mkF m 280 #[.val (.int p1), .val (.int p2), .val (.int p3), .val (.long p4), .second, .val (.long p5), .second, .val (.int xa1), .val (.int xa2), .val (.int xb1), .val (.int xb2), .val (.long na1), .second, .val (.long na2), .second, .val (.long nb1), .second, .val (.long nb2), .second, .val (.ref b12), .val (.ref b16), .val (.ref b22), .val (.ref b30), .val (.ref b40), .val (.ref b94), .val (.int sy202), .val (.int sy225), .unset] [])) _
      refine XS.iconst X225.here hx rfl (hb hby at_280) ?_
      rw [show vb = (0 : Int32) from by rw [hvb, if_neg hc215]] at k
      exact k
  have hA : Agr zz87 u087 u187 w087 w187 sy202 u0202 u1202 w0202 w1202 := Rel.agr (Add.two Q79_rel Q87_rel) Q202_rel
  have hB : Agr zz184 u0184 u1184 w0184 w1184 sy225 u0225 u1225 w0225 w1225 := Rel.agr (Add.two Q167_rel Q184_rel) Q225_rel
  have hF : own_same zz87 u087 u187 w087 w187 zz184 u0184 u1184 w0184 w1184 = vb := (own_fin _ _ _ _ _ _ _ _ _ _ _ _ _ _ _ _ _ _ _ _ hA hB).trans hvb.symm
  have sg249 : ∀ t, Steps p.tables e below (T225.setTop (mkF m 287 #[.val (.int p1), .val (.int p2), .val (.int p3), .val (.long p4), .second, .val (.long p5), .second, .val (.int xa1), .val (.int xa2), .val (.int xb1), .val (.int xb2), .val (.long na1), .second, .val (.long na2), .second, .val (.long nb1), .second, .val (.long nb2), .second, .val (.ref b12), .val (.ref b16), .val (.ref b22), .val (.ref b30), .val (.ref b40), .val (.ref b94), .val (.int sy202), .val (.int sy225), .val (.int vb)] [(.ref b94), (.ref b40)])) t → Steps p.tables e below (T225.setTop (mkF m 281 #[.val (.int p1), .val (.int p2), .val (.int p3), .val (.long p4), .second, .val (.long p5), .second, .val (.int xa1), .val (.int xa2), .val (.int xb1), .val (.int xb2), .val (.long na1), .second, .val (.long na2), .second, .val (.long nb1), .second, .val (.long nb2), .second, .val (.ref b12), .val (.ref b16), .val (.ref b22), .val (.ref b30), .val (.ref b40), .val (.ref b94), .val (.int sy202), .val (.int sy225), .unset] [(.int vb)])) t := by
    intro t k
    show Steps p.tables e below (T225.setTop (mkF m 281 #[.val (.int p1), .val (.int p2), .val (.int p3), .val (.long p4), .second, .val (.long p5), .second, .val (.int xa1), .val (.int xa2), .val (.int xb1), .val (.int xb2), .val (.long na1), .second, .val (.long na2), .second, .val (.long nb1), .second, .val (.long nb2), .second, .val (.ref b12), .val (.ref b16), .val (.ref b22), .val (.ref b30), .val (.ref b40), .val (.ref b94), .val (.int sy202), .val (.int sy225), .unset] [(.int vb)])) _
    refine XS.istore X225.here hx rfl (hb hby at_281) rfl (l' := #[.val (.int p1), .val (.int p2), .val (.int p3), .val (.long p4), .second, .val (.long p5), .second, .val (.int xa1), .val (.int xa2), .val (.int xb1), .val (.int xb2), .val (.long na1), .second, .val (.long na2), .second, .val (.long nb1), .second, .val (.long nb2), .second, .val (.ref b12), .val (.ref b16), .val (.ref b22), .val (.ref b30), .val (.ref b40), .val (.ref b94), .val (.int sy202), .val (.int sy225), .val (.int vb)]) rfl ?_
    show Steps p.tables e below (T225.setTop (mkF m 283 #[.val (.int p1), .val (.int p2), .val (.int p3), .val (.long p4), .second, .val (.long p5), .second, .val (.int xa1), .val (.int xa2), .val (.int xb1), .val (.int xb2), .val (.long na1), .second, .val (.long na2), .second, .val (.long nb1), .second, .val (.long nb2), .second, .val (.ref b12), .val (.ref b16), .val (.ref b22), .val (.ref b30), .val (.ref b40), .val (.ref b94), .val (.int sy202), .val (.int sy225), .val (.int vb)] [])) _
    refine XS.aload X225.here hx rfl (hb hby at_283) rfl rfl ?_
    show Steps p.tables e below (T225.setTop (mkF m 285 #[.val (.int p1), .val (.int p2), .val (.int p3), .val (.long p4), .second, .val (.long p5), .second, .val (.int xa1), .val (.int xa2), .val (.int xb1), .val (.int xb2), .val (.long na1), .second, .val (.long na2), .second, .val (.long nb1), .second, .val (.long nb2), .second, .val (.ref b12), .val (.ref b16), .val (.ref b22), .val (.ref b30), .val (.ref b40), .val (.ref b94), .val (.int sy202), .val (.int sy225), .val (.int vb)] [(.ref b40)])) _
    refine XS.aload X225.here hx rfl (hb hby at_285) rfl rfl ?_
    exact k
  obtain ⟨cq250, kq250, q250a, q250b, q250c⟩ := isOf hZ rfl f226
  obtain ⟨_, _, ⟨T250, L250, k250, n250⟩, -, X250, ⟨Lc250, hQ250, l250, y250, z250⟩, st250⟩ := X225.virtualBack hx (y := (⟨"querymill/regex/CodePointRuns", "sameAs", "(Lquerymill/regex/CodePointRuns;)Z"⟩ : MethodName)) (z := (⟨"querymill/regex/CodePointRuns", "sameAs", "(Lquerymill/regex/CodePointRuns;)Z"⟩ : MethodName)) hown (mvT hZ (hw _ (List.mem_of_getElem? (i := 31) rfl))) (mvT hZ (hw _ (List.mem_of_getElem? (i := 32) rfl))) (notFace_of_selects (args := #[]) (mvT hZ (hw _ (List.mem_of_getElem? (i := 34) rfl)))) (mvT hZ (hw _ (List.mem_of_getElem? (i := 34) rfl))) (mvT hZ (hw _ (List.mem_of_getElem? (i := 33) rfl))) (by decide) (backOf (W := 0) (rmS l Z a0 hw [] b40 b94 r156 r256 k156 k256 zz87 u087 u187 w087 w187 r1123 r2123 k1123 k2123 zz184 u0184 u1184 w0184 w1184 T225.heap n0 z246 f227 f229 f230 f232 f233 f236 f238 f239 f241 f242 (Rel.size (Add.two Q79_rel Q87_rel)) (Rel.size (Add.two Q167_rel Q184_rel))) hZ (hw _ (List.mem_of_getElem? (i := 35) rfl)) (hw _ (List.mem_of_getElem? (i := 5) rfl)) (by decide) (by decide)) q250a q250c (g := (mkF m 287 #[.val (.int p1), .val (.int p2), .val (.int p3), .val (.long p4), .second, .val (.long p5), .second, .val (.int xa1), .val (.int xa2), .val (.int xb1), .val (.int xb2), .val (.long na1), .second, .val (.long na2), .second, .val (.long nb1), .second, .val (.long nb2), .second, .val (.ref b12), .val (.ref b16), .val (.ref b22), .val (.ref b30), .val (.ref b40), .val (.ref b94), .val (.int sy202), .val (.int sy225), .val (.int vb)] [(.ref b94), (.ref b40)])) rfl (by rw [hml]; rfl) (Steps.refl _) (argsL := [(.ref b94)]) (rest := []) (lenOf pd_3 rfl) rfl (by show 2 * 0 + _ ≤ _; exact Nat.le_of_eq rfl) (hb hby at_287) (fun _ _ => ⟨rfl, rfl, (by decide : 12 + 0 ≤ _), (by decide : 42 + 0 ≤ _)⟩)
  dsimp only [Pt.U, Pt.locs, Pt.cells, Pt.slots] at X250 l250 y250 z250 st250 hQ250
  subst l250 y250 z250
  obtain ⟨rfl, N250q, e250⟩ := hQ250
  have N250 := Fr.app N225 N250q
  have sg251 : ∀ t, Steps p.tables e below (T250.setTop (mkF m 299 #[.val (.int p1), .val (.int p2), .val (.int p3), .val (.long p4), .second, .val (.long p5), .second, .val (.int xa1), .val (.int xa2), .val (.int xb1), .val (.int xb2), .val (.long na1), .second, .val (.long na2), .second, .val (.long nb1), .second, .val (.long nb2), .second, .val (.ref b12), .val (.ref b16), .val (.ref b22), .val (.ref b30), .val (.ref b40), .val (.ref b94), .val (.int sy202), .val (.int sy225), .val (.int vb)] [(.ref b40), (.ref b94)])) t → Steps p.tables e below (T250.setTop (mkF m 290 #[.val (.int p1), .val (.int p2), .val (.int p3), .val (.long p4), .second, .val (.long p5), .second, .val (.int xa1), .val (.int xa2), .val (.int xb1), .val (.int xb2), .val (.long na1), .second, .val (.long na2), .second, .val (.long nb1), .second, .val (.long nb2), .second, .val (.ref b12), .val (.ref b16), .val (.ref b22), .val (.ref b30), .val (.ref b40), .val (.ref b94), .val (.int sy202), .val (.int sy225), .val (.int vb)] [(.int (own_same zz87 u087 u187 w087 w187 zz184 u0184 u1184 w0184 w1184))])) t := by
    intro t k
    show Steps p.tables e below (T250.setTop (mkF m 290 #[.val (.int p1), .val (.int p2), .val (.int p3), .val (.long p4), .second, .val (.long p5), .second, .val (.int xa1), .val (.int xa2), .val (.int xb1), .val (.int xb2), .val (.long na1), .second, .val (.long na2), .second, .val (.long nb1), .second, .val (.long nb2), .second, .val (.ref b12), .val (.ref b16), .val (.ref b22), .val (.ref b30), .val (.ref b40), .val (.ref b94), .val (.int sy202), .val (.int sy225), .val (.int vb)] [(.int (own_same zz87 u087 u187 w087 w187 zz184 u0184 u1184 w0184 w1184))])) _
    refine XS.iload X250.here hx rfl (hb hby at_290) rfl ?_
    show Steps p.tables e below (T250.setTop (mkF m 292 #[.val (.int p1), .val (.int p2), .val (.int p3), .val (.long p4), .second, .val (.long p5), .second, .val (.int xa1), .val (.int xa2), .val (.int xb1), .val (.int xb2), .val (.long na1), .second, .val (.long na2), .second, .val (.long nb1), .second, .val (.long nb2), .second, .val (.ref b12), .val (.ref b16), .val (.ref b22), .val (.ref b30), .val (.ref b40), .val (.ref b94), .val (.int sy202), .val (.int sy225), .val (.int vb)] [(.int vb), (.int (own_same zz87 u087 u187 w087 w187 zz184 u0184 u1184 w0184 w1184))])) _
    refine XS.icmpNo X250.here hx rfl (hb hby at_292) rfl (teq (hF : (own_same zz87 u087 u187 w087 w187 zz184 u0184 u1184 w0184 w1184) = vb)).2 ?_
    show Steps p.tables e below (T250.setTop (mkF m 295 #[.val (.int p1), .val (.int p2), .val (.int p3), .val (.long p4), .second, .val (.long p5), .second, .val (.int xa1), .val (.int xa2), .val (.int xb1), .val (.int xb2), .val (.long na1), .second, .val (.long na2), .second, .val (.long nb1), .second, .val (.long nb2), .second, .val (.ref b12), .val (.ref b16), .val (.ref b22), .val (.ref b30), .val (.ref b40), .val (.ref b94), .val (.int sy202), .val (.int sy225), .val (.int vb)] [])) _
    refine XS.aload X250.here hx rfl (hb hby at_295) rfl rfl ?_
    show Steps p.tables e below (T250.setTop (mkF m 297 #[.val (.int p1), .val (.int p2), .val (.int p3), .val (.long p4), .second, .val (.long p5), .second, .val (.int xa1), .val (.int xa2), .val (.int xb1), .val (.int xb2), .val (.long na1), .second, .val (.long na2), .second, .val (.long nb1), .second, .val (.long nb2), .second, .val (.ref b12), .val (.ref b16), .val (.ref b22), .val (.ref b30), .val (.ref b40), .val (.ref b94), .val (.int sy202), .val (.int sy225), .val (.int vb)] [(.ref b94)])) _
    refine XS.aload X250.here hx rfl (hb hby at_297) rfl rfl ?_
    exact k
  obtain ⟨cq252, kq252, q252a, q252b, q252c⟩ := isOf hZ e250 f235
  obtain ⟨_, _, ⟨T252, L252, k252, n252⟩, -, X252, ⟨Lc252, hQ252, l252, y252, z252⟩, st252⟩ := X250.virtualBack hx (y := (⟨"querymill/regex/CodePointRuns", "sameAs", "(Lquerymill/regex/CodePointRuns;)Z"⟩ : MethodName)) (z := (⟨"querymill/regex/CodePointRuns", "sameAs", "(Lquerymill/regex/CodePointRuns;)Z"⟩ : MethodName)) hown (mvT hZ (hw _ (List.mem_of_getElem? (i := 31) rfl))) (mvT hZ (hw _ (List.mem_of_getElem? (i := 32) rfl))) (notFace_of_selects (args := #[]) (mvT hZ (hw _ (List.mem_of_getElem? (i := 34) rfl)))) (mvT hZ (hw _ (List.mem_of_getElem? (i := 34) rfl))) (mvT hZ (hw _ (List.mem_of_getElem? (i := 33) rfl))) (by decide) (backOf (W := 0) (rmS l Z a0 hw [] b94 b40 r1123 r2123 k1123 k2123 zz184 u0184 u1184 w0184 w1184 r156 r256 k156 k256 zz87 u087 u187 w087 w187 T225.heap n0 z246 f236 f238 f239 f241 f242 f227 f229 f230 f232 f233 (Rel.size (Add.two Q167_rel Q184_rel)) (Rel.size (Add.two Q79_rel Q87_rel))) hZ (hw _ (List.mem_of_getElem? (i := 35) rfl)) (hw _ (List.mem_of_getElem? (i := 5) rfl)) (by decide) (by decide)) q252a q252c (g := (mkF m 299 #[.val (.int p1), .val (.int p2), .val (.int p3), .val (.long p4), .second, .val (.long p5), .second, .val (.int xa1), .val (.int xa2), .val (.int xb1), .val (.int xb2), .val (.long na1), .second, .val (.long na2), .second, .val (.long nb1), .second, .val (.long nb2), .second, .val (.ref b12), .val (.ref b16), .val (.ref b22), .val (.ref b30), .val (.ref b40), .val (.ref b94), .val (.int sy202), .val (.int sy225), .val (.int vb)] [(.ref b40), (.ref b94)])) rfl (by rw [hml]; rfl) (Steps.refl _) (argsL := [(.ref b40)]) (rest := []) (lenOf pd_3 rfl) rfl (by show 2 * 0 + _ ≤ _; exact Nat.le_of_eq rfl) (hb hby at_299) (fun _ _ => ⟨rfl, e250, (by decide : 12 + 0 ≤ _), (by decide : 42 + 0 ≤ _)⟩)
  dsimp only [Pt.U, Pt.locs, Pt.cells, Pt.slots] at X252 l252 y252 z252 st252 hQ252
  subst l252 y252 z252
  obtain ⟨rfl, N252q, e252⟩ := hQ252
  have N252 := Fr.app N250 N252q
  have sg253 : ∀ t, Steps p.tables e below (T252.setTop (mkF m 312 #[.val (.int p1), .val (.int p2), .val (.int p3), .val (.long p4), .second, .val (.long p5), .second, .val (.int xa1), .val (.int xa2), .val (.int xb1), .val (.int xb2), .val (.long na1), .second, .val (.long na2), .second, .val (.long nb1), .second, .val (.long nb2), .second, .val (.ref b12), .val (.ref b16), .val (.ref b22), .val (.ref b30), .val (.ref b40), .val (.ref b94), .val (.int sy202), .val (.int sy225), .val (.int vb)] [(.int (1 : Int32))])) t → Steps p.tables e below (T252.setTop (mkF m 302 #[.val (.int p1), .val (.int p2), .val (.int p3), .val (.long p4), .second, .val (.long p5), .second, .val (.int xa1), .val (.int xa2), .val (.int xb1), .val (.int xb2), .val (.long na1), .second, .val (.long na2), .second, .val (.long nb1), .second, .val (.long nb2), .second, .val (.ref b12), .val (.ref b16), .val (.ref b22), .val (.ref b30), .val (.ref b40), .val (.ref b94), .val (.int sy202), .val (.int sy225), .val (.int vb)] [(.int (own_same zz184 u0184 u1184 w0184 w1184 zz87 u087 u187 w087 w187))])) t := by
    intro t k
    show Steps p.tables e below (T252.setTop (mkF m 302 #[.val (.int p1), .val (.int p2), .val (.int p3), .val (.long p4), .second, .val (.long p5), .second, .val (.int xa1), .val (.int xa2), .val (.int xb1), .val (.int xb2), .val (.long na1), .second, .val (.long na2), .second, .val (.long nb1), .second, .val (.long nb2), .second, .val (.ref b12), .val (.ref b16), .val (.ref b22), .val (.ref b30), .val (.ref b40), .val (.ref b94), .val (.int sy202), .val (.int sy225), .val (.int vb)] [(.int (own_same zz184 u0184 u1184 w0184 w1184 zz87 u087 u187 w087 w187))])) _
    refine XS.iload X252.here hx rfl (hb hby at_302) rfl ?_
    show Steps p.tables e below (T252.setTop (mkF m 304 #[.val (.int p1), .val (.int p2), .val (.int p3), .val (.long p4), .second, .val (.long p5), .second, .val (.int xa1), .val (.int xa2), .val (.int xb1), .val (.int xb2), .val (.long na1), .second, .val (.long na2), .second, .val (.long nb1), .second, .val (.long nb2), .second, .val (.ref b12), .val (.ref b16), .val (.ref b22), .val (.ref b30), .val (.ref b40), .val (.ref b94), .val (.int sy202), .val (.int sy225), .val (.int vb)] [(.int vb), (.int (own_same zz184 u0184 u1184 w0184 w1184 zz87 u087 u187 w087 w187))])) _
    refine XS.icmpNo X252.here hx rfl (hb hby at_304) rfl (teq (((own_comm _ _ _ _ _ _ _ _ _ _).trans hF) : (own_same zz184 u0184 u1184 w0184 w1184 zz87 u087 u187 w087 w187) = vb)).2 ?_
    show Steps p.tables e below (T252.setTop (mkF m 307 #[.val (.int p1), .val (.int p2), .val (.int p3), .val (.long p4), .second, .val (.long p5), .second, .val (.int xa1), .val (.int xa2), .val (.int xb1), .val (.int xb2), .val (.long na1), .second, .val (.long na2), .second, .val (.long nb1), .second, .val (.long nb2), .second, .val (.ref b12), .val (.ref b16), .val (.ref b22), .val (.ref b30), .val (.ref b40), .val (.ref b94), .val (.int sy202), .val (.int sy225), .val (.int vb)] [])) _
    refine XS.iconst X252.here hx rfl (hb hby at_307) ?_
    show Steps p.tables e below (T252.setTop (mkF m 308 #[.val (.int p1), .val (.int p2), .val (.int p3), .val (.long p4), .second, .val (.long p5), .second, .val (.int xa1), .val (.int xa2), .val (.int xb1), .val (.int xb2), .val (.long na1), .second, .val (.long na2), .second, .val (.long nb1), .second, .val (.long nb2), .second, .val (.ref b12), .val (.ref b16), .val (.ref b22), .val (.ref b30), .val (.ref b40), .val (.ref b94), .val (.int sy202), .val (.int sy225), .val (.int vb)] [(.int (1 : Int32))])) _
    refine XS.goto X252.here hx rfl (pc0 := 308) (pc' := 312) rfl (hb hby at_308) (by decide) (by decide) ?_
    exact k
  obtain ⟨fs, hr, hrun, hended, hW, hsame⟩ := X252.leave (v := some (.int (1 : Int32))) (fun h => by rw [Bd.returns] at h; cases h) (hlocks := hlk)
  refine ⟨_, _, pre0 _ ?_, hrun, hended, _, _, rfl, ?_, ⟨_, rfl⟩, hW, hsame.mono (by decide) (by decide)⟩
  · show Steps p.tables e below (s₁.setTop (mkF m 0 #[.val (.int p1), .val (.int p2), .val (.int p3), .val (.long p4), .second, .val (.long p5), .second, .unset, .unset, .unset, .unset, .unset, .unset, .unset, .unset, .unset, .unset, .unset, .unset, .unset, .unset, .unset, .unset, .unset, .unset, .unset, .unset, .unset] [])) _
    refine ch10 _ ?_
    show Steps p.tables e below (s₁.setTop (mkF m 103 #[.val (.int p1), .val (.int p2), .val (.int p3), .val (.long p4), .second, .val (.long p5), .second, .val (.int xa1), .val (.int xa2), .val (.int xb1), .val (.int xb2), .val (.long na1), .second, .val (.long na2), .second, .val (.long nb1), .second, .val (.long nb2), .second, .unset, .unset, .unset, .unset, .unset, .unset, .unset, .unset, .unset] [])) _
    refine sg11 _ ?_
    show Steps p.tables e below (s₁.setTop (mkF m 104 #[.val (.int p1), .val (.int p2), .val (.int p3), .val (.long p4), .second, .val (.long p5), .second, .val (.int xa1), .val (.int xa2), .val (.int xb1), .val (.int xb2), .val (.long na1), .second, .val (.long na2), .second, .val (.long nb1), .second, .val (.long nb2), .second, .unset, .unset, .unset, .unset, .unset, .unset, .unset, .unset, .unset] [(.int (2 : Int32))])) _
    refine st12 _ ?_
    show Steps p.tables e below (T12.setTop (mkF m 106 #[.val (.int p1), .val (.int p2), .val (.int p3), .val (.long p4), .second, .val (.long p5), .second, .val (.int xa1), .val (.int xa2), .val (.int xb1), .val (.int xb2), .val (.long na1), .second, .val (.long na2), .second, .val (.long nb1), .second, .val (.long nb2), .second, .unset, .unset, .unset, .unset, .unset, .unset, .unset, .unset, .unset] [(.ref b12)])) _
    refine sg15 _ ?_
    show Steps p.tables e below (T12.setTop (mkF m 109 #[.val (.int p1), .val (.int p2), .val (.int p3), .val (.long p4), .second, .val (.long p5), .second, .val (.int xa1), .val (.int xa2), .val (.int xb1), .val (.int xb2), .val (.long na1), .second, .val (.long na2), .second, .val (.long nb1), .second, .val (.long nb2), .second, .val (.ref b12), .unset, .unset, .unset, .unset, .unset, .unset, .unset, .unset] [(.int (2 : Int32))])) _
    refine st16 _ ?_
    show Steps p.tables e below (T16.setTop (mkF m 111 #[.val (.int p1), .val (.int p2), .val (.int p3), .val (.long p4), .second, .val (.long p5), .second, .val (.int xa1), .val (.int xa2), .val (.int xb1), .val (.int xb2), .val (.long na1), .second, .val (.long na2), .second, .val (.long nb1), .second, .val (.long nb2), .second, .val (.ref b12), .unset, .unset, .unset, .unset, .unset, .unset, .unset, .unset] [(.ref b16)])) _
    refine sg21 _ ?_
    show Steps p.tables e below (T16.setTop (mkF m 114 #[.val (.int p1), .val (.int p2), .val (.int p3), .val (.long p4), .second, .val (.long p5), .second, .val (.int xa1), .val (.int xa2), .val (.int xb1), .val (.int xb2), .val (.long na1), .second, .val (.long na2), .second, .val (.long nb1), .second, .val (.long nb2), .second, .val (.ref b12), .val (.ref b16), .unset, .unset, .unset, .unset, .unset, .unset, .unset] [(.int (2 : Int32))])) _
    refine st22 _ ?_
    show Steps p.tables e below (T22.setTop (mkF m 116 #[.val (.int p1), .val (.int p2), .val (.int p3), .val (.long p4), .second, .val (.long p5), .second, .val (.int xa1), .val (.int xa2), .val (.int xb1), .val (.int xb2), .val (.long na1), .second, .val (.long na2), .second, .val (.long nb1), .second, .val (.long nb2), .second, .val (.ref b12), .val (.ref b16), .unset, .unset, .unset, .unset, .unset, .unset, .unset] [(.ref b22)])) _
    refine sg29 _ ?_
    show Steps p.tables e below (T22.setTop (mkF m 119 #[.val (.int p1), .val (.int p2), .val (.int p3), .val (.long p4), .second, .val (.long p5), .second, .val (.int xa1), .val (.int xa2), .val (.int xb1), .val (.int xb2), .val (.long na1), .second, .val (.long na2), .second, .val (.long nb1), .second, .val (.long nb2), .second, .val (.ref b12), .val (.ref b16), .val (.ref b22), .unset, .unset, .unset, .unset, .unset, .unset] [(.int (2 : Int32))])) _
    refine st30 _ ?_
    show Steps p.tables e below (T30.setTop (mkF m 121 #[.val (.int p1), .val (.int p2), .val (.int p3), .val (.long p4), .second, .val (.long p5), .second, .val (.int xa1), .val (.int xa2), .val (.int xb1), .val (.int xb2), .val (.long na1), .second, .val (.long na2), .second, .val (.long nb1), .second, .val (.long nb2), .second, .val (.ref b12), .val (.ref b16), .val (.ref b22), .unset, .unset, .unset, .unset, .unset, .unset] [(.ref b30)])) _
    refine sg39 _ ?_
    show Steps p.tables e below (T30.setTop (mkF m 123 #[.val (.int p1), .val (.int p2), .val (.int p3), .val (.long p4), .second, .val (.long p5), .second, .val (.int xa1), .val (.int xa2), .val (.int xb1), .val (.int xb2), .val (.long na1), .second, .val (.long na2), .second, .val (.long nb1), .second, .val (.long nb2), .second, .val (.ref b12), .val (.ref b16), .val (.ref b22), .val (.ref b30), .unset, .unset, .unset, .unset, .unset] [])) _
    refine st40 _ ?_
    show Steps p.tables e below (T40.setTop (mkF m 126 #[.val (.int p1), .val (.int p2), .val (.int p3), .val (.long p4), .second, .val (.long p5), .second, .val (.int xa1), .val (.int xa2), .val (.int xb1), .val (.int xb2), .val (.long na1), .second, .val (.long na2), .second, .val (.long nb1), .second, .val (.long nb2), .second, .val (.ref b12), .val (.ref b16), .val (.ref b22), .val (.ref b30), .unset, .unset, .unset, .unset, .unset] [(.ref b40)])) _
    refine sg55 _ ?_
    show Steps p.tables e below (T40.setTop (mkF m 127 #[.val (.int p1), .val (.int p2), .val (.int p3), .val (.long p4), .second, .val (.long p5), .second, .val (.int xa1), .val (.int xa2), .val (.int xb1), .val (.int xb2), .val (.long na1), .second, .val (.long na2), .second, .val (.long nb1), .second, .val (.long nb2), .second, .val (.ref b12), .val (.ref b16), .val (.ref b22), .val (.ref b30), .unset, .unset, .unset, .unset, .unset] [(.ref b40), (.ref b40)])) _
    refine st56.trans ?_
    show Steps p.tables e below (T56.setTop (mkF m 130 #[.val (.int p1), .val (.int p2), .val (.int p3), .val (.long p4), .second, .val (.long p5), .second, .val (.int xa1), .val (.int xa2), .val (.int xb1), .val (.int xb2), .val (.long na1), .second, .val (.long na2), .second, .val (.long nb1), .second, .val (.long nb2), .second, .val (.ref b12), .val (.ref b16), .val (.ref b22), .val (.ref b30), .unset, .unset, .unset, .unset, .unset] [(.ref b40)])) _
    refine sg78 _ ?_
    show Steps p.tables e below (T56.setTop (mkF m 138 #[.val (.int p1), .val (.int p2), .val (.int p3), .val (.long p4), .second, .val (.long p5), .second, .val (.int xa1), .val (.int xa2), .val (.int xb1), .val (.int xb2), .val (.long na1), .second, .val (.long na2), .second, .val (.long nb1), .second, .val (.long nb2), .second, .val (.ref b12), .val (.ref b16), .val (.ref b22), .val (.ref b30), .val (.ref b40), .unset, .unset, .unset, .unset] [(.long na1), (.int xa1), (.ref b40)])) _
    refine st79.trans ?_
    show Steps p.tables e below (T79.setTop (mkF m 141 #[.val (.int p1), .val (.int p2), .val (.int p3), .val (.long p4), .second, .val (.long p5), .second, .val (.int xa1), .val (.int xa2), .val (.int xb1), .val (.int xb2), .val (.long na1), .second, .val (.long na2), .second, .val (.long nb1), .second, .val (.long nb2), .second, .val (.ref b12), .val (.ref b16), .val (.ref b22), .val (.ref b30), .val (.ref b40), .unset, .unset, .unset, .unset] [])) _
    refine sg86 _ ?_
    show Steps p.tables e below (T79.setTop (mkF m 147 #[.val (.int p1), .val (.int p2), .val (.int p3), .val (.long p4), .second, .val (.long p5), .second, .val (.int xa1), .val (.int xa2), .val (.int xb1), .val (.int xb2), .val (.long na1), .second, .val (.long na2), .second, .val (.long nb1), .second, .val (.long nb2), .second, .val (.ref b12), .val (.ref b16), .val (.ref b22), .val (.ref b30), .val (.ref b40), .unset, .unset, .unset, .unset] [(.long na2), (.int xa2), (.ref b40)])) _
    refine st87.trans ?_
    show Steps p.tables e below (T87.setTop (mkF m 150 #[.val (.int p1), .val (.int p2), .val (.int p3), .val (.long p4), .second, .val (.long p5), .second, .val (.int xa1), .val (.int xa2), .val (.int xb1), .val (.int xb2), .val (.long na1), .second, .val (.long na2), .second, .val (.long nb1), .second, .val (.long nb2), .second, .val (.ref b12), .val (.ref b16), .val (.ref b22), .val (.ref b30), .val (.ref b40), .unset, .unset, .unset, .unset] [])) _
    refine st94 _ ?_
    show Steps p.tables e below (T94.setTop (mkF m 153 #[.val (.int p1), .val (.int p2), .val (.int p3), .val (.long p4), .second, .val (.long p5), .second, .val (.int xa1), .val (.int xa2), .val (.int xb1), .val (.int xb2), .val (.long na1), .second, .val (.long na2), .second, .val (.long nb1), .second, .val (.long nb2), .second, .val (.ref b12), .val (.ref b16), .val (.ref b22), .val (.ref b30), .val (.ref b40), .unset, .unset, .unset, .unset] [(.ref b94)])) _
    refine sg122 _ ?_
    show Steps p.tables e below (T94.setTop (mkF m 154 #[.val (.int p1), .val (.int p2), .val (.int p3), .val (.long p4), .second, .val (.long p5), .second, .val (.int xa1), .val (.int xa2), .val (.int xb1), .val (.int xb2), .val (.long na1), .second, .val (.long na2), .second, .val (.long nb1), .second, .val (.long nb2), .second, .val (.ref b12), .val (.ref b16), .val (.ref b22), .val (.ref b30), .val (.ref b40), .unset, .unset, .unset, .unset] [(.ref b94), (.ref b94)])) _
    refine st123.trans ?_
    show Steps p.tables e below (T123.setTop (mkF m 157 #[.val (.int p1), .val (.int p2), .val (.int p3), .val (.long p4), .second, .val (.long p5), .second, .val (.int xa1), .val (.int xa2), .val (.int xb1), .val (.int xb2), .val (.long na1), .second, .val (.long na2), .second, .val (.long nb1), .second, .val (.long nb2), .second, .val (.ref b12), .val (.ref b16), .val (.ref b22), .val (.ref b30), .val (.ref b40), .unset, .unset, .unset, .unset] [(.ref b94)])) _
    refine sg166 _ ?_
    show Steps p.tables e below (T123.setTop (mkF m 165 #[.val (.int p1), .val (.int p2), .val (.int p3), .val (.long p4), .second, .val (.long p5), .second, .val (.int xa1), .val (.int xa2), .val (.int xb1), .val (.int xb2), .val (.long na1), .second, .val (.long na2), .second, .val (.long nb1), .second, .val (.long nb2), .second, .val (.ref b12), .val (.ref b16), .val (.ref b22), .val (.ref b30), .val (.ref b40), .val (.ref b94), .unset, .unset, .unset] [(.long nb1), (.int xb1), (.ref b94)])) _
    refine st167.trans ?_
    show Steps p.tables e below (T167.setTop (mkF m 168 #[.val (.int p1), .val (.int p2), .val (.int p3), .val (.long p4), .second, .val (.long p5), .second, .val (.int xa1), .val (.int xa2), .val (.int xb1), .val (.int xb2), .val (.long na1), .second, .val (.long na2), .second, .val (.long nb1), .second, .val (.long nb2), .second, .val (.ref b12), .val (.ref b16), .val (.ref b22), .val (.ref b30), .val (.ref b40), .val (.ref b94), .unset, .unset, .unset] [])) _
    refine sg183 _ ?_
    show Steps p.tables e below (T167.setTop (mkF m 174 #[.val (.int p1), .val (.int p2), .val (.int p3), .val (.long p4), .second, .val (.long p5), .second, .val (.int xa1), .val (.int xa2), .val (.int xb1), .val (.int xb2), .val (.long na1), .second, .val (.long na2), .second, .val (.long nb1), .second, .val (.long nb2), .second, .val (.ref b12), .val (.ref b16), .val (.ref b22), .val (.ref b30), .val (.ref b40), .val (.ref b94), .unset, .unset, .unset] [(.long nb2), (.int xb2), (.ref b94)])) _
    refine st184.trans ?_
    show Steps p.tables e below (T184.setTop (mkF m 177 #[.val (.int p1), .val (.int p2), .val (.int p3), .val (.long p4), .second, .val (.long p5), .second, .val (.int xa1), .val (.int xa2), .val (.int xb1), .val (.int xb2), .val (.long na1), .second, .val (.long na2), .second, .val (.long nb1), .second, .val (.long nb2), .second, .val (.ref b12), .val (.ref b16), .val (.ref b22), .val (.ref b30), .val (.ref b40), .val (.ref b94), .unset, .unset, .unset] [])) _
    refine sg201 _ ?_
    show Steps p.tables e below (T184.setTop (mkF m 189 #[.val (.int p1), .val (.int p2), .val (.int p3), .val (.long p4), .second, .val (.long p5), .second, .val (.int xa1), .val (.int xa2), .val (.int xb1), .val (.int xb2), .val (.long na1), .second, .val (.long na2), .second, .val (.long nb1), .second, .val (.long nb2), .second, .val (.ref b12), .val (.ref b16), .val (.ref b22), .val (.ref b30), .val (.ref b40), .val (.ref b94), .unset, .unset, .unset] [(.ref b16), (.ref b12), (.long na2), (.int xa2), (.long na1), (.int xa1)])) _
    refine st202 _ ?_
    show Steps p.tables e below (T202.setTop (mkF m 192 #[.val (.int p1), .val (.int p2), .val (.int p3), .val (.long p4), .second, .val (.long p5), .second, .val (.int xa1), .val (.int xa2), .val (.int xb1), .val (.int xb2), .val (.long na1), .second, .val (.long na2), .second, .val (.long nb1), .second, .val (.long nb2), .second, .val (.ref b12), .val (.ref b16), .val (.ref b22), .val (.ref b30), .val (.ref b40), .val (.ref b94), .unset, .unset, .unset] [(.int sy202)])) _
    refine sg224 _ ?_
    show Steps p.tables e below (T202.setTop (mkF m 206 #[.val (.int p1), .val (.int p2), .val (.int p3), .val (.long p4), .second, .val (.long p5), .second, .val (.int xa1), .val (.int xa2), .val (.int xb1), .val (.int xb2), .val (.long na1), .second, .val (.long na2), .second, .val (.long nb1), .second, .val (.long nb2), .second, .val (.ref b12), .val (.ref b16), .val (.ref b22), .val (.ref b30), .val (.ref b40), .val (.ref b94), .val (.int sy202), .unset, .unset] [(.ref b30), (.ref b22), (.long nb2), (.int xb2), (.long nb1), (.int xb1)])) _
    refine st225 _ ?_
    show Steps p.tables e below (T225.setTop (mkF m 209 #[.val (.int p1), .val (.int p2), .val (.int p3), .val (.long p4), .second, .val (.long p5), .second, .val (.int xa1), .val (.int xa2), .val (.int xb1), .val (.int xb2), .val (.long na1), .second, .val (.long na2), .second, .val (.long nb1), .second, .val (.long nb2), .second, .val (.ref b12), .val (.ref b16), .val (.ref b22), .val (.ref b30), .val (.ref b40), .val (.ref b94), .val (.int sy202), .unset, .unset] [(.int sy225)])) _
    refine sg247 _ ?_
    show Steps p.tables e below (T225.setTop (mkF m 215 #[.val (.int p1), .val (.int p2), .val (.int p3), .val (.long p4), .second, .val (.long p5), .second, .val (.int xa1), .val (.int xa2), .val (.int xb1), .val (.int xb2), .val (.long na1), .second, .val (.long na2), .second, .val (.long nb1), .second, .val (.long nb2), .second, .val (.ref b12), .val (.ref b16), .val (.ref b22), .val (.ref b30), .val (.ref b40), .val (.ref b94), .val (.int sy202), .val (.int sy225), .unset] [(.int sy225), (.int sy202)])) _
    refine sg248 _ ?_
    show Steps p.tables e below (T225.setTop (mkF m 281 #[.val (.int p1), .val (.int p2), .val (.int p3), .val (.long p4), .second, .val (.long p5), .second, .val (.int xa1), .val (.int xa2), .val (.int xb1), .val (.int xb2), .val (.long na1), .second, .val (.long na2), .second, .val (.long nb1), .second, .val (.long nb2), .second, .val (.ref b12), .val (.ref b16), .val (.ref b22), .val (.ref b30), .val (.ref b40), .val (.ref b94), .val (.int sy202), .val (.int sy225), .unset] [(.int vb)])) _
    refine sg249 _ ?_
    show Steps p.tables e below (T225.setTop (mkF m 287 #[.val (.int p1), .val (.int p2), .val (.int p3), .val (.long p4), .second, .val (.long p5), .second, .val (.int xa1), .val (.int xa2), .val (.int xb1), .val (.int xb2), .val (.long na1), .second, .val (.long na2), .second, .val (.long nb1), .second, .val (.long nb2), .second, .val (.ref b12), .val (.ref b16), .val (.ref b22), .val (.ref b30), .val (.ref b40), .val (.ref b94), .val (.int sy202), .val (.int sy225), .val (.int vb)] [(.ref b94), (.ref b40)])) _
    refine st250.trans ?_
    show Steps p.tables e below (T250.setTop (mkF m 290 #[.val (.int p1), .val (.int p2), .val (.int p3), .val (.long p4), .second, .val (.long p5), .second, .val (.int xa1), .val (.int xa2), .val (.int xb1), .val (.int xb2), .val (.long na1), .second, .val (.long na2), .second, .val (.long nb1), .second, .val (.long nb2), .second, .val (.ref b12), .val (.ref b16), .val (.ref b22), .val (.ref b30), .val (.ref b40), .val (.ref b94), .val (.int sy202), .val (.int sy225), .val (.int vb)] [(.int (own_same zz87 u087 u187 w087 w187 zz184 u0184 u1184 w0184 w1184))])) _
    refine sg251 _ ?_
    show Steps p.tables e below (T250.setTop (mkF m 299 #[.val (.int p1), .val (.int p2), .val (.int p3), .val (.long p4), .second, .val (.long p5), .second, .val (.int xa1), .val (.int xa2), .val (.int xb1), .val (.int xb2), .val (.long na1), .second, .val (.long na2), .second, .val (.long nb1), .second, .val (.long nb2), .second, .val (.ref b12), .val (.ref b16), .val (.ref b22), .val (.ref b30), .val (.ref b40), .val (.ref b94), .val (.int sy202), .val (.int sy225), .val (.int vb)] [(.ref b40), (.ref b94)])) _
    refine st252.trans ?_
    show Steps p.tables e below (T252.setTop (mkF m 302 #[.val (.int p1), .val (.int p2), .val (.int p3), .val (.long p4), .second, .val (.long p5), .second, .val (.int xa1), .val (.int xa2), .val (.int xb1), .val (.int xb2), .val (.long na1), .second, .val (.long na2), .second, .val (.long nb1), .second, .val (.long nb2), .second, .val (.ref b12), .val (.ref b16), .val (.ref b22), .val (.ref b30), .val (.ref b40), .val (.ref b94), .val (.int sy202), .val (.int sy225), .val (.int vb)] [(.int (own_same zz184 u0184 u1184 w0184 w1184 zz87 u087 u187 w087 w187))])) _
    refine sg253 _ ?_
    show Steps p.tables e below (T252.setTop (mkF m 312 #[.val (.int p1), .val (.int p2), .val (.int p3), .val (.long p4), .second, .val (.long p5), .second, .val (.int xa1), .val (.int xa2), .val (.int xb1), .val (.int xb2), .val (.long na1), .second, .val (.long na2), .second, .val (.long nb1), .second, .val (.long nb2), .second, .val (.ref b12), .val (.ref b16), .val (.ref b22), .val (.ref b30), .val (.ref b40), .val (.ref b94), .val (.int sy202), .val (.int sy225), .val (.int vb)] [(.int (1 : Int32))])) _
    exact retN X252 hx (t := .boolean) Bd.returns (by simp) (hb hby at_312) hr
  · show Q0 Z p1 p2 p3 p4 p5 h0 n0 _ T252.heap _
    rw [e252]
    exact ⟨rfl, N252⟩
set_option maxRecDepth 65536 in
set_option maxHeartbeats 40000000 in
theorem comes_1 {Post : Tables → Env → Array Value → State → Outcome → State → Prop} (hpost : ∀ tb e args s v u, (limb_1_1.after args s (.returned v) u = true ∧ limb_1_2.after args s (.returned v) u = true ∧ True) → FrameEnd s (.returned v) u (Jvm.fieldLocs frame_1_writes args s ++ Jvm.arrayLocs frame_1_arrays args s ++ Jvm.staticLocs frame_1_statics s) 32 192 → Post tb e args s (.returned v) u) :
    ArmFor flags0 classFile x code maxLocals ret World_1 tables_1 room_1 Calls_1 rest_1 Pre_1 Post := by
  intro l hfl _ _ p e ha hc hk s m args below hf hA hF happ hP
  obtain ⟨hcalls, hrest, hpre⟩ := hP
  obtain ⟨-, -, -, hnamed, -, -, -, hat⟩ := (Spec.applies_iff hf).mp happ
  obtain ⟨hg, hn⟩ := and_e (Cond.before_iff.mp (show (Jvm.Cond.and given_1 narrow_1).before args s = true from hpre))
  obtain ⟨gc, gr0⟩ := and_e hg
  obtain ⟨ga0, gr1⟩ := and_e gr0
  obtain ⟨ga1, gr2⟩ := and_e gr1
  obtain ⟨ga2, gr3⟩ := and_e gr2
  obtain ⟨ga3, gr4⟩ := and_e gr3
  have ga4 := gr4
  obtain ⟨w0, w1, w2, w3, w4, rfl⟩ : ∃ w0 w1 w2 w3 w4 : Value, args = #[w0, w1, w2, w3, w4] := by
    have hs : args.size = 5 := by simpa [Cond.value, given_1] using gc
    obtain ⟨L⟩ := args
    match L, hs with
    | [w0, w1, w2, w3, w4], _ => exact ⟨w0, w1, w2, w3, w4, rfl⟩
  have hw := fun d (hd : d ∈ tables_1) => atoms_spec (ws := Jvm.Cond.code x code maxLocals ret :: tables_1) hat d (List.mem_cons_of_mem _ hd)
  have hfit : Fit s := fun {y c} hc i hi => by
    obtain ⟨ha, rfl⟩ := Array.getElem?_eq_some_iff.mp hc
    have q := List.all_eq_true.mp ((Array.all_eq_true_iff_forall_mem.mp hF) _ (Array.getElem_mem ha)) i (List.mem_range.mpr hi)
    simpa [Array.getElem?_eq_getElem hi] using q
  obtain ⟨i0, ei0⟩ := is_v ga0
  obtain rfl : w0 = (.int i0) := Option.some.inj ei0
  obtain ⟨i1, ei1⟩ := is_v ga1
  obtain rfl : w1 = (.int i1) := Option.some.inj ei1
  obtain ⟨i2, ei2⟩ := is_v ga2
  obtain rfl : w2 = (.int i2) := Option.some.inj ei2
  obtain ⟨i3, ei3⟩ := isL_v ga3
  obtain rfl : w3 = (.long i3) := Option.some.inj ei3
  obtain ⟨i4, ei4⟩ := isL_v ga4
  obtain rfl : w4 = (.long i4) := Option.some.inj ei4
  obtain ⟨n, o, h1, h2, h3, _, L, rfl, ⟨rfl, N⟩, hq⟩ := rm0 l s _ hw tables_1 i0 i1 i2 i3 i4 s.heap s.heap.size (Nat.le_refl _)  p e ha hc hk s m _ below hf ((Spec.applies_iff_loose hf).mp happ).1 ⟨rfl, State.Warmed39.refl s, rfl⟩ trivial
  refine ⟨n, _, h1, h2, h3, hpost _ _ _ _ _ _ ⟨Cond.after_iff.mpr rfl, Cond.after_iff.mpr (eq_i res_at (Term.int_eval (1)) rfl), trivial⟩ ⟨hq.1, hq.2.1, (hq.2.2.sift fun y hy => Or.inr (N y hy)).mono (by decide) (by decide)⟩⟩
theorem main_1_1 : Claimed_1_1 := comes_1 fun _ _ _ _ _ _ h hF => ⟨h.1, hF⟩
theorem main_1_2 : Claimed_1_2 := comes_1 fun _ _ _ _ _ _ h hF => ⟨h.2.1, hF⟩
end Jvm.Pilot.@@N@@
namespace Jvm.Pilot.@@N@@
open Jvm Jvm.ClassFile Sem Op Lib Jvm.Free Jvm.Stand Jvm.Pilot.@@N@@.Jvm.D
/-! MADE BY PROGRAM (witnessworld.py) out of the Statement's table words and the real class files: 11 classes; the members and pool entries that the words name. The judged class is class 1, her method 2. -/
namespace start1
open Jvm.ClassFile
def u (s : String) : CpInfo := .utf8 (stringToUtf16 s)
/-- a pool by its gaps: so many unusable entries, then the entry; so many at the end -/
def gap : Nat → List CpInfo → List CpInfo
  | 0, r => r
  | n + 1, r => .unusable :: gap n r
def poolList (es : List (Nat × CpInfo)) (last : Nat) : List CpInfo := es.foldr (fun e r => gap e.1 (e.2 :: r)) (gap last [])
def pool (es : List (Nat × CpInfo)) (last : Nat) : Array CpInfo := ⟨poolList es last⟩
def fileOf (pool : Array CpInfo) (this : Nat) (attrs : Array Attribute := #[]) (ms : Array MethodInfo := #[]) (fl : Nat := 33) (sup : Nat := 0) (ifs : Array Nat := #[]) (fds : Array FieldInfo := #[]) : ClassFile where
  minorVersion := 0
  majorVersion := 65
  constantPool := pool
  accessFlags := fl
  thisClass := this
  superClass := sup
  interfaces := ifs
  fields := fds
  methods := ms
  attributes := attrs
def plain (name : String) (sup : Option ClassId) : Class where
  name := name
  kind := .ordinary
  loader := none
  accessFlags := 33
  super := sup
  interfaces := #[]
  cf := none
  fields := #[]
  methods := #[]
  instanceTypes := #[]
  staticTypes := #[]
  resolved := #[]
  callSites := []
  init := .initialized
  statics := none
  mirror := none

def pool0 : Array CpInfo := pool [(5, u "<init>"), (0, u "()V"), (1, .class_ 10), (1, u "java/lang/Object")] 113

def k0c0 : Code := { maxStack := 0, maxLocals := 1, code := object_method_1_code, exceptionTable := #[], attributes := #[] }
def k0m0 : Method := { name := "<init>", desc := "()V", sig := { parameters := [], returnType := none }, accessFlags := 1, code := some k0c0 }
/-- java/lang/Object -/
def k0 : Class := { plain "java/lang/Object" none with
  accessFlags := 33
  interfaces := #[]
  cf := some (fileOf pool0 8 #[] #[{ accessFlags := 1, nameIndex := 5, descriptorIndex := 6, attributes := #[] }] 33 0 #[] #[])
  fields := #[]
  methods := #[k0m0]
  instanceTypes := #[]
  staticTypes := #[]
  resolved := Array.replicate 124 none
  statics := none }

def pool1 : Array CpInfo := pool [(2, .class_ 4), (0, .nameAndType 5 6), (0, u "java/lang/Object"), (0, u "<init>"), (0, u "()V"), (0, .long 4611686018427387903), (1, .class_ 10), (0, u "querymill/regex/CodePointRuns"), (0, .methodref 9 3), (0, .methodref 9 13), (0, .nameAndType 14 15), (0, u "add"), (0, u "(IJ)V"), (0, .methodref 17 18), (0, .class_ 19), (0, .nameAndType 20 21), (0, u "querymill/regex/CodePointRunsSameAsPinLaw"), (0, u "canon"), (0, u "(IJIJ[I[J)I"), (0, .methodref 9 23), (0, .nameAndType 24 25), (0, u "sameAs"), (0, u "(Lquerymill/regex/CodePointRuns;)Z"), (3, u "law"), (0, u "(IIIJJ)Z")] 6

def k1m0 : Method := { name := "<init>", desc := "()V", sig := { parameters := [], returnType := none }, accessFlags := 1, code := none }
def k1c1 : Code := { maxStack := 6, maxLocals := 8, code := method_2_code, exceptionTable := #[], attributes := #[] }
def k1m1 : Method := { name := "canon", desc := "(IJIJ[I[J)I", sig := { parameters := [.int, .long, .int, .long, (.array .int), (.array .long)], returnType := some .int }, accessFlags := 10, code := some k1c1 }
def k1c2 : Code := { maxStack := 8, maxLocals := 28, code := code, exceptionTable := #[], attributes := #[] }
def k1m2 : Method := { name := "law", desc := "(IIIJJ)Z", sig := { parameters := [.int, .int, .int, .long, .long], returnType := some .boolean }, accessFlags := 9, code := some k1c2 }
/-- querymill/regex/CodePointRunsSameAsPinLaw -/
def k1 : Class := { plain "querymill/regex/CodePointRunsSameAsPinLaw" (some 0) with
  accessFlags := 49
  interfaces := #[]
  cf := some (fileOf pool1 17 #[] #[{ accessFlags := 1, nameIndex := 5, descriptorIndex := 6, attributes := #[] }, { accessFlags := 10, nameIndex := 20, descriptorIndex := 21, attributes := #[] }, { accessFlags := 9, nameIndex := 29, descriptorIndex := 30, attributes := #[] }] 49 2 #[] #[])
  fields := #[]
  methods := #[k1m0, k1m1, k1m2]
  instanceTypes := #[]
  staticTypes := #[]
  resolved := Array.replicate 37 none
  statics := none }

def pool2 : Array CpInfo := pool [(1, .methodref 2 3), (0, .class_ 4), (0, .nameAndType 5 6), (0, u "java/lang/Object"), (0, u "<init>"), (0, u "()V"), (0, .fieldref 8 9), (0, .class_ 10), (0, .nameAndType 11 12), (0, u "querymill/regex/CodePointRuns"), (0, u "sets"), (0, u "[I"), (0, .fieldref 8 14), (0, .nameAndType 15 16), (0, u "counts"), (0, u "[J"), (0, .fieldref 8 18), (0, .nameAndType 19 16), (0, u "starts"), (0, .fieldref 8 21), (0, .nameAndType 22 23), (0, u "size"), (0, u "I"), (4, .fieldref 8 29), (0, .nameAndType 30 31), (0, u "length"), (0, u "J"), (42, u "add"), (0, u "(IJ)V"), (2, .class_ 79), (0, u "querymill/regex/CodePointRuns$Repetition"), (25, u "sameAs"), (0, u "(Lquerymill/regex/CodePointRuns;)Z")] 10

def k2c0 : Code := { maxStack := 2, maxLocals := 1, code := prog_133_method_1_code, exceptionTable := #[], attributes := #[] }
def k2m0 : Method := { name := "<init>", desc := "()V", sig := { parameters := [], returnType := none }, accessFlags := 0, code := some k2c0 }
def k2c1 : Code := { maxStack := 6, maxLocals := 4, code := prog_133_method_2_code, exceptionTable := #[], attributes := #[] }
def k2m1 : Method := { name := "add", desc := "(IJ)V", sig := { parameters := [.int, .long], returnType := none }, accessFlags := 0, code := some k2c1 }
def k2c2 : Code := { maxStack := 4, maxLocals := 3, code := prog_133_method_13_code, exceptionTable := #[], attributes := #[] }
def k2m2 : Method := { name := "sameAs", desc := "(Lquerymill/regex/CodePointRuns;)Z", sig := { parameters := [(.object "querymill/regex/CodePointRuns")], returnType := some .boolean }, accessFlags := 0, code := some k2c2 }
/-- querymill/regex/CodePointRuns -/
def k2 : Class := { plain "querymill/regex/CodePointRuns" (some 0) with
  accessFlags := 48
  interfaces := #[]
  cf := some (fileOf pool2 8 #[.nestMembers #[78]] #[{ accessFlags := 0, nameIndex := 5, descriptorIndex := 6, attributes := #[] }, { accessFlags := 0, nameIndex := 74, descriptorIndex := 75, attributes := #[] }, { accessFlags := 0, nameIndex := 105, descriptorIndex := 106, attributes := #[] }] 48 2 #[] #[{ accessFlags := 2, nameIndex := 11, descriptorIndex := 12, attributes := #[] }, { accessFlags := 2, nameIndex := 15, descriptorIndex := 16, attributes := #[] }, { accessFlags := 2, nameIndex := 19, descriptorIndex := 16, attributes := #[] }, { accessFlags := 2, nameIndex := 22, descriptorIndex := 23, attributes := #[] }, { accessFlags := 2, nameIndex := 30, descriptorIndex := 31, attributes := #[] }])
  fields := #[{ name := "sets", type := (.array .int), accessFlags := 2, slot := 0, constantValue := 0 }, { name := "counts", type := (.array .long), accessFlags := 2, slot := 1, constantValue := 0 }, { name := "starts", type := (.array .long), accessFlags := 2, slot := 2, constantValue := 0 }, { name := "size", type := .int, accessFlags := 2, slot := 3, constantValue := 0 }, { name := "length", type := .long, accessFlags := 2, slot := 4, constantValue := 0 }]
  methods := #[k2m0, k2m1, k2m2]
  instanceTypes := #[(.array .int), (.array .long), (.array .long), .int, .long]
  staticTypes := #[]
  resolved := Array.replicate 117 none
  statics := none }

def pool3 : Array CpInfo := pool [(1, u "java/lang/Cloneable"), (0, .class_ 1), (0, u "java/lang/Object"), (0, .class_ 3)] 3

/-- java/lang/Cloneable -/
def k3 : Class := { plain "java/lang/Cloneable" (some 0) with
  accessFlags := 1537
  interfaces := #[]
  cf := some (fileOf pool3 2 #[] #[] 1537 4 #[] #[])
  fields := #[]
  methods := #[]
  instanceTypes := #[]
  staticTypes := #[]
  resolved := Array.replicate 8 none
  statics := none }

def pool4 : Array CpInfo := pool [(1, u "java/io/Serializable"), (0, .class_ 1), (0, u "java/lang/Object"), (0, .class_ 3)] 3

/-- java/io/Serializable -/
def k4 : Class := { plain "java/io/Serializable" (some 0) with
  accessFlags := 1537
  interfaces := #[]
  cf := some (fileOf pool4 2 #[] #[] 1537 4 #[] #[])
  fields := #[]
  methods := #[]
  instanceTypes := #[]
  staticTypes := #[]
  resolved := Array.replicate 8 none
  statics := none }

/-- the primitive byte -/
def k5 : Class := { plain "byte" none with kind := .primitive 'B', accessFlags := 0x411 }
/-- [B -/
def k6 : Class := { plain "[B" (some 0) with kind := .array 5 .byte, interfaces := #[3, 4], accessFlags := 1041 }

/-- the primitive int -/
def k7 : Class := { plain "int" none with kind := .primitive 'I', accessFlags := 0x411 }
/-- [I -/
def k8 : Class := { plain "[I" (some 0) with kind := .array 7 .int, interfaces := #[3, 4], accessFlags := 1041 }

/-- the primitive long -/
def k9 : Class := { plain "long" none with kind := .primitive 'J', accessFlags := 0x411 }
/-- [J -/
def k10 : Class := { plain "[J" (some 0) with kind := .array 9 .long, interfaces := #[3, 4], accessFlags := 1041 }

def heap : Heap := #[]
def classes : Array Class := #[k0, k1, k2, k3, k4, k5, k6, k7, k8, k9, k10]
def interned : List (Array UInt16 × Addr) := []
def slotsUsed : Nat := 0
def theMethod : MethodId := ⟨1, 2⟩
def args0 : Array Value := #[.int 5, .int 6, .int 7, .long 8, .long 9]
def aboutOver (below : List Frame) : State where
  vm := { classes := classes, interned := interned.toArray }
  heap := heap
  slotsUsed := slotsUsed
  threads := #[{ frames := .invoking theMethod args0 :: below }]
def below0 : List Frame := [.native { method := ⟨0, 0⟩, args := #[] }]
def about1 : State := aboutOver below0
def p0 : Program := .bare "" "" ""
def e0 : Env := launch0.env 0 0 0
theorem w_frames : about1.frames = Frame.invoking theMethod args0 :: below0 := rfl
set_option maxRecDepth 65536 in
theorem w_args : argsFit about1.vm theMethod args0 = true := by decide +kernel
set_option maxRecDepth 65536 in
theorem w_heap : heapFits about1 = true := by decide +kernel
set_option maxRecDepth 65536 in
theorem w_runnable : about1.curStatus? = some .runnable := by decide +kernel
set_option maxRecDepth 65536 in
theorem w_alone : about1.alone = true := by decide +kernel
set_option maxRecDepth 65536 in
theorem w_named : about1.methodNamed? x = some theMethod := by decide +kernel
set_option maxRecDepth 65536 in
theorem w_hears : about1.hears theMethod below0 = true := by decide +kernel
set_option maxRecDepth 65536 in
theorem w_ripe : about1.ripe theMethod args0 below0 = true := by decide +kernel
theorem w_running : about1.status = .running := rfl
set_option maxRecDepth 65536 in
theorem w_room : about1.hasRoom e0.platform room_1 = true :=
  launch0.hasRoom_least _ room_1 (by decide +kernel) (by decide +kernel) (by decide +kernel) (by decide +kernel) (by decide +kernel) (by decide +kernel)
theorem allAtoms_all (ts : List Jvm.Cond) (a : Array Jvm.Value) (st : Jvm.State) : (allAtoms ts).before a st = ts.all (fun c => c.before a st) := by
  induction ts with
  | nil => rfl
  | cons c t ih =>
    show (Jvm.Cond.and c (allAtoms t)).before a st = _
    rw [Jvm.Cond.before_and, ih, List.all_cons]
def words1 : List Jvm.Cond := Jvm.Cond.code x code maxLocals ret :: tables_1
/-- a 'code' word, met by the world's own term for the bytes: nothing is compared byte by byte -/
theorem code_word {y : MethodName} {bytes : ByteArray} {mx : Nat} {rt : Option FieldType} {a : Array Value} {s : State} {m : MethodId} {meth : Method} {c : Code} (h1 : s.methodNamed? y = some m) (h2 : s.vm.method? m = some meth) (h3 : meth.code = some c) (h4 : c.code = bytes)
    (h5 : (c.maxLocals == mx && c.exceptionTable.isEmpty && decide (c.maxStack ≤ mostOperands) && decide (meth.sig.returnType = rt) && !meth.locks && decide (parseMethodDescriptor y.desc = some meth.sig)) = true) : (Jvm.Cond.code y bytes mx rt).before a s = true := by
  simp only [Bool.and_eq_true, beq_iff_eq, Bool.not_eq_true', decide_eq_true_eq] at h5
  obtain ⟨⟨⟨⟨⟨g1, g2⟩, g3⟩, g4⟩, g5⟩, g6⟩ := h5
  simp [Cond.before, Cond.holds, Cond.value, h1, h2, h3, h4, g1, g2, g3, g4, g5, g6]
def isCode : Jvm.Cond → Bool
  | .code _ _ _ _ => true
  | _ => false
theorem all_split {L : List Jvm.Cond} {P : Jvm.Cond → Bool} (h1 : L.all (fun c => isCode c || P c) = true) (h2 : ∀ c ∈ L.filter isCode, P c = true) : L.all P = true := by
  refine List.all_eq_true.mpr fun c hc => ?_
  have h := List.all_eq_true.mp h1 c hc
  rcases Bool.eq_false_or_eq_true (isCode c) with hi | hi
  · exact h2 c (List.mem_filter.mpr ⟨hc, hi⟩)
  · simpa [hi] using h
set_option maxRecDepth 65536 in
theorem w_c0 : (Jvm.Cond.code x code maxLocals ret).before args0 about1 = true := code_word (m := ⟨1, 2⟩) (meth := k1m2) (c := k1c2) (by decide +kernel) rfl rfl rfl (by decide +kernel)
set_option maxRecDepth 65536 in
theorem w_c1 : (Jvm.Cond.code ({ cls := "querymill/regex/CodePointRuns", name := "<init>", desc := "()V" } : Jvm.MethodName) prog_133_method_1_code (1 : Nat) (Option.none : Option Jvm.ClassFile.FieldType)).before args0 about1 = true := code_word (m := ⟨2, 0⟩) (meth := k2m0) (c := k2c0) (by decide +kernel) rfl rfl rfl (by decide +kernel)
set_option maxRecDepth 65536 in
theorem w_c2 : (Jvm.Cond.code ({ cls := "java/lang/Object", name := "<init>", desc := "()V" } : Jvm.MethodName) object_method_1_code (1 : Nat) (Option.none : Option Jvm.ClassFile.FieldType)).before args0 about1 = true := code_word (m := ⟨0, 0⟩) (meth := k0m0) (c := k0c0) (by decide +kernel) rfl rfl rfl (by decide +kernel)
set_option maxRecDepth 65536 in
theorem w_c3 : (Jvm.Cond.code ({ cls := "querymill/regex/CodePointRuns", name := "add", desc := "(IJ)V" } : Jvm.MethodName) prog_133_method_2_code (4 : Nat) (Option.none : Option Jvm.ClassFile.FieldType)).before args0 about1 = true := code_word (m := ⟨2, 1⟩) (meth := k2m1) (c := k2c1) (by decide +kernel) rfl rfl rfl (by decide +kernel)
set_option maxRecDepth 65536 in
theorem w_c4 : (Jvm.Cond.code ({ cls := "querymill/regex/CodePointRunsSameAsPinLaw", name := "canon", desc := "(IJIJ[I[J)I" } : Jvm.MethodName) method_2_code (8 : Nat) (Option.some Jvm.ClassFile.FieldType.int)).before args0 about1 = true := code_word (m := ⟨1, 1⟩) (meth := k1m1) (c := k1c1) (by decide +kernel) rfl rfl rfl (by decide +kernel)
set_option maxRecDepth 65536 in
theorem w_c5 : (Jvm.Cond.code ({ cls := "querymill/regex/CodePointRuns", name := "sameAs", desc := "(Lquerymill/regex/CodePointRuns;)Z" } : Jvm.MethodName) prog_133_method_13_code (3 : Nat) (Option.some Jvm.ClassFile.FieldType.boolean)).before args0 about1 = true := code_word (m := ⟨2, 2⟩) (meth := k2m2) (c := k2c2) (by decide +kernel) rfl rfl rfl (by decide +kernel)
def codes1 : List Jvm.Cond := [Jvm.Cond.code x code maxLocals ret, Jvm.Cond.code ({ cls := "querymill/regex/CodePointRuns", name := "<init>", desc := "()V" } : Jvm.MethodName) prog_133_method_1_code (1 : Nat) (Option.none : Option Jvm.ClassFile.FieldType), Jvm.Cond.code ({ cls := "java/lang/Object", name := "<init>", desc := "()V" } : Jvm.MethodName) object_method_1_code (1 : Nat) (Option.none : Option Jvm.ClassFile.FieldType), Jvm.Cond.code ({ cls := "querymill/regex/CodePointRuns", name := "add", desc := "(IJ)V" } : Jvm.MethodName) prog_133_method_2_code (4 : Nat) (Option.none : Option Jvm.ClassFile.FieldType), Jvm.Cond.code ({ cls := "querymill/regex/CodePointRunsSameAsPinLaw", name := "canon", desc := "(IJIJ[I[J)I" } : Jvm.MethodName) method_2_code (8 : Nat) (Option.some Jvm.ClassFile.FieldType.int), Jvm.Cond.code ({ cls := "querymill/regex/CodePointRuns", name := "sameAs", desc := "(Lquerymill/regex/CodePointRuns;)Z" } : Jvm.MethodName) prog_133_method_13_code (3 : Nat) (Option.some Jvm.ClassFile.FieldType.boolean)]
set_option maxRecDepth 65536 in
theorem codes_eq : words1.filter isCode = codes1 := rfl
theorem w_codes : ∀ c ∈ words1.filter isCode, c.before args0 about1 = true := by
  rw [codes_eq]
  intro c hc
  simp only [codes1, List.mem_cons, List.not_mem_nil, or_false] at hc
  rcases hc with rfl | rfl | rfl | rfl | rfl | rfl
  · exact w_c0
  · exact w_c1
  · exact w_c2
  · exact w_c3
  · exact w_c4
  · exact w_c5
set_option maxRecDepth 65536 in
theorem w_t1 : (words1.take 24).all (fun c => isCode c || c.before args0 about1) = true := by decide +kernel
set_option maxRecDepth 65536 in
theorem w_t2 : (words1.drop 24).all (fun c => isCode c || c.before args0 about1) = true := by decide +kernel
theorem w_tables : (allAtoms (Jvm.Cond.code x code maxLocals ret :: tables_1)).before args0 about1 = true := by
  rw [allAtoms_all]
  show words1.all (fun c => c.before args0 about1) = true
  refine all_split ?_ w_codes
  rw [← List.take_append_drop 24 words1, List.all_append, w_t1, w_t2]
  rfl
set_option maxRecDepth 65536 in
theorem w_case : (Jvm.Cond.and given_1 narrow_1).before args0 about1 = true := by decide +kernel
theorem w_applies : (headSpec (Jvm.Cond.code x code maxLocals ret :: tables_1) room_1).applies x e0.platform about1 = true :=
  (Spec.applies_iff w_frames).mpr ⟨w_running, w_runnable, w_alone, w_named, w_hears, w_ripe, w_room, w_tables⟩
theorem atStart : AtStart classFile x code maxLocals ret World_1 tables_1 room_1 Calls_1 rest_1 Pre_1 launch0 p0 e0 about1 theMethod args0 below0 :=
  ⟨lists_1, trivial, launch0.admits_env _ _ _, launch0.least_env, fairChoices_fair.cas, fairChoices_fair.clock, w_frames, w_args, w_heap, w_applies, trivial, trivial, w_case⟩
end start1
theorem witness_1 : WitnessClaimed_1 := ⟨start1.p0, start1.e0, start1.about1, start1.theMethod, start1.args0, start1.below0, start1.atStart⟩
end Jvm.Pilot.@@N@@
