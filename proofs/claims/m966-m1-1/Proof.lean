import JvmDerived
import JvmDerived.Pilot.@@N@@Statement
import JvmDerived.Pilot.@@N@@Code
set_option linter.unusedVariables false
set_option linter.unusedSimpArgs false
@@BLOCK:NumsL.lean.txt@@
@@BLOCK:Masks.lean.txt@@
namespace Jvm.RoadKit
open Sem ClassFile Op Lib Jvm.Stand Jvm.Free Jvm.LawKit
section New
variable {p : Program} {l : Launch} {e : Env} {R : Room} {s : State} {m : MethodId} {args : Array Value} {below : List Frame} {meth : Method} {c : Code} {T : State} {locs : List Loc} {cells slots : Nat}
theorem retI (X : Stand p l e R s m args below meth c T locs cells slots) (hx : p.tables.exec = Jvm.exec) {pc : Nat} {Ls : Array Slot} {z : Int32} {rest : List Value} (hret : meth.sig.returnType = some .int) (hd : decode c.code pc = .ok (.ireturn, 1)) {fs : List Frame}
    (hl : ∀ (f : JFrame) (acts : List Action), f.method = m → f.locked = none → f.entered = [] → (doReturn e (T.setTop f) acts (some (.int z))).1 = T.setFrames fs) : Steps p.tables e below (T.setTop (mkF m pc Ls (.int z :: rest))) (T.setFrames fs) := by
  have hm' : T.vm.method? m = some meth := X.method'
  have hn : narrow .int (.int z) = .int z := rfl
  show Steps p.tables e below (T.setTop { method := m, pc := pc, locals := Ls, stack := _ :: rest, locked := none }) _
  jvm_step X.here [X.here.top, hx, hd, hm', hret, hn]
  first | (intro acts; rw [hl _ acts rfl rfl rfl]) | rw [hl _ _ rfl rfl rfl]
  exact Steps.refl _
end New
end Jvm.RoadKit
namespace Jvm.Pilot.@@N@@
open Jvm Jvm.ClassFile Sem Op Lib Jvm.Free Jvm.Stand Jvm.LawKit Jvm.RoadKit Bundle Jvm.Pilot.@@N@@.Jvm.D
def fN_185 (x : Int32) : Int32 := (if x < (65536 : Int32) then (0 : Int32) else (if (983039 : Int32) < x then (0 : Int32) else (1 : Int32)))
def fN_173 (x : Int32) : Int32 := (if x < (65008 : Int32) then (fN_185 x) else (if (65533 : Int32) < x then (fN_185 x) else (1 : Int32)))
def fN_161 (x : Int32) : Int32 := (if x < (63744 : Int32) then (fN_173 x) else (if (64975 : Int32) < x then (fN_173 x) else (1 : Int32)))
def fN_148 (x : Int32) : Int32 := (if x < (12289 : Int32) then (fN_161 x) else (if (55295 : Int32) < x then (fN_161 x) else (1 : Int32)))
def fN_134 (x : Int32) : Int32 := (if x < (11264 : Int32) then (fN_148 x) else (if (12271 : Int32) < x then (fN_148 x) else (1 : Int32)))
def fN_120 (x : Int32) : Int32 := (if x < (8304 : Int32) then (fN_134 x) else (if (8591 : Int32) < x then (fN_134 x) else (1 : Int32)))
def fN_106 (x : Int32) : Int32 := (if x < (8204 : Int32) then (fN_120 x) else (if (8205 : Int32) < x then (fN_120 x) else (1 : Int32)))
def fN_92 (x : Int32) : Int32 := (if x < (895 : Int32) then (fN_106 x) else (if (8191 : Int32) < x then (fN_106 x) else (1 : Int32)))
def fN_78 (x : Int32) : Int32 := (if x < (880 : Int32) then (fN_92 x) else (if (893 : Int32) < x then (fN_92 x) else (1 : Int32)))
def fN_64 (x : Int32) : Int32 := (if x < (248 : Int32) then (fN_78 x) else (if (767 : Int32) < x then (fN_78 x) else (1 : Int32)))
def fN_50 (x : Int32) : Int32 := (if x < (216 : Int32) then (fN_64 x) else (if (246 : Int32) < x then (fN_64 x) else (1 : Int32)))
def fN_36 (x : Int32) : Int32 := (if x < (192 : Int32) then (fN_50 x) else (if (214 : Int32) < x then (fN_50 x) else (1 : Int32)))
def fN_18 (x : Int32) : Int32 := (if x = (95 : Int32) then (1 : Int32) else (if x < (97 : Int32) then (fN_36 x) else (if (122 : Int32) < x then (fN_36 x) else (1 : Int32))))
def fN (x : Int32) : Int32 := (if x = (58 : Int32) then (1 : Int32) else (if x < (65 : Int32) then (fN_18 x) else (if (90 : Int32) < x then (fN_18 x) else (1 : Int32))))
def Q_rmA (x : Int32) (h0 : Heap) (n0 : Nat) (v : Option Value) (h : Heap) (L : List Loc) : Prop := v = some (.int (fN x)) ∧ Fr n0 L ∧ h = h0
theorem pn_0 : plainName "com/example/dongying/dongying/xml/XmlNames" = true := by first | (simp [plainName, overriddenIn]; done) | decide +kernel
theorem ef_rmA (m : MethodId) (x0 : Int32) : entryFrame m #[(.int x0)] 1 = mkF m 0 #[.val (.int x0)] [] := by first | (simp [entryFrame, mkF, argsToLocals, Value.category]; done) | rfl
theorem d3_0 : decode prog_87_method_2_code 0 = .ok (.iload_n 0, 1) := by decide +kernel
theorem d3_1 : decode prog_87_method_2_code 1 = .ok (.bipush 58, 2) := by decide +kernel
theorem d3_3 : decode prog_87_method_2_code 3 = .ok (.if_icmp .eq 194, 3) := by decide +kernel
theorem d3_6 : decode prog_87_method_2_code 6 = .ok (.iload_n 0, 1) := by decide +kernel
theorem d3_7 : decode prog_87_method_2_code 7 = .ok (.bipush 65, 2) := by decide +kernel
theorem d3_9 : decode prog_87_method_2_code 9 = .ok (.if_icmp .lt 9, 3) := by decide +kernel
theorem d3_12 : decode prog_87_method_2_code 12 = .ok (.iload_n 0, 1) := by decide +kernel
theorem d3_13 : decode prog_87_method_2_code 13 = .ok (.bipush 90, 2) := by decide +kernel
theorem d3_15 : decode prog_87_method_2_code 15 = .ok (.if_icmp .le 182, 3) := by decide +kernel
theorem d3_18 : decode prog_87_method_2_code 18 = .ok (.iload_n 0, 1) := by decide +kernel
theorem d3_19 : decode prog_87_method_2_code 19 = .ok (.bipush 95, 2) := by decide +kernel
theorem d3_21 : decode prog_87_method_2_code 21 = .ok (.if_icmp .eq 176, 3) := by decide +kernel
theorem d3_24 : decode prog_87_method_2_code 24 = .ok (.iload_n 0, 1) := by decide +kernel
theorem d3_25 : decode prog_87_method_2_code 25 = .ok (.bipush 97, 2) := by decide +kernel
theorem d3_27 : decode prog_87_method_2_code 27 = .ok (.if_icmp .lt 9, 3) := by decide +kernel
theorem d3_30 : decode prog_87_method_2_code 30 = .ok (.iload_n 0, 1) := by decide +kernel
theorem d3_31 : decode prog_87_method_2_code 31 = .ok (.bipush 122, 2) := by decide +kernel
theorem d3_33 : decode prog_87_method_2_code 33 = .ok (.if_icmp .le 164, 3) := by decide +kernel
theorem d3_36 : decode prog_87_method_2_code 36 = .ok (.iload_n 0, 1) := by decide +kernel
theorem d3_37 : decode prog_87_method_2_code 37 = .ok (.sipush 192, 3) := by decide +kernel
theorem d3_40 : decode prog_87_method_2_code 40 = .ok (.if_icmp .lt 10, 3) := by decide +kernel
theorem d3_43 : decode prog_87_method_2_code 43 = .ok (.iload_n 0, 1) := by decide +kernel
theorem d3_44 : decode prog_87_method_2_code 44 = .ok (.sipush 214, 3) := by decide +kernel
theorem d3_47 : decode prog_87_method_2_code 47 = .ok (.if_icmp .le 150, 3) := by decide +kernel
theorem d3_50 : decode prog_87_method_2_code 50 = .ok (.iload_n 0, 1) := by decide +kernel
theorem d3_51 : decode prog_87_method_2_code 51 = .ok (.sipush 216, 3) := by decide +kernel
theorem d3_54 : decode prog_87_method_2_code 54 = .ok (.if_icmp .lt 10, 3) := by decide +kernel
theorem d3_57 : decode prog_87_method_2_code 57 = .ok (.iload_n 0, 1) := by decide +kernel
theorem d3_58 : decode prog_87_method_2_code 58 = .ok (.sipush 246, 3) := by decide +kernel
theorem d3_61 : decode prog_87_method_2_code 61 = .ok (.if_icmp .le 136, 3) := by decide +kernel
theorem d3_64 : decode prog_87_method_2_code 64 = .ok (.iload_n 0, 1) := by decide +kernel
theorem d3_65 : decode prog_87_method_2_code 65 = .ok (.sipush 248, 3) := by decide +kernel
theorem d3_68 : decode prog_87_method_2_code 68 = .ok (.if_icmp .lt 10, 3) := by decide +kernel
theorem d3_71 : decode prog_87_method_2_code 71 = .ok (.iload_n 0, 1) := by decide +kernel
theorem d3_72 : decode prog_87_method_2_code 72 = .ok (.sipush 767, 3) := by decide +kernel
theorem d3_75 : decode prog_87_method_2_code 75 = .ok (.if_icmp .le 122, 3) := by decide +kernel
theorem d3_78 : decode prog_87_method_2_code 78 = .ok (.iload_n 0, 1) := by decide +kernel
theorem d3_79 : decode prog_87_method_2_code 79 = .ok (.sipush 880, 3) := by decide +kernel
theorem d3_82 : decode prog_87_method_2_code 82 = .ok (.if_icmp .lt 10, 3) := by decide +kernel
theorem d3_85 : decode prog_87_method_2_code 85 = .ok (.iload_n 0, 1) := by decide +kernel
theorem d3_86 : decode prog_87_method_2_code 86 = .ok (.sipush 893, 3) := by decide +kernel
theorem d3_89 : decode prog_87_method_2_code 89 = .ok (.if_icmp .le 108, 3) := by decide +kernel
theorem d3_92 : decode prog_87_method_2_code 92 = .ok (.iload_n 0, 1) := by decide +kernel
theorem d3_93 : decode prog_87_method_2_code 93 = .ok (.sipush 895, 3) := by decide +kernel
theorem d3_96 : decode prog_87_method_2_code 96 = .ok (.if_icmp .lt 10, 3) := by decide +kernel
theorem d3_99 : decode prog_87_method_2_code 99 = .ok (.iload_n 0, 1) := by decide +kernel
theorem d3_100 : decode prog_87_method_2_code 100 = .ok (.sipush 8191, 3) := by decide +kernel
theorem d3_103 : decode prog_87_method_2_code 103 = .ok (.if_icmp .le 94, 3) := by decide +kernel
theorem d3_106 : decode prog_87_method_2_code 106 = .ok (.iload_n 0, 1) := by decide +kernel
theorem d3_107 : decode prog_87_method_2_code 107 = .ok (.sipush 8204, 3) := by decide +kernel
theorem d3_110 : decode prog_87_method_2_code 110 = .ok (.if_icmp .lt 10, 3) := by decide +kernel
theorem d3_113 : decode prog_87_method_2_code 113 = .ok (.iload_n 0, 1) := by decide +kernel
theorem d3_114 : decode prog_87_method_2_code 114 = .ok (.sipush 8205, 3) := by decide +kernel
theorem d3_117 : decode prog_87_method_2_code 117 = .ok (.if_icmp .le 80, 3) := by decide +kernel
theorem d3_120 : decode prog_87_method_2_code 120 = .ok (.iload_n 0, 1) := by decide +kernel
theorem d3_121 : decode prog_87_method_2_code 121 = .ok (.sipush 8304, 3) := by decide +kernel
theorem d3_124 : decode prog_87_method_2_code 124 = .ok (.if_icmp .lt 10, 3) := by decide +kernel
theorem d3_127 : decode prog_87_method_2_code 127 = .ok (.iload_n 0, 1) := by decide +kernel
theorem d3_128 : decode prog_87_method_2_code 128 = .ok (.sipush 8591, 3) := by decide +kernel
theorem d3_131 : decode prog_87_method_2_code 131 = .ok (.if_icmp .le 66, 3) := by decide +kernel
theorem d3_134 : decode prog_87_method_2_code 134 = .ok (.iload_n 0, 1) := by decide +kernel
theorem d3_135 : decode prog_87_method_2_code 135 = .ok (.sipush 11264, 3) := by decide +kernel
theorem d3_138 : decode prog_87_method_2_code 138 = .ok (.if_icmp .lt 10, 3) := by decide +kernel
theorem d3_141 : decode prog_87_method_2_code 141 = .ok (.iload_n 0, 1) := by decide +kernel
theorem d3_142 : decode prog_87_method_2_code 142 = .ok (.sipush 12271, 3) := by decide +kernel
theorem d3_145 : decode prog_87_method_2_code 145 = .ok (.if_icmp .le 52, 3) := by decide +kernel
theorem d3_148 : decode prog_87_method_2_code 148 = .ok (.iload_n 0, 1) := by decide +kernel
theorem d3_149 : decode prog_87_method_2_code 149 = .ok (.sipush 12289, 3) := by decide +kernel
theorem d3_152 : decode prog_87_method_2_code 152 = .ok (.if_icmp .lt 9, 3) := by decide +kernel
theorem d3_155 : decode prog_87_method_2_code 155 = .ok (.iload_n 0, 1) := by decide +kernel
theorem d3_156 : decode prog_87_method_2_code 156 = .ok (.ldc 7, 2) := by decide +kernel
theorem d3_158 : decode prog_87_method_2_code 158 = .ok (.if_icmp .le 39, 3) := by decide +kernel
theorem d3_161 : decode prog_87_method_2_code 161 = .ok (.iload_n 0, 1) := by decide +kernel
theorem d3_162 : decode prog_87_method_2_code 162 = .ok (.ldc 8, 2) := by decide +kernel
theorem d3_164 : decode prog_87_method_2_code 164 = .ok (.if_icmp .lt 9, 3) := by decide +kernel
theorem d3_167 : decode prog_87_method_2_code 167 = .ok (.iload_n 0, 1) := by decide +kernel
theorem d3_168 : decode prog_87_method_2_code 168 = .ok (.ldc 9, 2) := by decide +kernel
theorem d3_170 : decode prog_87_method_2_code 170 = .ok (.if_icmp .le 27, 3) := by decide +kernel
theorem d3_173 : decode prog_87_method_2_code 173 = .ok (.iload_n 0, 1) := by decide +kernel
theorem d3_174 : decode prog_87_method_2_code 174 = .ok (.ldc 10, 2) := by decide +kernel
theorem d3_176 : decode prog_87_method_2_code 176 = .ok (.if_icmp .lt 9, 3) := by decide +kernel
theorem d3_179 : decode prog_87_method_2_code 179 = .ok (.iload_n 0, 1) := by decide +kernel
theorem d3_180 : decode prog_87_method_2_code 180 = .ok (.ldc 11, 2) := by decide +kernel
theorem d3_182 : decode prog_87_method_2_code 182 = .ok (.if_icmp .le 15, 3) := by decide +kernel
theorem d3_185 : decode prog_87_method_2_code 185 = .ok (.iload_n 0, 1) := by decide +kernel
theorem d3_186 : decode prog_87_method_2_code 186 = .ok (.ldc 12, 2) := by decide +kernel
theorem d3_188 : decode prog_87_method_2_code 188 = .ok (.if_icmp .lt 13, 3) := by decide +kernel
theorem d3_191 : decode prog_87_method_2_code 191 = .ok (.iload_n 0, 1) := by decide +kernel
theorem d3_192 : decode prog_87_method_2_code 192 = .ok (.ldc 13, 2) := by decide +kernel
theorem d3_194 : decode prog_87_method_2_code 194 = .ok (.if_icmp .gt 7, 3) := by decide +kernel
theorem d3_197 : decode prog_87_method_2_code 197 = .ok (.iconst 1, 1) := by decide +kernel
theorem d3_198 : decode prog_87_method_2_code 198 = .ok (.goto 4, 3) := by decide +kernel
theorem d3_201 : decode prog_87_method_2_code 201 = .ok (.iconst 0, 1) := by decide +kernel
theorem d3_202 : decode prog_87_method_2_code 202 = .ok (.ireturn, 1) := by decide +kernel
set_option maxRecDepth 65536 in
set_option maxHeartbeats 40000000 in
theorem rmA (l : Launch) (Z : State) (a0 : Array Value) (hw : ∀ d ∈ tables_1, d.before a0 Z = true) (ws : List Jvm.Cond) (x : Int32)  (h0 : Heap) (n0 : Nat) (Z0 : n0 ≤ h0.size)  :
    MetFree l (⟨"com/example/dongying/dongying/xml/XmlNames", "isNameStartChar", "(I)Z"⟩ : MethodName) (head1 (Jvm.Cond.code (⟨"com/example/dongying/dongying/xml/XmlNames", "isNameStartChar", "(I)Z"⟩ : MethodName) prog_87_method_2_code 1 (some .boolean) :: ws) ({ frames := 0, cells := 0, slots := 0, locals := 0 } : Room)) (fun a U => a = #[(.int x)] ∧ Z.Warmed39 U.vm ∧ U.heap = h0) (fun _ _ _ _ _ => True) (fun _ U o U' => ∃ v L, o = .returned v ∧ Q_rmA x h0 n0 v U'.heap L ∧ FrameEnd U o U' L ({ frames := 0, cells := 0, slots := 0, locals := 0 } : Room).cells ({ frames := 0, cells := 0, slots := 0, locals := 0 } : Room).slots) := by
  refine MetFree.of_bodySF (plainFor_of_name pn_0) hisR ?_
  intro p e s m args below meth c s₁ Bd hml0 hP hK
  obtain ⟨rfl, hZ, hh⟩ := hP
  have hx := Bd.exec
  have hby := Bd.bytes
  have hml : c.maxLocals = 1 := hml0
  have hown : s.vm.findClass "com/example/dongying/dongying/xml/XmlNames" = some m.cls := findClass_of_methodNamed Bd.named
  have hnm := (name_of_methodNamed Bd.named Bd.method).1
  have X0 : Stand p l e ({ frames := 0, cells := 0, slots := 0, locals := 0 } : Room) s m #[(.int x)] below meth c s₁ [] 0 0 := Stand.of_body Bd
  have e0 : s₁.heap = h0 := by rw [← hh, Bd.state]; rfl
  have N0 := Fr.nil n0
  have pre0 : ∀ t, Steps p.tables e below (s₁.setTop (mkF m 0 #[.val (.int x)] [])) t → Steps p.tables e below (s₁.setTop (entryFrame m #[(.int x)] 1)) t := fun t k => castTop (ef_rmA m x) k
  obtain ⟨fs, hr, hrun, hended, hW, hsame⟩ := X0.leave (v := some (.int (fN x))) (fun h => by rw [Bd.returns] at h; cases h)
  have j1 : (1 : Int32) = fN x → Steps p.tables e below (s₁.setTop (mkF m 197 #[.val (.int x)] [])) (s₁.setFrames fs) := by
    intro hq
    show Steps p.tables e below (s₁.setTop (mkF m 197 #[.val (.int x)] [])) _
    refine XS.iconst X0.here hx rfl (hb hby d3_197) ?_
    show Steps p.tables e below (s₁.setTop (mkF m 198 #[.val (.int x)] [(.int (1 : Int32))])) _
    refine XS.goto X0.here hx rfl (pc0 := 198) (pc' := 202) rfl (hb hby d3_198) (by decide) (by decide) ?_
    have hr1 := hr
    rw [← hq] at hr1
    exact retN X0 hx (t := .boolean) Bd.returns (by simp) (hb hby d3_202) hr1
  have j2 : (0 : Int32) = fN x → Steps p.tables e below (s₁.setTop (mkF m 201 #[.val (.int x)] [])) (s₁.setFrames fs) := by
    intro hq
    show Steps p.tables e below (s₁.setTop (mkF m 201 #[.val (.int x)] [])) _
    refine XS.iconst X0.here hx rfl (hb hby d3_201) ?_
    have hr1 := hr
    rw [← hq] at hr1
    exact retN X0 hx (t := .boolean) Bd.returns (by simp) (hb hby d3_202) hr1
  have j3 : (fN_185 x) = fN x → Steps p.tables e below (s₁.setTop (mkF m 185 #[.val (.int x)] [])) (s₁.setFrames fs) := by
    intro hq
    show Steps p.tables e below (s₁.setTop (mkF m 185 #[.val (.int x)] [])) _
    refine XS.iloadN X0.here hx rfl (hb hby d3_185) rfl ?_
    show Steps p.tables e below (s₁.setTop (mkF m 186 #[.val (.int x)] [(.int x)])) _
    refine X0.ldcInt hx hown (mvT hZ (hw _ (List.mem_of_getElem? (i := 22) rfl))) (g := (mkF m 186 #[.val (.int x)] [(.int x)])) rfl (hb hby d3_186) _ ?_
    show Steps p.tables e below (s₁.setTop (mkF m 188 #[.val (.int x)] [(.int (65536 : Int32)), (.int x)])) _
    by_cases hc188 : x < (65536 : Int32)
    · have hqhc1880 : (0 : Int32) = fN x := (if_pos hc188).symm.trans hq
      refine XS.icmpYes X0.here hx rfl (pc0 := 188) (pc' := 201) rfl (hb hby d3_188) rfl (tlt hc188).1 (by decide) (by decide) ?_
      exact j2 hqhc1880
    · have hqhc1881 : (if (983039 : Int32) < x then (0 : Int32) else (1 : Int32)) = fN x := (if_neg hc188).symm.trans hq
      refine XS.icmpNo X0.here hx rfl (hb hby d3_188) rfl (flt hc188).1 ?_
      show Steps p.tables e below (s₁.setTop (mkF m 191 #[.val (.int x)] [])) _
      refine XS.iloadN X0.here hx rfl (hb hby d3_191) rfl ?_
      show Steps p.tables e below (s₁.setTop (mkF m 192 #[.val (.int x)] [(.int x)])) _
      refine X0.ldcInt hx hown (mvT hZ (hw _ (List.mem_of_getElem? (i := 26) rfl))) (g := (mkF m 192 #[.val (.int x)] [(.int x)])) rfl (hb hby d3_192) _ ?_
      show Steps p.tables e below (s₁.setTop (mkF m 194 #[.val (.int x)] [(.int (983039 : Int32)), (.int x)])) _
      by_cases hc194 : (983039 : Int32) < x
      · have hqhc1940 : (0 : Int32) = fN x := (if_pos hc194).symm.trans hqhc1881
        refine XS.icmpYes X0.here hx rfl (pc0 := 194) (pc' := 201) rfl (hb hby d3_194) rfl (tlt hc194).2.2.1 (by decide) (by decide) ?_
        exact j2 hqhc1940
      · have hqhc1941 : (1 : Int32) = fN x := (if_neg hc194).symm.trans hqhc1881
        refine XS.icmpNo X0.here hx rfl (hb hby d3_194) rfl (flt hc194).2.2.1 ?_
        exact j1 hqhc1941
  have j4 : (fN_173 x) = fN x → Steps p.tables e below (s₁.setTop (mkF m 173 #[.val (.int x)] [])) (s₁.setFrames fs) := by
    intro hq
    show Steps p.tables e below (s₁.setTop (mkF m 173 #[.val (.int x)] [])) _
    refine XS.iloadN X0.here hx rfl (hb hby d3_173) rfl ?_
    show Steps p.tables e below (s₁.setTop (mkF m 174 #[.val (.int x)] [(.int x)])) _
    refine X0.ldcInt hx hown (mvT hZ (hw _ (List.mem_of_getElem? (i := 21) rfl))) (g := (mkF m 174 #[.val (.int x)] [(.int x)])) rfl (hb hby d3_174) _ ?_
    show Steps p.tables e below (s₁.setTop (mkF m 176 #[.val (.int x)] [(.int (65008 : Int32)), (.int x)])) _
    by_cases hc176 : x < (65008 : Int32)
    · have hqhc1760 : (fN_185 x) = fN x := (if_pos hc176).symm.trans hq
      refine XS.icmpYes X0.here hx rfl (pc0 := 176) (pc' := 185) rfl (hb hby d3_176) rfl (tlt hc176).1 (by decide) (by decide) ?_
      exact j3 hqhc1760
    · have hqhc1761 : (if (65533 : Int32) < x then (fN_185 x) else (1 : Int32)) = fN x := (if_neg hc176).symm.trans hq
      refine XS.icmpNo X0.here hx rfl (hb hby d3_176) rfl (flt hc176).1 ?_
      show Steps p.tables e below (s₁.setTop (mkF m 179 #[.val (.int x)] [])) _
      refine XS.iloadN X0.here hx rfl (hb hby d3_179) rfl ?_
      show Steps p.tables e below (s₁.setTop (mkF m 180 #[.val (.int x)] [(.int x)])) _
      refine X0.ldcInt hx hown (mvT hZ (hw _ (List.mem_of_getElem? (i := 25) rfl))) (g := (mkF m 180 #[.val (.int x)] [(.int x)])) rfl (hb hby d3_180) _ ?_
      show Steps p.tables e below (s₁.setTop (mkF m 182 #[.val (.int x)] [(.int (65533 : Int32)), (.int x)])) _
      by_cases hc182 : (65533 : Int32) < x
      · have hqhc1820 : (fN_185 x) = fN x := (if_pos hc182).symm.trans hqhc1761
        refine XS.icmpNo X0.here hx rfl (hb hby d3_182) rfl (tlt hc182).2.2.2 ?_
        exact j3 hqhc1820
      · have hqhc1821 : (1 : Int32) = fN x := (if_neg hc182).symm.trans hqhc1761
        refine XS.icmpYes X0.here hx rfl (pc0 := 182) (pc' := 197) rfl (hb hby d3_182) rfl (flt hc182).2.2.2 (by decide) (by decide) ?_
        exact j1 hqhc1821
  have j5 : (fN_161 x) = fN x → Steps p.tables e below (s₁.setTop (mkF m 161 #[.val (.int x)] [])) (s₁.setFrames fs) := by
    intro hq
    show Steps p.tables e below (s₁.setTop (mkF m 161 #[.val (.int x)] [])) _
    refine XS.iloadN X0.here hx rfl (hb hby d3_161) rfl ?_
    show Steps p.tables e below (s₁.setTop (mkF m 162 #[.val (.int x)] [(.int x)])) _
    refine X0.ldcInt hx hown (mvT hZ (hw _ (List.mem_of_getElem? (i := 20) rfl))) (g := (mkF m 162 #[.val (.int x)] [(.int x)])) rfl (hb hby d3_162) _ ?_
    show Steps p.tables e below (s₁.setTop (mkF m 164 #[.val (.int x)] [(.int (63744 : Int32)), (.int x)])) _
    by_cases hc164 : x < (63744 : Int32)
    · have hqhc1640 : (fN_173 x) = fN x := (if_pos hc164).symm.trans hq
      refine XS.icmpYes X0.here hx rfl (pc0 := 164) (pc' := 173) rfl (hb hby d3_164) rfl (tlt hc164).1 (by decide) (by decide) ?_
      exact j4 hqhc1640
    · have hqhc1641 : (if (64975 : Int32) < x then (fN_173 x) else (1 : Int32)) = fN x := (if_neg hc164).symm.trans hq
      refine XS.icmpNo X0.here hx rfl (hb hby d3_164) rfl (flt hc164).1 ?_
      show Steps p.tables e below (s₁.setTop (mkF m 167 #[.val (.int x)] [])) _
      refine XS.iloadN X0.here hx rfl (hb hby d3_167) rfl ?_
      show Steps p.tables e below (s₁.setTop (mkF m 168 #[.val (.int x)] [(.int x)])) _
      refine X0.ldcInt hx hown (mvT hZ (hw _ (List.mem_of_getElem? (i := 24) rfl))) (g := (mkF m 168 #[.val (.int x)] [(.int x)])) rfl (hb hby d3_168) _ ?_
      show Steps p.tables e below (s₁.setTop (mkF m 170 #[.val (.int x)] [(.int (64975 : Int32)), (.int x)])) _
      by_cases hc170 : (64975 : Int32) < x
      · have hqhc1700 : (fN_173 x) = fN x := (if_pos hc170).symm.trans hqhc1641
        refine XS.icmpNo X0.here hx rfl (hb hby d3_170) rfl (tlt hc170).2.2.2 ?_
        exact j4 hqhc1700
      · have hqhc1701 : (1 : Int32) = fN x := (if_neg hc170).symm.trans hqhc1641
        refine XS.icmpYes X0.here hx rfl (pc0 := 170) (pc' := 197) rfl (hb hby d3_170) rfl (flt hc170).2.2.2 (by decide) (by decide) ?_
        exact j1 hqhc1701
  have j6 : (fN_148 x) = fN x → Steps p.tables e below (s₁.setTop (mkF m 148 #[.val (.int x)] [])) (s₁.setFrames fs) := by
    intro hq
    show Steps p.tables e below (s₁.setTop (mkF m 148 #[.val (.int x)] [])) _
    refine XS.iloadN X0.here hx rfl (hb hby d3_148) rfl ?_
    show Steps p.tables e below (s₁.setTop (mkF m 149 #[.val (.int x)] [(.int x)])) _
    refine XS.sipush X0.here hx rfl (hb hby d3_149) ?_
    show Steps p.tables e below (s₁.setTop (mkF m 152 #[.val (.int x)] [(.int (12289 : Int32)), (.int x)])) _
    by_cases hc152 : x < (12289 : Int32)
    · have hqhc1520 : (fN_161 x) = fN x := (if_pos hc152).symm.trans hq
      refine XS.icmpYes X0.here hx rfl (pc0 := 152) (pc' := 161) rfl (hb hby d3_152) rfl (tlt hc152).1 (by decide) (by decide) ?_
      exact j5 hqhc1520
    · have hqhc1521 : (if (55295 : Int32) < x then (fN_161 x) else (1 : Int32)) = fN x := (if_neg hc152).symm.trans hq
      refine XS.icmpNo X0.here hx rfl (hb hby d3_152) rfl (flt hc152).1 ?_
      show Steps p.tables e below (s₁.setTop (mkF m 155 #[.val (.int x)] [])) _
      refine XS.iloadN X0.here hx rfl (hb hby d3_155) rfl ?_
      show Steps p.tables e below (s₁.setTop (mkF m 156 #[.val (.int x)] [(.int x)])) _
      refine X0.ldcInt hx hown (mvT hZ (hw _ (List.mem_of_getElem? (i := 23) rfl))) (g := (mkF m 156 #[.val (.int x)] [(.int x)])) rfl (hb hby d3_156) _ ?_
      show Steps p.tables e below (s₁.setTop (mkF m 158 #[.val (.int x)] [(.int (55295 : Int32)), (.int x)])) _
      by_cases hc158 : (55295 : Int32) < x
      · have hqhc1580 : (fN_161 x) = fN x := (if_pos hc158).symm.trans hqhc1521
        refine XS.icmpNo X0.here hx rfl (hb hby d3_158) rfl (tlt hc158).2.2.2 ?_
        exact j5 hqhc1580
      · have hqhc1581 : (1 : Int32) = fN x := (if_neg hc158).symm.trans hqhc1521
        refine XS.icmpYes X0.here hx rfl (pc0 := 158) (pc' := 197) rfl (hb hby d3_158) rfl (flt hc158).2.2.2 (by decide) (by decide) ?_
        exact j1 hqhc1581
  have j7 : (fN_134 x) = fN x → Steps p.tables e below (s₁.setTop (mkF m 134 #[.val (.int x)] [])) (s₁.setFrames fs) := by
    intro hq
    show Steps p.tables e below (s₁.setTop (mkF m 134 #[.val (.int x)] [])) _
    refine XS.iloadN X0.here hx rfl (hb hby d3_134) rfl ?_
    show Steps p.tables e below (s₁.setTop (mkF m 135 #[.val (.int x)] [(.int x)])) _
    refine XS.sipush X0.here hx rfl (hb hby d3_135) ?_
    show Steps p.tables e below (s₁.setTop (mkF m 138 #[.val (.int x)] [(.int (11264 : Int32)), (.int x)])) _
    by_cases hc138 : x < (11264 : Int32)
    · have hqhc1380 : (fN_148 x) = fN x := (if_pos hc138).symm.trans hq
      refine XS.icmpYes X0.here hx rfl (pc0 := 138) (pc' := 148) rfl (hb hby d3_138) rfl (tlt hc138).1 (by decide) (by decide) ?_
      exact j6 hqhc1380
    · have hqhc1381 : (if (12271 : Int32) < x then (fN_148 x) else (1 : Int32)) = fN x := (if_neg hc138).symm.trans hq
      refine XS.icmpNo X0.here hx rfl (hb hby d3_138) rfl (flt hc138).1 ?_
      show Steps p.tables e below (s₁.setTop (mkF m 141 #[.val (.int x)] [])) _
      refine XS.iloadN X0.here hx rfl (hb hby d3_141) rfl ?_
      show Steps p.tables e below (s₁.setTop (mkF m 142 #[.val (.int x)] [(.int x)])) _
      refine XS.sipush X0.here hx rfl (hb hby d3_142) ?_
      show Steps p.tables e below (s₁.setTop (mkF m 145 #[.val (.int x)] [(.int (12271 : Int32)), (.int x)])) _
      by_cases hc145 : (12271 : Int32) < x
      · have hqhc1450 : (fN_148 x) = fN x := (if_pos hc145).symm.trans hqhc1381
        refine XS.icmpNo X0.here hx rfl (hb hby d3_145) rfl (tlt hc145).2.2.2 ?_
        exact j6 hqhc1450
      · have hqhc1451 : (1 : Int32) = fN x := (if_neg hc145).symm.trans hqhc1381
        refine XS.icmpYes X0.here hx rfl (pc0 := 145) (pc' := 197) rfl (hb hby d3_145) rfl (flt hc145).2.2.2 (by decide) (by decide) ?_
        exact j1 hqhc1451
  have j8 : (fN_120 x) = fN x → Steps p.tables e below (s₁.setTop (mkF m 120 #[.val (.int x)] [])) (s₁.setFrames fs) := by
    intro hq
    show Steps p.tables e below (s₁.setTop (mkF m 120 #[.val (.int x)] [])) _
    refine XS.iloadN X0.here hx rfl (hb hby d3_120) rfl ?_
    show Steps p.tables e below (s₁.setTop (mkF m 121 #[.val (.int x)] [(.int x)])) _
    refine XS.sipush X0.here hx rfl (hb hby d3_121) ?_
    show Steps p.tables e below (s₁.setTop (mkF m 124 #[.val (.int x)] [(.int (8304 : Int32)), (.int x)])) _
    by_cases hc124 : x < (8304 : Int32)
    · have hqhc1240 : (fN_134 x) = fN x := (if_pos hc124).symm.trans hq
      refine XS.icmpYes X0.here hx rfl (pc0 := 124) (pc' := 134) rfl (hb hby d3_124) rfl (tlt hc124).1 (by decide) (by decide) ?_
      exact j7 hqhc1240
    · have hqhc1241 : (if (8591 : Int32) < x then (fN_134 x) else (1 : Int32)) = fN x := (if_neg hc124).symm.trans hq
      refine XS.icmpNo X0.here hx rfl (hb hby d3_124) rfl (flt hc124).1 ?_
      show Steps p.tables e below (s₁.setTop (mkF m 127 #[.val (.int x)] [])) _
      refine XS.iloadN X0.here hx rfl (hb hby d3_127) rfl ?_
      show Steps p.tables e below (s₁.setTop (mkF m 128 #[.val (.int x)] [(.int x)])) _
      refine XS.sipush X0.here hx rfl (hb hby d3_128) ?_
      show Steps p.tables e below (s₁.setTop (mkF m 131 #[.val (.int x)] [(.int (8591 : Int32)), (.int x)])) _
      by_cases hc131 : (8591 : Int32) < x
      · have hqhc1310 : (fN_134 x) = fN x := (if_pos hc131).symm.trans hqhc1241
        refine XS.icmpNo X0.here hx rfl (hb hby d3_131) rfl (tlt hc131).2.2.2 ?_
        exact j7 hqhc1310
      · have hqhc1311 : (1 : Int32) = fN x := (if_neg hc131).symm.trans hqhc1241
        refine XS.icmpYes X0.here hx rfl (pc0 := 131) (pc' := 197) rfl (hb hby d3_131) rfl (flt hc131).2.2.2 (by decide) (by decide) ?_
        exact j1 hqhc1311
  have j9 : (fN_106 x) = fN x → Steps p.tables e below (s₁.setTop (mkF m 106 #[.val (.int x)] [])) (s₁.setFrames fs) := by
    intro hq
    show Steps p.tables e below (s₁.setTop (mkF m 106 #[.val (.int x)] [])) _
    refine XS.iloadN X0.here hx rfl (hb hby d3_106) rfl ?_
    show Steps p.tables e below (s₁.setTop (mkF m 107 #[.val (.int x)] [(.int x)])) _
    refine XS.sipush X0.here hx rfl (hb hby d3_107) ?_
    show Steps p.tables e below (s₁.setTop (mkF m 110 #[.val (.int x)] [(.int (8204 : Int32)), (.int x)])) _
    by_cases hc110 : x < (8204 : Int32)
    · have hqhc1100 : (fN_120 x) = fN x := (if_pos hc110).symm.trans hq
      refine XS.icmpYes X0.here hx rfl (pc0 := 110) (pc' := 120) rfl (hb hby d3_110) rfl (tlt hc110).1 (by decide) (by decide) ?_
      exact j8 hqhc1100
    · have hqhc1101 : (if (8205 : Int32) < x then (fN_120 x) else (1 : Int32)) = fN x := (if_neg hc110).symm.trans hq
      refine XS.icmpNo X0.here hx rfl (hb hby d3_110) rfl (flt hc110).1 ?_
      show Steps p.tables e below (s₁.setTop (mkF m 113 #[.val (.int x)] [])) _
      refine XS.iloadN X0.here hx rfl (hb hby d3_113) rfl ?_
      show Steps p.tables e below (s₁.setTop (mkF m 114 #[.val (.int x)] [(.int x)])) _
      refine XS.sipush X0.here hx rfl (hb hby d3_114) ?_
      show Steps p.tables e below (s₁.setTop (mkF m 117 #[.val (.int x)] [(.int (8205 : Int32)), (.int x)])) _
      by_cases hc117 : (8205 : Int32) < x
      · have hqhc1170 : (fN_120 x) = fN x := (if_pos hc117).symm.trans hqhc1101
        refine XS.icmpNo X0.here hx rfl (hb hby d3_117) rfl (tlt hc117).2.2.2 ?_
        exact j8 hqhc1170
      · have hqhc1171 : (1 : Int32) = fN x := (if_neg hc117).symm.trans hqhc1101
        refine XS.icmpYes X0.here hx rfl (pc0 := 117) (pc' := 197) rfl (hb hby d3_117) rfl (flt hc117).2.2.2 (by decide) (by decide) ?_
        exact j1 hqhc1171
  have j10 : (fN_92 x) = fN x → Steps p.tables e below (s₁.setTop (mkF m 92 #[.val (.int x)] [])) (s₁.setFrames fs) := by
    intro hq
    show Steps p.tables e below (s₁.setTop (mkF m 92 #[.val (.int x)] [])) _
    refine XS.iloadN X0.here hx rfl (hb hby d3_92) rfl ?_
    show Steps p.tables e below (s₁.setTop (mkF m 93 #[.val (.int x)] [(.int x)])) _
    refine XS.sipush X0.here hx rfl (hb hby d3_93) ?_
    show Steps p.tables e below (s₁.setTop (mkF m 96 #[.val (.int x)] [(.int (895 : Int32)), (.int x)])) _
    by_cases hc96 : x < (895 : Int32)
    · have hqhc960 : (fN_106 x) = fN x := (if_pos hc96).symm.trans hq
      refine XS.icmpYes X0.here hx rfl (pc0 := 96) (pc' := 106) rfl (hb hby d3_96) rfl (tlt hc96).1 (by decide) (by decide) ?_
      exact j9 hqhc960
    · have hqhc961 : (if (8191 : Int32) < x then (fN_106 x) else (1 : Int32)) = fN x := (if_neg hc96).symm.trans hq
      refine XS.icmpNo X0.here hx rfl (hb hby d3_96) rfl (flt hc96).1 ?_
      show Steps p.tables e below (s₁.setTop (mkF m 99 #[.val (.int x)] [])) _
      refine XS.iloadN X0.here hx rfl (hb hby d3_99) rfl ?_
      show Steps p.tables e below (s₁.setTop (mkF m 100 #[.val (.int x)] [(.int x)])) _
      refine XS.sipush X0.here hx rfl (hb hby d3_100) ?_
      show Steps p.tables e below (s₁.setTop (mkF m 103 #[.val (.int x)] [(.int (8191 : Int32)), (.int x)])) _
      by_cases hc103 : (8191 : Int32) < x
      · have hqhc1030 : (fN_106 x) = fN x := (if_pos hc103).symm.trans hqhc961
        refine XS.icmpNo X0.here hx rfl (hb hby d3_103) rfl (tlt hc103).2.2.2 ?_
        exact j9 hqhc1030
      · have hqhc1031 : (1 : Int32) = fN x := (if_neg hc103).symm.trans hqhc961
        refine XS.icmpYes X0.here hx rfl (pc0 := 103) (pc' := 197) rfl (hb hby d3_103) rfl (flt hc103).2.2.2 (by decide) (by decide) ?_
        exact j1 hqhc1031
  have j11 : (fN_78 x) = fN x → Steps p.tables e below (s₁.setTop (mkF m 78 #[.val (.int x)] [])) (s₁.setFrames fs) := by
    intro hq
    show Steps p.tables e below (s₁.setTop (mkF m 78 #[.val (.int x)] [])) _
    refine XS.iloadN X0.here hx rfl (hb hby d3_78) rfl ?_
    show Steps p.tables e below (s₁.setTop (mkF m 79 #[.val (.int x)] [(.int x)])) _
    refine XS.sipush X0.here hx rfl (hb hby d3_79) ?_
    show Steps p.tables e below (s₁.setTop (mkF m 82 #[.val (.int x)] [(.int (880 : Int32)), (.int x)])) _
    by_cases hc82 : x < (880 : Int32)
    · have hqhc820 : (fN_92 x) = fN x := (if_pos hc82).symm.trans hq
      refine XS.icmpYes X0.here hx rfl (pc0 := 82) (pc' := 92) rfl (hb hby d3_82) rfl (tlt hc82).1 (by decide) (by decide) ?_
      exact j10 hqhc820
    · have hqhc821 : (if (893 : Int32) < x then (fN_92 x) else (1 : Int32)) = fN x := (if_neg hc82).symm.trans hq
      refine XS.icmpNo X0.here hx rfl (hb hby d3_82) rfl (flt hc82).1 ?_
      show Steps p.tables e below (s₁.setTop (mkF m 85 #[.val (.int x)] [])) _
      refine XS.iloadN X0.here hx rfl (hb hby d3_85) rfl ?_
      show Steps p.tables e below (s₁.setTop (mkF m 86 #[.val (.int x)] [(.int x)])) _
      refine XS.sipush X0.here hx rfl (hb hby d3_86) ?_
      show Steps p.tables e below (s₁.setTop (mkF m 89 #[.val (.int x)] [(.int (893 : Int32)), (.int x)])) _
      by_cases hc89 : (893 : Int32) < x
      · have hqhc890 : (fN_92 x) = fN x := (if_pos hc89).symm.trans hqhc821
        refine XS.icmpNo X0.here hx rfl (hb hby d3_89) rfl (tlt hc89).2.2.2 ?_
        exact j10 hqhc890
      · have hqhc891 : (1 : Int32) = fN x := (if_neg hc89).symm.trans hqhc821
        refine XS.icmpYes X0.here hx rfl (pc0 := 89) (pc' := 197) rfl (hb hby d3_89) rfl (flt hc89).2.2.2 (by decide) (by decide) ?_
        exact j1 hqhc891
  have j12 : (fN_64 x) = fN x → Steps p.tables e below (s₁.setTop (mkF m 64 #[.val (.int x)] [])) (s₁.setFrames fs) := by
    intro hq
    show Steps p.tables e below (s₁.setTop (mkF m 64 #[.val (.int x)] [])) _
    refine XS.iloadN X0.here hx rfl (hb hby d3_64) rfl ?_
    show Steps p.tables e below (s₁.setTop (mkF m 65 #[.val (.int x)] [(.int x)])) _
    refine XS.sipush X0.here hx rfl (hb hby d3_65) ?_
    show Steps p.tables e below (s₁.setTop (mkF m 68 #[.val (.int x)] [(.int (248 : Int32)), (.int x)])) _
    by_cases hc68 : x < (248 : Int32)
    · have hqhc680 : (fN_78 x) = fN x := (if_pos hc68).symm.trans hq
      refine XS.icmpYes X0.here hx rfl (pc0 := 68) (pc' := 78) rfl (hb hby d3_68) rfl (tlt hc68).1 (by decide) (by decide) ?_
      exact j11 hqhc680
    · have hqhc681 : (if (767 : Int32) < x then (fN_78 x) else (1 : Int32)) = fN x := (if_neg hc68).symm.trans hq
      refine XS.icmpNo X0.here hx rfl (hb hby d3_68) rfl (flt hc68).1 ?_
      show Steps p.tables e below (s₁.setTop (mkF m 71 #[.val (.int x)] [])) _
      refine XS.iloadN X0.here hx rfl (hb hby d3_71) rfl ?_
      show Steps p.tables e below (s₁.setTop (mkF m 72 #[.val (.int x)] [(.int x)])) _
      refine XS.sipush X0.here hx rfl (hb hby d3_72) ?_
      show Steps p.tables e below (s₁.setTop (mkF m 75 #[.val (.int x)] [(.int (767 : Int32)), (.int x)])) _
      by_cases hc75 : (767 : Int32) < x
      · have hqhc750 : (fN_78 x) = fN x := (if_pos hc75).symm.trans hqhc681
        refine XS.icmpNo X0.here hx rfl (hb hby d3_75) rfl (tlt hc75).2.2.2 ?_
        exact j11 hqhc750
      · have hqhc751 : (1 : Int32) = fN x := (if_neg hc75).symm.trans hqhc681
        refine XS.icmpYes X0.here hx rfl (pc0 := 75) (pc' := 197) rfl (hb hby d3_75) rfl (flt hc75).2.2.2 (by decide) (by decide) ?_
        exact j1 hqhc751
  have j13 : (fN_50 x) = fN x → Steps p.tables e below (s₁.setTop (mkF m 50 #[.val (.int x)] [])) (s₁.setFrames fs) := by
    intro hq
    show Steps p.tables e below (s₁.setTop (mkF m 50 #[.val (.int x)] [])) _
    refine XS.iloadN X0.here hx rfl (hb hby d3_50) rfl ?_
    show Steps p.tables e below (s₁.setTop (mkF m 51 #[.val (.int x)] [(.int x)])) _
    refine XS.sipush X0.here hx rfl (hb hby d3_51) ?_
    show Steps p.tables e below (s₁.setTop (mkF m 54 #[.val (.int x)] [(.int (216 : Int32)), (.int x)])) _
    by_cases hc54 : x < (216 : Int32)
    · have hqhc540 : (fN_64 x) = fN x := (if_pos hc54).symm.trans hq
      refine XS.icmpYes X0.here hx rfl (pc0 := 54) (pc' := 64) rfl (hb hby d3_54) rfl (tlt hc54).1 (by decide) (by decide) ?_
      exact j12 hqhc540
    · have hqhc541 : (if (246 : Int32) < x then (fN_64 x) else (1 : Int32)) = fN x := (if_neg hc54).symm.trans hq
      refine XS.icmpNo X0.here hx rfl (hb hby d3_54) rfl (flt hc54).1 ?_
      show Steps p.tables e below (s₁.setTop (mkF m 57 #[.val (.int x)] [])) _
      refine XS.iloadN X0.here hx rfl (hb hby d3_57) rfl ?_
      show Steps p.tables e below (s₁.setTop (mkF m 58 #[.val (.int x)] [(.int x)])) _
      refine XS.sipush X0.here hx rfl (hb hby d3_58) ?_
      show Steps p.tables e below (s₁.setTop (mkF m 61 #[.val (.int x)] [(.int (246 : Int32)), (.int x)])) _
      by_cases hc61 : (246 : Int32) < x
      · have hqhc610 : (fN_64 x) = fN x := (if_pos hc61).symm.trans hqhc541
        refine XS.icmpNo X0.here hx rfl (hb hby d3_61) rfl (tlt hc61).2.2.2 ?_
        exact j12 hqhc610
      · have hqhc611 : (1 : Int32) = fN x := (if_neg hc61).symm.trans hqhc541
        refine XS.icmpYes X0.here hx rfl (pc0 := 61) (pc' := 197) rfl (hb hby d3_61) rfl (flt hc61).2.2.2 (by decide) (by decide) ?_
        exact j1 hqhc611
  have j14 : (fN_36 x) = fN x → Steps p.tables e below (s₁.setTop (mkF m 36 #[.val (.int x)] [])) (s₁.setFrames fs) := by
    intro hq
    show Steps p.tables e below (s₁.setTop (mkF m 36 #[.val (.int x)] [])) _
    refine XS.iloadN X0.here hx rfl (hb hby d3_36) rfl ?_
    show Steps p.tables e below (s₁.setTop (mkF m 37 #[.val (.int x)] [(.int x)])) _
    refine XS.sipush X0.here hx rfl (hb hby d3_37) ?_
    show Steps p.tables e below (s₁.setTop (mkF m 40 #[.val (.int x)] [(.int (192 : Int32)), (.int x)])) _
    by_cases hc40 : x < (192 : Int32)
    · have hqhc400 : (fN_50 x) = fN x := (if_pos hc40).symm.trans hq
      refine XS.icmpYes X0.here hx rfl (pc0 := 40) (pc' := 50) rfl (hb hby d3_40) rfl (tlt hc40).1 (by decide) (by decide) ?_
      exact j13 hqhc400
    · have hqhc401 : (if (214 : Int32) < x then (fN_50 x) else (1 : Int32)) = fN x := (if_neg hc40).symm.trans hq
      refine XS.icmpNo X0.here hx rfl (hb hby d3_40) rfl (flt hc40).1 ?_
      show Steps p.tables e below (s₁.setTop (mkF m 43 #[.val (.int x)] [])) _
      refine XS.iloadN X0.here hx rfl (hb hby d3_43) rfl ?_
      show Steps p.tables e below (s₁.setTop (mkF m 44 #[.val (.int x)] [(.int x)])) _
      refine XS.sipush X0.here hx rfl (hb hby d3_44) ?_
      show Steps p.tables e below (s₁.setTop (mkF m 47 #[.val (.int x)] [(.int (214 : Int32)), (.int x)])) _
      by_cases hc47 : (214 : Int32) < x
      · have hqhc470 : (fN_50 x) = fN x := (if_pos hc47).symm.trans hqhc401
        refine XS.icmpNo X0.here hx rfl (hb hby d3_47) rfl (tlt hc47).2.2.2 ?_
        exact j13 hqhc470
      · have hqhc471 : (1 : Int32) = fN x := (if_neg hc47).symm.trans hqhc401
        refine XS.icmpYes X0.here hx rfl (pc0 := 47) (pc' := 197) rfl (hb hby d3_47) rfl (flt hc47).2.2.2 (by decide) (by decide) ?_
        exact j1 hqhc471
  have j15 : (fN_18 x) = fN x → Steps p.tables e below (s₁.setTop (mkF m 18 #[.val (.int x)] [])) (s₁.setFrames fs) := by
    intro hq
    show Steps p.tables e below (s₁.setTop (mkF m 18 #[.val (.int x)] [])) _
    refine XS.iloadN X0.here hx rfl (hb hby d3_18) rfl ?_
    show Steps p.tables e below (s₁.setTop (mkF m 19 #[.val (.int x)] [(.int x)])) _
    refine XS.bipush X0.here hx rfl (hb hby d3_19) ?_
    show Steps p.tables e below (s₁.setTop (mkF m 21 #[.val (.int x)] [(.int (95 : Int32)), (.int x)])) _
    by_cases hc21 : x = (95 : Int32)
    · have hqhc210 : (1 : Int32) = fN x := (if_pos hc21).symm.trans hq
      refine XS.icmpYes X0.here hx rfl (pc0 := 21) (pc' := 197) rfl (hb hby d3_21) rfl (teq hc21).1 (by decide) (by decide) ?_
      exact j1 hqhc210
    · have hqhc211 : (if x < (97 : Int32) then (fN_36 x) else (if (122 : Int32) < x then (fN_36 x) else (1 : Int32))) = fN x := (if_neg hc21).symm.trans hq
      refine XS.icmpNo X0.here hx rfl (hb hby d3_21) rfl (feq hc21).1 ?_
      show Steps p.tables e below (s₁.setTop (mkF m 24 #[.val (.int x)] [])) _
      refine XS.iloadN X0.here hx rfl (hb hby d3_24) rfl ?_
      show Steps p.tables e below (s₁.setTop (mkF m 25 #[.val (.int x)] [(.int x)])) _
      refine XS.bipush X0.here hx rfl (hb hby d3_25) ?_
      show Steps p.tables e below (s₁.setTop (mkF m 27 #[.val (.int x)] [(.int (97 : Int32)), (.int x)])) _
      by_cases hc27 : x < (97 : Int32)
      · have hqhc270 : (fN_36 x) = fN x := (if_pos hc27).symm.trans hqhc211
        refine XS.icmpYes X0.here hx rfl (pc0 := 27) (pc' := 36) rfl (hb hby d3_27) rfl (tlt hc27).1 (by decide) (by decide) ?_
        exact j14 hqhc270
      · have hqhc271 : (if (122 : Int32) < x then (fN_36 x) else (1 : Int32)) = fN x := (if_neg hc27).symm.trans hqhc211
        refine XS.icmpNo X0.here hx rfl (hb hby d3_27) rfl (flt hc27).1 ?_
        show Steps p.tables e below (s₁.setTop (mkF m 30 #[.val (.int x)] [])) _
        refine XS.iloadN X0.here hx rfl (hb hby d3_30) rfl ?_
        show Steps p.tables e below (s₁.setTop (mkF m 31 #[.val (.int x)] [(.int x)])) _
        refine XS.bipush X0.here hx rfl (hb hby d3_31) ?_
        show Steps p.tables e below (s₁.setTop (mkF m 33 #[.val (.int x)] [(.int (122 : Int32)), (.int x)])) _
        by_cases hc33 : (122 : Int32) < x
        · have hqhc330 : (fN_36 x) = fN x := (if_pos hc33).symm.trans hqhc271
          refine XS.icmpNo X0.here hx rfl (hb hby d3_33) rfl (tlt hc33).2.2.2 ?_
          exact j14 hqhc330
        · have hqhc331 : (1 : Int32) = fN x := (if_neg hc33).symm.trans hqhc271
          refine XS.icmpYes X0.here hx rfl (pc0 := 33) (pc' := 197) rfl (hb hby d3_33) rfl (flt hc33).2.2.2 (by decide) (by decide) ?_
          exact j1 hqhc331
  refine ⟨_, _, pre0 _ ?_, hrun, hended, _, _, rfl, ?_, ⟨_, rfl⟩, hW, hsame.mono (by decide) (by decide)⟩
  · have hq0 : (if x = (58 : Int32) then (1 : Int32) else (if x < (65 : Int32) then (fN_18 x) else (if (90 : Int32) < x then (fN_18 x) else (1 : Int32)))) = fN x := rfl
    show Steps p.tables e below (s₁.setTop (mkF m 0 #[.val (.int x)] [])) _
    refine XS.iloadN X0.here hx rfl (hb hby d3_0) rfl ?_
    show Steps p.tables e below (s₁.setTop (mkF m 1 #[.val (.int x)] [(.int x)])) _
    refine XS.bipush X0.here hx rfl (hb hby d3_1) ?_
    show Steps p.tables e below (s₁.setTop (mkF m 3 #[.val (.int x)] [(.int (58 : Int32)), (.int x)])) _
    by_cases hc3 : x = (58 : Int32)
    · have hqhc30 : (1 : Int32) = fN x := (if_pos hc3).symm.trans hq0
      refine XS.icmpYes X0.here hx rfl (pc0 := 3) (pc' := 197) rfl (hb hby d3_3) rfl (teq hc3).1 (by decide) (by decide) ?_
      exact j1 hqhc30
    · have hqhc31 : (if x < (65 : Int32) then (fN_18 x) else (if (90 : Int32) < x then (fN_18 x) else (1 : Int32))) = fN x := (if_neg hc3).symm.trans hq0
      refine XS.icmpNo X0.here hx rfl (hb hby d3_3) rfl (feq hc3).1 ?_
      show Steps p.tables e below (s₁.setTop (mkF m 6 #[.val (.int x)] [])) _
      refine XS.iloadN X0.here hx rfl (hb hby d3_6) rfl ?_
      show Steps p.tables e below (s₁.setTop (mkF m 7 #[.val (.int x)] [(.int x)])) _
      refine XS.bipush X0.here hx rfl (hb hby d3_7) ?_
      show Steps p.tables e below (s₁.setTop (mkF m 9 #[.val (.int x)] [(.int (65 : Int32)), (.int x)])) _
      by_cases hc9 : x < (65 : Int32)
      · have hqhc90 : (fN_18 x) = fN x := (if_pos hc9).symm.trans hqhc31
        refine XS.icmpYes X0.here hx rfl (pc0 := 9) (pc' := 18) rfl (hb hby d3_9) rfl (tlt hc9).1 (by decide) (by decide) ?_
        exact j15 hqhc90
      · have hqhc91 : (if (90 : Int32) < x then (fN_18 x) else (1 : Int32)) = fN x := (if_neg hc9).symm.trans hqhc31
        refine XS.icmpNo X0.here hx rfl (hb hby d3_9) rfl (flt hc9).1 ?_
        show Steps p.tables e below (s₁.setTop (mkF m 12 #[.val (.int x)] [])) _
        refine XS.iloadN X0.here hx rfl (hb hby d3_12) rfl ?_
        show Steps p.tables e below (s₁.setTop (mkF m 13 #[.val (.int x)] [(.int x)])) _
        refine XS.bipush X0.here hx rfl (hb hby d3_13) ?_
        show Steps p.tables e below (s₁.setTop (mkF m 15 #[.val (.int x)] [(.int (90 : Int32)), (.int x)])) _
        by_cases hc15 : (90 : Int32) < x
        · have hqhc150 : (fN_18 x) = fN x := (if_pos hc15).symm.trans hqhc91
          refine XS.icmpNo X0.here hx rfl (hb hby d3_15) rfl (tlt hc15).2.2.2 ?_
          exact j15 hqhc150
        · have hqhc151 : (1 : Int32) = fN x := (if_neg hc15).symm.trans hqhc91
          refine XS.icmpYes X0.here hx rfl (pc0 := 15) (pc' := 197) rfl (hb hby d3_15) rfl (flt hc15).2.2.2 (by decide) (by decide) ?_
          exact j1 hqhc151
  · show Q_rmA x h0 n0 _ s₁.heap _
    rw [e0]
    exact ⟨rfl, N0, rfl⟩
theorem own_nlt {x c : Int32} {k : Int} (hk : c.toInt = k) (h : k ≤ x.toInt) : ¬ (x < c) := by rw [Int32.lt_iff_toInt_lt]; omega
theorem own_lt {x c : Int32} {k : Int} (hk : c.toInt = k) (h : x.toInt < k) : x < c := by rw [Int32.lt_iff_toInt_lt]; omega
theorem own_ngt {x c : Int32} {k : Int} (hk : c.toInt = k) (h : x.toInt ≤ k) : ¬ (c < x) := by rw [Int32.lt_iff_toInt_lt]; omega
theorem own_gt {x c : Int32} {k : Int} (hk : c.toInt = k) (h : k < x.toInt) : c < x := by rw [Int32.lt_iff_toInt_lt]; omega
theorem own_ne {x c : Int32} {k : Int} (hk : c.toInt = k) (h : x.toInt ≠ k) : ¬ (x = c) := fun q => h (q ▸ hk)
theorem own_eq {x c : Int32} {k : Int} (hk : c.toInt = k) (h : x.toInt = k) : x = c := Int32.toInt_inj.mp (h.trans hk.symm)
theorem own_in_0 (x : Int32) (h1 : 58 ≤ x.toInt) (h2 : x.toInt ≤ 58) : fN x = (1 : Int32) := by
  rw [fN, if_pos (own_eq (c := 58) (k := 58) rfl (by omega))]
theorem own_in_1 (x : Int32) (h1 : 65 ≤ x.toInt) (h2 : x.toInt ≤ 90) : fN x = (1 : Int32) := by
  rw [fN, if_neg (own_ne (c := 58) (k := 58) rfl (by omega)), if_neg (own_nlt (c := 65) (k := 65) rfl (by omega)), if_neg (own_ngt (c := 90) (k := 90) rfl (by omega))]
theorem own_in_2 (x : Int32) (h1 : 95 ≤ x.toInt) (h2 : x.toInt ≤ 95) : fN x = (1 : Int32) := by
  rw [fN, if_neg (own_ne (c := 58) (k := 58) rfl (by omega)), if_neg (own_nlt (c := 65) (k := 65) rfl (by omega)), if_pos (own_gt (c := 90) (k := 90) rfl (by omega)), fN_18, if_pos (own_eq (c := 95) (k := 95) rfl (by omega))]
theorem own_in_3 (x : Int32) (h1 : 97 ≤ x.toInt) (h2 : x.toInt ≤ 122) : fN x = (1 : Int32) := by
  rw [fN, if_neg (own_ne (c := 58) (k := 58) rfl (by omega)), if_neg (own_nlt (c := 65) (k := 65) rfl (by omega)), if_pos (own_gt (c := 90) (k := 90) rfl (by omega)), fN_18, if_neg (own_ne (c := 95) (k := 95) rfl (by omega)), if_neg (own_nlt (c := 97) (k := 97) rfl (by omega)), if_neg (own_ngt (c := 122) (k := 122) rfl (by omega))]
theorem own_in_4 (x : Int32) (h1 : 192 ≤ x.toInt) (h2 : x.toInt ≤ 214) : fN x = (1 : Int32) := by
  rw [fN, if_neg (own_ne (c := 58) (k := 58) rfl (by omega)), if_neg (own_nlt (c := 65) (k := 65) rfl (by omega)), if_pos (own_gt (c := 90) (k := 90) rfl (by omega)), fN_18, if_neg (own_ne (c := 95) (k := 95) rfl (by omega)), if_neg (own_nlt (c := 97) (k := 97) rfl (by omega)), if_pos (own_gt (c := 122) (k := 122) rfl (by omega)), fN_36, if_neg (own_nlt (c := 192) (k := 192) rfl (by omega)), if_neg (own_ngt (c := 214) (k := 214) rfl (by omega))]
theorem own_in_5 (x : Int32) (h1 : 216 ≤ x.toInt) (h2 : x.toInt ≤ 246) : fN x = (1 : Int32) := by
  rw [fN, if_neg (own_ne (c := 58) (k := 58) rfl (by omega)), if_neg (own_nlt (c := 65) (k := 65) rfl (by omega)), if_pos (own_gt (c := 90) (k := 90) rfl (by omega)), fN_18, if_neg (own_ne (c := 95) (k := 95) rfl (by omega)), if_neg (own_nlt (c := 97) (k := 97) rfl (by omega)), if_pos (own_gt (c := 122) (k := 122) rfl (by omega)), fN_36, if_neg (own_nlt (c := 192) (k := 192) rfl (by omega)), if_pos (own_gt (c := 214) (k := 214) rfl (by omega)), fN_50, if_neg (own_nlt (c := 216) (k := 216) rfl (by omega)), if_neg (own_ngt (c := 246) (k := 246) rfl (by omega))]
theorem own_in_6 (x : Int32) (h1 : 248 ≤ x.toInt) (h2 : x.toInt ≤ 767) : fN x = (1 : Int32) := by
  rw [fN, if_neg (own_ne (c := 58) (k := 58) rfl (by omega)), if_neg (own_nlt (c := 65) (k := 65) rfl (by omega)), if_pos (own_gt (c := 90) (k := 90) rfl (by omega)), fN_18, if_neg (own_ne (c := 95) (k := 95) rfl (by omega)), if_neg (own_nlt (c := 97) (k := 97) rfl (by omega)), if_pos (own_gt (c := 122) (k := 122) rfl (by omega)), fN_36, if_neg (own_nlt (c := 192) (k := 192) rfl (by omega)), if_pos (own_gt (c := 214) (k := 214) rfl (by omega)), fN_50, if_neg (own_nlt (c := 216) (k := 216) rfl (by omega)), if_pos (own_gt (c := 246) (k := 246) rfl (by omega)), fN_64, if_neg (own_nlt (c := 248) (k := 248) rfl (by omega)), if_neg (own_ngt (c := 767) (k := 767) rfl (by omega))]
theorem own_in_7 (x : Int32) (h1 : 880 ≤ x.toInt) (h2 : x.toInt ≤ 893) : fN x = (1 : Int32) := by
  rw [fN, if_neg (own_ne (c := 58) (k := 58) rfl (by omega)), if_neg (own_nlt (c := 65) (k := 65) rfl (by omega)), if_pos (own_gt (c := 90) (k := 90) rfl (by omega)), fN_18, if_neg (own_ne (c := 95) (k := 95) rfl (by omega)), if_neg (own_nlt (c := 97) (k := 97) rfl (by omega)), if_pos (own_gt (c := 122) (k := 122) rfl (by omega)), fN_36, if_neg (own_nlt (c := 192) (k := 192) rfl (by omega)), if_pos (own_gt (c := 214) (k := 214) rfl (by omega)), fN_50, if_neg (own_nlt (c := 216) (k := 216) rfl (by omega)), if_pos (own_gt (c := 246) (k := 246) rfl (by omega)), fN_64, if_neg (own_nlt (c := 248) (k := 248) rfl (by omega)), if_pos (own_gt (c := 767) (k := 767) rfl (by omega)), fN_78, if_neg (own_nlt (c := 880) (k := 880) rfl (by omega)), if_neg (own_ngt (c := 893) (k := 893) rfl (by omega))]
theorem own_in_8 (x : Int32) (h1 : 895 ≤ x.toInt) (h2 : x.toInt ≤ 8191) : fN x = (1 : Int32) := by
  rw [fN, if_neg (own_ne (c := 58) (k := 58) rfl (by omega)), if_neg (own_nlt (c := 65) (k := 65) rfl (by omega)), if_pos (own_gt (c := 90) (k := 90) rfl (by omega)), fN_18, if_neg (own_ne (c := 95) (k := 95) rfl (by omega)), if_neg (own_nlt (c := 97) (k := 97) rfl (by omega)), if_pos (own_gt (c := 122) (k := 122) rfl (by omega)), fN_36, if_neg (own_nlt (c := 192) (k := 192) rfl (by omega)), if_pos (own_gt (c := 214) (k := 214) rfl (by omega)), fN_50, if_neg (own_nlt (c := 216) (k := 216) rfl (by omega)), if_pos (own_gt (c := 246) (k := 246) rfl (by omega)), fN_64, if_neg (own_nlt (c := 248) (k := 248) rfl (by omega)), if_pos (own_gt (c := 767) (k := 767) rfl (by omega)), fN_78, if_neg (own_nlt (c := 880) (k := 880) rfl (by omega)), if_pos (own_gt (c := 893) (k := 893) rfl (by omega)), fN_92, if_neg (own_nlt (c := 895) (k := 895) rfl (by omega)), if_neg (own_ngt (c := 8191) (k := 8191) rfl (by omega))]
theorem own_in_9 (x : Int32) (h1 : 8204 ≤ x.toInt) (h2 : x.toInt ≤ 8205) : fN x = (1 : Int32) := by
  rw [fN, if_neg (own_ne (c := 58) (k := 58) rfl (by omega)), if_neg (own_nlt (c := 65) (k := 65) rfl (by omega)), if_pos (own_gt (c := 90) (k := 90) rfl (by omega)), fN_18, if_neg (own_ne (c := 95) (k := 95) rfl (by omega)), if_neg (own_nlt (c := 97) (k := 97) rfl (by omega)), if_pos (own_gt (c := 122) (k := 122) rfl (by omega)), fN_36, if_neg (own_nlt (c := 192) (k := 192) rfl (by omega)), if_pos (own_gt (c := 214) (k := 214) rfl (by omega)), fN_50, if_neg (own_nlt (c := 216) (k := 216) rfl (by omega)), if_pos (own_gt (c := 246) (k := 246) rfl (by omega)), fN_64, if_neg (own_nlt (c := 248) (k := 248) rfl (by omega)), if_pos (own_gt (c := 767) (k := 767) rfl (by omega)), fN_78, if_neg (own_nlt (c := 880) (k := 880) rfl (by omega)), if_pos (own_gt (c := 893) (k := 893) rfl (by omega)), fN_92, if_neg (own_nlt (c := 895) (k := 895) rfl (by omega)), if_pos (own_gt (c := 8191) (k := 8191) rfl (by omega)), fN_106, if_neg (own_nlt (c := 8204) (k := 8204) rfl (by omega)), if_neg (own_ngt (c := 8205) (k := 8205) rfl (by omega))]
theorem own_in_10 (x : Int32) (h1 : 8304 ≤ x.toInt) (h2 : x.toInt ≤ 8591) : fN x = (1 : Int32) := by
  rw [fN, if_neg (own_ne (c := 58) (k := 58) rfl (by omega)), if_neg (own_nlt (c := 65) (k := 65) rfl (by omega)), if_pos (own_gt (c := 90) (k := 90) rfl (by omega)), fN_18, if_neg (own_ne (c := 95) (k := 95) rfl (by omega)), if_neg (own_nlt (c := 97) (k := 97) rfl (by omega)), if_pos (own_gt (c := 122) (k := 122) rfl (by omega)), fN_36, if_neg (own_nlt (c := 192) (k := 192) rfl (by omega)), if_pos (own_gt (c := 214) (k := 214) rfl (by omega)), fN_50, if_neg (own_nlt (c := 216) (k := 216) rfl (by omega)), if_pos (own_gt (c := 246) (k := 246) rfl (by omega)), fN_64, if_neg (own_nlt (c := 248) (k := 248) rfl (by omega)), if_pos (own_gt (c := 767) (k := 767) rfl (by omega)), fN_78, if_neg (own_nlt (c := 880) (k := 880) rfl (by omega)), if_pos (own_gt (c := 893) (k := 893) rfl (by omega)), fN_92, if_neg (own_nlt (c := 895) (k := 895) rfl (by omega)), if_pos (own_gt (c := 8191) (k := 8191) rfl (by omega)), fN_106, if_neg (own_nlt (c := 8204) (k := 8204) rfl (by omega)), if_pos (own_gt (c := 8205) (k := 8205) rfl (by omega)), fN_120, if_neg (own_nlt (c := 8304) (k := 8304) rfl (by omega)), if_neg (own_ngt (c := 8591) (k := 8591) rfl (by omega))]
theorem own_in_11 (x : Int32) (h1 : 11264 ≤ x.toInt) (h2 : x.toInt ≤ 12271) : fN x = (1 : Int32) := by
  rw [fN, if_neg (own_ne (c := 58) (k := 58) rfl (by omega)), if_neg (own_nlt (c := 65) (k := 65) rfl (by omega)), if_pos (own_gt (c := 90) (k := 90) rfl (by omega)), fN_18, if_neg (own_ne (c := 95) (k := 95) rfl (by omega)), if_neg (own_nlt (c := 97) (k := 97) rfl (by omega)), if_pos (own_gt (c := 122) (k := 122) rfl (by omega)), fN_36, if_neg (own_nlt (c := 192) (k := 192) rfl (by omega)), if_pos (own_gt (c := 214) (k := 214) rfl (by omega)), fN_50, if_neg (own_nlt (c := 216) (k := 216) rfl (by omega)), if_pos (own_gt (c := 246) (k := 246) rfl (by omega)), fN_64, if_neg (own_nlt (c := 248) (k := 248) rfl (by omega)), if_pos (own_gt (c := 767) (k := 767) rfl (by omega)), fN_78, if_neg (own_nlt (c := 880) (k := 880) rfl (by omega)), if_pos (own_gt (c := 893) (k := 893) rfl (by omega)), fN_92, if_neg (own_nlt (c := 895) (k := 895) rfl (by omega)), if_pos (own_gt (c := 8191) (k := 8191) rfl (by omega)), fN_106, if_neg (own_nlt (c := 8204) (k := 8204) rfl (by omega)), if_pos (own_gt (c := 8205) (k := 8205) rfl (by omega)), fN_120, if_neg (own_nlt (c := 8304) (k := 8304) rfl (by omega)), if_pos (own_gt (c := 8591) (k := 8591) rfl (by omega)), fN_134, if_neg (own_nlt (c := 11264) (k := 11264) rfl (by omega)), if_neg (own_ngt (c := 12271) (k := 12271) rfl (by omega))]
theorem own_in_12 (x : Int32) (h1 : 12289 ≤ x.toInt) (h2 : x.toInt ≤ 55295) : fN x = (1 : Int32) := by
  rw [fN, if_neg (own_ne (c := 58) (k := 58) rfl (by omega)), if_neg (own_nlt (c := 65) (k := 65) rfl (by omega)), if_pos (own_gt (c := 90) (k := 90) rfl (by omega)), fN_18, if_neg (own_ne (c := 95) (k := 95) rfl (by omega)), if_neg (own_nlt (c := 97) (k := 97) rfl (by omega)), if_pos (own_gt (c := 122) (k := 122) rfl (by omega)), fN_36, if_neg (own_nlt (c := 192) (k := 192) rfl (by omega)), if_pos (own_gt (c := 214) (k := 214) rfl (by omega)), fN_50, if_neg (own_nlt (c := 216) (k := 216) rfl (by omega)), if_pos (own_gt (c := 246) (k := 246) rfl (by omega)), fN_64, if_neg (own_nlt (c := 248) (k := 248) rfl (by omega)), if_pos (own_gt (c := 767) (k := 767) rfl (by omega)), fN_78, if_neg (own_nlt (c := 880) (k := 880) rfl (by omega)), if_pos (own_gt (c := 893) (k := 893) rfl (by omega)), fN_92, if_neg (own_nlt (c := 895) (k := 895) rfl (by omega)), if_pos (own_gt (c := 8191) (k := 8191) rfl (by omega)), fN_106, if_neg (own_nlt (c := 8204) (k := 8204) rfl (by omega)), if_pos (own_gt (c := 8205) (k := 8205) rfl (by omega)), fN_120, if_neg (own_nlt (c := 8304) (k := 8304) rfl (by omega)), if_pos (own_gt (c := 8591) (k := 8591) rfl (by omega)), fN_134, if_neg (own_nlt (c := 11264) (k := 11264) rfl (by omega)), if_pos (own_gt (c := 12271) (k := 12271) rfl (by omega)), fN_148, if_neg (own_nlt (c := 12289) (k := 12289) rfl (by omega)), if_neg (own_ngt (c := 55295) (k := 55295) rfl (by omega))]
theorem own_in_13 (x : Int32) (h1 : 63744 ≤ x.toInt) (h2 : x.toInt ≤ 64975) : fN x = (1 : Int32) := by
  rw [fN, if_neg (own_ne (c := 58) (k := 58) rfl (by omega)), if_neg (own_nlt (c := 65) (k := 65) rfl (by omega)), if_pos (own_gt (c := 90) (k := 90) rfl (by omega)), fN_18, if_neg (own_ne (c := 95) (k := 95) rfl (by omega)), if_neg (own_nlt (c := 97) (k := 97) rfl (by omega)), if_pos (own_gt (c := 122) (k := 122) rfl (by omega)), fN_36, if_neg (own_nlt (c := 192) (k := 192) rfl (by omega)), if_pos (own_gt (c := 214) (k := 214) rfl (by omega)), fN_50, if_neg (own_nlt (c := 216) (k := 216) rfl (by omega)), if_pos (own_gt (c := 246) (k := 246) rfl (by omega)), fN_64, if_neg (own_nlt (c := 248) (k := 248) rfl (by omega)), if_pos (own_gt (c := 767) (k := 767) rfl (by omega)), fN_78, if_neg (own_nlt (c := 880) (k := 880) rfl (by omega)), if_pos (own_gt (c := 893) (k := 893) rfl (by omega)), fN_92, if_neg (own_nlt (c := 895) (k := 895) rfl (by omega)), if_pos (own_gt (c := 8191) (k := 8191) rfl (by omega)), fN_106, if_neg (own_nlt (c := 8204) (k := 8204) rfl (by omega)), if_pos (own_gt (c := 8205) (k := 8205) rfl (by omega)), fN_120, if_neg (own_nlt (c := 8304) (k := 8304) rfl (by omega)), if_pos (own_gt (c := 8591) (k := 8591) rfl (by omega)), fN_134, if_neg (own_nlt (c := 11264) (k := 11264) rfl (by omega)), if_pos (own_gt (c := 12271) (k := 12271) rfl (by omega)), fN_148, if_neg (own_nlt (c := 12289) (k := 12289) rfl (by omega)), if_pos (own_gt (c := 55295) (k := 55295) rfl (by omega)), fN_161, if_neg (own_nlt (c := 63744) (k := 63744) rfl (by omega)), if_neg (own_ngt (c := 64975) (k := 64975) rfl (by omega))]
theorem own_in_14 (x : Int32) (h1 : 65008 ≤ x.toInt) (h2 : x.toInt ≤ 65533) : fN x = (1 : Int32) := by
  rw [fN, if_neg (own_ne (c := 58) (k := 58) rfl (by omega)), if_neg (own_nlt (c := 65) (k := 65) rfl (by omega)), if_pos (own_gt (c := 90) (k := 90) rfl (by omega)), fN_18, if_neg (own_ne (c := 95) (k := 95) rfl (by omega)), if_neg (own_nlt (c := 97) (k := 97) rfl (by omega)), if_pos (own_gt (c := 122) (k := 122) rfl (by omega)), fN_36, if_neg (own_nlt (c := 192) (k := 192) rfl (by omega)), if_pos (own_gt (c := 214) (k := 214) rfl (by omega)), fN_50, if_neg (own_nlt (c := 216) (k := 216) rfl (by omega)), if_pos (own_gt (c := 246) (k := 246) rfl (by omega)), fN_64, if_neg (own_nlt (c := 248) (k := 248) rfl (by omega)), if_pos (own_gt (c := 767) (k := 767) rfl (by omega)), fN_78, if_neg (own_nlt (c := 880) (k := 880) rfl (by omega)), if_pos (own_gt (c := 893) (k := 893) rfl (by omega)), fN_92, if_neg (own_nlt (c := 895) (k := 895) rfl (by omega)), if_pos (own_gt (c := 8191) (k := 8191) rfl (by omega)), fN_106, if_neg (own_nlt (c := 8204) (k := 8204) rfl (by omega)), if_pos (own_gt (c := 8205) (k := 8205) rfl (by omega)), fN_120, if_neg (own_nlt (c := 8304) (k := 8304) rfl (by omega)), if_pos (own_gt (c := 8591) (k := 8591) rfl (by omega)), fN_134, if_neg (own_nlt (c := 11264) (k := 11264) rfl (by omega)), if_pos (own_gt (c := 12271) (k := 12271) rfl (by omega)), fN_148, if_neg (own_nlt (c := 12289) (k := 12289) rfl (by omega)), if_pos (own_gt (c := 55295) (k := 55295) rfl (by omega)), fN_161, if_neg (own_nlt (c := 63744) (k := 63744) rfl (by omega)), if_pos (own_gt (c := 64975) (k := 64975) rfl (by omega)), fN_173, if_neg (own_nlt (c := 65008) (k := 65008) rfl (by omega)), if_neg (own_ngt (c := 65533) (k := 65533) rfl (by omega))]
theorem own_in_15 (x : Int32) (h1 : 65536 ≤ x.toInt) (h2 : x.toInt ≤ 983039) : fN x = (1 : Int32) := by
  rw [fN, if_neg (own_ne (c := 58) (k := 58) rfl (by omega)), if_neg (own_nlt (c := 65) (k := 65) rfl (by omega)), if_pos (own_gt (c := 90) (k := 90) rfl (by omega)), fN_18, if_neg (own_ne (c := 95) (k := 95) rfl (by omega)), if_neg (own_nlt (c := 97) (k := 97) rfl (by omega)), if_pos (own_gt (c := 122) (k := 122) rfl (by omega)), fN_36, if_neg (own_nlt (c := 192) (k := 192) rfl (by omega)), if_pos (own_gt (c := 214) (k := 214) rfl (by omega)), fN_50, if_neg (own_nlt (c := 216) (k := 216) rfl (by omega)), if_pos (own_gt (c := 246) (k := 246) rfl (by omega)), fN_64, if_neg (own_nlt (c := 248) (k := 248) rfl (by omega)), if_pos (own_gt (c := 767) (k := 767) rfl (by omega)), fN_78, if_neg (own_nlt (c := 880) (k := 880) rfl (by omega)), if_pos (own_gt (c := 893) (k := 893) rfl (by omega)), fN_92, if_neg (own_nlt (c := 895) (k := 895) rfl (by omega)), if_pos (own_gt (c := 8191) (k := 8191) rfl (by omega)), fN_106, if_neg (own_nlt (c := 8204) (k := 8204) rfl (by omega)), if_pos (own_gt (c := 8205) (k := 8205) rfl (by omega)), fN_120, if_neg (own_nlt (c := 8304) (k := 8304) rfl (by omega)), if_pos (own_gt (c := 8591) (k := 8591) rfl (by omega)), fN_134, if_neg (own_nlt (c := 11264) (k := 11264) rfl (by omega)), if_pos (own_gt (c := 12271) (k := 12271) rfl (by omega)), fN_148, if_neg (own_nlt (c := 12289) (k := 12289) rfl (by omega)), if_pos (own_gt (c := 55295) (k := 55295) rfl (by omega)), fN_161, if_neg (own_nlt (c := 63744) (k := 63744) rfl (by omega)), if_pos (own_gt (c := 64975) (k := 64975) rfl (by omega)), fN_173, if_neg (own_nlt (c := 65008) (k := 65008) rfl (by omega)), if_pos (own_gt (c := 65533) (k := 65533) rfl (by omega)), fN_185, if_neg (own_nlt (c := 65536) (k := 65536) rfl (by omega)), if_neg (own_ngt (c := 983039) (k := 983039) rfl (by omega))]
theorem own_out_0 (x : Int32) (h1 : 58 < x.toInt) (h2 : x.toInt < 65) : fN x = (0 : Int32) := by
  rw [fN, if_neg (own_ne (c := 58) (k := 58) rfl (by omega)), if_pos (own_lt (c := 65) (k := 65) rfl (by omega)), fN_18, if_neg (own_ne (c := 95) (k := 95) rfl (by omega)), if_pos (own_lt (c := 97) (k := 97) rfl (by omega)), fN_36, if_pos (own_lt (c := 192) (k := 192) rfl (by omega)), fN_50, if_pos (own_lt (c := 216) (k := 216) rfl (by omega)), fN_64, if_pos (own_lt (c := 248) (k := 248) rfl (by omega)), fN_78, if_pos (own_lt (c := 880) (k := 880) rfl (by omega)), fN_92, if_pos (own_lt (c := 895) (k := 895) rfl (by omega)), fN_106, if_pos (own_lt (c := 8204) (k := 8204) rfl (by omega)), fN_120, if_pos (own_lt (c := 8304) (k := 8304) rfl (by omega)), fN_134, if_pos (own_lt (c := 11264) (k := 11264) rfl (by omega)), fN_148, if_pos (own_lt (c := 12289) (k := 12289) rfl (by omega)), fN_161, if_pos (own_lt (c := 63744) (k := 63744) rfl (by omega)), fN_173, if_pos (own_lt (c := 65008) (k := 65008) rfl (by omega)), fN_185, if_pos (own_lt (c := 65536) (k := 65536) rfl (by omega))]
theorem own_out_1 (x : Int32) (h1 : 90 < x.toInt) (h2 : x.toInt < 95) : fN x = (0 : Int32) := by
  rw [fN, if_neg (own_ne (c := 58) (k := 58) rfl (by omega)), if_neg (own_nlt (c := 65) (k := 65) rfl (by omega)), if_pos (own_gt (c := 90) (k := 90) rfl (by omega)), fN_18, if_neg (own_ne (c := 95) (k := 95) rfl (by omega)), if_pos (own_lt (c := 97) (k := 97) rfl (by omega)), fN_36, if_pos (own_lt (c := 192) (k := 192) rfl (by omega)), fN_50, if_pos (own_lt (c := 216) (k := 216) rfl (by omega)), fN_64, if_pos (own_lt (c := 248) (k := 248) rfl (by omega)), fN_78, if_pos (own_lt (c := 880) (k := 880) rfl (by omega)), fN_92, if_pos (own_lt (c := 895) (k := 895) rfl (by omega)), fN_106, if_pos (own_lt (c := 8204) (k := 8204) rfl (by omega)), fN_120, if_pos (own_lt (c := 8304) (k := 8304) rfl (by omega)), fN_134, if_pos (own_lt (c := 11264) (k := 11264) rfl (by omega)), fN_148, if_pos (own_lt (c := 12289) (k := 12289) rfl (by omega)), fN_161, if_pos (own_lt (c := 63744) (k := 63744) rfl (by omega)), fN_173, if_pos (own_lt (c := 65008) (k := 65008) rfl (by omega)), fN_185, if_pos (own_lt (c := 65536) (k := 65536) rfl (by omega))]
theorem own_out_2 (x : Int32) (h1 : 95 < x.toInt) (h2 : x.toInt < 97) : fN x = (0 : Int32) := by
  rw [fN, if_neg (own_ne (c := 58) (k := 58) rfl (by omega)), if_neg (own_nlt (c := 65) (k := 65) rfl (by omega)), if_pos (own_gt (c := 90) (k := 90) rfl (by omega)), fN_18, if_neg (own_ne (c := 95) (k := 95) rfl (by omega)), if_pos (own_lt (c := 97) (k := 97) rfl (by omega)), fN_36, if_pos (own_lt (c := 192) (k := 192) rfl (by omega)), fN_50, if_pos (own_lt (c := 216) (k := 216) rfl (by omega)), fN_64, if_pos (own_lt (c := 248) (k := 248) rfl (by omega)), fN_78, if_pos (own_lt (c := 880) (k := 880) rfl (by omega)), fN_92, if_pos (own_lt (c := 895) (k := 895) rfl (by omega)), fN_106, if_pos (own_lt (c := 8204) (k := 8204) rfl (by omega)), fN_120, if_pos (own_lt (c := 8304) (k := 8304) rfl (by omega)), fN_134, if_pos (own_lt (c := 11264) (k := 11264) rfl (by omega)), fN_148, if_pos (own_lt (c := 12289) (k := 12289) rfl (by omega)), fN_161, if_pos (own_lt (c := 63744) (k := 63744) rfl (by omega)), fN_173, if_pos (own_lt (c := 65008) (k := 65008) rfl (by omega)), fN_185, if_pos (own_lt (c := 65536) (k := 65536) rfl (by omega))]
theorem own_out_3 (x : Int32) (h1 : 122 < x.toInt) (h2 : x.toInt < 192) : fN x = (0 : Int32) := by
  rw [fN, if_neg (own_ne (c := 58) (k := 58) rfl (by omega)), if_neg (own_nlt (c := 65) (k := 65) rfl (by omega)), if_pos (own_gt (c := 90) (k := 90) rfl (by omega)), fN_18, if_neg (own_ne (c := 95) (k := 95) rfl (by omega)), if_neg (own_nlt (c := 97) (k := 97) rfl (by omega)), if_pos (own_gt (c := 122) (k := 122) rfl (by omega)), fN_36, if_pos (own_lt (c := 192) (k := 192) rfl (by omega)), fN_50, if_pos (own_lt (c := 216) (k := 216) rfl (by omega)), fN_64, if_pos (own_lt (c := 248) (k := 248) rfl (by omega)), fN_78, if_pos (own_lt (c := 880) (k := 880) rfl (by omega)), fN_92, if_pos (own_lt (c := 895) (k := 895) rfl (by omega)), fN_106, if_pos (own_lt (c := 8204) (k := 8204) rfl (by omega)), fN_120, if_pos (own_lt (c := 8304) (k := 8304) rfl (by omega)), fN_134, if_pos (own_lt (c := 11264) (k := 11264) rfl (by omega)), fN_148, if_pos (own_lt (c := 12289) (k := 12289) rfl (by omega)), fN_161, if_pos (own_lt (c := 63744) (k := 63744) rfl (by omega)), fN_173, if_pos (own_lt (c := 65008) (k := 65008) rfl (by omega)), fN_185, if_pos (own_lt (c := 65536) (k := 65536) rfl (by omega))]
theorem own_out_4 (x : Int32) (h1 : 214 < x.toInt) (h2 : x.toInt < 216) : fN x = (0 : Int32) := by
  rw [fN, if_neg (own_ne (c := 58) (k := 58) rfl (by omega)), if_neg (own_nlt (c := 65) (k := 65) rfl (by omega)), if_pos (own_gt (c := 90) (k := 90) rfl (by omega)), fN_18, if_neg (own_ne (c := 95) (k := 95) rfl (by omega)), if_neg (own_nlt (c := 97) (k := 97) rfl (by omega)), if_pos (own_gt (c := 122) (k := 122) rfl (by omega)), fN_36, if_neg (own_nlt (c := 192) (k := 192) rfl (by omega)), if_pos (own_gt (c := 214) (k := 214) rfl (by omega)), fN_50, if_pos (own_lt (c := 216) (k := 216) rfl (by omega)), fN_64, if_pos (own_lt (c := 248) (k := 248) rfl (by omega)), fN_78, if_pos (own_lt (c := 880) (k := 880) rfl (by omega)), fN_92, if_pos (own_lt (c := 895) (k := 895) rfl (by omega)), fN_106, if_pos (own_lt (c := 8204) (k := 8204) rfl (by omega)), fN_120, if_pos (own_lt (c := 8304) (k := 8304) rfl (by omega)), fN_134, if_pos (own_lt (c := 11264) (k := 11264) rfl (by omega)), fN_148, if_pos (own_lt (c := 12289) (k := 12289) rfl (by omega)), fN_161, if_pos (own_lt (c := 63744) (k := 63744) rfl (by omega)), fN_173, if_pos (own_lt (c := 65008) (k := 65008) rfl (by omega)), fN_185, if_pos (own_lt (c := 65536) (k := 65536) rfl (by omega))]
theorem own_out_5 (x : Int32) (h1 : 246 < x.toInt) (h2 : x.toInt < 248) : fN x = (0 : Int32) := by
  rw [fN, if_neg (own_ne (c := 58) (k := 58) rfl (by omega)), if_neg (own_nlt (c := 65) (k := 65) rfl (by omega)), if_pos (own_gt (c := 90) (k := 90) rfl (by omega)), fN_18, if_neg (own_ne (c := 95) (k := 95) rfl (by omega)), if_neg (own_nlt (c := 97) (k := 97) rfl (by omega)), if_pos (own_gt (c := 122) (k := 122) rfl (by omega)), fN_36, if_neg (own_nlt (c := 192) (k := 192) rfl (by omega)), if_pos (own_gt (c := 214) (k := 214) rfl (by omega)), fN_50, if_neg (own_nlt (c := 216) (k := 216) rfl (by omega)), if_pos (own_gt (c := 246) (k := 246) rfl (by omega)), fN_64, if_pos (own_lt (c := 248) (k := 248) rfl (by omega)), fN_78, if_pos (own_lt (c := 880) (k := 880) rfl (by omega)), fN_92, if_pos (own_lt (c := 895) (k := 895) rfl (by omega)), fN_106, if_pos (own_lt (c := 8204) (k := 8204) rfl (by omega)), fN_120, if_pos (own_lt (c := 8304) (k := 8304) rfl (by omega)), fN_134, if_pos (own_lt (c := 11264) (k := 11264) rfl (by omega)), fN_148, if_pos (own_lt (c := 12289) (k := 12289) rfl (by omega)), fN_161, if_pos (own_lt (c := 63744) (k := 63744) rfl (by omega)), fN_173, if_pos (own_lt (c := 65008) (k := 65008) rfl (by omega)), fN_185, if_pos (own_lt (c := 65536) (k := 65536) rfl (by omega))]
theorem own_out_6 (x : Int32) (h1 : 767 < x.toInt) (h2 : x.toInt < 880) : fN x = (0 : Int32) := by
  rw [fN, if_neg (own_ne (c := 58) (k := 58) rfl (by omega)), if_neg (own_nlt (c := 65) (k := 65) rfl (by omega)), if_pos (own_gt (c := 90) (k := 90) rfl (by omega)), fN_18, if_neg (own_ne (c := 95) (k := 95) rfl (by omega)), if_neg (own_nlt (c := 97) (k := 97) rfl (by omega)), if_pos (own_gt (c := 122) (k := 122) rfl (by omega)), fN_36, if_neg (own_nlt (c := 192) (k := 192) rfl (by omega)), if_pos (own_gt (c := 214) (k := 214) rfl (by omega)), fN_50, if_neg (own_nlt (c := 216) (k := 216) rfl (by omega)), if_pos (own_gt (c := 246) (k := 246) rfl (by omega)), fN_64, if_neg (own_nlt (c := 248) (k := 248) rfl (by omega)), if_pos (own_gt (c := 767) (k := 767) rfl (by omega)), fN_78, if_pos (own_lt (c := 880) (k := 880) rfl (by omega)), fN_92, if_pos (own_lt (c := 895) (k := 895) rfl (by omega)), fN_106, if_pos (own_lt (c := 8204) (k := 8204) rfl (by omega)), fN_120, if_pos (own_lt (c := 8304) (k := 8304) rfl (by omega)), fN_134, if_pos (own_lt (c := 11264) (k := 11264) rfl (by omega)), fN_148, if_pos (own_lt (c := 12289) (k := 12289) rfl (by omega)), fN_161, if_pos (own_lt (c := 63744) (k := 63744) rfl (by omega)), fN_173, if_pos (own_lt (c := 65008) (k := 65008) rfl (by omega)), fN_185, if_pos (own_lt (c := 65536) (k := 65536) rfl (by omega))]
theorem own_out_7 (x : Int32) (h1 : 893 < x.toInt) (h2 : x.toInt < 895) : fN x = (0 : Int32) := by
  rw [fN, if_neg (own_ne (c := 58) (k := 58) rfl (by omega)), if_neg (own_nlt (c := 65) (k := 65) rfl (by omega)), if_pos (own_gt (c := 90) (k := 90) rfl (by omega)), fN_18, if_neg (own_ne (c := 95) (k := 95) rfl (by omega)), if_neg (own_nlt (c := 97) (k := 97) rfl (by omega)), if_pos (own_gt (c := 122) (k := 122) rfl (by omega)), fN_36, if_neg (own_nlt (c := 192) (k := 192) rfl (by omega)), if_pos (own_gt (c := 214) (k := 214) rfl (by omega)), fN_50, if_neg (own_nlt (c := 216) (k := 216) rfl (by omega)), if_pos (own_gt (c := 246) (k := 246) rfl (by omega)), fN_64, if_neg (own_nlt (c := 248) (k := 248) rfl (by omega)), if_pos (own_gt (c := 767) (k := 767) rfl (by omega)), fN_78, if_neg (own_nlt (c := 880) (k := 880) rfl (by omega)), if_pos (own_gt (c := 893) (k := 893) rfl (by omega)), fN_92, if_pos (own_lt (c := 895) (k := 895) rfl (by omega)), fN_106, if_pos (own_lt (c := 8204) (k := 8204) rfl (by omega)), fN_120, if_pos (own_lt (c := 8304) (k := 8304) rfl (by omega)), fN_134, if_pos (own_lt (c := 11264) (k := 11264) rfl (by omega)), fN_148, if_pos (own_lt (c := 12289) (k := 12289) rfl (by omega)), fN_161, if_pos (own_lt (c := 63744) (k := 63744) rfl (by omega)), fN_173, if_pos (own_lt (c := 65008) (k := 65008) rfl (by omega)), fN_185, if_pos (own_lt (c := 65536) (k := 65536) rfl (by omega))]
theorem own_out_8 (x : Int32) (h1 : 8191 < x.toInt) (h2 : x.toInt < 8204) : fN x = (0 : Int32) := by
  rw [fN, if_neg (own_ne (c := 58) (k := 58) rfl (by omega)), if_neg (own_nlt (c := 65) (k := 65) rfl (by omega)), if_pos (own_gt (c := 90) (k := 90) rfl (by omega)), fN_18, if_neg (own_ne (c := 95) (k := 95) rfl (by omega)), if_neg (own_nlt (c := 97) (k := 97) rfl (by omega)), if_pos (own_gt (c := 122) (k := 122) rfl (by omega)), fN_36, if_neg (own_nlt (c := 192) (k := 192) rfl (by omega)), if_pos (own_gt (c := 214) (k := 214) rfl (by omega)), fN_50, if_neg (own_nlt (c := 216) (k := 216) rfl (by omega)), if_pos (own_gt (c := 246) (k := 246) rfl (by omega)), fN_64, if_neg (own_nlt (c := 248) (k := 248) rfl (by omega)), if_pos (own_gt (c := 767) (k := 767) rfl (by omega)), fN_78, if_neg (own_nlt (c := 880) (k := 880) rfl (by omega)), if_pos (own_gt (c := 893) (k := 893) rfl (by omega)), fN_92, if_neg (own_nlt (c := 895) (k := 895) rfl (by omega)), if_pos (own_gt (c := 8191) (k := 8191) rfl (by omega)), fN_106, if_pos (own_lt (c := 8204) (k := 8204) rfl (by omega)), fN_120, if_pos (own_lt (c := 8304) (k := 8304) rfl (by omega)), fN_134, if_pos (own_lt (c := 11264) (k := 11264) rfl (by omega)), fN_148, if_pos (own_lt (c := 12289) (k := 12289) rfl (by omega)), fN_161, if_pos (own_lt (c := 63744) (k := 63744) rfl (by omega)), fN_173, if_pos (own_lt (c := 65008) (k := 65008) rfl (by omega)), fN_185, if_pos (own_lt (c := 65536) (k := 65536) rfl (by omega))]
theorem own_out_9 (x : Int32) (h1 : 8205 < x.toInt) (h2 : x.toInt < 8304) : fN x = (0 : Int32) := by
  rw [fN, if_neg (own_ne (c := 58) (k := 58) rfl (by omega)), if_neg (own_nlt (c := 65) (k := 65) rfl (by omega)), if_pos (own_gt (c := 90) (k := 90) rfl (by omega)), fN_18, if_neg (own_ne (c := 95) (k := 95) rfl (by omega)), if_neg (own_nlt (c := 97) (k := 97) rfl (by omega)), if_pos (own_gt (c := 122) (k := 122) rfl (by omega)), fN_36, if_neg (own_nlt (c := 192) (k := 192) rfl (by omega)), if_pos (own_gt (c := 214) (k := 214) rfl (by omega)), fN_50, if_neg (own_nlt (c := 216) (k := 216) rfl (by omega)), if_pos (own_gt (c := 246) (k := 246) rfl (by omega)), fN_64, if_neg (own_nlt (c := 248) (k := 248) rfl (by omega)), if_pos (own_gt (c := 767) (k := 767) rfl (by omega)), fN_78, if_neg (own_nlt (c := 880) (k := 880) rfl (by omega)), if_pos (own_gt (c := 893) (k := 893) rfl (by omega)), fN_92, if_neg (own_nlt (c := 895) (k := 895) rfl (by omega)), if_pos (own_gt (c := 8191) (k := 8191) rfl (by omega)), fN_106, if_neg (own_nlt (c := 8204) (k := 8204) rfl (by omega)), if_pos (own_gt (c := 8205) (k := 8205) rfl (by omega)), fN_120, if_pos (own_lt (c := 8304) (k := 8304) rfl (by omega)), fN_134, if_pos (own_lt (c := 11264) (k := 11264) rfl (by omega)), fN_148, if_pos (own_lt (c := 12289) (k := 12289) rfl (by omega)), fN_161, if_pos (own_lt (c := 63744) (k := 63744) rfl (by omega)), fN_173, if_pos (own_lt (c := 65008) (k := 65008) rfl (by omega)), fN_185, if_pos (own_lt (c := 65536) (k := 65536) rfl (by omega))]
theorem own_out_10 (x : Int32) (h1 : 8591 < x.toInt) (h2 : x.toInt < 11264) : fN x = (0 : Int32) := by
  rw [fN, if_neg (own_ne (c := 58) (k := 58) rfl (by omega)), if_neg (own_nlt (c := 65) (k := 65) rfl (by omega)), if_pos (own_gt (c := 90) (k := 90) rfl (by omega)), fN_18, if_neg (own_ne (c := 95) (k := 95) rfl (by omega)), if_neg (own_nlt (c := 97) (k := 97) rfl (by omega)), if_pos (own_gt (c := 122) (k := 122) rfl (by omega)), fN_36, if_neg (own_nlt (c := 192) (k := 192) rfl (by omega)), if_pos (own_gt (c := 214) (k := 214) rfl (by omega)), fN_50, if_neg (own_nlt (c := 216) (k := 216) rfl (by omega)), if_pos (own_gt (c := 246) (k := 246) rfl (by omega)), fN_64, if_neg (own_nlt (c := 248) (k := 248) rfl (by omega)), if_pos (own_gt (c := 767) (k := 767) rfl (by omega)), fN_78, if_neg (own_nlt (c := 880) (k := 880) rfl (by omega)), if_pos (own_gt (c := 893) (k := 893) rfl (by omega)), fN_92, if_neg (own_nlt (c := 895) (k := 895) rfl (by omega)), if_pos (own_gt (c := 8191) (k := 8191) rfl (by omega)), fN_106, if_neg (own_nlt (c := 8204) (k := 8204) rfl (by omega)), if_pos (own_gt (c := 8205) (k := 8205) rfl (by omega)), fN_120, if_neg (own_nlt (c := 8304) (k := 8304) rfl (by omega)), if_pos (own_gt (c := 8591) (k := 8591) rfl (by omega)), fN_134, if_pos (own_lt (c := 11264) (k := 11264) rfl (by omega)), fN_148, if_pos (own_lt (c := 12289) (k := 12289) rfl (by omega)), fN_161, if_pos (own_lt (c := 63744) (k := 63744) rfl (by omega)), fN_173, if_pos (own_lt (c := 65008) (k := 65008) rfl (by omega)), fN_185, if_pos (own_lt (c := 65536) (k := 65536) rfl (by omega))]
theorem own_out_11 (x : Int32) (h1 : 12271 < x.toInt) (h2 : x.toInt < 12289) : fN x = (0 : Int32) := by
  rw [fN, if_neg (own_ne (c := 58) (k := 58) rfl (by omega)), if_neg (own_nlt (c := 65) (k := 65) rfl (by omega)), if_pos (own_gt (c := 90) (k := 90) rfl (by omega)), fN_18, if_neg (own_ne (c := 95) (k := 95) rfl (by omega)), if_neg (own_nlt (c := 97) (k := 97) rfl (by omega)), if_pos (own_gt (c := 122) (k := 122) rfl (by omega)), fN_36, if_neg (own_nlt (c := 192) (k := 192) rfl (by omega)), if_pos (own_gt (c := 214) (k := 214) rfl (by omega)), fN_50, if_neg (own_nlt (c := 216) (k := 216) rfl (by omega)), if_pos (own_gt (c := 246) (k := 246) rfl (by omega)), fN_64, if_neg (own_nlt (c := 248) (k := 248) rfl (by omega)), if_pos (own_gt (c := 767) (k := 767) rfl (by omega)), fN_78, if_neg (own_nlt (c := 880) (k := 880) rfl (by omega)), if_pos (own_gt (c := 893) (k := 893) rfl (by omega)), fN_92, if_neg (own_nlt (c := 895) (k := 895) rfl (by omega)), if_pos (own_gt (c := 8191) (k := 8191) rfl (by omega)), fN_106, if_neg (own_nlt (c := 8204) (k := 8204) rfl (by omega)), if_pos (own_gt (c := 8205) (k := 8205) rfl (by omega)), fN_120, if_neg (own_nlt (c := 8304) (k := 8304) rfl (by omega)), if_pos (own_gt (c := 8591) (k := 8591) rfl (by omega)), fN_134, if_neg (own_nlt (c := 11264) (k := 11264) rfl (by omega)), if_pos (own_gt (c := 12271) (k := 12271) rfl (by omega)), fN_148, if_pos (own_lt (c := 12289) (k := 12289) rfl (by omega)), fN_161, if_pos (own_lt (c := 63744) (k := 63744) rfl (by omega)), fN_173, if_pos (own_lt (c := 65008) (k := 65008) rfl (by omega)), fN_185, if_pos (own_lt (c := 65536) (k := 65536) rfl (by omega))]
theorem own_out_12 (x : Int32) (h1 : 55295 < x.toInt) (h2 : x.toInt < 63744) : fN x = (0 : Int32) := by
  rw [fN, if_neg (own_ne (c := 58) (k := 58) rfl (by omega)), if_neg (own_nlt (c := 65) (k := 65) rfl (by omega)), if_pos (own_gt (c := 90) (k := 90) rfl (by omega)), fN_18, if_neg (own_ne (c := 95) (k := 95) rfl (by omega)), if_neg (own_nlt (c := 97) (k := 97) rfl (by omega)), if_pos (own_gt (c := 122) (k := 122) rfl (by omega)), fN_36, if_neg (own_nlt (c := 192) (k := 192) rfl (by omega)), if_pos (own_gt (c := 214) (k := 214) rfl (by omega)), fN_50, if_neg (own_nlt (c := 216) (k := 216) rfl (by omega)), if_pos (own_gt (c := 246) (k := 246) rfl (by omega)), fN_64, if_neg (own_nlt (c := 248) (k := 248) rfl (by omega)), if_pos (own_gt (c := 767) (k := 767) rfl (by omega)), fN_78, if_neg (own_nlt (c := 880) (k := 880) rfl (by omega)), if_pos (own_gt (c := 893) (k := 893) rfl (by omega)), fN_92, if_neg (own_nlt (c := 895) (k := 895) rfl (by omega)), if_pos (own_gt (c := 8191) (k := 8191) rfl (by omega)), fN_106, if_neg (own_nlt (c := 8204) (k := 8204) rfl (by omega)), if_pos (own_gt (c := 8205) (k := 8205) rfl (by omega)), fN_120, if_neg (own_nlt (c := 8304) (k := 8304) rfl (by omega)), if_pos (own_gt (c := 8591) (k := 8591) rfl (by omega)), fN_134, if_neg (own_nlt (c := 11264) (k := 11264) rfl (by omega)), if_pos (own_gt (c := 12271) (k := 12271) rfl (by omega)), fN_148, if_neg (own_nlt (c := 12289) (k := 12289) rfl (by omega)), if_pos (own_gt (c := 55295) (k := 55295) rfl (by omega)), fN_161, if_pos (own_lt (c := 63744) (k := 63744) rfl (by omega)), fN_173, if_pos (own_lt (c := 65008) (k := 65008) rfl (by omega)), fN_185, if_pos (own_lt (c := 65536) (k := 65536) rfl (by omega))]
theorem own_out_13 (x : Int32) (h1 : 64975 < x.toInt) (h2 : x.toInt < 65008) : fN x = (0 : Int32) := by
  rw [fN, if_neg (own_ne (c := 58) (k := 58) rfl (by omega)), if_neg (own_nlt (c := 65) (k := 65) rfl (by omega)), if_pos (own_gt (c := 90) (k := 90) rfl (by omega)), fN_18, if_neg (own_ne (c := 95) (k := 95) rfl (by omega)), if_neg (own_nlt (c := 97) (k := 97) rfl (by omega)), if_pos (own_gt (c := 122) (k := 122) rfl (by omega)), fN_36, if_neg (own_nlt (c := 192) (k := 192) rfl (by omega)), if_pos (own_gt (c := 214) (k := 214) rfl (by omega)), fN_50, if_neg (own_nlt (c := 216) (k := 216) rfl (by omega)), if_pos (own_gt (c := 246) (k := 246) rfl (by omega)), fN_64, if_neg (own_nlt (c := 248) (k := 248) rfl (by omega)), if_pos (own_gt (c := 767) (k := 767) rfl (by omega)), fN_78, if_neg (own_nlt (c := 880) (k := 880) rfl (by omega)), if_pos (own_gt (c := 893) (k := 893) rfl (by omega)), fN_92, if_neg (own_nlt (c := 895) (k := 895) rfl (by omega)), if_pos (own_gt (c := 8191) (k := 8191) rfl (by omega)), fN_106, if_neg (own_nlt (c := 8204) (k := 8204) rfl (by omega)), if_pos (own_gt (c := 8205) (k := 8205) rfl (by omega)), fN_120, if_neg (own_nlt (c := 8304) (k := 8304) rfl (by omega)), if_pos (own_gt (c := 8591) (k := 8591) rfl (by omega)), fN_134, if_neg (own_nlt (c := 11264) (k := 11264) rfl (by omega)), if_pos (own_gt (c := 12271) (k := 12271) rfl (by omega)), fN_148, if_neg (own_nlt (c := 12289) (k := 12289) rfl (by omega)), if_pos (own_gt (c := 55295) (k := 55295) rfl (by omega)), fN_161, if_neg (own_nlt (c := 63744) (k := 63744) rfl (by omega)), if_pos (own_gt (c := 64975) (k := 64975) rfl (by omega)), fN_173, if_pos (own_lt (c := 65008) (k := 65008) rfl (by omega)), fN_185, if_pos (own_lt (c := 65536) (k := 65536) rfl (by omega))]
theorem own_out_14 (x : Int32) (h1 : 65533 < x.toInt) (h2 : x.toInt < 65536) : fN x = (0 : Int32) := by
  rw [fN, if_neg (own_ne (c := 58) (k := 58) rfl (by omega)), if_neg (own_nlt (c := 65) (k := 65) rfl (by omega)), if_pos (own_gt (c := 90) (k := 90) rfl (by omega)), fN_18, if_neg (own_ne (c := 95) (k := 95) rfl (by omega)), if_neg (own_nlt (c := 97) (k := 97) rfl (by omega)), if_pos (own_gt (c := 122) (k := 122) rfl (by omega)), fN_36, if_neg (own_nlt (c := 192) (k := 192) rfl (by omega)), if_pos (own_gt (c := 214) (k := 214) rfl (by omega)), fN_50, if_neg (own_nlt (c := 216) (k := 216) rfl (by omega)), if_pos (own_gt (c := 246) (k := 246) rfl (by omega)), fN_64, if_neg (own_nlt (c := 248) (k := 248) rfl (by omega)), if_pos (own_gt (c := 767) (k := 767) rfl (by omega)), fN_78, if_neg (own_nlt (c := 880) (k := 880) rfl (by omega)), if_pos (own_gt (c := 893) (k := 893) rfl (by omega)), fN_92, if_neg (own_nlt (c := 895) (k := 895) rfl (by omega)), if_pos (own_gt (c := 8191) (k := 8191) rfl (by omega)), fN_106, if_neg (own_nlt (c := 8204) (k := 8204) rfl (by omega)), if_pos (own_gt (c := 8205) (k := 8205) rfl (by omega)), fN_120, if_neg (own_nlt (c := 8304) (k := 8304) rfl (by omega)), if_pos (own_gt (c := 8591) (k := 8591) rfl (by omega)), fN_134, if_neg (own_nlt (c := 11264) (k := 11264) rfl (by omega)), if_pos (own_gt (c := 12271) (k := 12271) rfl (by omega)), fN_148, if_neg (own_nlt (c := 12289) (k := 12289) rfl (by omega)), if_pos (own_gt (c := 55295) (k := 55295) rfl (by omega)), fN_161, if_neg (own_nlt (c := 63744) (k := 63744) rfl (by omega)), if_pos (own_gt (c := 64975) (k := 64975) rfl (by omega)), fN_173, if_neg (own_nlt (c := 65008) (k := 65008) rfl (by omega)), if_pos (own_gt (c := 65533) (k := 65533) rfl (by omega)), fN_185, if_pos (own_lt (c := 65536) (k := 65536) rfl (by omega))]
theorem own_low (x : Int32) (h : x < (58 : Int32)) : fN x = (0 : Int32) := by
  have h2 : x.toInt < 58 := Int32.lt_iff_toInt_lt.mp h
  have h1 := x.le_toInt
  rw [fN, if_neg (own_ne (c := 58) (k := 58) rfl (by omega)), if_pos (own_lt (c := 65) (k := 65) rfl (by omega)), fN_18, if_neg (own_ne (c := 95) (k := 95) rfl (by omega)), if_pos (own_lt (c := 97) (k := 97) rfl (by omega)), fN_36, if_pos (own_lt (c := 192) (k := 192) rfl (by omega)), fN_50, if_pos (own_lt (c := 216) (k := 216) rfl (by omega)), fN_64, if_pos (own_lt (c := 248) (k := 248) rfl (by omega)), fN_78, if_pos (own_lt (c := 880) (k := 880) rfl (by omega)), fN_92, if_pos (own_lt (c := 895) (k := 895) rfl (by omega)), fN_106, if_pos (own_lt (c := 8204) (k := 8204) rfl (by omega)), fN_120, if_pos (own_lt (c := 8304) (k := 8304) rfl (by omega)), fN_134, if_pos (own_lt (c := 11264) (k := 11264) rfl (by omega)), fN_148, if_pos (own_lt (c := 12289) (k := 12289) rfl (by omega)), fN_161, if_pos (own_lt (c := 63744) (k := 63744) rfl (by omega)), fN_173, if_pos (own_lt (c := 65008) (k := 65008) rfl (by omega)), fN_185, if_pos (own_lt (c := 65536) (k := 65536) rfl (by omega))]
theorem own_high (x : Int32) (h : (983039 : Int32) < x) : fN x = (0 : Int32) := by
  have h1 : 983039 < x.toInt := Int32.lt_iff_toInt_lt.mp h
  have h2 := x.toInt_lt
  rw [fN, if_neg (own_ne (c := 58) (k := 58) rfl (by omega)), if_neg (own_nlt (c := 65) (k := 65) rfl (by omega)), if_pos (own_gt (c := 90) (k := 90) rfl (by omega)), fN_18, if_neg (own_ne (c := 95) (k := 95) rfl (by omega)), if_neg (own_nlt (c := 97) (k := 97) rfl (by omega)), if_pos (own_gt (c := 122) (k := 122) rfl (by omega)), fN_36, if_neg (own_nlt (c := 192) (k := 192) rfl (by omega)), if_pos (own_gt (c := 214) (k := 214) rfl (by omega)), fN_50, if_neg (own_nlt (c := 216) (k := 216) rfl (by omega)), if_pos (own_gt (c := 246) (k := 246) rfl (by omega)), fN_64, if_neg (own_nlt (c := 248) (k := 248) rfl (by omega)), if_pos (own_gt (c := 767) (k := 767) rfl (by omega)), fN_78, if_neg (own_nlt (c := 880) (k := 880) rfl (by omega)), if_pos (own_gt (c := 893) (k := 893) rfl (by omega)), fN_92, if_neg (own_nlt (c := 895) (k := 895) rfl (by omega)), if_pos (own_gt (c := 8191) (k := 8191) rfl (by omega)), fN_106, if_neg (own_nlt (c := 8204) (k := 8204) rfl (by omega)), if_pos (own_gt (c := 8205) (k := 8205) rfl (by omega)), fN_120, if_neg (own_nlt (c := 8304) (k := 8304) rfl (by omega)), if_pos (own_gt (c := 8591) (k := 8591) rfl (by omega)), fN_134, if_neg (own_nlt (c := 11264) (k := 11264) rfl (by omega)), if_pos (own_gt (c := 12271) (k := 12271) rfl (by omega)), fN_148, if_neg (own_nlt (c := 12289) (k := 12289) rfl (by omega)), if_pos (own_gt (c := 55295) (k := 55295) rfl (by omega)), fN_161, if_neg (own_nlt (c := 63744) (k := 63744) rfl (by omega)), if_pos (own_gt (c := 64975) (k := 64975) rfl (by omega)), fN_173, if_neg (own_nlt (c := 65008) (k := 65008) rfl (by omega)), if_pos (own_gt (c := 65533) (k := 65533) rfl (by omega)), fN_185, if_neg (own_nlt (c := 65536) (k := 65536) rfl (by omega)), if_pos (own_gt (c := 983039) (k := 983039) rfl (by omega))]
def own_LO : List Int32 := [58, 65, 95, 97, 192, 216, 248, 880, 895, 8204, 8304, 11264, 12289, 63744, 65008, 65536]
def own_HI : List Int32 := [58, 90, 95, 122, 214, 246, 767, 893, 8191, 8205, 8591, 12271, 55295, 64975, 65533, 983039]
def own_lo (j : Int32) : Int32 := own_LO.getD j.toNatClampNeg 0
def own_hi (j : Int32) : Int32 := own_HI.getD j.toNatClampNeg 0
theorem own_getD (L : List Int32) (i : Nat) : (L.map Value.int).getD i (.int (0 : Int32)) = .int (L.getD i 0) := by
  simp only [List.getD_eq_getElem?_getD, List.getElem?_map]
  cases L[i]? <;> rfl
theorem own_loAt (j : Int32) : ([(.int (58 : Int32)), (.int (65 : Int32)), (.int (95 : Int32)), (.int (97 : Int32)), (.int (192 : Int32)), (.int (216 : Int32)), (.int (248 : Int32)), (.int (880 : Int32)), (.int (895 : Int32)), (.int (8204 : Int32)), (.int (8304 : Int32)), (.int (11264 : Int32)), (.int (12289 : Int32)), (.int (63744 : Int32)), (.int (65008 : Int32)), (.int (65536 : Int32))] : List Value).getD j.toNatClampNeg (.int (0 : Int32)) = .int (own_lo j) := own_getD own_LO _
theorem own_hiAt (j : Int32) : ([(.int (58 : Int32)), (.int (90 : Int32)), (.int (95 : Int32)), (.int (122 : Int32)), (.int (214 : Int32)), (.int (246 : Int32)), (.int (767 : Int32)), (.int (893 : Int32)), (.int (8191 : Int32)), (.int (8205 : Int32)), (.int (8591 : Int32)), (.int (12271 : Int32)), (.int (55295 : Int32)), (.int (64975 : Int32)), (.int (65533 : Int32)), (.int (983039 : Int32))] : List Value).getD j.toNatClampNeg (.int (0 : Int32)) = .int (own_hi j) := own_getD own_HI _
theorem own_nat {j c : Int32} {k : Nat} (hc : c.toInt = k) (h : ¬ j < 0 ∧ j < c) : j.toNatClampNeg < k := by
  obtain ⟨h0, h1⟩ := h
  rw [Int32.lt_iff_toInt_lt] at h0 h1
  have e0 : (0 : Int32).toInt = 0 := rfl
  simp only [Int32.toNatClampNeg]
  omega
theorem own_t1 : ∀ n, n < 16 → fN (own_LO.getD n 0) = (1 : Int32) := by decide +kernel
theorem own_t2 : ∀ n, n < 16 → fN (own_HI.getD n 0) = (1 : Int32) := by decide +kernel
theorem own_t3 : ∀ n, n < 16 → fN (own_LO.getD n 0 - (1 : Int32)) = (0 : Int32) := by decide +kernel
theorem own_t4 : ∀ n, n < 16 → fN (own_HI.getD n 0 + (1 : Int32)) = (0 : Int32) := by decide +kernel
theorem own_t5 : ∀ n, n < 16 → 0 ≤ (own_LO.getD n 0).toInt ∧ (own_LO.getD n 0).toInt ≤ (own_HI.getD n 0).toInt ∧ (own_HI.getD n 0).toInt < 1000000 ∧ ((own_HI.getD n 0 - own_LO.getD n 0) + (1 : Int32)).toInt = (own_HI.getD n 0).toInt - (own_LO.getD n 0).toInt + 1 := by decide +kernel
theorem own_t6 : ∀ n, n < 15 → 0 ≤ (own_HI.getD n 0).toInt ∧ (own_HI.getD n 0).toInt + 1 < (own_LO.getD (n + 1) 0).toInt ∧ (own_LO.getD (n + 1) 0).toInt < 1000000 ∧ ((own_LO.getD (n + 1) 0 - own_HI.getD n 0) - (1 : Int32)).toInt = (own_LO.getD (n + 1) 0).toInt - (own_HI.getD n 0).toInt - 1 ∧ (own_HI.getD n 0 + (1 : Int32)).toInt = (own_HI.getD n 0).toInt + 1 := by decide +kernel
theorem own_rng (n : Nat) (hn : n < 16) (x : Int32) (h1 : (own_LO.getD n 0).toInt ≤ x.toInt) (h2 : x.toInt ≤ (own_HI.getD n 0).toInt) : fN x = (1 : Int32) := by
  match n, hn, h1, h2 with
  | 0, _, h1, h2 => exact own_in_0 x h1 h2
  | 1, _, h1, h2 => exact own_in_1 x h1 h2
  | 2, _, h1, h2 => exact own_in_2 x h1 h2
  | 3, _, h1, h2 => exact own_in_3 x h1 h2
  | 4, _, h1, h2 => exact own_in_4 x h1 h2
  | 5, _, h1, h2 => exact own_in_5 x h1 h2
  | 6, _, h1, h2 => exact own_in_6 x h1 h2
  | 7, _, h1, h2 => exact own_in_7 x h1 h2
  | 8, _, h1, h2 => exact own_in_8 x h1 h2
  | 9, _, h1, h2 => exact own_in_9 x h1 h2
  | 10, _, h1, h2 => exact own_in_10 x h1 h2
  | 11, _, h1, h2 => exact own_in_11 x h1 h2
  | 12, _, h1, h2 => exact own_in_12 x h1 h2
  | 13, _, h1, h2 => exact own_in_13 x h1 h2
  | 14, _, h1, h2 => exact own_in_14 x h1 h2
  | 15, _, h1, h2 => exact own_in_15 x h1 h2
  | n + 16, hn, _, _ => omega
theorem own_gap (n : Nat) (hn : n < 15) (x : Int32) (h1 : (own_HI.getD n 0).toInt < x.toInt) (h2 : x.toInt < (own_LO.getD (n + 1) 0).toInt) : fN x = (0 : Int32) := by
  match n, hn, h1, h2 with
  | 0, _, h1, h2 => exact own_out_0 x h1 h2
  | 1, _, h1, h2 => exact own_out_1 x h1 h2
  | 2, _, h1, h2 => exact own_out_2 x h1 h2
  | 3, _, h1, h2 => exact own_out_3 x h1 h2
  | 4, _, h1, h2 => exact own_out_4 x h1 h2
  | 5, _, h1, h2 => exact own_out_5 x h1 h2
  | 6, _, h1, h2 => exact own_out_6 x h1 h2
  | 7, _, h1, h2 => exact own_out_7 x h1 h2
  | 8, _, h1, h2 => exact own_out_8 x h1 h2
  | 9, _, h1, h2 => exact own_out_9 x h1 h2
  | 10, _, h1, h2 => exact own_out_10 x h1 h2
  | 11, _, h1, h2 => exact own_out_11 x h1 h2
  | 12, _, h1, h2 => exact own_out_12 x h1 h2
  | 13, _, h1, h2 => exact own_out_13 x h1 h2
  | 14, _, h1, h2 => exact own_out_14 x h1 h2
  | n + 15, hn, _, _ => omega
theorem own_k (y : Int32) : ¬ ((y &&& (2147483647 : Int32)) % (16 : Int32)) < 0 ∧ ((y &&& (2147483647 : Int32)) % (16 : Int32)) < (16 : Int32) := by
  have e := Jvm.Kit.i32_mask y 2147483647 (k := 31) (by decide) (by decide)
  have e3 := Jvm.Kit.i32_rem_nonneg (x := y &&& (2147483647 : Int32)) (y := 16) (by omega)
  rw [Int32.lt_iff_toInt_lt, Int32.lt_iff_toInt_lt]
  have e0 : (0 : Int32).toInt = 0 := rfl
  have e1 : (16 : Int32).toInt = 16 := rfl
  rw [e1] at e3
  omega
theorem own_g (y : Int32) : ¬ (((y.toUInt32 >>> ((8 : Int32) &&& 31).toUInt32).toInt32) % (15 : Int32)) < 0 ∧ (((y.toUInt32 >>> ((8 : Int32) &&& 31).toUInt32).toInt32) % (15 : Int32)) < (15 : Int32) := by
  have e := Jvm.Kit.i32_nonneg.mp (Jvm.Kit.i32_iushr_nonneg y (n := ((8 : Int32) &&& 31).toUInt32) (k := 8) (by decide) (by decide) (by decide))
  have e3 := Jvm.Kit.i32_rem_nonneg (x := (y.toUInt32 >>> ((8 : Int32) &&& 31).toUInt32).toInt32) (y := 15) e
  rw [Int32.lt_iff_toInt_lt, Int32.lt_iff_toInt_lt]
  have e0 : (0 : Int32).toInt = 0 := rfl
  have e1 : (15 : Int32).toInt = 15 := rfl
  rw [e1] at e3
  omega
theorem own_g1 {j : Int32} (h : ¬ j < 0 ∧ j < (15 : Int32)) : (j + (1 : Int32)).toInt = j.toInt + 1 ∧ (¬ (j + (1 : Int32)) < 0 ∧ (j + (1 : Int32)) < (16 : Int32)) ∧ (j + (1 : Int32)).toNatClampNeg = j.toNatClampNeg + 1 := by
  obtain ⟨h0, h1⟩ := h
  rw [Int32.lt_iff_toInt_lt] at h0 h1
  have e0 : (0 : Int32).toInt = 0 := rfl
  have e1 : (1 : Int32).toInt = 1 := rfl
  have e15 : (15 : Int32).toInt = 15 := rfl
  have e16 : (16 : Int32).toInt = 16 := rfl
  have e := Jvm.Kit.i32_add (p := j) (q := 1) (by omega) (by omega)
  rw [e1] at e
  refine ⟨e, ?_, ?_⟩
  · rw [Int32.lt_iff_toInt_lt, Int32.lt_iff_toInt_lt]; omega
  · simp only [Int32.toNatClampNeg, e]; omega
theorem own_inside (j : Int32) (h : ¬ j < 0 ∧ j < (16 : Int32)) (y : Int32) : fN (own_lo j + (y &&& (2147483647 : Int32)) % ((own_hi j - own_lo j) + (1 : Int32))) = (1 : Int32) := by
  have hn := own_nat (k := 16) rfl h
  obtain ⟨a1, a2, a3, a4⟩ := own_t5 _ hn
  have e := Jvm.Kit.i32_mask y 2147483647 (k := 31) (by decide) (by decide)
  have e3 := Jvm.Kit.i32_rem_nonneg (x := y &&& (2147483647 : Int32)) (y := (own_hi j - own_lo j) + (1 : Int32)) (by omega)
  have b1 := Int.emod_nonneg (y &&& (2147483647 : Int32)).toInt (b := ((own_hi j - own_lo j) + (1 : Int32)).toInt) (by show (((own_HI.getD j.toNatClampNeg 0 - own_LO.getD j.toNatClampNeg 0) + (1 : Int32)).toInt) ≠ 0; omega)
  have b2 := Int.emod_lt_of_pos (y &&& (2147483647 : Int32)).toInt (b := ((own_hi j - own_lo j) + (1 : Int32)).toInt) (by show 0 < (((own_HI.getD j.toNatClampNeg 0 - own_LO.getD j.toNatClampNeg 0) + (1 : Int32)).toInt); omega)
  rw [← e3] at b1 b2
  have b3 : (((own_hi j - own_lo j) + (1 : Int32)).toInt) = (own_HI.getD j.toNatClampNeg 0).toInt - (own_LO.getD j.toNatClampNeg 0).toInt + 1 := a4
  have c1 : (own_lo j).toInt = (own_LO.getD j.toNatClampNeg 0).toInt := rfl
  have s := Jvm.Kit.i32_add (p := own_lo j) (q := (y &&& (2147483647 : Int32)) % ((own_hi j - own_lo j) + (1 : Int32))) (by omega) (by omega)
  exact own_rng _ hn _ (by omega) (by omega)
theorem own_len0 (j : Int32) (h : ¬ j < 0 ∧ j < (16 : Int32)) : ((own_hi j - own_lo j) + (1 : Int32)) ≠ 0 := fun q => by
  obtain ⟨a1, a2, a3, a4⟩ := own_t5 _ (own_nat (k := 16) rfl h)
  have b3 : (((own_hi j - own_lo j) + (1 : Int32)).toInt) = (own_HI.getD j.toNatClampNeg 0).toInt - (own_LO.getD j.toNatClampNeg 0).toInt + 1 := a4
  rw [q] at b3
  have e0 : (0 : Int32).toInt = 0 := rfl
  omega
theorem own_glen (j : Int32) (h : ¬ j < 0 ∧ j < (15 : Int32)) : ((own_lo (j + (1 : Int32)) - own_hi j) - (1 : Int32)).toInt = (own_LO.getD (j.toNatClampNeg + 1) 0).toInt - (own_HI.getD j.toNatClampNeg 0).toInt - 1 := by
  obtain ⟨a1, a2, a3, a4, a5⟩ := own_t6 _ (own_nat (k := 15) rfl h)
  have : own_lo (j + (1 : Int32)) = own_LO.getD (j.toNatClampNeg + 1) 0 := by show own_LO.getD _ 0 = _; rw [(own_g1 h).2.2]
  rw [this]; exact a4
theorem own_glen0 (j : Int32) (h : ¬ j < 0 ∧ j < (15 : Int32)) : ((own_lo (j + (1 : Int32)) - own_hi j) - (1 : Int32)) ≠ 0 := fun q => by
  obtain ⟨a1, a2, a3, a4, a5⟩ := own_t6 _ (own_nat (k := 15) rfl h)
  have b := own_glen j h
  rw [q] at b
  have e0 : (0 : Int32).toInt = 0 := rfl
  omega
theorem own_gapPoint (j : Int32) (h : ¬ j < 0 ∧ j < (15 : Int32)) (y : Int32) : fN ((own_hi j + (1 : Int32)) + ((y.toUInt32 >>> ((1 : Int32) &&& 31).toUInt32).toInt32) % ((own_lo (j + (1 : Int32)) - own_hi j) - (1 : Int32))) = (0 : Int32) := by
  have hn := own_nat (k := 15) rfl h
  obtain ⟨a1, a2, a3, a4, a5⟩ := own_t6 _ hn
  have b3 := own_glen j h
  have e := Jvm.Kit.i32_nonneg.mp (Jvm.Kit.i32_iushr_nonneg y (n := ((1 : Int32) &&& 31).toUInt32) (k := 1) (by decide) (by decide) (by decide))
  have e3 := Jvm.Kit.i32_rem_nonneg (x := (y.toUInt32 >>> ((1 : Int32) &&& 31).toUInt32).toInt32) (y := (own_lo (j + (1 : Int32)) - own_hi j) - (1 : Int32)) e
  have b1 := Int.emod_nonneg ((y.toUInt32 >>> ((1 : Int32) &&& 31).toUInt32).toInt32).toInt (b := ((own_lo (j + (1 : Int32)) - own_hi j) - (1 : Int32)).toInt) (by omega)
  have b2 := Int.emod_lt_of_pos ((y.toUInt32 >>> ((1 : Int32) &&& 31).toUInt32).toInt32).toInt (b := ((own_lo (j + (1 : Int32)) - own_hi j) - (1 : Int32)).toInt) (by omega)
  rw [← e3] at b1 b2
  have c1 : (own_hi j + (1 : Int32)).toInt = (own_HI.getD j.toNatClampNeg 0).toInt + 1 := a5
  have s := Jvm.Kit.i32_add (p := own_hi j + (1 : Int32)) (q := ((y.toUInt32 >>> ((1 : Int32) &&& 31).toUInt32).toInt32) % ((own_lo (j + (1 : Int32)) - own_hi j) - (1 : Int32))) (by omega) (by omega)
  exact own_gap _ hn _ (by omega) (by omega)
theorem own_01 {v : Int32} (h : v = (1 : Int32)) : ¬ (v = (0 : Int32)) := by rw [h]; decide
def Q0 (Z : State) (p1 p2 p3 : Int32) (h0 : Heap) (n0 : Nat) (v : Option Value) (h : Heap) (L : List Loc) : Prop := v = some (.int 1) ∧ Fr n0 L
def Q_rmL (Z : State)  (h0 : Heap) (n0 : Nat) (v : Option Value) (h : Heap) (L : List Loc) : Prop := ∃ (rr : Addr) (kk : ClassId), v = some (.ref rr) ∧ Fr n0 L ∧ Keep h0 h [] ∧ Arv Z h rr kk .int (16 : Int32) [(.int (58 : Int32)), (.int (65 : Int32)), (.int (95 : Int32)), (.int (97 : Int32)), (.int (192 : Int32)), (.int (216 : Int32)), (.int (248 : Int32)), (.int (880 : Int32)), (.int (895 : Int32)), (.int (8204 : Int32)), (.int (8304 : Int32)), (.int (11264 : Int32)), (.int (12289 : Int32)), (.int (63744 : Int32)), (.int (65008 : Int32)), (.int (65536 : Int32))] (.int (0 : Int32)) ∧ h0.size ≤ rr
theorem pn_1 : plainName "com/example/dongying/dongying/xml/XmlNamesIsNameStartCharPinLaw" = true := by first | (simp [plainName, overriddenIn]; done) | decide +kernel
theorem ef_rmL (m : MethodId)  : entryFrame m #[] 0 = mkF m 0 #[] [] := by first | (simp [entryFrame, mkF, argsToLocals, Value.category]; done) | rfl
theorem d1_0 : decode method_2_code 0 = .ok (.bipush 16, 2) := by decide +kernel
theorem d1_2 : decode method_2_code 2 = .ok (.newarray .int, 2) := by decide +kernel
theorem d1_4 : decode method_2_code 4 = .ok (.dup, 1) := by decide +kernel
theorem d1_5 : decode method_2_code 5 = .ok (.iconst 0, 1) := by decide +kernel
theorem d1_6 : decode method_2_code 6 = .ok (.bipush 58, 2) := by decide +kernel
theorem d1_8 : decode method_2_code 8 = .ok (.iastore, 1) := by decide +kernel
theorem d1_9 : decode method_2_code 9 = .ok (.dup, 1) := by decide +kernel
theorem d1_10 : decode method_2_code 10 = .ok (.iconst 1, 1) := by decide +kernel
theorem d1_11 : decode method_2_code 11 = .ok (.bipush 65, 2) := by decide +kernel
theorem d1_13 : decode method_2_code 13 = .ok (.iastore, 1) := by decide +kernel
theorem d1_14 : decode method_2_code 14 = .ok (.dup, 1) := by decide +kernel
theorem d1_15 : decode method_2_code 15 = .ok (.iconst 2, 1) := by decide +kernel
theorem d1_16 : decode method_2_code 16 = .ok (.bipush 95, 2) := by decide +kernel
theorem d1_18 : decode method_2_code 18 = .ok (.iastore, 1) := by decide +kernel
theorem d1_19 : decode method_2_code 19 = .ok (.dup, 1) := by decide +kernel
theorem d1_20 : decode method_2_code 20 = .ok (.iconst 3, 1) := by decide +kernel
theorem d1_21 : decode method_2_code 21 = .ok (.bipush 97, 2) := by decide +kernel
theorem d1_23 : decode method_2_code 23 = .ok (.iastore, 1) := by decide +kernel
theorem d1_24 : decode method_2_code 24 = .ok (.dup, 1) := by decide +kernel
theorem d1_25 : decode method_2_code 25 = .ok (.iconst 4, 1) := by decide +kernel
theorem d1_26 : decode method_2_code 26 = .ok (.sipush 192, 3) := by decide +kernel
theorem d1_29 : decode method_2_code 29 = .ok (.iastore, 1) := by decide +kernel
theorem d1_30 : decode method_2_code 30 = .ok (.dup, 1) := by decide +kernel
theorem d1_31 : decode method_2_code 31 = .ok (.iconst 5, 1) := by decide +kernel
theorem d1_32 : decode method_2_code 32 = .ok (.sipush 216, 3) := by decide +kernel
theorem d1_35 : decode method_2_code 35 = .ok (.iastore, 1) := by decide +kernel
theorem d1_36 : decode method_2_code 36 = .ok (.dup, 1) := by decide +kernel
theorem d1_37 : decode method_2_code 37 = .ok (.bipush 6, 2) := by decide +kernel
theorem d1_39 : decode method_2_code 39 = .ok (.sipush 248, 3) := by decide +kernel
theorem d1_42 : decode method_2_code 42 = .ok (.iastore, 1) := by decide +kernel
theorem d1_43 : decode method_2_code 43 = .ok (.dup, 1) := by decide +kernel
theorem d1_44 : decode method_2_code 44 = .ok (.bipush 7, 2) := by decide +kernel
theorem d1_46 : decode method_2_code 46 = .ok (.sipush 880, 3) := by decide +kernel
theorem d1_49 : decode method_2_code 49 = .ok (.iastore, 1) := by decide +kernel
theorem d1_50 : decode method_2_code 50 = .ok (.dup, 1) := by decide +kernel
theorem d1_51 : decode method_2_code 51 = .ok (.bipush 8, 2) := by decide +kernel
theorem d1_53 : decode method_2_code 53 = .ok (.sipush 895, 3) := by decide +kernel
theorem d1_56 : decode method_2_code 56 = .ok (.iastore, 1) := by decide +kernel
theorem d1_57 : decode method_2_code 57 = .ok (.dup, 1) := by decide +kernel
theorem d1_58 : decode method_2_code 58 = .ok (.bipush 9, 2) := by decide +kernel
theorem d1_60 : decode method_2_code 60 = .ok (.sipush 8204, 3) := by decide +kernel
theorem d1_63 : decode method_2_code 63 = .ok (.iastore, 1) := by decide +kernel
theorem d1_64 : decode method_2_code 64 = .ok (.dup, 1) := by decide +kernel
theorem d1_65 : decode method_2_code 65 = .ok (.bipush 10, 2) := by decide +kernel
theorem d1_67 : decode method_2_code 67 = .ok (.sipush 8304, 3) := by decide +kernel
theorem d1_70 : decode method_2_code 70 = .ok (.iastore, 1) := by decide +kernel
theorem d1_71 : decode method_2_code 71 = .ok (.dup, 1) := by decide +kernel
theorem d1_72 : decode method_2_code 72 = .ok (.bipush 11, 2) := by decide +kernel
theorem d1_74 : decode method_2_code 74 = .ok (.sipush 11264, 3) := by decide +kernel
theorem d1_77 : decode method_2_code 77 = .ok (.iastore, 1) := by decide +kernel
theorem d1_78 : decode method_2_code 78 = .ok (.dup, 1) := by decide +kernel
theorem d1_79 : decode method_2_code 79 = .ok (.bipush 12, 2) := by decide +kernel
theorem d1_81 : decode method_2_code 81 = .ok (.sipush 12289, 3) := by decide +kernel
theorem d1_84 : decode method_2_code 84 = .ok (.iastore, 1) := by decide +kernel
theorem d1_85 : decode method_2_code 85 = .ok (.dup, 1) := by decide +kernel
theorem d1_86 : decode method_2_code 86 = .ok (.bipush 13, 2) := by decide +kernel
theorem d1_88 : decode method_2_code 88 = .ok (.ldc 7, 2) := by decide +kernel
theorem d1_90 : decode method_2_code 90 = .ok (.iastore, 1) := by decide +kernel
theorem d1_91 : decode method_2_code 91 = .ok (.dup, 1) := by decide +kernel
theorem d1_92 : decode method_2_code 92 = .ok (.bipush 14, 2) := by decide +kernel
theorem d1_94 : decode method_2_code 94 = .ok (.ldc 8, 2) := by decide +kernel
theorem d1_96 : decode method_2_code 96 = .ok (.iastore, 1) := by decide +kernel
theorem d1_97 : decode method_2_code 97 = .ok (.dup, 1) := by decide +kernel
theorem d1_98 : decode method_2_code 98 = .ok (.bipush 15, 2) := by decide +kernel
theorem d1_100 : decode method_2_code 100 = .ok (.ldc 9, 2) := by decide +kernel
theorem d1_102 : decode method_2_code 102 = .ok (.iastore, 1) := by decide +kernel
theorem d1_103 : decode method_2_code 103 = .ok (.areturn, 1) := by decide +kernel
set_option maxRecDepth 65536 in
set_option maxHeartbeats 40000000 in
theorem rmL (l : Launch) (Z : State) (a0 : Array Value) (hw : ∀ d ∈ tables_1, d.before a0 Z = true) (ws : List Jvm.Cond)   (h0 : Heap) (n0 : Nat) (Z0 : n0 ≤ h0.size)  :
    MetFree l (⟨"com/example/dongying/dongying/xml/XmlNamesIsNameStartCharPinLaw", "lows", "()[I"⟩ : MethodName) (head1 (Jvm.Cond.code (⟨"com/example/dongying/dongying/xml/XmlNamesIsNameStartCharPinLaw", "lows", "()[I"⟩ : MethodName) method_2_code 0 (some (.array .int)) :: ws) ({ frames := 0, cells := 1, slots := 16, locals := 0 } : Room)) (fun a U => a = #[] ∧ Z.Warmed39 U.vm ∧ U.heap = h0) (fun _ _ _ _ _ => True) (fun _ U o U' => ∃ v L, o = .returned v ∧ Q_rmL Z  h0 n0 v U'.heap L ∧ FrameEnd U o U' L ({ frames := 0, cells := 1, slots := 16, locals := 0 } : Room).cells ({ frames := 0, cells := 1, slots := 16, locals := 0 } : Room).slots) := by
  refine MetFree.of_bodySF (plainFor_of_name pn_1) hisR ?_
  intro p e s m args below meth c s₁ Bd hml0 hP hK
  obtain ⟨rfl, hZ, hh⟩ := hP
  have hx := Bd.exec
  have hby := Bd.bytes
  have hml : c.maxLocals = 0 := hml0
  have hown : s.vm.findClass "com/example/dongying/dongying/xml/XmlNamesIsNameStartCharPinLaw" = some m.cls := findClass_of_methodNamed Bd.named
  have hnm := (name_of_methodNamed Bd.named Bd.method).1
  have X0 : Stand p l e ({ frames := 0, cells := 1, slots := 16, locals := 0 } : Room) s m #[] below meth c s₁ [] 0 0 := Stand.of_body Bd
  have e0 : s₁.heap = h0 := by rw [← hh, Bd.state]; rfl
  have N0 := Fr.nil n0
  have pre0 : ∀ t, Steps p.tables e below (s₁.setTop (mkF m 0 #[] [])) t → Steps p.tables e below (s₁.setTop (entryFrame m #[] 0)) t := fun t k => castTop (ef_rmL m ) k
  have K0 : Keep h0 h0 [] := Keep.refl h0 []
  have sg1 : ∀ t, Steps p.tables e below (s₁.setTop (mkF m 2 #[] [(.int (16 : Int32))])) t → Steps p.tables e below (s₁.setTop (mkF m 0 #[] [])) t := by
    intro t k
    show Steps p.tables e below (s₁.setTop (mkF m 0 #[] [])) _
    refine XS.bipush X0.here hx rfl (hb hby d1_0) ?_
    exact k
  obtain ⟨T2, h2, k2, X2, e2, E2, A2, st2⟩ := newP X0 hx hZ (hw _ (List.mem_of_getElem? (i := 4) rfl)) e0 (g := (mkF m 2 #[] [(.int (16 : Int32))])) rfl (hb hby d1_2) rfl (by decide) (cap := 16) (by decide) (by decide) (by decide) (by decide)
  obtain ⟨b2, g2⟩ : ∃ z, z = h0.size := ⟨_, rfl⟩
  rw [← g2] at A2 st2
  have gn_b2 : n0 ≤ b2 := Nat.le_trans Z0 (Nat.le_of_eq g2.symm)
  have sz_b2 : h0.size ≤ b2 := Nat.le_trans K0.1 (Nat.le_of_eq g2.symm)
  have z3 : n0 ≤ h2.size := Nat.le_trans Z0 E2.1
  have K4 : Keep h0 h2 [] := K0.ext E2
  have f5 : Arv Z h2 b2 k2 .int (16 : Int32) [(.int (0 : Int32)), (.int (0 : Int32)), (.int (0 : Int32)), (.int (0 : Int32)), (.int (0 : Int32)), (.int (0 : Int32)), (.int (0 : Int32)), (.int (0 : Int32)), (.int (0 : Int32)), (.int (0 : Int32)), (.int (0 : Int32)), (.int (0 : Int32)), (.int (0 : Int32)), (.int (0 : Int32)), (.int (0 : Int32)), (.int (0 : Int32))] (.int (0 : Int32)) := (Arv.new A2 (by decide)).pad (pad_rep [] (.int (0 : Int32)) 16)
  have sg6 : ∀ t, Steps p.tables e below (T2.setTop (mkF m 8 #[] [(.int (58 : Int32)), (.int (0 : Int32)), (.ref b2), (.ref b2)])) t → Steps p.tables e below (T2.setTop (mkF m 4 #[] [(.ref b2)])) t := by
    intro t k
    show Steps p.tables e below (T2.setTop (mkF m 4 #[] [(.ref b2)])) _
    refine XS.dup X2.here hx rfl (hb hby d1_4) rfl rfl ?_
    show Steps p.tables e below (T2.setTop (mkF m 5 #[] [(.ref b2), (.ref b2)])) _
    refine XS.iconst X2.here hx rfl (hb hby d1_5) ?_
    show Steps p.tables e below (T2.setTop (mkF m 6 #[] [(.int (0 : Int32)), (.ref b2), (.ref b2)])) _
    refine XS.bipush X2.here hx rfl (hb hby d1_6) ?_
    exact k
  obtain ⟨cl7, Ar7, q7, Sz7, Nn7, Hs7, G7⟩ := id f5
  have hin7 : ¬ ((0 : Int32) < 0 ∨ cl7.slots.size ≤ ((0 : Int32)).toNatClampNeg) := inb_of Sz7 ⟨by decide, by decide⟩
  obtain ⟨T7, h7, X7, e7, W7, st7⟩ := stI X2 hx hZ e2 Ar7 (j := (0 : Int32)) hin7 (g := (mkF m 8 #[] [(.int (58 : Int32)), (.int (0 : Int32)), (.ref b2), (.ref b2)])) rfl rfl (hb hby d1_8)
  have V7 : Arv Z h7 b2 k2 .int (16 : Int32) [(.int (58 : Int32)), (.int (0 : Int32)), (.int (0 : Int32)), (.int (0 : Int32)), (.int (0 : Int32)), (.int (0 : Int32)), (.int (0 : Int32)), (.int (0 : Int32)), (.int (0 : Int32)), (.int (0 : Int32)), (.int (0 : Int32)), (.int (0 : Int32)), (.int (0 : Int32)), (.int (0 : Int32)), (.int (0 : Int32)), (.int (0 : Int32))] (.int (0 : Int32)) := Arv.set Ar7 q7 Sz7 Nn7 Hs7 G7 rfl W7 0 rfl (by decide)
  have N7 := Fr.snoc X7 N0 gn_b2
  have z8 : n0 ≤ h7.size := Nat.le_trans z3 (Keep.of_wr W7).1
  have K9 : Keep h0 h7 [] := K4.wr W7 (Or.inr sz_b2)
  have sg10 : ∀ t, Steps p.tables e below (T7.setTop (mkF m 13 #[] [(.int (65 : Int32)), (.int (1 : Int32)), (.ref b2), (.ref b2)])) t → Steps p.tables e below (T7.setTop (mkF m 9 #[] [(.ref b2)])) t := by
    intro t k
    show Steps p.tables e below (T7.setTop (mkF m 9 #[] [(.ref b2)])) _
    refine XS.dup X7.here hx rfl (hb hby d1_9) rfl rfl ?_
    show Steps p.tables e below (T7.setTop (mkF m 10 #[] [(.ref b2), (.ref b2)])) _
    refine XS.iconst X7.here hx rfl (hb hby d1_10) ?_
    show Steps p.tables e below (T7.setTop (mkF m 11 #[] [(.int (1 : Int32)), (.ref b2), (.ref b2)])) _
    refine XS.bipush X7.here hx rfl (hb hby d1_11) ?_
    exact k
  obtain ⟨cl11, Ar11, q11, Sz11, Nn11, Hs11, G11⟩ := id V7
  have hin11 : ¬ ((1 : Int32) < 0 ∨ cl11.slots.size ≤ ((1 : Int32)).toNatClampNeg) := inb_of Sz11 ⟨by decide, by decide⟩
  obtain ⟨T11, h11, X11, e11, W11, st11⟩ := stI X7 hx hZ e7 Ar11 (j := (1 : Int32)) hin11 (g := (mkF m 13 #[] [(.int (65 : Int32)), (.int (1 : Int32)), (.ref b2), (.ref b2)])) rfl rfl (hb hby d1_13)
  have V11 : Arv Z h11 b2 k2 .int (16 : Int32) [(.int (58 : Int32)), (.int (65 : Int32)), (.int (0 : Int32)), (.int (0 : Int32)), (.int (0 : Int32)), (.int (0 : Int32)), (.int (0 : Int32)), (.int (0 : Int32)), (.int (0 : Int32)), (.int (0 : Int32)), (.int (0 : Int32)), (.int (0 : Int32)), (.int (0 : Int32)), (.int (0 : Int32)), (.int (0 : Int32)), (.int (0 : Int32))] (.int (0 : Int32)) := Arv.set Ar11 q11 Sz11 Nn11 Hs11 G11 rfl W11 1 rfl (by decide)
  have N11 := Fr.snoc X11 N7 gn_b2
  have z12 : n0 ≤ h11.size := Nat.le_trans z8 (Keep.of_wr W11).1
  have K13 : Keep h0 h11 [] := K9.wr W11 (Or.inr sz_b2)
  have sg14 : ∀ t, Steps p.tables e below (T11.setTop (mkF m 18 #[] [(.int (95 : Int32)), (.int (2 : Int32)), (.ref b2), (.ref b2)])) t → Steps p.tables e below (T11.setTop (mkF m 14 #[] [(.ref b2)])) t := by
    intro t k
    show Steps p.tables e below (T11.setTop (mkF m 14 #[] [(.ref b2)])) _
    refine XS.dup X11.here hx rfl (hb hby d1_14) rfl rfl ?_
    show Steps p.tables e below (T11.setTop (mkF m 15 #[] [(.ref b2), (.ref b2)])) _
    refine XS.iconst X11.here hx rfl (hb hby d1_15) ?_
    show Steps p.tables e below (T11.setTop (mkF m 16 #[] [(.int (2 : Int32)), (.ref b2), (.ref b2)])) _
    refine XS.bipush X11.here hx rfl (hb hby d1_16) ?_
    exact k
  obtain ⟨cl15, Ar15, q15, Sz15, Nn15, Hs15, G15⟩ := id V11
  have hin15 : ¬ ((2 : Int32) < 0 ∨ cl15.slots.size ≤ ((2 : Int32)).toNatClampNeg) := inb_of Sz15 ⟨by decide, by decide⟩
  obtain ⟨T15, h15, X15, e15, W15, st15⟩ := stI X11 hx hZ e11 Ar15 (j := (2 : Int32)) hin15 (g := (mkF m 18 #[] [(.int (95 : Int32)), (.int (2 : Int32)), (.ref b2), (.ref b2)])) rfl rfl (hb hby d1_18)
  have V15 : Arv Z h15 b2 k2 .int (16 : Int32) [(.int (58 : Int32)), (.int (65 : Int32)), (.int (95 : Int32)), (.int (0 : Int32)), (.int (0 : Int32)), (.int (0 : Int32)), (.int (0 : Int32)), (.int (0 : Int32)), (.int (0 : Int32)), (.int (0 : Int32)), (.int (0 : Int32)), (.int (0 : Int32)), (.int (0 : Int32)), (.int (0 : Int32)), (.int (0 : Int32)), (.int (0 : Int32))] (.int (0 : Int32)) := Arv.set Ar15 q15 Sz15 Nn15 Hs15 G15 rfl W15 2 rfl (by decide)
  have N15 := Fr.snoc X15 N11 gn_b2
  have z16 : n0 ≤ h15.size := Nat.le_trans z12 (Keep.of_wr W15).1
  have K17 : Keep h0 h15 [] := K13.wr W15 (Or.inr sz_b2)
  have sg18 : ∀ t, Steps p.tables e below (T15.setTop (mkF m 23 #[] [(.int (97 : Int32)), (.int (3 : Int32)), (.ref b2), (.ref b2)])) t → Steps p.tables e below (T15.setTop (mkF m 19 #[] [(.ref b2)])) t := by
    intro t k
    show Steps p.tables e below (T15.setTop (mkF m 19 #[] [(.ref b2)])) _
    refine XS.dup X15.here hx rfl (hb hby d1_19) rfl rfl ?_
    show Steps p.tables e below (T15.setTop (mkF m 20 #[] [(.ref b2), (.ref b2)])) _
    refine XS.iconst X15.here hx rfl (hb hby d1_20) ?_
    show Steps p.tables e below (T15.setTop (mkF m 21 #[] [(.int (3 : Int32)), (.ref b2), (.ref b2)])) _
    refine XS.bipush X15.here hx rfl (hb hby d1_21) ?_
    exact k
  obtain ⟨cl19, Ar19, q19, Sz19, Nn19, Hs19, G19⟩ := id V15
  have hin19 : ¬ ((3 : Int32) < 0 ∨ cl19.slots.size ≤ ((3 : Int32)).toNatClampNeg) := inb_of Sz19 ⟨by decide, by decide⟩
  obtain ⟨T19, h19, X19, e19, W19, st19⟩ := stI X15 hx hZ e15 Ar19 (j := (3 : Int32)) hin19 (g := (mkF m 23 #[] [(.int (97 : Int32)), (.int (3 : Int32)), (.ref b2), (.ref b2)])) rfl rfl (hb hby d1_23)
  have V19 : Arv Z h19 b2 k2 .int (16 : Int32) [(.int (58 : Int32)), (.int (65 : Int32)), (.int (95 : Int32)), (.int (97 : Int32)), (.int (0 : Int32)), (.int (0 : Int32)), (.int (0 : Int32)), (.int (0 : Int32)), (.int (0 : Int32)), (.int (0 : Int32)), (.int (0 : Int32)), (.int (0 : Int32)), (.int (0 : Int32)), (.int (0 : Int32)), (.int (0 : Int32)), (.int (0 : Int32))] (.int (0 : Int32)) := Arv.set Ar19 q19 Sz19 Nn19 Hs19 G19 rfl W19 3 rfl (by decide)
  have N19 := Fr.snoc X19 N15 gn_b2
  have z20 : n0 ≤ h19.size := Nat.le_trans z16 (Keep.of_wr W19).1
  have K21 : Keep h0 h19 [] := K17.wr W19 (Or.inr sz_b2)
  have sg22 : ∀ t, Steps p.tables e below (T19.setTop (mkF m 29 #[] [(.int (192 : Int32)), (.int (4 : Int32)), (.ref b2), (.ref b2)])) t → Steps p.tables e below (T19.setTop (mkF m 24 #[] [(.ref b2)])) t := by
    intro t k
    show Steps p.tables e below (T19.setTop (mkF m 24 #[] [(.ref b2)])) _
    refine XS.dup X19.here hx rfl (hb hby d1_24) rfl rfl ?_
    show Steps p.tables e below (T19.setTop (mkF m 25 #[] [(.ref b2), (.ref b2)])) _
    refine XS.iconst X19.here hx rfl (hb hby d1_25) ?_
    show Steps p.tables e below (T19.setTop (mkF m 26 #[] [(.int (4 : Int32)), (.ref b2), (.ref b2)])) _
    refine XS.sipush X19.here hx rfl (hb hby d1_26) ?_
    exact k
  obtain ⟨cl23, Ar23, q23, Sz23, Nn23, Hs23, G23⟩ := id V19
  have hin23 : ¬ ((4 : Int32) < 0 ∨ cl23.slots.size ≤ ((4 : Int32)).toNatClampNeg) := inb_of Sz23 ⟨by decide, by decide⟩
  obtain ⟨T23, h23, X23, e23, W23, st23⟩ := stI X19 hx hZ e19 Ar23 (j := (4 : Int32)) hin23 (g := (mkF m 29 #[] [(.int (192 : Int32)), (.int (4 : Int32)), (.ref b2), (.ref b2)])) rfl rfl (hb hby d1_29)
  have V23 : Arv Z h23 b2 k2 .int (16 : Int32) [(.int (58 : Int32)), (.int (65 : Int32)), (.int (95 : Int32)), (.int (97 : Int32)), (.int (192 : Int32)), (.int (0 : Int32)), (.int (0 : Int32)), (.int (0 : Int32)), (.int (0 : Int32)), (.int (0 : Int32)), (.int (0 : Int32)), (.int (0 : Int32)), (.int (0 : Int32)), (.int (0 : Int32)), (.int (0 : Int32)), (.int (0 : Int32))] (.int (0 : Int32)) := Arv.set Ar23 q23 Sz23 Nn23 Hs23 G23 rfl W23 4 rfl (by decide)
  have N23 := Fr.snoc X23 N19 gn_b2
  have z24 : n0 ≤ h23.size := Nat.le_trans z20 (Keep.of_wr W23).1
  have K25 : Keep h0 h23 [] := K21.wr W23 (Or.inr sz_b2)
  have sg26 : ∀ t, Steps p.tables e below (T23.setTop (mkF m 35 #[] [(.int (216 : Int32)), (.int (5 : Int32)), (.ref b2), (.ref b2)])) t → Steps p.tables e below (T23.setTop (mkF m 30 #[] [(.ref b2)])) t := by
    intro t k
    show Steps p.tables e below (T23.setTop (mkF m 30 #[] [(.ref b2)])) _
    refine XS.dup X23.here hx rfl (hb hby d1_30) rfl rfl ?_
    show Steps p.tables e below (T23.setTop (mkF m 31 #[] [(.ref b2), (.ref b2)])) _
    refine XS.iconst X23.here hx rfl (hb hby d1_31) ?_
    show Steps p.tables e below (T23.setTop (mkF m 32 #[] [(.int (5 : Int32)), (.ref b2), (.ref b2)])) _
    refine XS.sipush X23.here hx rfl (hb hby d1_32) ?_
    exact k
  obtain ⟨cl27, Ar27, q27, Sz27, Nn27, Hs27, G27⟩ := id V23
  have hin27 : ¬ ((5 : Int32) < 0 ∨ cl27.slots.size ≤ ((5 : Int32)).toNatClampNeg) := inb_of Sz27 ⟨by decide, by decide⟩
  obtain ⟨T27, h27, X27, e27, W27, st27⟩ := stI X23 hx hZ e23 Ar27 (j := (5 : Int32)) hin27 (g := (mkF m 35 #[] [(.int (216 : Int32)), (.int (5 : Int32)), (.ref b2), (.ref b2)])) rfl rfl (hb hby d1_35)
  have V27 : Arv Z h27 b2 k2 .int (16 : Int32) [(.int (58 : Int32)), (.int (65 : Int32)), (.int (95 : Int32)), (.int (97 : Int32)), (.int (192 : Int32)), (.int (216 : Int32)), (.int (0 : Int32)), (.int (0 : Int32)), (.int (0 : Int32)), (.int (0 : Int32)), (.int (0 : Int32)), (.int (0 : Int32)), (.int (0 : Int32)), (.int (0 : Int32)), (.int (0 : Int32)), (.int (0 : Int32))] (.int (0 : Int32)) := Arv.set Ar27 q27 Sz27 Nn27 Hs27 G27 rfl W27 5 rfl (by decide)
  have N27 := Fr.snoc X27 N23 gn_b2
  have z28 : n0 ≤ h27.size := Nat.le_trans z24 (Keep.of_wr W27).1
  have K29 : Keep h0 h27 [] := K25.wr W27 (Or.inr sz_b2)
  have sg30 : ∀ t, Steps p.tables e below (T27.setTop (mkF m 42 #[] [(.int (248 : Int32)), (.int (6 : Int32)), (.ref b2), (.ref b2)])) t → Steps p.tables e below (T27.setTop (mkF m 36 #[] [(.ref b2)])) t := by
    intro t k
    show Steps p.tables e below (T27.setTop (mkF m 36 #[] [(.ref b2)])) _
    refine XS.dup X27.here hx rfl (hb hby d1_36) rfl rfl ?_
    show Steps p.tables e below (T27.setTop (mkF m 37 #[] [(.ref b2), (.ref b2)])) _
    refine XS.bipush X27.here hx rfl (hb hby d1_37) ?_
    show Steps p.tables e below (T27.setTop (mkF m 39 #[] [(.int (6 : Int32)), (.ref b2), (.ref b2)])) _
    refine XS.sipush X27.here hx rfl (hb hby d1_39) ?_
    exact k
  obtain ⟨cl31, Ar31, q31, Sz31, Nn31, Hs31, G31⟩ := id V27
  have hin31 : ¬ ((6 : Int32) < 0 ∨ cl31.slots.size ≤ ((6 : Int32)).toNatClampNeg) := inb_of Sz31 ⟨by decide, by decide⟩
  obtain ⟨T31, h31, X31, e31, W31, st31⟩ := stI X27 hx hZ e27 Ar31 (j := (6 : Int32)) hin31 (g := (mkF m 42 #[] [(.int (248 : Int32)), (.int (6 : Int32)), (.ref b2), (.ref b2)])) rfl rfl (hb hby d1_42)
  have V31 : Arv Z h31 b2 k2 .int (16 : Int32) [(.int (58 : Int32)), (.int (65 : Int32)), (.int (95 : Int32)), (.int (97 : Int32)), (.int (192 : Int32)), (.int (216 : Int32)), (.int (248 : Int32)), (.int (0 : Int32)), (.int (0 : Int32)), (.int (0 : Int32)), (.int (0 : Int32)), (.int (0 : Int32)), (.int (0 : Int32)), (.int (0 : Int32)), (.int (0 : Int32)), (.int (0 : Int32))] (.int (0 : Int32)) := Arv.set Ar31 q31 Sz31 Nn31 Hs31 G31 rfl W31 6 rfl (by decide)
  have N31 := Fr.snoc X31 N27 gn_b2
  have z32 : n0 ≤ h31.size := Nat.le_trans z28 (Keep.of_wr W31).1
  have K33 : Keep h0 h31 [] := K29.wr W31 (Or.inr sz_b2)
  have sg34 : ∀ t, Steps p.tables e below (T31.setTop (mkF m 49 #[] [(.int (880 : Int32)), (.int (7 : Int32)), (.ref b2), (.ref b2)])) t → Steps p.tables e below (T31.setTop (mkF m 43 #[] [(.ref b2)])) t := by
    intro t k
    show Steps p.tables e below (T31.setTop (mkF m 43 #[] [(.ref b2)])) _
    refine XS.dup X31.here hx rfl (hb hby d1_43) rfl rfl ?_
    show Steps p.tables e below (T31.setTop (mkF m 44 #[] [(.ref b2), (.ref b2)])) _
    refine XS.bipush X31.here hx rfl (hb hby d1_44) ?_
    show Steps p.tables e below (T31.setTop (mkF m 46 #[] [(.int (7 : Int32)), (.ref b2), (.ref b2)])) _
    refine XS.sipush X31.here hx rfl (hb hby d1_46) ?_
    exact k
  obtain ⟨cl35, Ar35, q35, Sz35, Nn35, Hs35, G35⟩ := id V31
  have hin35 : ¬ ((7 : Int32) < 0 ∨ cl35.slots.size ≤ ((7 : Int32)).toNatClampNeg) := inb_of Sz35 ⟨by decide, by decide⟩
  obtain ⟨T35, h35, X35, e35, W35, st35⟩ := stI X31 hx hZ e31 Ar35 (j := (7 : Int32)) hin35 (g := (mkF m 49 #[] [(.int (880 : Int32)), (.int (7 : Int32)), (.ref b2), (.ref b2)])) rfl rfl (hb hby d1_49)
  have V35 : Arv Z h35 b2 k2 .int (16 : Int32) [(.int (58 : Int32)), (.int (65 : Int32)), (.int (95 : Int32)), (.int (97 : Int32)), (.int (192 : Int32)), (.int (216 : Int32)), (.int (248 : Int32)), (.int (880 : Int32)), (.int (0 : Int32)), (.int (0 : Int32)), (.int (0 : Int32)), (.int (0 : Int32)), (.int (0 : Int32)), (.int (0 : Int32)), (.int (0 : Int32)), (.int (0 : Int32))] (.int (0 : Int32)) := Arv.set Ar35 q35 Sz35 Nn35 Hs35 G35 rfl W35 7 rfl (by decide)
  have N35 := Fr.snoc X35 N31 gn_b2
  have z36 : n0 ≤ h35.size := Nat.le_trans z32 (Keep.of_wr W35).1
  have K37 : Keep h0 h35 [] := K33.wr W35 (Or.inr sz_b2)
  have sg38 : ∀ t, Steps p.tables e below (T35.setTop (mkF m 56 #[] [(.int (895 : Int32)), (.int (8 : Int32)), (.ref b2), (.ref b2)])) t → Steps p.tables e below (T35.setTop (mkF m 50 #[] [(.ref b2)])) t := by
    intro t k
    show Steps p.tables e below (T35.setTop (mkF m 50 #[] [(.ref b2)])) _
    refine XS.dup X35.here hx rfl (hb hby d1_50) rfl rfl ?_
    show Steps p.tables e below (T35.setTop (mkF m 51 #[] [(.ref b2), (.ref b2)])) _
    refine XS.bipush X35.here hx rfl (hb hby d1_51) ?_
    show Steps p.tables e below (T35.setTop (mkF m 53 #[] [(.int (8 : Int32)), (.ref b2), (.ref b2)])) _
    refine XS.sipush X35.here hx rfl (hb hby d1_53) ?_
    exact k
  obtain ⟨cl39, Ar39, q39, Sz39, Nn39, Hs39, G39⟩ := id V35
  have hin39 : ¬ ((8 : Int32) < 0 ∨ cl39.slots.size ≤ ((8 : Int32)).toNatClampNeg) := inb_of Sz39 ⟨by decide, by decide⟩
  obtain ⟨T39, h39, X39, e39, W39, st39⟩ := stI X35 hx hZ e35 Ar39 (j := (8 : Int32)) hin39 (g := (mkF m 56 #[] [(.int (895 : Int32)), (.int (8 : Int32)), (.ref b2), (.ref b2)])) rfl rfl (hb hby d1_56)
  have V39 : Arv Z h39 b2 k2 .int (16 : Int32) [(.int (58 : Int32)), (.int (65 : Int32)), (.int (95 : Int32)), (.int (97 : Int32)), (.int (192 : Int32)), (.int (216 : Int32)), (.int (248 : Int32)), (.int (880 : Int32)), (.int (895 : Int32)), (.int (0 : Int32)), (.int (0 : Int32)), (.int (0 : Int32)), (.int (0 : Int32)), (.int (0 : Int32)), (.int (0 : Int32)), (.int (0 : Int32))] (.int (0 : Int32)) := Arv.set Ar39 q39 Sz39 Nn39 Hs39 G39 rfl W39 8 rfl (by decide)
  have N39 := Fr.snoc X39 N35 gn_b2
  have z40 : n0 ≤ h39.size := Nat.le_trans z36 (Keep.of_wr W39).1
  have K41 : Keep h0 h39 [] := K37.wr W39 (Or.inr sz_b2)
  have sg42 : ∀ t, Steps p.tables e below (T39.setTop (mkF m 63 #[] [(.int (8204 : Int32)), (.int (9 : Int32)), (.ref b2), (.ref b2)])) t → Steps p.tables e below (T39.setTop (mkF m 57 #[] [(.ref b2)])) t := by
    intro t k
    show Steps p.tables e below (T39.setTop (mkF m 57 #[] [(.ref b2)])) _
    refine XS.dup X39.here hx rfl (hb hby d1_57) rfl rfl ?_
    show Steps p.tables e below (T39.setTop (mkF m 58 #[] [(.ref b2), (.ref b2)])) _
    refine XS.bipush X39.here hx rfl (hb hby d1_58) ?_
    show Steps p.tables e below (T39.setTop (mkF m 60 #[] [(.int (9 : Int32)), (.ref b2), (.ref b2)])) _
    refine XS.sipush X39.here hx rfl (hb hby d1_60) ?_
    exact k
  obtain ⟨cl43, Ar43, q43, Sz43, Nn43, Hs43, G43⟩ := id V39
  have hin43 : ¬ ((9 : Int32) < 0 ∨ cl43.slots.size ≤ ((9 : Int32)).toNatClampNeg) := inb_of Sz43 ⟨by decide, by decide⟩
  obtain ⟨T43, h43, X43, e43, W43, st43⟩ := stI X39 hx hZ e39 Ar43 (j := (9 : Int32)) hin43 (g := (mkF m 63 #[] [(.int (8204 : Int32)), (.int (9 : Int32)), (.ref b2), (.ref b2)])) rfl rfl (hb hby d1_63)
  have V43 : Arv Z h43 b2 k2 .int (16 : Int32) [(.int (58 : Int32)), (.int (65 : Int32)), (.int (95 : Int32)), (.int (97 : Int32)), (.int (192 : Int32)), (.int (216 : Int32)), (.int (248 : Int32)), (.int (880 : Int32)), (.int (895 : Int32)), (.int (8204 : Int32)), (.int (0 : Int32)), (.int (0 : Int32)), (.int (0 : Int32)), (.int (0 : Int32)), (.int (0 : Int32)), (.int (0 : Int32))] (.int (0 : Int32)) := Arv.set Ar43 q43 Sz43 Nn43 Hs43 G43 rfl W43 9 rfl (by decide)
  have N43 := Fr.snoc X43 N39 gn_b2
  have z44 : n0 ≤ h43.size := Nat.le_trans z40 (Keep.of_wr W43).1
  have K45 : Keep h0 h43 [] := K41.wr W43 (Or.inr sz_b2)
  have sg46 : ∀ t, Steps p.tables e below (T43.setTop (mkF m 70 #[] [(.int (8304 : Int32)), (.int (10 : Int32)), (.ref b2), (.ref b2)])) t → Steps p.tables e below (T43.setTop (mkF m 64 #[] [(.ref b2)])) t := by
    intro t k
    show Steps p.tables e below (T43.setTop (mkF m 64 #[] [(.ref b2)])) _
    refine XS.dup X43.here hx rfl (hb hby d1_64) rfl rfl ?_
    show Steps p.tables e below (T43.setTop (mkF m 65 #[] [(.ref b2), (.ref b2)])) _
    refine XS.bipush X43.here hx rfl (hb hby d1_65) ?_
    show Steps p.tables e below (T43.setTop (mkF m 67 #[] [(.int (10 : Int32)), (.ref b2), (.ref b2)])) _
    refine XS.sipush X43.here hx rfl (hb hby d1_67) ?_
    exact k
  obtain ⟨cl47, Ar47, q47, Sz47, Nn47, Hs47, G47⟩ := id V43
  have hin47 : ¬ ((10 : Int32) < 0 ∨ cl47.slots.size ≤ ((10 : Int32)).toNatClampNeg) := inb_of Sz47 ⟨by decide, by decide⟩
  obtain ⟨T47, h47, X47, e47, W47, st47⟩ := stI X43 hx hZ e43 Ar47 (j := (10 : Int32)) hin47 (g := (mkF m 70 #[] [(.int (8304 : Int32)), (.int (10 : Int32)), (.ref b2), (.ref b2)])) rfl rfl (hb hby d1_70)
  have V47 : Arv Z h47 b2 k2 .int (16 : Int32) [(.int (58 : Int32)), (.int (65 : Int32)), (.int (95 : Int32)), (.int (97 : Int32)), (.int (192 : Int32)), (.int (216 : Int32)), (.int (248 : Int32)), (.int (880 : Int32)), (.int (895 : Int32)), (.int (8204 : Int32)), (.int (8304 : Int32)), (.int (0 : Int32)), (.int (0 : Int32)), (.int (0 : Int32)), (.int (0 : Int32)), (.int (0 : Int32))] (.int (0 : Int32)) := Arv.set Ar47 q47 Sz47 Nn47 Hs47 G47 rfl W47 10 rfl (by decide)
  have N47 := Fr.snoc X47 N43 gn_b2
  have z48 : n0 ≤ h47.size := Nat.le_trans z44 (Keep.of_wr W47).1
  have K49 : Keep h0 h47 [] := K45.wr W47 (Or.inr sz_b2)
  have sg50 : ∀ t, Steps p.tables e below (T47.setTop (mkF m 77 #[] [(.int (11264 : Int32)), (.int (11 : Int32)), (.ref b2), (.ref b2)])) t → Steps p.tables e below (T47.setTop (mkF m 71 #[] [(.ref b2)])) t := by
    intro t k
    show Steps p.tables e below (T47.setTop (mkF m 71 #[] [(.ref b2)])) _
    refine XS.dup X47.here hx rfl (hb hby d1_71) rfl rfl ?_
    show Steps p.tables e below (T47.setTop (mkF m 72 #[] [(.ref b2), (.ref b2)])) _
    refine XS.bipush X47.here hx rfl (hb hby d1_72) ?_
    show Steps p.tables e below (T47.setTop (mkF m 74 #[] [(.int (11 : Int32)), (.ref b2), (.ref b2)])) _
    refine XS.sipush X47.here hx rfl (hb hby d1_74) ?_
    exact k
  obtain ⟨cl51, Ar51, q51, Sz51, Nn51, Hs51, G51⟩ := id V47
  have hin51 : ¬ ((11 : Int32) < 0 ∨ cl51.slots.size ≤ ((11 : Int32)).toNatClampNeg) := inb_of Sz51 ⟨by decide, by decide⟩
  obtain ⟨T51, h51, X51, e51, W51, st51⟩ := stI X47 hx hZ e47 Ar51 (j := (11 : Int32)) hin51 (g := (mkF m 77 #[] [(.int (11264 : Int32)), (.int (11 : Int32)), (.ref b2), (.ref b2)])) rfl rfl (hb hby d1_77)
  have V51 : Arv Z h51 b2 k2 .int (16 : Int32) [(.int (58 : Int32)), (.int (65 : Int32)), (.int (95 : Int32)), (.int (97 : Int32)), (.int (192 : Int32)), (.int (216 : Int32)), (.int (248 : Int32)), (.int (880 : Int32)), (.int (895 : Int32)), (.int (8204 : Int32)), (.int (8304 : Int32)), (.int (11264 : Int32)), (.int (0 : Int32)), (.int (0 : Int32)), (.int (0 : Int32)), (.int (0 : Int32))] (.int (0 : Int32)) := Arv.set Ar51 q51 Sz51 Nn51 Hs51 G51 rfl W51 11 rfl (by decide)
  have N51 := Fr.snoc X51 N47 gn_b2
  have z52 : n0 ≤ h51.size := Nat.le_trans z48 (Keep.of_wr W51).1
  have K53 : Keep h0 h51 [] := K49.wr W51 (Or.inr sz_b2)
  have sg54 : ∀ t, Steps p.tables e below (T51.setTop (mkF m 84 #[] [(.int (12289 : Int32)), (.int (12 : Int32)), (.ref b2), (.ref b2)])) t → Steps p.tables e below (T51.setTop (mkF m 78 #[] [(.ref b2)])) t := by
    intro t k
    show Steps p.tables e below (T51.setTop (mkF m 78 #[] [(.ref b2)])) _
    refine XS.dup X51.here hx rfl (hb hby d1_78) rfl rfl ?_
    show Steps p.tables e below (T51.setTop (mkF m 79 #[] [(.ref b2), (.ref b2)])) _
    refine XS.bipush X51.here hx rfl (hb hby d1_79) ?_
    show Steps p.tables e below (T51.setTop (mkF m 81 #[] [(.int (12 : Int32)), (.ref b2), (.ref b2)])) _
    refine XS.sipush X51.here hx rfl (hb hby d1_81) ?_
    exact k
  obtain ⟨cl55, Ar55, q55, Sz55, Nn55, Hs55, G55⟩ := id V51
  have hin55 : ¬ ((12 : Int32) < 0 ∨ cl55.slots.size ≤ ((12 : Int32)).toNatClampNeg) := inb_of Sz55 ⟨by decide, by decide⟩
  obtain ⟨T55, h55, X55, e55, W55, st55⟩ := stI X51 hx hZ e51 Ar55 (j := (12 : Int32)) hin55 (g := (mkF m 84 #[] [(.int (12289 : Int32)), (.int (12 : Int32)), (.ref b2), (.ref b2)])) rfl rfl (hb hby d1_84)
  have V55 : Arv Z h55 b2 k2 .int (16 : Int32) [(.int (58 : Int32)), (.int (65 : Int32)), (.int (95 : Int32)), (.int (97 : Int32)), (.int (192 : Int32)), (.int (216 : Int32)), (.int (248 : Int32)), (.int (880 : Int32)), (.int (895 : Int32)), (.int (8204 : Int32)), (.int (8304 : Int32)), (.int (11264 : Int32)), (.int (12289 : Int32)), (.int (0 : Int32)), (.int (0 : Int32)), (.int (0 : Int32))] (.int (0 : Int32)) := Arv.set Ar55 q55 Sz55 Nn55 Hs55 G55 rfl W55 12 rfl (by decide)
  have N55 := Fr.snoc X55 N51 gn_b2
  have z56 : n0 ≤ h55.size := Nat.le_trans z52 (Keep.of_wr W55).1
  have K57 : Keep h0 h55 [] := K53.wr W55 (Or.inr sz_b2)
  have sg58 : ∀ t, Steps p.tables e below (T55.setTop (mkF m 90 #[] [(.int (63744 : Int32)), (.int (13 : Int32)), (.ref b2), (.ref b2)])) t → Steps p.tables e below (T55.setTop (mkF m 85 #[] [(.ref b2)])) t := by
    intro t k
    show Steps p.tables e below (T55.setTop (mkF m 85 #[] [(.ref b2)])) _
    refine XS.dup X55.here hx rfl (hb hby d1_85) rfl rfl ?_
    show Steps p.tables e below (T55.setTop (mkF m 86 #[] [(.ref b2), (.ref b2)])) _
    refine XS.bipush X55.here hx rfl (hb hby d1_86) ?_
    show Steps p.tables e below (T55.setTop (mkF m 88 #[] [(.int (13 : Int32)), (.ref b2), (.ref b2)])) _
    refine X55.ldcInt hx hown (mvT hZ (hw _ (List.mem_of_getElem? (i := 5) rfl))) (g := (mkF m 88 #[] [(.int (13 : Int32)), (.ref b2), (.ref b2)])) rfl (hb hby d1_88) _ ?_
    exact k
  obtain ⟨cl59, Ar59, q59, Sz59, Nn59, Hs59, G59⟩ := id V55
  have hin59 : ¬ ((13 : Int32) < 0 ∨ cl59.slots.size ≤ ((13 : Int32)).toNatClampNeg) := inb_of Sz59 ⟨by decide, by decide⟩
  obtain ⟨T59, h59, X59, e59, W59, st59⟩ := stI X55 hx hZ e55 Ar59 (j := (13 : Int32)) hin59 (g := (mkF m 90 #[] [(.int (63744 : Int32)), (.int (13 : Int32)), (.ref b2), (.ref b2)])) rfl rfl (hb hby d1_90)
  have V59 : Arv Z h59 b2 k2 .int (16 : Int32) [(.int (58 : Int32)), (.int (65 : Int32)), (.int (95 : Int32)), (.int (97 : Int32)), (.int (192 : Int32)), (.int (216 : Int32)), (.int (248 : Int32)), (.int (880 : Int32)), (.int (895 : Int32)), (.int (8204 : Int32)), (.int (8304 : Int32)), (.int (11264 : Int32)), (.int (12289 : Int32)), (.int (63744 : Int32)), (.int (0 : Int32)), (.int (0 : Int32))] (.int (0 : Int32)) := Arv.set Ar59 q59 Sz59 Nn59 Hs59 G59 rfl W59 13 rfl (by decide)
  have N59 := Fr.snoc X59 N55 gn_b2
  have z60 : n0 ≤ h59.size := Nat.le_trans z56 (Keep.of_wr W59).1
  have K61 : Keep h0 h59 [] := K57.wr W59 (Or.inr sz_b2)
  have sg62 : ∀ t, Steps p.tables e below (T59.setTop (mkF m 96 #[] [(.int (65008 : Int32)), (.int (14 : Int32)), (.ref b2), (.ref b2)])) t → Steps p.tables e below (T59.setTop (mkF m 91 #[] [(.ref b2)])) t := by
    intro t k
    show Steps p.tables e below (T59.setTop (mkF m 91 #[] [(.ref b2)])) _
    refine XS.dup X59.here hx rfl (hb hby d1_91) rfl rfl ?_
    show Steps p.tables e below (T59.setTop (mkF m 92 #[] [(.ref b2), (.ref b2)])) _
    refine XS.bipush X59.here hx rfl (hb hby d1_92) ?_
    show Steps p.tables e below (T59.setTop (mkF m 94 #[] [(.int (14 : Int32)), (.ref b2), (.ref b2)])) _
    refine X59.ldcInt hx hown (mvT hZ (hw _ (List.mem_of_getElem? (i := 6) rfl))) (g := (mkF m 94 #[] [(.int (14 : Int32)), (.ref b2), (.ref b2)])) rfl (hb hby d1_94) _ ?_
    exact k
  obtain ⟨cl63, Ar63, q63, Sz63, Nn63, Hs63, G63⟩ := id V59
  have hin63 : ¬ ((14 : Int32) < 0 ∨ cl63.slots.size ≤ ((14 : Int32)).toNatClampNeg) := inb_of Sz63 ⟨by decide, by decide⟩
  obtain ⟨T63, h63, X63, e63, W63, st63⟩ := stI X59 hx hZ e59 Ar63 (j := (14 : Int32)) hin63 (g := (mkF m 96 #[] [(.int (65008 : Int32)), (.int (14 : Int32)), (.ref b2), (.ref b2)])) rfl rfl (hb hby d1_96)
  have V63 : Arv Z h63 b2 k2 .int (16 : Int32) [(.int (58 : Int32)), (.int (65 : Int32)), (.int (95 : Int32)), (.int (97 : Int32)), (.int (192 : Int32)), (.int (216 : Int32)), (.int (248 : Int32)), (.int (880 : Int32)), (.int (895 : Int32)), (.int (8204 : Int32)), (.int (8304 : Int32)), (.int (11264 : Int32)), (.int (12289 : Int32)), (.int (63744 : Int32)), (.int (65008 : Int32)), (.int (0 : Int32))] (.int (0 : Int32)) := Arv.set Ar63 q63 Sz63 Nn63 Hs63 G63 rfl W63 14 rfl (by decide)
  have N63 := Fr.snoc X63 N59 gn_b2
  have z64 : n0 ≤ h63.size := Nat.le_trans z60 (Keep.of_wr W63).1
  have K65 : Keep h0 h63 [] := K61.wr W63 (Or.inr sz_b2)
  have sg66 : ∀ t, Steps p.tables e below (T63.setTop (mkF m 102 #[] [(.int (65536 : Int32)), (.int (15 : Int32)), (.ref b2), (.ref b2)])) t → Steps p.tables e below (T63.setTop (mkF m 97 #[] [(.ref b2)])) t := by
    intro t k
    show Steps p.tables e below (T63.setTop (mkF m 97 #[] [(.ref b2)])) _
    refine XS.dup X63.here hx rfl (hb hby d1_97) rfl rfl ?_
    show Steps p.tables e below (T63.setTop (mkF m 98 #[] [(.ref b2), (.ref b2)])) _
    refine XS.bipush X63.here hx rfl (hb hby d1_98) ?_
    show Steps p.tables e below (T63.setTop (mkF m 100 #[] [(.int (15 : Int32)), (.ref b2), (.ref b2)])) _
    refine X63.ldcInt hx hown (mvT hZ (hw _ (List.mem_of_getElem? (i := 7) rfl))) (g := (mkF m 100 #[] [(.int (15 : Int32)), (.ref b2), (.ref b2)])) rfl (hb hby d1_100) _ ?_
    exact k
  obtain ⟨cl67, Ar67, q67, Sz67, Nn67, Hs67, G67⟩ := id V63
  have hin67 : ¬ ((15 : Int32) < 0 ∨ cl67.slots.size ≤ ((15 : Int32)).toNatClampNeg) := inb_of Sz67 ⟨by decide, by decide⟩
  obtain ⟨T67, h67, X67, e67, W67, st67⟩ := stI X63 hx hZ e63 Ar67 (j := (15 : Int32)) hin67 (g := (mkF m 102 #[] [(.int (65536 : Int32)), (.int (15 : Int32)), (.ref b2), (.ref b2)])) rfl rfl (hb hby d1_102)
  have V67 : Arv Z h67 b2 k2 .int (16 : Int32) [(.int (58 : Int32)), (.int (65 : Int32)), (.int (95 : Int32)), (.int (97 : Int32)), (.int (192 : Int32)), (.int (216 : Int32)), (.int (248 : Int32)), (.int (880 : Int32)), (.int (895 : Int32)), (.int (8204 : Int32)), (.int (8304 : Int32)), (.int (11264 : Int32)), (.int (12289 : Int32)), (.int (63744 : Int32)), (.int (65008 : Int32)), (.int (65536 : Int32))] (.int (0 : Int32)) := Arv.set Ar67 q67 Sz67 Nn67 Hs67 G67 rfl W67 15 rfl (by decide)
  have N67 := Fr.snoc X67 N63 gn_b2
  have z68 : n0 ≤ h67.size := Nat.le_trans z64 (Keep.of_wr W67).1
  have K69 : Keep h0 h67 [] := K65.wr W67 (Or.inr sz_b2)
  obtain ⟨fs, hr, hrun, hended, hW, hsame⟩ := X67.leave (v := some (.ref b2)) (fun h => by rw [Bd.returns] at h; cases h)
  refine ⟨_, _, pre0 _ ?_, hrun, hended, _, _, rfl, ?_, ⟨_, rfl⟩, hW, hsame.mono (by decide) (by decide)⟩
  · show Steps p.tables e below (s₁.setTop (mkF m 0 #[] [])) _
    refine sg1 _ ?_
    show Steps p.tables e below (s₁.setTop (mkF m 2 #[] [(.int (16 : Int32))])) _
    refine st2 _ ?_
    show Steps p.tables e below (T2.setTop (mkF m 4 #[] [(.ref b2)])) _
    refine sg6 _ ?_
    show Steps p.tables e below (T2.setTop (mkF m 8 #[] [(.int (58 : Int32)), (.int (0 : Int32)), (.ref b2), (.ref b2)])) _
    refine st7 _ ?_
    show Steps p.tables e below (T7.setTop (mkF m 9 #[] [(.ref b2)])) _
    refine sg10 _ ?_
    show Steps p.tables e below (T7.setTop (mkF m 13 #[] [(.int (65 : Int32)), (.int (1 : Int32)), (.ref b2), (.ref b2)])) _
    refine st11 _ ?_
    show Steps p.tables e below (T11.setTop (mkF m 14 #[] [(.ref b2)])) _
    refine sg14 _ ?_
    show Steps p.tables e below (T11.setTop (mkF m 18 #[] [(.int (95 : Int32)), (.int (2 : Int32)), (.ref b2), (.ref b2)])) _
    refine st15 _ ?_
    show Steps p.tables e below (T15.setTop (mkF m 19 #[] [(.ref b2)])) _
    refine sg18 _ ?_
    show Steps p.tables e below (T15.setTop (mkF m 23 #[] [(.int (97 : Int32)), (.int (3 : Int32)), (.ref b2), (.ref b2)])) _
    refine st19 _ ?_
    show Steps p.tables e below (T19.setTop (mkF m 24 #[] [(.ref b2)])) _
    refine sg22 _ ?_
    show Steps p.tables e below (T19.setTop (mkF m 29 #[] [(.int (192 : Int32)), (.int (4 : Int32)), (.ref b2), (.ref b2)])) _
    refine st23 _ ?_
    show Steps p.tables e below (T23.setTop (mkF m 30 #[] [(.ref b2)])) _
    refine sg26 _ ?_
    show Steps p.tables e below (T23.setTop (mkF m 35 #[] [(.int (216 : Int32)), (.int (5 : Int32)), (.ref b2), (.ref b2)])) _
    refine st27 _ ?_
    show Steps p.tables e below (T27.setTop (mkF m 36 #[] [(.ref b2)])) _
    refine sg30 _ ?_
    show Steps p.tables e below (T27.setTop (mkF m 42 #[] [(.int (248 : Int32)), (.int (6 : Int32)), (.ref b2), (.ref b2)])) _
    refine st31 _ ?_
    show Steps p.tables e below (T31.setTop (mkF m 43 #[] [(.ref b2)])) _
    refine sg34 _ ?_
    show Steps p.tables e below (T31.setTop (mkF m 49 #[] [(.int (880 : Int32)), (.int (7 : Int32)), (.ref b2), (.ref b2)])) _
    refine st35 _ ?_
    show Steps p.tables e below (T35.setTop (mkF m 50 #[] [(.ref b2)])) _
    refine sg38 _ ?_
    show Steps p.tables e below (T35.setTop (mkF m 56 #[] [(.int (895 : Int32)), (.int (8 : Int32)), (.ref b2), (.ref b2)])) _
    refine st39 _ ?_
    show Steps p.tables e below (T39.setTop (mkF m 57 #[] [(.ref b2)])) _
    refine sg42 _ ?_
    show Steps p.tables e below (T39.setTop (mkF m 63 #[] [(.int (8204 : Int32)), (.int (9 : Int32)), (.ref b2), (.ref b2)])) _
    refine st43 _ ?_
    show Steps p.tables e below (T43.setTop (mkF m 64 #[] [(.ref b2)])) _
    refine sg46 _ ?_
    show Steps p.tables e below (T43.setTop (mkF m 70 #[] [(.int (8304 : Int32)), (.int (10 : Int32)), (.ref b2), (.ref b2)])) _
    refine st47 _ ?_
    show Steps p.tables e below (T47.setTop (mkF m 71 #[] [(.ref b2)])) _
    refine sg50 _ ?_
    show Steps p.tables e below (T47.setTop (mkF m 77 #[] [(.int (11264 : Int32)), (.int (11 : Int32)), (.ref b2), (.ref b2)])) _
    refine st51 _ ?_
    show Steps p.tables e below (T51.setTop (mkF m 78 #[] [(.ref b2)])) _
    refine sg54 _ ?_
    show Steps p.tables e below (T51.setTop (mkF m 84 #[] [(.int (12289 : Int32)), (.int (12 : Int32)), (.ref b2), (.ref b2)])) _
    refine st55 _ ?_
    show Steps p.tables e below (T55.setTop (mkF m 85 #[] [(.ref b2)])) _
    refine sg58 _ ?_
    show Steps p.tables e below (T55.setTop (mkF m 90 #[] [(.int (63744 : Int32)), (.int (13 : Int32)), (.ref b2), (.ref b2)])) _
    refine st59 _ ?_
    show Steps p.tables e below (T59.setTop (mkF m 91 #[] [(.ref b2)])) _
    refine sg62 _ ?_
    show Steps p.tables e below (T59.setTop (mkF m 96 #[] [(.int (65008 : Int32)), (.int (14 : Int32)), (.ref b2), (.ref b2)])) _
    refine st63 _ ?_
    show Steps p.tables e below (T63.setTop (mkF m 97 #[] [(.ref b2)])) _
    refine sg66 _ ?_
    show Steps p.tables e below (T63.setTop (mkF m 102 #[] [(.int (65536 : Int32)), (.int (15 : Int32)), (.ref b2), (.ref b2)])) _
    refine st67 _ ?_
    show Steps p.tables e below (T67.setTop (mkF m 103 #[] [(.ref b2)])) _
    jvm_step X67.here [X67.here.top, hx, (hb hby d1_103), X67.method', Bd.returns, Value.isRef, FieldType.isReference]
    first | (intro acts; rw [hr _ acts rfl rfl rfl]) | rw [hr _ _ rfl rfl rfl]
    exact Steps.refl _
  · show Q_rmL Z  h0 n0 _ T67.heap _
    rw [e67]
    exact ⟨b2, k2, rfl, N67, K69, V67, sz_b2⟩
def Q_rmH (Z : State)  (h0 : Heap) (n0 : Nat) (v : Option Value) (h : Heap) (L : List Loc) : Prop := ∃ (rr : Addr) (kk : ClassId), v = some (.ref rr) ∧ Fr n0 L ∧ Keep h0 h [] ∧ Arv Z h rr kk .int (16 : Int32) [(.int (58 : Int32)), (.int (90 : Int32)), (.int (95 : Int32)), (.int (122 : Int32)), (.int (214 : Int32)), (.int (246 : Int32)), (.int (767 : Int32)), (.int (893 : Int32)), (.int (8191 : Int32)), (.int (8205 : Int32)), (.int (8591 : Int32)), (.int (12271 : Int32)), (.int (55295 : Int32)), (.int (64975 : Int32)), (.int (65533 : Int32)), (.int (983039 : Int32))] (.int (0 : Int32)) ∧ h0.size ≤ rr
theorem ef_rmH (m : MethodId)  : entryFrame m #[] 0 = mkF m 0 #[] [] := by first | (simp [entryFrame, mkF, argsToLocals, Value.category]; done) | rfl
theorem d2_0 : decode method_3_code 0 = .ok (.bipush 16, 2) := by decide +kernel
theorem d2_2 : decode method_3_code 2 = .ok (.newarray .int, 2) := by decide +kernel
theorem d2_4 : decode method_3_code 4 = .ok (.dup, 1) := by decide +kernel
theorem d2_5 : decode method_3_code 5 = .ok (.iconst 0, 1) := by decide +kernel
theorem d2_6 : decode method_3_code 6 = .ok (.bipush 58, 2) := by decide +kernel
theorem d2_8 : decode method_3_code 8 = .ok (.iastore, 1) := by decide +kernel
theorem d2_9 : decode method_3_code 9 = .ok (.dup, 1) := by decide +kernel
theorem d2_10 : decode method_3_code 10 = .ok (.iconst 1, 1) := by decide +kernel
theorem d2_11 : decode method_3_code 11 = .ok (.bipush 90, 2) := by decide +kernel
theorem d2_13 : decode method_3_code 13 = .ok (.iastore, 1) := by decide +kernel
theorem d2_14 : decode method_3_code 14 = .ok (.dup, 1) := by decide +kernel
theorem d2_15 : decode method_3_code 15 = .ok (.iconst 2, 1) := by decide +kernel
theorem d2_16 : decode method_3_code 16 = .ok (.bipush 95, 2) := by decide +kernel
theorem d2_18 : decode method_3_code 18 = .ok (.iastore, 1) := by decide +kernel
theorem d2_19 : decode method_3_code 19 = .ok (.dup, 1) := by decide +kernel
theorem d2_20 : decode method_3_code 20 = .ok (.iconst 3, 1) := by decide +kernel
theorem d2_21 : decode method_3_code 21 = .ok (.bipush 122, 2) := by decide +kernel
theorem d2_23 : decode method_3_code 23 = .ok (.iastore, 1) := by decide +kernel
theorem d2_24 : decode method_3_code 24 = .ok (.dup, 1) := by decide +kernel
theorem d2_25 : decode method_3_code 25 = .ok (.iconst 4, 1) := by decide +kernel
theorem d2_26 : decode method_3_code 26 = .ok (.sipush 214, 3) := by decide +kernel
theorem d2_29 : decode method_3_code 29 = .ok (.iastore, 1) := by decide +kernel
theorem d2_30 : decode method_3_code 30 = .ok (.dup, 1) := by decide +kernel
theorem d2_31 : decode method_3_code 31 = .ok (.iconst 5, 1) := by decide +kernel
theorem d2_32 : decode method_3_code 32 = .ok (.sipush 246, 3) := by decide +kernel
theorem d2_35 : decode method_3_code 35 = .ok (.iastore, 1) := by decide +kernel
theorem d2_36 : decode method_3_code 36 = .ok (.dup, 1) := by decide +kernel
theorem d2_37 : decode method_3_code 37 = .ok (.bipush 6, 2) := by decide +kernel
theorem d2_39 : decode method_3_code 39 = .ok (.sipush 767, 3) := by decide +kernel
theorem d2_42 : decode method_3_code 42 = .ok (.iastore, 1) := by decide +kernel
theorem d2_43 : decode method_3_code 43 = .ok (.dup, 1) := by decide +kernel
theorem d2_44 : decode method_3_code 44 = .ok (.bipush 7, 2) := by decide +kernel
theorem d2_46 : decode method_3_code 46 = .ok (.sipush 893, 3) := by decide +kernel
theorem d2_49 : decode method_3_code 49 = .ok (.iastore, 1) := by decide +kernel
theorem d2_50 : decode method_3_code 50 = .ok (.dup, 1) := by decide +kernel
theorem d2_51 : decode method_3_code 51 = .ok (.bipush 8, 2) := by decide +kernel
theorem d2_53 : decode method_3_code 53 = .ok (.sipush 8191, 3) := by decide +kernel
theorem d2_56 : decode method_3_code 56 = .ok (.iastore, 1) := by decide +kernel
theorem d2_57 : decode method_3_code 57 = .ok (.dup, 1) := by decide +kernel
theorem d2_58 : decode method_3_code 58 = .ok (.bipush 9, 2) := by decide +kernel
theorem d2_60 : decode method_3_code 60 = .ok (.sipush 8205, 3) := by decide +kernel
theorem d2_63 : decode method_3_code 63 = .ok (.iastore, 1) := by decide +kernel
theorem d2_64 : decode method_3_code 64 = .ok (.dup, 1) := by decide +kernel
theorem d2_65 : decode method_3_code 65 = .ok (.bipush 10, 2) := by decide +kernel
theorem d2_67 : decode method_3_code 67 = .ok (.sipush 8591, 3) := by decide +kernel
theorem d2_70 : decode method_3_code 70 = .ok (.iastore, 1) := by decide +kernel
theorem d2_71 : decode method_3_code 71 = .ok (.dup, 1) := by decide +kernel
theorem d2_72 : decode method_3_code 72 = .ok (.bipush 11, 2) := by decide +kernel
theorem d2_74 : decode method_3_code 74 = .ok (.sipush 12271, 3) := by decide +kernel
theorem d2_77 : decode method_3_code 77 = .ok (.iastore, 1) := by decide +kernel
theorem d2_78 : decode method_3_code 78 = .ok (.dup, 1) := by decide +kernel
theorem d2_79 : decode method_3_code 79 = .ok (.bipush 12, 2) := by decide +kernel
theorem d2_81 : decode method_3_code 81 = .ok (.ldc 10, 2) := by decide +kernel
theorem d2_83 : decode method_3_code 83 = .ok (.iastore, 1) := by decide +kernel
theorem d2_84 : decode method_3_code 84 = .ok (.dup, 1) := by decide +kernel
theorem d2_85 : decode method_3_code 85 = .ok (.bipush 13, 2) := by decide +kernel
theorem d2_87 : decode method_3_code 87 = .ok (.ldc 11, 2) := by decide +kernel
theorem d2_89 : decode method_3_code 89 = .ok (.iastore, 1) := by decide +kernel
theorem d2_90 : decode method_3_code 90 = .ok (.dup, 1) := by decide +kernel
theorem d2_91 : decode method_3_code 91 = .ok (.bipush 14, 2) := by decide +kernel
theorem d2_93 : decode method_3_code 93 = .ok (.ldc 12, 2) := by decide +kernel
theorem d2_95 : decode method_3_code 95 = .ok (.iastore, 1) := by decide +kernel
theorem d2_96 : decode method_3_code 96 = .ok (.dup, 1) := by decide +kernel
theorem d2_97 : decode method_3_code 97 = .ok (.bipush 15, 2) := by decide +kernel
theorem d2_99 : decode method_3_code 99 = .ok (.ldc 13, 2) := by decide +kernel
theorem d2_101 : decode method_3_code 101 = .ok (.iastore, 1) := by decide +kernel
theorem d2_102 : decode method_3_code 102 = .ok (.areturn, 1) := by decide +kernel
set_option maxRecDepth 65536 in
set_option maxHeartbeats 40000000 in
theorem rmH (l : Launch) (Z : State) (a0 : Array Value) (hw : ∀ d ∈ tables_1, d.before a0 Z = true) (ws : List Jvm.Cond)   (h0 : Heap) (n0 : Nat) (Z0 : n0 ≤ h0.size)  :
    MetFree l (⟨"com/example/dongying/dongying/xml/XmlNamesIsNameStartCharPinLaw", "highs", "()[I"⟩ : MethodName) (head1 (Jvm.Cond.code (⟨"com/example/dongying/dongying/xml/XmlNamesIsNameStartCharPinLaw", "highs", "()[I"⟩ : MethodName) method_3_code 0 (some (.array .int)) :: ws) ({ frames := 0, cells := 1, slots := 16, locals := 0 } : Room)) (fun a U => a = #[] ∧ Z.Warmed39 U.vm ∧ U.heap = h0) (fun _ _ _ _ _ => True) (fun _ U o U' => ∃ v L, o = .returned v ∧ Q_rmH Z  h0 n0 v U'.heap L ∧ FrameEnd U o U' L ({ frames := 0, cells := 1, slots := 16, locals := 0 } : Room).cells ({ frames := 0, cells := 1, slots := 16, locals := 0 } : Room).slots) := by
  refine MetFree.of_bodySF (plainFor_of_name pn_1) hisR ?_
  intro p e s m args below meth c s₁ Bd hml0 hP hK
  obtain ⟨rfl, hZ, hh⟩ := hP
  have hx := Bd.exec
  have hby := Bd.bytes
  have hml : c.maxLocals = 0 := hml0
  have hown : s.vm.findClass "com/example/dongying/dongying/xml/XmlNamesIsNameStartCharPinLaw" = some m.cls := findClass_of_methodNamed Bd.named
  have hnm := (name_of_methodNamed Bd.named Bd.method).1
  have X0 : Stand p l e ({ frames := 0, cells := 1, slots := 16, locals := 0 } : Room) s m #[] below meth c s₁ [] 0 0 := Stand.of_body Bd
  have e0 : s₁.heap = h0 := by rw [← hh, Bd.state]; rfl
  have N0 := Fr.nil n0
  have pre0 : ∀ t, Steps p.tables e below (s₁.setTop (mkF m 0 #[] [])) t → Steps p.tables e below (s₁.setTop (entryFrame m #[] 0)) t := fun t k => castTop (ef_rmH m ) k
  have K0 : Keep h0 h0 [] := Keep.refl h0 []
  have sg1 : ∀ t, Steps p.tables e below (s₁.setTop (mkF m 2 #[] [(.int (16 : Int32))])) t → Steps p.tables e below (s₁.setTop (mkF m 0 #[] [])) t := by
    intro t k
    show Steps p.tables e below (s₁.setTop (mkF m 0 #[] [])) _
    refine XS.bipush X0.here hx rfl (hb hby d2_0) ?_
    exact k
  obtain ⟨T2, h2, k2, X2, e2, E2, A2, st2⟩ := newP X0 hx hZ (hw _ (List.mem_of_getElem? (i := 4) rfl)) e0 (g := (mkF m 2 #[] [(.int (16 : Int32))])) rfl (hb hby d2_2) rfl (by decide) (cap := 16) (by decide) (by decide) (by decide) (by decide)
  obtain ⟨b2, g2⟩ : ∃ z, z = h0.size := ⟨_, rfl⟩
  rw [← g2] at A2 st2
  have gn_b2 : n0 ≤ b2 := Nat.le_trans Z0 (Nat.le_of_eq g2.symm)
  have sz_b2 : h0.size ≤ b2 := Nat.le_trans K0.1 (Nat.le_of_eq g2.symm)
  have z3 : n0 ≤ h2.size := Nat.le_trans Z0 E2.1
  have K4 : Keep h0 h2 [] := K0.ext E2
  have f5 : Arv Z h2 b2 k2 .int (16 : Int32) [(.int (0 : Int32)), (.int (0 : Int32)), (.int (0 : Int32)), (.int (0 : Int32)), (.int (0 : Int32)), (.int (0 : Int32)), (.int (0 : Int32)), (.int (0 : Int32)), (.int (0 : Int32)), (.int (0 : Int32)), (.int (0 : Int32)), (.int (0 : Int32)), (.int (0 : Int32)), (.int (0 : Int32)), (.int (0 : Int32)), (.int (0 : Int32))] (.int (0 : Int32)) := (Arv.new A2 (by decide)).pad (pad_rep [] (.int (0 : Int32)) 16)
  have sg6 : ∀ t, Steps p.tables e below (T2.setTop (mkF m 8 #[] [(.int (58 : Int32)), (.int (0 : Int32)), (.ref b2), (.ref b2)])) t → Steps p.tables e below (T2.setTop (mkF m 4 #[] [(.ref b2)])) t := by
    intro t k
    show Steps p.tables e below (T2.setTop (mkF m 4 #[] [(.ref b2)])) _
    refine XS.dup X2.here hx rfl (hb hby d2_4) rfl rfl ?_
    show Steps p.tables e below (T2.setTop (mkF m 5 #[] [(.ref b2), (.ref b2)])) _
    refine XS.iconst X2.here hx rfl (hb hby d2_5) ?_
    show Steps p.tables e below (T2.setTop (mkF m 6 #[] [(.int (0 : Int32)), (.ref b2), (.ref b2)])) _
    refine XS.bipush X2.here hx rfl (hb hby d2_6) ?_
    exact k
  obtain ⟨cl7, Ar7, q7, Sz7, Nn7, Hs7, G7⟩ := id f5
  have hin7 : ¬ ((0 : Int32) < 0 ∨ cl7.slots.size ≤ ((0 : Int32)).toNatClampNeg) := inb_of Sz7 ⟨by decide, by decide⟩
  obtain ⟨T7, h7, X7, e7, W7, st7⟩ := stI X2 hx hZ e2 Ar7 (j := (0 : Int32)) hin7 (g := (mkF m 8 #[] [(.int (58 : Int32)), (.int (0 : Int32)), (.ref b2), (.ref b2)])) rfl rfl (hb hby d2_8)
  have V7 : Arv Z h7 b2 k2 .int (16 : Int32) [(.int (58 : Int32)), (.int (0 : Int32)), (.int (0 : Int32)), (.int (0 : Int32)), (.int (0 : Int32)), (.int (0 : Int32)), (.int (0 : Int32)), (.int (0 : Int32)), (.int (0 : Int32)), (.int (0 : Int32)), (.int (0 : Int32)), (.int (0 : Int32)), (.int (0 : Int32)), (.int (0 : Int32)), (.int (0 : Int32)), (.int (0 : Int32))] (.int (0 : Int32)) := Arv.set Ar7 q7 Sz7 Nn7 Hs7 G7 rfl W7 0 rfl (by decide)
  have N7 := Fr.snoc X7 N0 gn_b2
  have z8 : n0 ≤ h7.size := Nat.le_trans z3 (Keep.of_wr W7).1
  have K9 : Keep h0 h7 [] := K4.wr W7 (Or.inr sz_b2)
  have sg10 : ∀ t, Steps p.tables e below (T7.setTop (mkF m 13 #[] [(.int (90 : Int32)), (.int (1 : Int32)), (.ref b2), (.ref b2)])) t → Steps p.tables e below (T7.setTop (mkF m 9 #[] [(.ref b2)])) t := by
    intro t k
    show Steps p.tables e below (T7.setTop (mkF m 9 #[] [(.ref b2)])) _
    refine XS.dup X7.here hx rfl (hb hby d2_9) rfl rfl ?_
    show Steps p.tables e below (T7.setTop (mkF m 10 #[] [(.ref b2), (.ref b2)])) _
    refine XS.iconst X7.here hx rfl (hb hby d2_10) ?_
    show Steps p.tables e below (T7.setTop (mkF m 11 #[] [(.int (1 : Int32)), (.ref b2), (.ref b2)])) _
    refine XS.bipush X7.here hx rfl (hb hby d2_11) ?_
    exact k
  obtain ⟨cl11, Ar11, q11, Sz11, Nn11, Hs11, G11⟩ := id V7
  have hin11 : ¬ ((1 : Int32) < 0 ∨ cl11.slots.size ≤ ((1 : Int32)).toNatClampNeg) := inb_of Sz11 ⟨by decide, by decide⟩
  obtain ⟨T11, h11, X11, e11, W11, st11⟩ := stI X7 hx hZ e7 Ar11 (j := (1 : Int32)) hin11 (g := (mkF m 13 #[] [(.int (90 : Int32)), (.int (1 : Int32)), (.ref b2), (.ref b2)])) rfl rfl (hb hby d2_13)
  have V11 : Arv Z h11 b2 k2 .int (16 : Int32) [(.int (58 : Int32)), (.int (90 : Int32)), (.int (0 : Int32)), (.int (0 : Int32)), (.int (0 : Int32)), (.int (0 : Int32)), (.int (0 : Int32)), (.int (0 : Int32)), (.int (0 : Int32)), (.int (0 : Int32)), (.int (0 : Int32)), (.int (0 : Int32)), (.int (0 : Int32)), (.int (0 : Int32)), (.int (0 : Int32)), (.int (0 : Int32))] (.int (0 : Int32)) := Arv.set Ar11 q11 Sz11 Nn11 Hs11 G11 rfl W11 1 rfl (by decide)
  have N11 := Fr.snoc X11 N7 gn_b2
  have z12 : n0 ≤ h11.size := Nat.le_trans z8 (Keep.of_wr W11).1
  have K13 : Keep h0 h11 [] := K9.wr W11 (Or.inr sz_b2)
  have sg14 : ∀ t, Steps p.tables e below (T11.setTop (mkF m 18 #[] [(.int (95 : Int32)), (.int (2 : Int32)), (.ref b2), (.ref b2)])) t → Steps p.tables e below (T11.setTop (mkF m 14 #[] [(.ref b2)])) t := by
    intro t k
    show Steps p.tables e below (T11.setTop (mkF m 14 #[] [(.ref b2)])) _
    refine XS.dup X11.here hx rfl (hb hby d2_14) rfl rfl ?_
    show Steps p.tables e below (T11.setTop (mkF m 15 #[] [(.ref b2), (.ref b2)])) _
    refine XS.iconst X11.here hx rfl (hb hby d2_15) ?_
    show Steps p.tables e below (T11.setTop (mkF m 16 #[] [(.int (2 : Int32)), (.ref b2), (.ref b2)])) _
    refine XS.bipush X11.here hx rfl (hb hby d2_16) ?_
    exact k
  obtain ⟨cl15, Ar15, q15, Sz15, Nn15, Hs15, G15⟩ := id V11
  have hin15 : ¬ ((2 : Int32) < 0 ∨ cl15.slots.size ≤ ((2 : Int32)).toNatClampNeg) := inb_of Sz15 ⟨by decide, by decide⟩
  obtain ⟨T15, h15, X15, e15, W15, st15⟩ := stI X11 hx hZ e11 Ar15 (j := (2 : Int32)) hin15 (g := (mkF m 18 #[] [(.int (95 : Int32)), (.int (2 : Int32)), (.ref b2), (.ref b2)])) rfl rfl (hb hby d2_18)
  have V15 : Arv Z h15 b2 k2 .int (16 : Int32) [(.int (58 : Int32)), (.int (90 : Int32)), (.int (95 : Int32)), (.int (0 : Int32)), (.int (0 : Int32)), (.int (0 : Int32)), (.int (0 : Int32)), (.int (0 : Int32)), (.int (0 : Int32)), (.int (0 : Int32)), (.int (0 : Int32)), (.int (0 : Int32)), (.int (0 : Int32)), (.int (0 : Int32)), (.int (0 : Int32)), (.int (0 : Int32))] (.int (0 : Int32)) := Arv.set Ar15 q15 Sz15 Nn15 Hs15 G15 rfl W15 2 rfl (by decide)
  have N15 := Fr.snoc X15 N11 gn_b2
  have z16 : n0 ≤ h15.size := Nat.le_trans z12 (Keep.of_wr W15).1
  have K17 : Keep h0 h15 [] := K13.wr W15 (Or.inr sz_b2)
  have sg18 : ∀ t, Steps p.tables e below (T15.setTop (mkF m 23 #[] [(.int (122 : Int32)), (.int (3 : Int32)), (.ref b2), (.ref b2)])) t → Steps p.tables e below (T15.setTop (mkF m 19 #[] [(.ref b2)])) t := by
    intro t k
    show Steps p.tables e below (T15.setTop (mkF m 19 #[] [(.ref b2)])) _
    refine XS.dup X15.here hx rfl (hb hby d2_19) rfl rfl ?_
    show Steps p.tables e below (T15.setTop (mkF m 20 #[] [(.ref b2), (.ref b2)])) _
    refine XS.iconst X15.here hx rfl (hb hby d2_20) ?_
    show Steps p.tables e below (T15.setTop (mkF m 21 #[] [(.int (3 : Int32)), (.ref b2), (.ref b2)])) _
    refine XS.bipush X15.here hx rfl (hb hby d2_21) ?_
    exact k
  obtain ⟨cl19, Ar19, q19, Sz19, Nn19, Hs19, G19⟩ := id V15
  have hin19 : ¬ ((3 : Int32) < 0 ∨ cl19.slots.size ≤ ((3 : Int32)).toNatClampNeg) := inb_of Sz19 ⟨by decide, by decide⟩
  obtain ⟨T19, h19, X19, e19, W19, st19⟩ := stI X15 hx hZ e15 Ar19 (j := (3 : Int32)) hin19 (g := (mkF m 23 #[] [(.int (122 : Int32)), (.int (3 : Int32)), (.ref b2), (.ref b2)])) rfl rfl (hb hby d2_23)
  have V19 : Arv Z h19 b2 k2 .int (16 : Int32) [(.int (58 : Int32)), (.int (90 : Int32)), (.int (95 : Int32)), (.int (122 : Int32)), (.int (0 : Int32)), (.int (0 : Int32)), (.int (0 : Int32)), (.int (0 : Int32)), (.int (0 : Int32)), (.int (0 : Int32)), (.int (0 : Int32)), (.int (0 : Int32)), (.int (0 : Int32)), (.int (0 : Int32)), (.int (0 : Int32)), (.int (0 : Int32))] (.int (0 : Int32)) := Arv.set Ar19 q19 Sz19 Nn19 Hs19 G19 rfl W19 3 rfl (by decide)
  have N19 := Fr.snoc X19 N15 gn_b2
  have z20 : n0 ≤ h19.size := Nat.le_trans z16 (Keep.of_wr W19).1
  have K21 : Keep h0 h19 [] := K17.wr W19 (Or.inr sz_b2)
  have sg22 : ∀ t, Steps p.tables e below (T19.setTop (mkF m 29 #[] [(.int (214 : Int32)), (.int (4 : Int32)), (.ref b2), (.ref b2)])) t → Steps p.tables e below (T19.setTop (mkF m 24 #[] [(.ref b2)])) t := by
    intro t k
    show Steps p.tables e below (T19.setTop (mkF m 24 #[] [(.ref b2)])) _
    refine XS.dup X19.here hx rfl (hb hby d2_24) rfl rfl ?_
    show Steps p.tables e below (T19.setTop (mkF m 25 #[] [(.ref b2), (.ref b2)])) _
    refine XS.iconst X19.here hx rfl (hb hby d2_25) ?_
    show Steps p.tables e below (T19.setTop (mkF m 26 #[] [(.int (4 : Int32)), (.ref b2), (.ref b2)])) _
    refine XS.sipush X19.here hx rfl (hb hby d2_26) ?_
    exact k
  obtain ⟨cl23, Ar23, q23, Sz23, Nn23, Hs23, G23⟩ := id V19
  have hin23 : ¬ ((4 : Int32) < 0 ∨ cl23.slots.size ≤ ((4 : Int32)).toNatClampNeg) := inb_of Sz23 ⟨by decide, by decide⟩
  obtain ⟨T23, h23, X23, e23, W23, st23⟩ := stI X19 hx hZ e19 Ar23 (j := (4 : Int32)) hin23 (g := (mkF m 29 #[] [(.int (214 : Int32)), (.int (4 : Int32)), (.ref b2), (.ref b2)])) rfl rfl (hb hby d2_29)
  have V23 : Arv Z h23 b2 k2 .int (16 : Int32) [(.int (58 : Int32)), (.int (90 : Int32)), (.int (95 : Int32)), (.int (122 : Int32)), (.int (214 : Int32)), (.int (0 : Int32)), (.int (0 : Int32)), (.int (0 : Int32)), (.int (0 : Int32)), (.int (0 : Int32)), (.int (0 : Int32)), (.int (0 : Int32)), (.int (0 : Int32)), (.int (0 : Int32)), (.int (0 : Int32)), (.int (0 : Int32))] (.int (0 : Int32)) := Arv.set Ar23 q23 Sz23 Nn23 Hs23 G23 rfl W23 4 rfl (by decide)
  have N23 := Fr.snoc X23 N19 gn_b2
  have z24 : n0 ≤ h23.size := Nat.le_trans z20 (Keep.of_wr W23).1
  have K25 : Keep h0 h23 [] := K21.wr W23 (Or.inr sz_b2)
  have sg26 : ∀ t, Steps p.tables e below (T23.setTop (mkF m 35 #[] [(.int (246 : Int32)), (.int (5 : Int32)), (.ref b2), (.ref b2)])) t → Steps p.tables e below (T23.setTop (mkF m 30 #[] [(.ref b2)])) t := by
    intro t k
    show Steps p.tables e below (T23.setTop (mkF m 30 #[] [(.ref b2)])) _
    refine XS.dup X23.here hx rfl (hb hby d2_30) rfl rfl ?_
    show Steps p.tables e below (T23.setTop (mkF m 31 #[] [(.ref b2), (.ref b2)])) _
    refine XS.iconst X23.here hx rfl (hb hby d2_31) ?_
    show Steps p.tables e below (T23.setTop (mkF m 32 #[] [(.int (5 : Int32)), (.ref b2), (.ref b2)])) _
    refine XS.sipush X23.here hx rfl (hb hby d2_32) ?_
    exact k
  obtain ⟨cl27, Ar27, q27, Sz27, Nn27, Hs27, G27⟩ := id V23
  have hin27 : ¬ ((5 : Int32) < 0 ∨ cl27.slots.size ≤ ((5 : Int32)).toNatClampNeg) := inb_of Sz27 ⟨by decide, by decide⟩
  obtain ⟨T27, h27, X27, e27, W27, st27⟩ := stI X23 hx hZ e23 Ar27 (j := (5 : Int32)) hin27 (g := (mkF m 35 #[] [(.int (246 : Int32)), (.int (5 : Int32)), (.ref b2), (.ref b2)])) rfl rfl (hb hby d2_35)
  have V27 : Arv Z h27 b2 k2 .int (16 : Int32) [(.int (58 : Int32)), (.int (90 : Int32)), (.int (95 : Int32)), (.int (122 : Int32)), (.int (214 : Int32)), (.int (246 : Int32)), (.int (0 : Int32)), (.int (0 : Int32)), (.int (0 : Int32)), (.int (0 : Int32)), (.int (0 : Int32)), (.int (0 : Int32)), (.int (0 : Int32)), (.int (0 : Int32)), (.int (0 : Int32)), (.int (0 : Int32))] (.int (0 : Int32)) := Arv.set Ar27 q27 Sz27 Nn27 Hs27 G27 rfl W27 5 rfl (by decide)
  have N27 := Fr.snoc X27 N23 gn_b2
  have z28 : n0 ≤ h27.size := Nat.le_trans z24 (Keep.of_wr W27).1
  have K29 : Keep h0 h27 [] := K25.wr W27 (Or.inr sz_b2)
  have sg30 : ∀ t, Steps p.tables e below (T27.setTop (mkF m 42 #[] [(.int (767 : Int32)), (.int (6 : Int32)), (.ref b2), (.ref b2)])) t → Steps p.tables e below (T27.setTop (mkF m 36 #[] [(.ref b2)])) t := by
    intro t k
    show Steps p.tables e below (T27.setTop (mkF m 36 #[] [(.ref b2)])) _
    refine XS.dup X27.here hx rfl (hb hby d2_36) rfl rfl ?_
    show Steps p.tables e below (T27.setTop (mkF m 37 #[] [(.ref b2), (.ref b2)])) _
    refine XS.bipush X27.here hx rfl (hb hby d2_37) ?_
    show Steps p.tables e below (T27.setTop (mkF m 39 #[] [(.int (6 : Int32)), (.ref b2), (.ref b2)])) _
    refine XS.sipush X27.here hx rfl (hb hby d2_39) ?_
    exact k
  obtain ⟨cl31, Ar31, q31, Sz31, Nn31, Hs31, G31⟩ := id V27
  have hin31 : ¬ ((6 : Int32) < 0 ∨ cl31.slots.size ≤ ((6 : Int32)).toNatClampNeg) := inb_of Sz31 ⟨by decide, by decide⟩
  obtain ⟨T31, h31, X31, e31, W31, st31⟩ := stI X27 hx hZ e27 Ar31 (j := (6 : Int32)) hin31 (g := (mkF m 42 #[] [(.int (767 : Int32)), (.int (6 : Int32)), (.ref b2), (.ref b2)])) rfl rfl (hb hby d2_42)
  have V31 : Arv Z h31 b2 k2 .int (16 : Int32) [(.int (58 : Int32)), (.int (90 : Int32)), (.int (95 : Int32)), (.int (122 : Int32)), (.int (214 : Int32)), (.int (246 : Int32)), (.int (767 : Int32)), (.int (0 : Int32)), (.int (0 : Int32)), (.int (0 : Int32)), (.int (0 : Int32)), (.int (0 : Int32)), (.int (0 : Int32)), (.int (0 : Int32)), (.int (0 : Int32)), (.int (0 : Int32))] (.int (0 : Int32)) := Arv.set Ar31 q31 Sz31 Nn31 Hs31 G31 rfl W31 6 rfl (by decide)
  have N31 := Fr.snoc X31 N27 gn_b2
  have z32 : n0 ≤ h31.size := Nat.le_trans z28 (Keep.of_wr W31).1
  have K33 : Keep h0 h31 [] := K29.wr W31 (Or.inr sz_b2)
  have sg34 : ∀ t, Steps p.tables e below (T31.setTop (mkF m 49 #[] [(.int (893 : Int32)), (.int (7 : Int32)), (.ref b2), (.ref b2)])) t → Steps p.tables e below (T31.setTop (mkF m 43 #[] [(.ref b2)])) t := by
    intro t k
    show Steps p.tables e below (T31.setTop (mkF m 43 #[] [(.ref b2)])) _
    refine XS.dup X31.here hx rfl (hb hby d2_43) rfl rfl ?_
    show Steps p.tables e below (T31.setTop (mkF m 44 #[] [(.ref b2), (.ref b2)])) _
    refine XS.bipush X31.here hx rfl (hb hby d2_44) ?_
    show Steps p.tables e below (T31.setTop (mkF m 46 #[] [(.int (7 : Int32)), (.ref b2), (.ref b2)])) _
    refine XS.sipush X31.here hx rfl (hb hby d2_46) ?_
    exact k
  obtain ⟨cl35, Ar35, q35, Sz35, Nn35, Hs35, G35⟩ := id V31
  have hin35 : ¬ ((7 : Int32) < 0 ∨ cl35.slots.size ≤ ((7 : Int32)).toNatClampNeg) := inb_of Sz35 ⟨by decide, by decide⟩
  obtain ⟨T35, h35, X35, e35, W35, st35⟩ := stI X31 hx hZ e31 Ar35 (j := (7 : Int32)) hin35 (g := (mkF m 49 #[] [(.int (893 : Int32)), (.int (7 : Int32)), (.ref b2), (.ref b2)])) rfl rfl (hb hby d2_49)
  have V35 : Arv Z h35 b2 k2 .int (16 : Int32) [(.int (58 : Int32)), (.int (90 : Int32)), (.int (95 : Int32)), (.int (122 : Int32)), (.int (214 : Int32)), (.int (246 : Int32)), (.int (767 : Int32)), (.int (893 : Int32)), (.int (0 : Int32)), (.int (0 : Int32)), (.int (0 : Int32)), (.int (0 : Int32)), (.int (0 : Int32)), (.int (0 : Int32)), (.int (0 : Int32)), (.int (0 : Int32))] (.int (0 : Int32)) := Arv.set Ar35 q35 Sz35 Nn35 Hs35 G35 rfl W35 7 rfl (by decide)
  have N35 := Fr.snoc X35 N31 gn_b2
  have z36 : n0 ≤ h35.size := Nat.le_trans z32 (Keep.of_wr W35).1
  have K37 : Keep h0 h35 [] := K33.wr W35 (Or.inr sz_b2)
  have sg38 : ∀ t, Steps p.tables e below (T35.setTop (mkF m 56 #[] [(.int (8191 : Int32)), (.int (8 : Int32)), (.ref b2), (.ref b2)])) t → Steps p.tables e below (T35.setTop (mkF m 50 #[] [(.ref b2)])) t := by
    intro t k
    show Steps p.tables e below (T35.setTop (mkF m 50 #[] [(.ref b2)])) _
    refine XS.dup X35.here hx rfl (hb hby d2_50) rfl rfl ?_
    show Steps p.tables e below (T35.setTop (mkF m 51 #[] [(.ref b2), (.ref b2)])) _
    refine XS.bipush X35.here hx rfl (hb hby d2_51) ?_
    show Steps p.tables e below (T35.setTop (mkF m 53 #[] [(.int (8 : Int32)), (.ref b2), (.ref b2)])) _
    refine XS.sipush X35.here hx rfl (hb hby d2_53) ?_
    exact k
  obtain ⟨cl39, Ar39, q39, Sz39, Nn39, Hs39, G39⟩ := id V35
  have hin39 : ¬ ((8 : Int32) < 0 ∨ cl39.slots.size ≤ ((8 : Int32)).toNatClampNeg) := inb_of Sz39 ⟨by decide, by decide⟩
  obtain ⟨T39, h39, X39, e39, W39, st39⟩ := stI X35 hx hZ e35 Ar39 (j := (8 : Int32)) hin39 (g := (mkF m 56 #[] [(.int (8191 : Int32)), (.int (8 : Int32)), (.ref b2), (.ref b2)])) rfl rfl (hb hby d2_56)
  have V39 : Arv Z h39 b2 k2 .int (16 : Int32) [(.int (58 : Int32)), (.int (90 : Int32)), (.int (95 : Int32)), (.int (122 : Int32)), (.int (214 : Int32)), (.int (246 : Int32)), (.int (767 : Int32)), (.int (893 : Int32)), (.int (8191 : Int32)), (.int (0 : Int32)), (.int (0 : Int32)), (.int (0 : Int32)), (.int (0 : Int32)), (.int (0 : Int32)), (.int (0 : Int32)), (.int (0 : Int32))] (.int (0 : Int32)) := Arv.set Ar39 q39 Sz39 Nn39 Hs39 G39 rfl W39 8 rfl (by decide)
  have N39 := Fr.snoc X39 N35 gn_b2
  have z40 : n0 ≤ h39.size := Nat.le_trans z36 (Keep.of_wr W39).1
  have K41 : Keep h0 h39 [] := K37.wr W39 (Or.inr sz_b2)
  have sg42 : ∀ t, Steps p.tables e below (T39.setTop (mkF m 63 #[] [(.int (8205 : Int32)), (.int (9 : Int32)), (.ref b2), (.ref b2)])) t → Steps p.tables e below (T39.setTop (mkF m 57 #[] [(.ref b2)])) t := by
    intro t k
    show Steps p.tables e below (T39.setTop (mkF m 57 #[] [(.ref b2)])) _
    refine XS.dup X39.here hx rfl (hb hby d2_57) rfl rfl ?_
    show Steps p.tables e below (T39.setTop (mkF m 58 #[] [(.ref b2), (.ref b2)])) _
    refine XS.bipush X39.here hx rfl (hb hby d2_58) ?_
    show Steps p.tables e below (T39.setTop (mkF m 60 #[] [(.int (9 : Int32)), (.ref b2), (.ref b2)])) _
    refine XS.sipush X39.here hx rfl (hb hby d2_60) ?_
    exact k
  obtain ⟨cl43, Ar43, q43, Sz43, Nn43, Hs43, G43⟩ := id V39
  have hin43 : ¬ ((9 : Int32) < 0 ∨ cl43.slots.size ≤ ((9 : Int32)).toNatClampNeg) := inb_of Sz43 ⟨by decide, by decide⟩
  obtain ⟨T43, h43, X43, e43, W43, st43⟩ := stI X39 hx hZ e39 Ar43 (j := (9 : Int32)) hin43 (g := (mkF m 63 #[] [(.int (8205 : Int32)), (.int (9 : Int32)), (.ref b2), (.ref b2)])) rfl rfl (hb hby d2_63)
  have V43 : Arv Z h43 b2 k2 .int (16 : Int32) [(.int (58 : Int32)), (.int (90 : Int32)), (.int (95 : Int32)), (.int (122 : Int32)), (.int (214 : Int32)), (.int (246 : Int32)), (.int (767 : Int32)), (.int (893 : Int32)), (.int (8191 : Int32)), (.int (8205 : Int32)), (.int (0 : Int32)), (.int (0 : Int32)), (.int (0 : Int32)), (.int (0 : Int32)), (.int (0 : Int32)), (.int (0 : Int32))] (.int (0 : Int32)) := Arv.set Ar43 q43 Sz43 Nn43 Hs43 G43 rfl W43 9 rfl (by decide)
  have N43 := Fr.snoc X43 N39 gn_b2
  have z44 : n0 ≤ h43.size := Nat.le_trans z40 (Keep.of_wr W43).1
  have K45 : Keep h0 h43 [] := K41.wr W43 (Or.inr sz_b2)
  have sg46 : ∀ t, Steps p.tables e below (T43.setTop (mkF m 70 #[] [(.int (8591 : Int32)), (.int (10 : Int32)), (.ref b2), (.ref b2)])) t → Steps p.tables e below (T43.setTop (mkF m 64 #[] [(.ref b2)])) t := by
    intro t k
    show Steps p.tables e below (T43.setTop (mkF m 64 #[] [(.ref b2)])) _
    refine XS.dup X43.here hx rfl (hb hby d2_64) rfl rfl ?_
    show Steps p.tables e below (T43.setTop (mkF m 65 #[] [(.ref b2), (.ref b2)])) _
    refine XS.bipush X43.here hx rfl (hb hby d2_65) ?_
    show Steps p.tables e below (T43.setTop (mkF m 67 #[] [(.int (10 : Int32)), (.ref b2), (.ref b2)])) _
    refine XS.sipush X43.here hx rfl (hb hby d2_67) ?_
    exact k
  obtain ⟨cl47, Ar47, q47, Sz47, Nn47, Hs47, G47⟩ := id V43
  have hin47 : ¬ ((10 : Int32) < 0 ∨ cl47.slots.size ≤ ((10 : Int32)).toNatClampNeg) := inb_of Sz47 ⟨by decide, by decide⟩
  obtain ⟨T47, h47, X47, e47, W47, st47⟩ := stI X43 hx hZ e43 Ar47 (j := (10 : Int32)) hin47 (g := (mkF m 70 #[] [(.int (8591 : Int32)), (.int (10 : Int32)), (.ref b2), (.ref b2)])) rfl rfl (hb hby d2_70)
  have V47 : Arv Z h47 b2 k2 .int (16 : Int32) [(.int (58 : Int32)), (.int (90 : Int32)), (.int (95 : Int32)), (.int (122 : Int32)), (.int (214 : Int32)), (.int (246 : Int32)), (.int (767 : Int32)), (.int (893 : Int32)), (.int (8191 : Int32)), (.int (8205 : Int32)), (.int (8591 : Int32)), (.int (0 : Int32)), (.int (0 : Int32)), (.int (0 : Int32)), (.int (0 : Int32)), (.int (0 : Int32))] (.int (0 : Int32)) := Arv.set Ar47 q47 Sz47 Nn47 Hs47 G47 rfl W47 10 rfl (by decide)
  have N47 := Fr.snoc X47 N43 gn_b2
  have z48 : n0 ≤ h47.size := Nat.le_trans z44 (Keep.of_wr W47).1
  have K49 : Keep h0 h47 [] := K45.wr W47 (Or.inr sz_b2)
  have sg50 : ∀ t, Steps p.tables e below (T47.setTop (mkF m 77 #[] [(.int (12271 : Int32)), (.int (11 : Int32)), (.ref b2), (.ref b2)])) t → Steps p.tables e below (T47.setTop (mkF m 71 #[] [(.ref b2)])) t := by
    intro t k
    show Steps p.tables e below (T47.setTop (mkF m 71 #[] [(.ref b2)])) _
    refine XS.dup X47.here hx rfl (hb hby d2_71) rfl rfl ?_
    show Steps p.tables e below (T47.setTop (mkF m 72 #[] [(.ref b2), (.ref b2)])) _
    refine XS.bipush X47.here hx rfl (hb hby d2_72) ?_
    show Steps p.tables e below (T47.setTop (mkF m 74 #[] [(.int (11 : Int32)), (.ref b2), (.ref b2)])) _
    refine XS.sipush X47.here hx rfl (hb hby d2_74) ?_
    exact k
  obtain ⟨cl51, Ar51, q51, Sz51, Nn51, Hs51, G51⟩ := id V47
  have hin51 : ¬ ((11 : Int32) < 0 ∨ cl51.slots.size ≤ ((11 : Int32)).toNatClampNeg) := inb_of Sz51 ⟨by decide, by decide⟩
  obtain ⟨T51, h51, X51, e51, W51, st51⟩ := stI X47 hx hZ e47 Ar51 (j := (11 : Int32)) hin51 (g := (mkF m 77 #[] [(.int (12271 : Int32)), (.int (11 : Int32)), (.ref b2), (.ref b2)])) rfl rfl (hb hby d2_77)
  have V51 : Arv Z h51 b2 k2 .int (16 : Int32) [(.int (58 : Int32)), (.int (90 : Int32)), (.int (95 : Int32)), (.int (122 : Int32)), (.int (214 : Int32)), (.int (246 : Int32)), (.int (767 : Int32)), (.int (893 : Int32)), (.int (8191 : Int32)), (.int (8205 : Int32)), (.int (8591 : Int32)), (.int (12271 : Int32)), (.int (0 : Int32)), (.int (0 : Int32)), (.int (0 : Int32)), (.int (0 : Int32))] (.int (0 : Int32)) := Arv.set Ar51 q51 Sz51 Nn51 Hs51 G51 rfl W51 11 rfl (by decide)
  have N51 := Fr.snoc X51 N47 gn_b2
  have z52 : n0 ≤ h51.size := Nat.le_trans z48 (Keep.of_wr W51).1
  have K53 : Keep h0 h51 [] := K49.wr W51 (Or.inr sz_b2)
  have sg54 : ∀ t, Steps p.tables e below (T51.setTop (mkF m 83 #[] [(.int (55295 : Int32)), (.int (12 : Int32)), (.ref b2), (.ref b2)])) t → Steps p.tables e below (T51.setTop (mkF m 78 #[] [(.ref b2)])) t := by
    intro t k
    show Steps p.tables e below (T51.setTop (mkF m 78 #[] [(.ref b2)])) _
    refine XS.dup X51.here hx rfl (hb hby d2_78) rfl rfl ?_
    show Steps p.tables e below (T51.setTop (mkF m 79 #[] [(.ref b2), (.ref b2)])) _
    refine XS.bipush X51.here hx rfl (hb hby d2_79) ?_
    show Steps p.tables e below (T51.setTop (mkF m 81 #[] [(.int (12 : Int32)), (.ref b2), (.ref b2)])) _
    refine X51.ldcInt hx hown (mvT hZ (hw _ (List.mem_of_getElem? (i := 11) rfl))) (g := (mkF m 81 #[] [(.int (12 : Int32)), (.ref b2), (.ref b2)])) rfl (hb hby d2_81) _ ?_
    exact k
  obtain ⟨cl55, Ar55, q55, Sz55, Nn55, Hs55, G55⟩ := id V51
  have hin55 : ¬ ((12 : Int32) < 0 ∨ cl55.slots.size ≤ ((12 : Int32)).toNatClampNeg) := inb_of Sz55 ⟨by decide, by decide⟩
  obtain ⟨T55, h55, X55, e55, W55, st55⟩ := stI X51 hx hZ e51 Ar55 (j := (12 : Int32)) hin55 (g := (mkF m 83 #[] [(.int (55295 : Int32)), (.int (12 : Int32)), (.ref b2), (.ref b2)])) rfl rfl (hb hby d2_83)
  have V55 : Arv Z h55 b2 k2 .int (16 : Int32) [(.int (58 : Int32)), (.int (90 : Int32)), (.int (95 : Int32)), (.int (122 : Int32)), (.int (214 : Int32)), (.int (246 : Int32)), (.int (767 : Int32)), (.int (893 : Int32)), (.int (8191 : Int32)), (.int (8205 : Int32)), (.int (8591 : Int32)), (.int (12271 : Int32)), (.int (55295 : Int32)), (.int (0 : Int32)), (.int (0 : Int32)), (.int (0 : Int32))] (.int (0 : Int32)) := Arv.set Ar55 q55 Sz55 Nn55 Hs55 G55 rfl W55 12 rfl (by decide)
  have N55 := Fr.snoc X55 N51 gn_b2
  have z56 : n0 ≤ h55.size := Nat.le_trans z52 (Keep.of_wr W55).1
  have K57 : Keep h0 h55 [] := K53.wr W55 (Or.inr sz_b2)
  have sg58 : ∀ t, Steps p.tables e below (T55.setTop (mkF m 89 #[] [(.int (64975 : Int32)), (.int (13 : Int32)), (.ref b2), (.ref b2)])) t → Steps p.tables e below (T55.setTop (mkF m 84 #[] [(.ref b2)])) t := by
    intro t k
    show Steps p.tables e below (T55.setTop (mkF m 84 #[] [(.ref b2)])) _
    refine XS.dup X55.here hx rfl (hb hby d2_84) rfl rfl ?_
    show Steps p.tables e below (T55.setTop (mkF m 85 #[] [(.ref b2), (.ref b2)])) _
    refine XS.bipush X55.here hx rfl (hb hby d2_85) ?_
    show Steps p.tables e below (T55.setTop (mkF m 87 #[] [(.int (13 : Int32)), (.ref b2), (.ref b2)])) _
    refine X55.ldcInt hx hown (mvT hZ (hw _ (List.mem_of_getElem? (i := 12) rfl))) (g := (mkF m 87 #[] [(.int (13 : Int32)), (.ref b2), (.ref b2)])) rfl (hb hby d2_87) _ ?_
    exact k
  obtain ⟨cl59, Ar59, q59, Sz59, Nn59, Hs59, G59⟩ := id V55
  have hin59 : ¬ ((13 : Int32) < 0 ∨ cl59.slots.size ≤ ((13 : Int32)).toNatClampNeg) := inb_of Sz59 ⟨by decide, by decide⟩
  obtain ⟨T59, h59, X59, e59, W59, st59⟩ := stI X55 hx hZ e55 Ar59 (j := (13 : Int32)) hin59 (g := (mkF m 89 #[] [(.int (64975 : Int32)), (.int (13 : Int32)), (.ref b2), (.ref b2)])) rfl rfl (hb hby d2_89)
  have V59 : Arv Z h59 b2 k2 .int (16 : Int32) [(.int (58 : Int32)), (.int (90 : Int32)), (.int (95 : Int32)), (.int (122 : Int32)), (.int (214 : Int32)), (.int (246 : Int32)), (.int (767 : Int32)), (.int (893 : Int32)), (.int (8191 : Int32)), (.int (8205 : Int32)), (.int (8591 : Int32)), (.int (12271 : Int32)), (.int (55295 : Int32)), (.int (64975 : Int32)), (.int (0 : Int32)), (.int (0 : Int32))] (.int (0 : Int32)) := Arv.set Ar59 q59 Sz59 Nn59 Hs59 G59 rfl W59 13 rfl (by decide)
  have N59 := Fr.snoc X59 N55 gn_b2
  have z60 : n0 ≤ h59.size := Nat.le_trans z56 (Keep.of_wr W59).1
  have K61 : Keep h0 h59 [] := K57.wr W59 (Or.inr sz_b2)
  have sg62 : ∀ t, Steps p.tables e below (T59.setTop (mkF m 95 #[] [(.int (65533 : Int32)), (.int (14 : Int32)), (.ref b2), (.ref b2)])) t → Steps p.tables e below (T59.setTop (mkF m 90 #[] [(.ref b2)])) t := by
    intro t k
    show Steps p.tables e below (T59.setTop (mkF m 90 #[] [(.ref b2)])) _
    refine XS.dup X59.here hx rfl (hb hby d2_90) rfl rfl ?_
    show Steps p.tables e below (T59.setTop (mkF m 91 #[] [(.ref b2), (.ref b2)])) _
    refine XS.bipush X59.here hx rfl (hb hby d2_91) ?_
    show Steps p.tables e below (T59.setTop (mkF m 93 #[] [(.int (14 : Int32)), (.ref b2), (.ref b2)])) _
    refine X59.ldcInt hx hown (mvT hZ (hw _ (List.mem_of_getElem? (i := 13) rfl))) (g := (mkF m 93 #[] [(.int (14 : Int32)), (.ref b2), (.ref b2)])) rfl (hb hby d2_93) _ ?_
    exact k
  obtain ⟨cl63, Ar63, q63, Sz63, Nn63, Hs63, G63⟩ := id V59
  have hin63 : ¬ ((14 : Int32) < 0 ∨ cl63.slots.size ≤ ((14 : Int32)).toNatClampNeg) := inb_of Sz63 ⟨by decide, by decide⟩
  obtain ⟨T63, h63, X63, e63, W63, st63⟩ := stI X59 hx hZ e59 Ar63 (j := (14 : Int32)) hin63 (g := (mkF m 95 #[] [(.int (65533 : Int32)), (.int (14 : Int32)), (.ref b2), (.ref b2)])) rfl rfl (hb hby d2_95)
  have V63 : Arv Z h63 b2 k2 .int (16 : Int32) [(.int (58 : Int32)), (.int (90 : Int32)), (.int (95 : Int32)), (.int (122 : Int32)), (.int (214 : Int32)), (.int (246 : Int32)), (.int (767 : Int32)), (.int (893 : Int32)), (.int (8191 : Int32)), (.int (8205 : Int32)), (.int (8591 : Int32)), (.int (12271 : Int32)), (.int (55295 : Int32)), (.int (64975 : Int32)), (.int (65533 : Int32)), (.int (0 : Int32))] (.int (0 : Int32)) := Arv.set Ar63 q63 Sz63 Nn63 Hs63 G63 rfl W63 14 rfl (by decide)
  have N63 := Fr.snoc X63 N59 gn_b2
  have z64 : n0 ≤ h63.size := Nat.le_trans z60 (Keep.of_wr W63).1
  have K65 : Keep h0 h63 [] := K61.wr W63 (Or.inr sz_b2)
  have sg66 : ∀ t, Steps p.tables e below (T63.setTop (mkF m 101 #[] [(.int (983039 : Int32)), (.int (15 : Int32)), (.ref b2), (.ref b2)])) t → Steps p.tables e below (T63.setTop (mkF m 96 #[] [(.ref b2)])) t := by
    intro t k
    show Steps p.tables e below (T63.setTop (mkF m 96 #[] [(.ref b2)])) _
    refine XS.dup X63.here hx rfl (hb hby d2_96) rfl rfl ?_
    show Steps p.tables e below (T63.setTop (mkF m 97 #[] [(.ref b2), (.ref b2)])) _
    refine XS.bipush X63.here hx rfl (hb hby d2_97) ?_
    show Steps p.tables e below (T63.setTop (mkF m 99 #[] [(.int (15 : Int32)), (.ref b2), (.ref b2)])) _
    refine X63.ldcInt hx hown (mvT hZ (hw _ (List.mem_of_getElem? (i := 14) rfl))) (g := (mkF m 99 #[] [(.int (15 : Int32)), (.ref b2), (.ref b2)])) rfl (hb hby d2_99) _ ?_
    exact k
  obtain ⟨cl67, Ar67, q67, Sz67, Nn67, Hs67, G67⟩ := id V63
  have hin67 : ¬ ((15 : Int32) < 0 ∨ cl67.slots.size ≤ ((15 : Int32)).toNatClampNeg) := inb_of Sz67 ⟨by decide, by decide⟩
  obtain ⟨T67, h67, X67, e67, W67, st67⟩ := stI X63 hx hZ e63 Ar67 (j := (15 : Int32)) hin67 (g := (mkF m 101 #[] [(.int (983039 : Int32)), (.int (15 : Int32)), (.ref b2), (.ref b2)])) rfl rfl (hb hby d2_101)
  have V67 : Arv Z h67 b2 k2 .int (16 : Int32) [(.int (58 : Int32)), (.int (90 : Int32)), (.int (95 : Int32)), (.int (122 : Int32)), (.int (214 : Int32)), (.int (246 : Int32)), (.int (767 : Int32)), (.int (893 : Int32)), (.int (8191 : Int32)), (.int (8205 : Int32)), (.int (8591 : Int32)), (.int (12271 : Int32)), (.int (55295 : Int32)), (.int (64975 : Int32)), (.int (65533 : Int32)), (.int (983039 : Int32))] (.int (0 : Int32)) := Arv.set Ar67 q67 Sz67 Nn67 Hs67 G67 rfl W67 15 rfl (by decide)
  have N67 := Fr.snoc X67 N63 gn_b2
  have z68 : n0 ≤ h67.size := Nat.le_trans z64 (Keep.of_wr W67).1
  have K69 : Keep h0 h67 [] := K65.wr W67 (Or.inr sz_b2)
  obtain ⟨fs, hr, hrun, hended, hW, hsame⟩ := X67.leave (v := some (.ref b2)) (fun h => by rw [Bd.returns] at h; cases h)
  refine ⟨_, _, pre0 _ ?_, hrun, hended, _, _, rfl, ?_, ⟨_, rfl⟩, hW, hsame.mono (by decide) (by decide)⟩
  · show Steps p.tables e below (s₁.setTop (mkF m 0 #[] [])) _
    refine sg1 _ ?_
    show Steps p.tables e below (s₁.setTop (mkF m 2 #[] [(.int (16 : Int32))])) _
    refine st2 _ ?_
    show Steps p.tables e below (T2.setTop (mkF m 4 #[] [(.ref b2)])) _
    refine sg6 _ ?_
    show Steps p.tables e below (T2.setTop (mkF m 8 #[] [(.int (58 : Int32)), (.int (0 : Int32)), (.ref b2), (.ref b2)])) _
    refine st7 _ ?_
    show Steps p.tables e below (T7.setTop (mkF m 9 #[] [(.ref b2)])) _
    refine sg10 _ ?_
    show Steps p.tables e below (T7.setTop (mkF m 13 #[] [(.int (90 : Int32)), (.int (1 : Int32)), (.ref b2), (.ref b2)])) _
    refine st11 _ ?_
    show Steps p.tables e below (T11.setTop (mkF m 14 #[] [(.ref b2)])) _
    refine sg14 _ ?_
    show Steps p.tables e below (T11.setTop (mkF m 18 #[] [(.int (95 : Int32)), (.int (2 : Int32)), (.ref b2), (.ref b2)])) _
    refine st15 _ ?_
    show Steps p.tables e below (T15.setTop (mkF m 19 #[] [(.ref b2)])) _
    refine sg18 _ ?_
    show Steps p.tables e below (T15.setTop (mkF m 23 #[] [(.int (122 : Int32)), (.int (3 : Int32)), (.ref b2), (.ref b2)])) _
    refine st19 _ ?_
    show Steps p.tables e below (T19.setTop (mkF m 24 #[] [(.ref b2)])) _
    refine sg22 _ ?_
    show Steps p.tables e below (T19.setTop (mkF m 29 #[] [(.int (214 : Int32)), (.int (4 : Int32)), (.ref b2), (.ref b2)])) _
    refine st23 _ ?_
    show Steps p.tables e below (T23.setTop (mkF m 30 #[] [(.ref b2)])) _
    refine sg26 _ ?_
    show Steps p.tables e below (T23.setTop (mkF m 35 #[] [(.int (246 : Int32)), (.int (5 : Int32)), (.ref b2), (.ref b2)])) _
    refine st27 _ ?_
    show Steps p.tables e below (T27.setTop (mkF m 36 #[] [(.ref b2)])) _
    refine sg30 _ ?_
    show Steps p.tables e below (T27.setTop (mkF m 42 #[] [(.int (767 : Int32)), (.int (6 : Int32)), (.ref b2), (.ref b2)])) _
    refine st31 _ ?_
    show Steps p.tables e below (T31.setTop (mkF m 43 #[] [(.ref b2)])) _
    refine sg34 _ ?_
    show Steps p.tables e below (T31.setTop (mkF m 49 #[] [(.int (893 : Int32)), (.int (7 : Int32)), (.ref b2), (.ref b2)])) _
    refine st35 _ ?_
    show Steps p.tables e below (T35.setTop (mkF m 50 #[] [(.ref b2)])) _
    refine sg38 _ ?_
    show Steps p.tables e below (T35.setTop (mkF m 56 #[] [(.int (8191 : Int32)), (.int (8 : Int32)), (.ref b2), (.ref b2)])) _
    refine st39 _ ?_
    show Steps p.tables e below (T39.setTop (mkF m 57 #[] [(.ref b2)])) _
    refine sg42 _ ?_
    show Steps p.tables e below (T39.setTop (mkF m 63 #[] [(.int (8205 : Int32)), (.int (9 : Int32)), (.ref b2), (.ref b2)])) _
    refine st43 _ ?_
    show Steps p.tables e below (T43.setTop (mkF m 64 #[] [(.ref b2)])) _
    refine sg46 _ ?_
    show Steps p.tables e below (T43.setTop (mkF m 70 #[] [(.int (8591 : Int32)), (.int (10 : Int32)), (.ref b2), (.ref b2)])) _
    refine st47 _ ?_
    show Steps p.tables e below (T47.setTop (mkF m 71 #[] [(.ref b2)])) _
    refine sg50 _ ?_
    show Steps p.tables e below (T47.setTop (mkF m 77 #[] [(.int (12271 : Int32)), (.int (11 : Int32)), (.ref b2), (.ref b2)])) _
    refine st51 _ ?_
    show Steps p.tables e below (T51.setTop (mkF m 78 #[] [(.ref b2)])) _
    refine sg54 _ ?_
    show Steps p.tables e below (T51.setTop (mkF m 83 #[] [(.int (55295 : Int32)), (.int (12 : Int32)), (.ref b2), (.ref b2)])) _
    refine st55 _ ?_
    show Steps p.tables e below (T55.setTop (mkF m 84 #[] [(.ref b2)])) _
    refine sg58 _ ?_
    show Steps p.tables e below (T55.setTop (mkF m 89 #[] [(.int (64975 : Int32)), (.int (13 : Int32)), (.ref b2), (.ref b2)])) _
    refine st59 _ ?_
    show Steps p.tables e below (T59.setTop (mkF m 90 #[] [(.ref b2)])) _
    refine sg62 _ ?_
    show Steps p.tables e below (T59.setTop (mkF m 95 #[] [(.int (65533 : Int32)), (.int (14 : Int32)), (.ref b2), (.ref b2)])) _
    refine st63 _ ?_
    show Steps p.tables e below (T63.setTop (mkF m 96 #[] [(.ref b2)])) _
    refine sg66 _ ?_
    show Steps p.tables e below (T63.setTop (mkF m 101 #[] [(.int (983039 : Int32)), (.int (15 : Int32)), (.ref b2), (.ref b2)])) _
    refine st67 _ ?_
    show Steps p.tables e below (T67.setTop (mkF m 102 #[] [(.ref b2)])) _
    jvm_step X67.here [X67.here.top, hx, (hb hby d2_102), X67.method', Bd.returns, Value.isRef, FieldType.isReference]
    first | (intro acts; rw [hr _ acts rfl rfl rfl]) | rw [hr _ _ rfl rfl rfl]
    exact Steps.refl _
  · show Q_rmH Z  h0 n0 _ T67.heap _
    rw [e67]
    exact ⟨b2, k2, rfl, N67, K69, V67, sz_b2⟩
theorem pd_0 : parseMethodDescriptor "()[I" = some ⟨[], some (.array .int)⟩ := by decide +kernel
theorem pd_1 : parseMethodDescriptor "(I)Z" = some ⟨[.int], some .boolean⟩ := by decide +kernel
theorem ef_rm0 (m : MethodId) (x0 : Int32) (x1 : Int32) (x2 : Int32) : entryFrame m #[(.int x0), (.int x1), (.int x2)] maxLocals = mkF m 0 #[.val (.int x0), .val (.int x1), .val (.int x2), .unset, .unset, .unset, .unset, .unset, .unset, .unset, .unset, .unset] [] := by first | (simp [entryFrame, mkF, argsToLocals, Value.category, maxLocals]; done) | rfl
set_option maxRecDepth 65536 in
set_option maxHeartbeats 40000000 in
theorem rm0 (l : Launch) (Z : State) (a0 : Array Value) (hw : ∀ d ∈ tables_1, d.before a0 Z = true) (ws : List Jvm.Cond) (p1 : Int32) (p2 : Int32) (p3 : Int32)  (h0 : Heap) (n0 : Nat) (Z0 : n0 ≤ h0.size)  :
    MetFree l x (head1 (Jvm.Cond.code x code maxLocals ret :: ws) room_1) (fun a U => a = #[(.int p1), (.int p2), (.int p3)] ∧ Z.Warmed39 U.vm ∧ U.heap = h0) (fun _ _ _ _ _ => True) (fun _ U o U' => ∃ v L, o = .returned v ∧ Q0 Z p1 p2 p3 h0 n0 v U'.heap L ∧ FrameEnd U o U' L 16 128) := by
  refine MetFree.of_bodySF (plainFor_of_name pn_1) hisR ?_
  intro p e s m args below meth c s₁ Bd hml0 hP hK
  obtain ⟨rfl, hZ, hh⟩ := hP
  have hx := Bd.exec
  have hby := Bd.bytes
  have hml : c.maxLocals = 12 := hml0
  have hown : s.vm.findClass "com/example/dongying/dongying/xml/XmlNamesIsNameStartCharPinLaw" = some m.cls := findClass_of_methodNamed Bd.named
  have hnm := (name_of_methodNamed Bd.named Bd.method).1
  have X0 : Stand p l e room_1 s m #[(.int p1), (.int p2), (.int p3)] below meth c s₁ [] 0 0 := Stand.of_body Bd
  have e0 : s₁.heap = h0 := by rw [← hh, Bd.state]; rfl
  have N0 := Fr.nil n0
  have pre0 : ∀ t, Steps p.tables e below (s₁.setTop (mkF m 0 #[.val (.int p1), .val (.int p2), .val (.int p3), .unset, .unset, .unset, .unset, .unset, .unset, .unset, .unset, .unset] [])) t → Steps p.tables e below (s₁.setTop (entryFrame m #[(.int p1), (.int p2), (.int p3)] maxLocals)) t := fun t k => castTop (ef_rm0 m p1 p2 p3) k
  obtain ⟨_, _, ⟨T1, L1, k1, n1⟩, -, X1, ⟨Lc1, hQ1, l1, y1, z1⟩, st1⟩ := Jvm.LawKit.callS X0 hx (y := (⟨"com/example/dongying/dongying/xml/XmlNamesIsNameStartCharPinLaw", "lows", "()[I"⟩ : MethodName)) hown (mvT hZ (hw _ (List.mem_of_getElem? (i := 0) rfl))) (mvT hZ (hw _ (List.mem_of_getElem? (i := 1) rfl))) (mvT hZ (hw _ (List.mem_of_getElem? (i := 2) rfl))) (mvT hZ (hw _ (List.mem_of_getElem? (i := 3) rfl))) (by decide) (backOf (W := 0) (rmL l Z a0 hw []  h0 n0 Z0 ) hZ (hw _ (List.mem_of_getElem? (i := 3) rfl)) (hw _ (List.mem_of_getElem? (i := 2) rfl)) (by decide) (by decide)) (g := (mkF m 0 #[.val (.int p1), .val (.int p2), .val (.int p3), .unset, .unset, .unset, .unset, .unset, .unset, .unset, .unset, .unset] [])) rfl (by rw [hml]; rfl) (argsL := []) (rest := []) (lenOf pd_0 rfl) rfl (by show 2 * 0 + _ ≤ _; exact Nat.le_of_eq rfl) (hb hby at_0) (fun _ _ => ⟨rfl, e0, (by decide : 0 + 1 ≤ _), (by decide : 0 + 16 ≤ _)⟩)
  dsimp only [Pt.U, Pt.locs, Pt.cells, Pt.slots] at X1 l1 y1 z1 st1 hQ1
  subst l1 y1 z1
  obtain ⟨rr1, kk1, rfl, N1q, KQ1, Q1f0, Q1_fr⟩ := hQ1
  have N1 := Fr.app N0 N1q
  have gn_rr1 : n0 ≤ rr1 := Nat.le_trans Z0 Q1_fr
  have z2 : n0 ≤ T1.heap.size := Nat.le_trans Z0 KQ1.1
  have sg3 : ∀ t, Steps p.tables e below (T1.setTop (mkF m 4 #[.val (.int p1), .val (.int p2), .val (.int p3), .val (.ref rr1), .unset, .unset, .unset, .unset, .unset, .unset, .unset, .unset] [])) t → Steps p.tables e below (T1.setTop (mkF m 3 #[.val (.int p1), .val (.int p2), .val (.int p3), .unset, .unset, .unset, .unset, .unset, .unset, .unset, .unset, .unset] [(.ref rr1)])) t := by
    intro t k
    show Steps p.tables e below (T1.setTop (mkF m 3 #[.val (.int p1), .val (.int p2), .val (.int p3), .unset, .unset, .unset, .unset, .unset, .unset, .unset, .unset, .unset] [(.ref rr1)])) _
    refine XS.astoreN X1.here hx rfl (hb hby at_3) rfl rfl (l' := #[.val (.int p1), .val (.int p2), .val (.int p3), .val (.ref rr1), .unset, .unset, .unset, .unset, .unset, .unset, .unset, .unset]) rfl ?_
    exact k
  obtain ⟨_, _, ⟨T4, L4, k4, n4⟩, -, X4, ⟨Lc4, hQ4, l4, y4, z4⟩, st4⟩ := Jvm.LawKit.callS X1 hx (y := (⟨"com/example/dongying/dongying/xml/XmlNamesIsNameStartCharPinLaw", "highs", "()[I"⟩ : MethodName)) hown (mvT hZ (hw _ (List.mem_of_getElem? (i := 8) rfl))) (mvT hZ (hw _ (List.mem_of_getElem? (i := 9) rfl))) (mvT hZ (hw _ (List.mem_of_getElem? (i := 2) rfl))) (mvT hZ (hw _ (List.mem_of_getElem? (i := 10) rfl))) (by decide) (backOf (W := 0) (rmH l Z a0 hw []  T1.heap n0 z2 ) hZ (hw _ (List.mem_of_getElem? (i := 10) rfl)) (hw _ (List.mem_of_getElem? (i := 2) rfl)) (by decide) (by decide)) (g := (mkF m 4 #[.val (.int p1), .val (.int p2), .val (.int p3), .val (.ref rr1), .unset, .unset, .unset, .unset, .unset, .unset, .unset, .unset] [])) rfl (by rw [hml]; rfl) (argsL := []) (rest := []) (lenOf pd_0 rfl) rfl (by show 2 * 0 + _ ≤ _; exact Nat.le_of_eq rfl) (hb hby at_4) (fun _ _ => ⟨rfl, rfl, (by decide : 1 + 1 ≤ _), (by decide : 16 + 16 ≤ _)⟩)
  dsimp only [Pt.U, Pt.locs, Pt.cells, Pt.slots] at X4 l4 y4 z4 st4 hQ4
  subst l4 y4 z4
  obtain ⟨rr4, kk4, rfl, N4q, KQ4, Q4f0, Q4_fr⟩ := hQ4
  have N4 := Fr.app N1 N4q
  have ne5 : rr1 ≠ rr4 := Nat.ne_of_lt (Nat.lt_of_lt_of_le Q1f0.lt Q4_fr)
  have gn_rr4 : n0 ≤ rr4 := Nat.le_trans z2 Q4_fr
  have f6 : Arv Z T4.heap rr1 kk1 .int (16 : Int32) [(.int (58 : Int32)), (.int (65 : Int32)), (.int (95 : Int32)), (.int (97 : Int32)), (.int (192 : Int32)), (.int (216 : Int32)), (.int (248 : Int32)), (.int (880 : Int32)), (.int (895 : Int32)), (.int (8204 : Int32)), (.int (8304 : Int32)), (.int (11264 : Int32)), (.int (12289 : Int32)), (.int (63744 : Int32)), (.int (65008 : Int32)), (.int (65536 : Int32))] (.int (0 : Int32)) := Q1f0.keep KQ4 nin0
  have z7 : n0 ≤ T4.heap.size := Nat.le_trans z2 KQ4.1
  have sg8 : ∀ t, Steps p.tables e below (T4.setTop (mkF m 22 #[.val (.int p1), .val (.int p2), .val (.int p3), .val (.ref rr1), .val (.ref rr4), .val (.int ((p2 &&& (2147483647 : Int32)) % (16 : Int32))), .unset, .unset, .unset, .unset, .unset, .unset] [(.int ((p2 &&& (2147483647 : Int32)) % (16 : Int32))), (.ref rr4)])) t → Steps p.tables e below (T4.setTop (mkF m 7 #[.val (.int p1), .val (.int p2), .val (.int p3), .val (.ref rr1), .unset, .unset, .unset, .unset, .unset, .unset, .unset, .unset] [(.ref rr4)])) t := by
    intro t k
    show Steps p.tables e below (T4.setTop (mkF m 7 #[.val (.int p1), .val (.int p2), .val (.int p3), .val (.ref rr1), .unset, .unset, .unset, .unset, .unset, .unset, .unset, .unset] [(.ref rr4)])) _
    refine XS.astore X4.here hx rfl (hb hby at_7) rfl rfl (l' := #[.val (.int p1), .val (.int p2), .val (.int p3), .val (.ref rr1), .val (.ref rr4), .unset, .unset, .unset, .unset, .unset, .unset, .unset]) rfl ?_
    show Steps p.tables e below (T4.setTop (mkF m 9 #[.val (.int p1), .val (.int p2), .val (.int p3), .val (.ref rr1), .val (.ref rr4), .unset, .unset, .unset, .unset, .unset, .unset, .unset] [])) _
    refine XS.iloadN X4.here hx rfl (hb hby at_9) rfl ?_
    show Steps p.tables e below (T4.setTop (mkF m 10 #[.val (.int p1), .val (.int p2), .val (.int p3), .val (.ref rr1), .val (.ref rr4), .unset, .unset, .unset, .unset, .unset, .unset, .unset] [(.int p2)])) _
    refine X4.ldcInt hx hown (mvT hZ (hw _ (List.mem_of_getElem? (i := 15) rfl))) (g := (mkF m 10 #[.val (.int p1), .val (.int p2), .val (.int p3), .val (.ref rr1), .val (.ref rr4), .unset, .unset, .unset, .unset, .unset, .unset, .unset] [(.int p2)])) rfl (hb hby at_10) _ ?_
    show Steps p.tables e below (T4.setTop (mkF m 12 #[.val (.int p1), .val (.int p2), .val (.int p3), .val (.ref rr1), .val (.ref rr4), .unset, .unset, .unset, .unset, .unset, .unset, .unset] [(.int (2147483647 : Int32)), (.int p2)])) _
    refine XS.iand X4.here hx rfl (hb hby at_12) rfl ?_
    show Steps p.tables e below (T4.setTop (mkF m 13 #[.val (.int p1), .val (.int p2), .val (.int p3), .val (.ref rr1), .val (.ref rr4), .unset, .unset, .unset, .unset, .unset, .unset, .unset] [(.int (p2 &&& (2147483647 : Int32)))])) _
    refine XS.bipush X4.here hx rfl (hb hby at_13) ?_
    show Steps p.tables e below (T4.setTop (mkF m 15 #[.val (.int p1), .val (.int p2), .val (.int p3), .val (.ref rr1), .val (.ref rr4), .unset, .unset, .unset, .unset, .unset, .unset, .unset] [(.int (16 : Int32)), (.int (p2 &&& (2147483647 : Int32)))])) _
    refine iremM X4 hx rfl (hb hby at_15) rfl (by decide) ?_
    show Steps p.tables e below (T4.setTop (mkF m 16 #[.val (.int p1), .val (.int p2), .val (.int p3), .val (.ref rr1), .val (.ref rr4), .unset, .unset, .unset, .unset, .unset, .unset, .unset] [(.int ((p2 &&& (2147483647 : Int32)) % (16 : Int32)))])) _
    refine XS.istore X4.here hx rfl (hb hby at_16) rfl (l' := #[.val (.int p1), .val (.int p2), .val (.int p3), .val (.ref rr1), .val (.ref rr4), .val (.int ((p2 &&& (2147483647 : Int32)) % (16 : Int32))), .unset, .unset, .unset, .unset, .unset, .unset]) rfl ?_
    show Steps p.tables e below (T4.setTop (mkF m 18 #[.val (.int p1), .val (.int p2), .val (.int p3), .val (.ref rr1), .val (.ref rr4), .val (.int ((p2 &&& (2147483647 : Int32)) % (16 : Int32))), .unset, .unset, .unset, .unset, .unset, .unset] [])) _
    refine XS.aload X4.here hx rfl (hb hby at_18) rfl rfl ?_
    show Steps p.tables e below (T4.setTop (mkF m 20 #[.val (.int p1), .val (.int p2), .val (.int p3), .val (.ref rr1), .val (.ref rr4), .val (.int ((p2 &&& (2147483647 : Int32)) % (16 : Int32))), .unset, .unset, .unset, .unset, .unset, .unset] [(.ref rr4)])) _
    refine XS.iload X4.here hx rfl (hb hby at_20) rfl ?_
    exact k
  obtain ⟨cl9, Ar9, q9, Sz9, Nn9, Hs9, G9⟩ := id Q4f0
  have hin9 : ¬ (((p2 &&& (2147483647 : Int32)) % (16 : Int32)) < 0 ∨ cl9.slots.size ≤ (((p2 &&& (2147483647 : Int32)) % (16 : Int32))).toNatClampNeg) := inb_of Sz9 (own_k p2)
  have hat9 : cl9.slots[(((p2 &&& (2147483647 : Int32)) % (16 : Int32))).toNatClampNeg]? = some (.int (own_hi ((p2 &&& (2147483647 : Int32)) % (16 : Int32)))) := Has.at Hs9 hin9 (own_hiAt _)
  have st9 : ∀ t, Steps p.tables e below (T4.setTop (mkF m 23 #[.val (.int p1), .val (.int p2), .val (.int p3), .val (.ref rr1), .val (.ref rr4), .val (.int ((p2 &&& (2147483647 : Int32)) % (16 : Int32))), .unset, .unset, .unset, .unset, .unset, .unset] [(.int (own_hi ((p2 &&& (2147483647 : Int32)) % (16 : Int32))))])) t → Steps p.tables e below (T4.setTop (mkF m 22 #[.val (.int p1), .val (.int p2), .val (.int p3), .val (.ref rr1), .val (.ref rr4), .val (.int ((p2 &&& (2147483647 : Int32)) % (16 : Int32))), .unset, .unset, .unset, .unset, .unset, .unset] [(.int ((p2 &&& (2147483647 : Int32)) % (16 : Int32))), (.ref rr4)])) t := by
    intro t k
    refine X4.iaload hx (j := ((p2 &&& (2147483647 : Int32)) % (16 : Int32))) (v := (.int (own_hi ((p2 &&& (2147483647 : Int32)) % (16 : Int32))))) Ar9.1 (State.isArrayOf_alike hZ.alike Ar9.2.1) Ar9.2.2 hin9 hat9 (g := (mkF m 22 #[.val (.int p1), .val (.int p2), .val (.int p3), .val (.ref rr1), .val (.ref rr4), .val (.int ((p2 &&& (2147483647 : Int32)) % (16 : Int32))), .unset, .unset, .unset, .unset, .unset, .unset] [(.int ((p2 &&& (2147483647 : Int32)) % (16 : Int32))), (.ref rr4)])) rfl rfl (hb hby at_22) _ ?_
    exact k
  have sg10 : ∀ t, Steps p.tables e below (T4.setTop (mkF m 26 #[.val (.int p1), .val (.int p2), .val (.int p3), .val (.ref rr1), .val (.ref rr4), .val (.int ((p2 &&& (2147483647 : Int32)) % (16 : Int32))), .unset, .unset, .unset, .unset, .unset, .unset] [(.int ((p2 &&& (2147483647 : Int32)) % (16 : Int32))), (.ref rr1), (.int (own_hi ((p2 &&& (2147483647 : Int32)) % (16 : Int32))))])) t → Steps p.tables e below (T4.setTop (mkF m 23 #[.val (.int p1), .val (.int p2), .val (.int p3), .val (.ref rr1), .val (.ref rr4), .val (.int ((p2 &&& (2147483647 : Int32)) % (16 : Int32))), .unset, .unset, .unset, .unset, .unset, .unset] [(.int (own_hi ((p2 &&& (2147483647 : Int32)) % (16 : Int32))))])) t := by
    intro t k
    show Steps p.tables e below (T4.setTop (mkF m 23 #[.val (.int p1), .val (.int p2), .val (.int p3), .val (.ref rr1), .val (.ref rr4), .val (.int ((p2 &&& (2147483647 : Int32)) % (16 : Int32))), .unset, .unset, .unset, .unset, .unset, .unset] [(.int (own_hi ((p2 &&& (2147483647 : Int32)) % (16 : Int32))))])) _
    refine XS.aloadN X4.here hx rfl (hb hby at_23) rfl rfl ?_
    show Steps p.tables e below (T4.setTop (mkF m 24 #[.val (.int p1), .val (.int p2), .val (.int p3), .val (.ref rr1), .val (.ref rr4), .val (.int ((p2 &&& (2147483647 : Int32)) % (16 : Int32))), .unset, .unset, .unset, .unset, .unset, .unset] [(.ref rr1), (.int (own_hi ((p2 &&& (2147483647 : Int32)) % (16 : Int32))))])) _
    refine XS.iload X4.here hx rfl (hb hby at_24) rfl ?_
    exact k
  obtain ⟨cl11, Ar11, q11, Sz11, Nn11, Hs11, G11⟩ := id f6
  have hin11 : ¬ (((p2 &&& (2147483647 : Int32)) % (16 : Int32)) < 0 ∨ cl11.slots.size ≤ (((p2 &&& (2147483647 : Int32)) % (16 : Int32))).toNatClampNeg) := inb_of Sz11 (own_k p2)
  have hat11 : cl11.slots[(((p2 &&& (2147483647 : Int32)) % (16 : Int32))).toNatClampNeg]? = some (.int (own_lo ((p2 &&& (2147483647 : Int32)) % (16 : Int32)))) := Has.at Hs11 hin11 (own_loAt _)
  have st11 : ∀ t, Steps p.tables e below (T4.setTop (mkF m 27 #[.val (.int p1), .val (.int p2), .val (.int p3), .val (.ref rr1), .val (.ref rr4), .val (.int ((p2 &&& (2147483647 : Int32)) % (16 : Int32))), .unset, .unset, .unset, .unset, .unset, .unset] [(.int (own_lo ((p2 &&& (2147483647 : Int32)) % (16 : Int32)))), (.int (own_hi ((p2 &&& (2147483647 : Int32)) % (16 : Int32))))])) t → Steps p.tables e below (T4.setTop (mkF m 26 #[.val (.int p1), .val (.int p2), .val (.int p3), .val (.ref rr1), .val (.ref rr4), .val (.int ((p2 &&& (2147483647 : Int32)) % (16 : Int32))), .unset, .unset, .unset, .unset, .unset, .unset] [(.int ((p2 &&& (2147483647 : Int32)) % (16 : Int32))), (.ref rr1), (.int (own_hi ((p2 &&& (2147483647 : Int32)) % (16 : Int32))))])) t := by
    intro t k
    refine X4.iaload hx (j := ((p2 &&& (2147483647 : Int32)) % (16 : Int32))) (v := (.int (own_lo ((p2 &&& (2147483647 : Int32)) % (16 : Int32))))) Ar11.1 (State.isArrayOf_alike hZ.alike Ar11.2.1) Ar11.2.2 hin11 hat11 (g := (mkF m 26 #[.val (.int p1), .val (.int p2), .val (.int p3), .val (.ref rr1), .val (.ref rr4), .val (.int ((p2 &&& (2147483647 : Int32)) % (16 : Int32))), .unset, .unset, .unset, .unset, .unset, .unset] [(.int ((p2 &&& (2147483647 : Int32)) % (16 : Int32))), (.ref rr1), (.int (own_hi ((p2 &&& (2147483647 : Int32)) % (16 : Int32))))])) rfl rfl (hb hby at_26) _ ?_
    exact k
  have sg12 : ∀ t, Steps p.tables e below (T4.setTop (mkF m 35 #[.val (.int p1), .val (.int p2), .val (.int p3), .val (.ref rr1), .val (.ref rr4), .val (.int ((p2 &&& (2147483647 : Int32)) % (16 : Int32))), .val (.int (((own_hi ((p2 &&& (2147483647 : Int32)) % (16 : Int32))) - (own_lo ((p2 &&& (2147483647 : Int32)) % (16 : Int32)))) + (1 : Int32))), .unset, .unset, .unset, .unset, .unset] [(.int ((p2 &&& (2147483647 : Int32)) % (16 : Int32))), (.ref rr1)])) t → Steps p.tables e below (T4.setTop (mkF m 27 #[.val (.int p1), .val (.int p2), .val (.int p3), .val (.ref rr1), .val (.ref rr4), .val (.int ((p2 &&& (2147483647 : Int32)) % (16 : Int32))), .unset, .unset, .unset, .unset, .unset, .unset] [(.int (own_lo ((p2 &&& (2147483647 : Int32)) % (16 : Int32)))), (.int (own_hi ((p2 &&& (2147483647 : Int32)) % (16 : Int32))))])) t := by
    intro t k
    show Steps p.tables e below (T4.setTop (mkF m 27 #[.val (.int p1), .val (.int p2), .val (.int p3), .val (.ref rr1), .val (.ref rr4), .val (.int ((p2 &&& (2147483647 : Int32)) % (16 : Int32))), .unset, .unset, .unset, .unset, .unset, .unset] [(.int (own_lo ((p2 &&& (2147483647 : Int32)) % (16 : Int32)))), (.int (own_hi ((p2 &&& (2147483647 : Int32)) % (16 : Int32))))])) _
    refine XS.isub X4.here hx rfl (hb hby at_27) rfl ?_
    show Steps p.tables e below (T4.setTop (mkF m 28 #[.val (.int p1), .val (.int p2), .val (.int p3), .val (.ref rr1), .val (.ref rr4), .val (.int ((p2 &&& (2147483647 : Int32)) % (16 : Int32))), .unset, .unset, .unset, .unset, .unset, .unset] [(.int ((own_hi ((p2 &&& (2147483647 : Int32)) % (16 : Int32))) - (own_lo ((p2 &&& (2147483647 : Int32)) % (16 : Int32)))))])) _
    refine XS.iconst X4.here hx rfl (hb hby at_28) ?_
    show Steps p.tables e below (T4.setTop (mkF m 29 #[.val (.int p1), .val (.int p2), .val (.int p3), .val (.ref rr1), .val (.ref rr4), .val (.int ((p2 &&& (2147483647 : Int32)) % (16 : Int32))), .unset, .unset, .unset, .unset, .unset, .unset] [(.int (1 : Int32)), (.int ((own_hi ((p2 &&& (2147483647 : Int32)) % (16 : Int32))) - (own_lo ((p2 &&& (2147483647 : Int32)) % (16 : Int32)))))])) _
    refine XS.iadd X4.here hx rfl (hb hby at_29) rfl ?_
    show Steps p.tables e below (T4.setTop (mkF m 30 #[.val (.int p1), .val (.int p2), .val (.int p3), .val (.ref rr1), .val (.ref rr4), .val (.int ((p2 &&& (2147483647 : Int32)) % (16 : Int32))), .unset, .unset, .unset, .unset, .unset, .unset] [(.int (((own_hi ((p2 &&& (2147483647 : Int32)) % (16 : Int32))) - (own_lo ((p2 &&& (2147483647 : Int32)) % (16 : Int32)))) + (1 : Int32)))])) _
    refine XS.istore X4.here hx rfl (hb hby at_30) rfl (l' := #[.val (.int p1), .val (.int p2), .val (.int p3), .val (.ref rr1), .val (.ref rr4), .val (.int ((p2 &&& (2147483647 : Int32)) % (16 : Int32))), .val (.int (((own_hi ((p2 &&& (2147483647 : Int32)) % (16 : Int32))) - (own_lo ((p2 &&& (2147483647 : Int32)) % (16 : Int32)))) + (1 : Int32))), .unset, .unset, .unset, .unset, .unset]) rfl ?_
    show Steps p.tables e below (T4.setTop (mkF m 32 #[.val (.int p1), .val (.int p2), .val (.int p3), .val (.ref rr1), .val (.ref rr4), .val (.int ((p2 &&& (2147483647 : Int32)) % (16 : Int32))), .val (.int (((own_hi ((p2 &&& (2147483647 : Int32)) % (16 : Int32))) - (own_lo ((p2 &&& (2147483647 : Int32)) % (16 : Int32)))) + (1 : Int32))), .unset, .unset, .unset, .unset, .unset] [])) _
    refine XS.aloadN X4.here hx rfl (hb hby at_32) rfl rfl ?_
    show Steps p.tables e below (T4.setTop (mkF m 33 #[.val (.int p1), .val (.int p2), .val (.int p3), .val (.ref rr1), .val (.ref rr4), .val (.int ((p2 &&& (2147483647 : Int32)) % (16 : Int32))), .val (.int (((own_hi ((p2 &&& (2147483647 : Int32)) % (16 : Int32))) - (own_lo ((p2 &&& (2147483647 : Int32)) % (16 : Int32)))) + (1 : Int32))), .unset, .unset, .unset, .unset, .unset] [(.ref rr1)])) _
    refine XS.iload X4.here hx rfl (hb hby at_33) rfl ?_
    exact k
  obtain ⟨cl13, Ar13, q13, Sz13, Nn13, Hs13, G13⟩ := id f6
  have hin13 : ¬ (((p2 &&& (2147483647 : Int32)) % (16 : Int32)) < 0 ∨ cl13.slots.size ≤ (((p2 &&& (2147483647 : Int32)) % (16 : Int32))).toNatClampNeg) := inb_of Sz13 (own_k p2)
  have hat13 : cl13.slots[(((p2 &&& (2147483647 : Int32)) % (16 : Int32))).toNatClampNeg]? = some (.int (own_lo ((p2 &&& (2147483647 : Int32)) % (16 : Int32)))) := Has.at Hs13 hin13 (own_loAt _)
  have st13 : ∀ t, Steps p.tables e below (T4.setTop (mkF m 36 #[.val (.int p1), .val (.int p2), .val (.int p3), .val (.ref rr1), .val (.ref rr4), .val (.int ((p2 &&& (2147483647 : Int32)) % (16 : Int32))), .val (.int (((own_hi ((p2 &&& (2147483647 : Int32)) % (16 : Int32))) - (own_lo ((p2 &&& (2147483647 : Int32)) % (16 : Int32)))) + (1 : Int32))), .unset, .unset, .unset, .unset, .unset] [(.int (own_lo ((p2 &&& (2147483647 : Int32)) % (16 : Int32))))])) t → Steps p.tables e below (T4.setTop (mkF m 35 #[.val (.int p1), .val (.int p2), .val (.int p3), .val (.ref rr1), .val (.ref rr4), .val (.int ((p2 &&& (2147483647 : Int32)) % (16 : Int32))), .val (.int (((own_hi ((p2 &&& (2147483647 : Int32)) % (16 : Int32))) - (own_lo ((p2 &&& (2147483647 : Int32)) % (16 : Int32)))) + (1 : Int32))), .unset, .unset, .unset, .unset, .unset] [(.int ((p2 &&& (2147483647 : Int32)) % (16 : Int32))), (.ref rr1)])) t := by
    intro t k
    refine X4.iaload hx (j := ((p2 &&& (2147483647 : Int32)) % (16 : Int32))) (v := (.int (own_lo ((p2 &&& (2147483647 : Int32)) % (16 : Int32))))) Ar13.1 (State.isArrayOf_alike hZ.alike Ar13.2.1) Ar13.2.2 hin13 hat13 (g := (mkF m 35 #[.val (.int p1), .val (.int p2), .val (.int p3), .val (.ref rr1), .val (.ref rr4), .val (.int ((p2 &&& (2147483647 : Int32)) % (16 : Int32))), .val (.int (((own_hi ((p2 &&& (2147483647 : Int32)) % (16 : Int32))) - (own_lo ((p2 &&& (2147483647 : Int32)) % (16 : Int32)))) + (1 : Int32))), .unset, .unset, .unset, .unset, .unset] [(.int ((p2 &&& (2147483647 : Int32)) % (16 : Int32))), (.ref rr1)])) rfl rfl (hb hby at_35) _ ?_
    exact k
  have sg14 : ∀ t, Steps p.tables e below (T4.setTop (mkF m 49 #[.val (.int p1), .val (.int p2), .val (.int p3), .val (.ref rr1), .val (.ref rr4), .val (.int ((p2 &&& (2147483647 : Int32)) % (16 : Int32))), .val (.int (((own_hi ((p2 &&& (2147483647 : Int32)) % (16 : Int32))) - (own_lo ((p2 &&& (2147483647 : Int32)) % (16 : Int32)))) + (1 : Int32))), .val (.int ((own_lo ((p2 &&& (2147483647 : Int32)) % (16 : Int32))) + ((p3 &&& (2147483647 : Int32)) % (((own_hi ((p2 &&& (2147483647 : Int32)) % (16 : Int32))) - (own_lo ((p2 &&& (2147483647 : Int32)) % (16 : Int32)))) + (1 : Int32))))), .unset, .unset, .unset, .unset] [(.int ((p2 &&& (2147483647 : Int32)) % (16 : Int32))), (.ref rr1)])) t → Steps p.tables e below (T4.setTop (mkF m 36 #[.val (.int p1), .val (.int p2), .val (.int p3), .val (.ref rr1), .val (.ref rr4), .val (.int ((p2 &&& (2147483647 : Int32)) % (16 : Int32))), .val (.int (((own_hi ((p2 &&& (2147483647 : Int32)) % (16 : Int32))) - (own_lo ((p2 &&& (2147483647 : Int32)) % (16 : Int32)))) + (1 : Int32))), .unset, .unset, .unset, .unset, .unset] [(.int (own_lo ((p2 &&& (2147483647 : Int32)) % (16 : Int32))))])) t := by
    intro t k
    show Steps p.tables e below (T4.setTop (mkF m 36 #[.val (.int p1), .val (.int p2), .val (.int p3), .val (.ref rr1), .val (.ref rr4), .val (.int ((p2 &&& (2147483647 : Int32)) % (16 : Int32))), .val (.int (((own_hi ((p2 &&& (2147483647 : Int32)) % (16 : Int32))) - (own_lo ((p2 &&& (2147483647 : Int32)) % (16 : Int32)))) + (1 : Int32))), .unset, .unset, .unset, .unset, .unset] [(.int (own_lo ((p2 &&& (2147483647 : Int32)) % (16 : Int32))))])) _
    refine XS.iloadN X4.here hx rfl (hb hby at_36) rfl ?_
    show Steps p.tables e below (T4.setTop (mkF m 37 #[.val (.int p1), .val (.int p2), .val (.int p3), .val (.ref rr1), .val (.ref rr4), .val (.int ((p2 &&& (2147483647 : Int32)) % (16 : Int32))), .val (.int (((own_hi ((p2 &&& (2147483647 : Int32)) % (16 : Int32))) - (own_lo ((p2 &&& (2147483647 : Int32)) % (16 : Int32)))) + (1 : Int32))), .unset, .unset, .unset, .unset, .unset] [(.int p3), (.int (own_lo ((p2 &&& (2147483647 : Int32)) % (16 : Int32))))])) _
    refine X4.ldcInt hx hown (mvT hZ (hw _ (List.mem_of_getElem? (i := 15) rfl))) (g := (mkF m 37 #[.val (.int p1), .val (.int p2), .val (.int p3), .val (.ref rr1), .val (.ref rr4), .val (.int ((p2 &&& (2147483647 : Int32)) % (16 : Int32))), .val (.int (((own_hi ((p2 &&& (2147483647 : Int32)) % (16 : Int32))) - (own_lo ((p2 &&& (2147483647 : Int32)) % (16 : Int32)))) + (1 : Int32))), .unset, .unset, .unset, .unset, .unset] [(.int p3), (.int (own_lo ((p2 &&& (2147483647 : Int32)) % (16 : Int32))))])) rfl (hb hby at_37) _ ?_
    show Steps p.tables e below (T4.setTop (mkF m 39 #[.val (.int p1), .val (.int p2), .val (.int p3), .val (.ref rr1), .val (.ref rr4), .val (.int ((p2 &&& (2147483647 : Int32)) % (16 : Int32))), .val (.int (((own_hi ((p2 &&& (2147483647 : Int32)) % (16 : Int32))) - (own_lo ((p2 &&& (2147483647 : Int32)) % (16 : Int32)))) + (1 : Int32))), .unset, .unset, .unset, .unset, .unset] [(.int (2147483647 : Int32)), (.int p3), (.int (own_lo ((p2 &&& (2147483647 : Int32)) % (16 : Int32))))])) _
    refine XS.iand X4.here hx rfl (hb hby at_39) rfl ?_
    show Steps p.tables e below (T4.setTop (mkF m 40 #[.val (.int p1), .val (.int p2), .val (.int p3), .val (.ref rr1), .val (.ref rr4), .val (.int ((p2 &&& (2147483647 : Int32)) % (16 : Int32))), .val (.int (((own_hi ((p2 &&& (2147483647 : Int32)) % (16 : Int32))) - (own_lo ((p2 &&& (2147483647 : Int32)) % (16 : Int32)))) + (1 : Int32))), .unset, .unset, .unset, .unset, .unset] [(.int (p3 &&& (2147483647 : Int32))), (.int (own_lo ((p2 &&& (2147483647 : Int32)) % (16 : Int32))))])) _
    refine XS.iload X4.here hx rfl (hb hby at_40) rfl ?_
    show Steps p.tables e below (T4.setTop (mkF m 42 #[.val (.int p1), .val (.int p2), .val (.int p3), .val (.ref rr1), .val (.ref rr4), .val (.int ((p2 &&& (2147483647 : Int32)) % (16 : Int32))), .val (.int (((own_hi ((p2 &&& (2147483647 : Int32)) % (16 : Int32))) - (own_lo ((p2 &&& (2147483647 : Int32)) % (16 : Int32)))) + (1 : Int32))), .unset, .unset, .unset, .unset, .unset] [(.int (((own_hi ((p2 &&& (2147483647 : Int32)) % (16 : Int32))) - (own_lo ((p2 &&& (2147483647 : Int32)) % (16 : Int32)))) + (1 : Int32))), (.int (p3 &&& (2147483647 : Int32))), (.int (own_lo ((p2 &&& (2147483647 : Int32)) % (16 : Int32))))])) _
    refine iremM X4 hx rfl (hb hby at_42) rfl (own_len0 _ (own_k p2)) ?_
    show Steps p.tables e below (T4.setTop (mkF m 43 #[.val (.int p1), .val (.int p2), .val (.int p3), .val (.ref rr1), .val (.ref rr4), .val (.int ((p2 &&& (2147483647 : Int32)) % (16 : Int32))), .val (.int (((own_hi ((p2 &&& (2147483647 : Int32)) % (16 : Int32))) - (own_lo ((p2 &&& (2147483647 : Int32)) % (16 : Int32)))) + (1 : Int32))), .unset, .unset, .unset, .unset, .unset] [(.int ((p3 &&& (2147483647 : Int32)) % (((own_hi ((p2 &&& (2147483647 : Int32)) % (16 : Int32))) - (own_lo ((p2 &&& (2147483647 : Int32)) % (16 : Int32)))) + (1 : Int32)))), (.int (own_lo ((p2 &&& (2147483647 : Int32)) % (16 : Int32))))])) _
    refine XS.iadd X4.here hx rfl (hb hby at_43) rfl ?_
    show Steps p.tables e below (T4.setTop (mkF m 44 #[.val (.int p1), .val (.int p2), .val (.int p3), .val (.ref rr1), .val (.ref rr4), .val (.int ((p2 &&& (2147483647 : Int32)) % (16 : Int32))), .val (.int (((own_hi ((p2 &&& (2147483647 : Int32)) % (16 : Int32))) - (own_lo ((p2 &&& (2147483647 : Int32)) % (16 : Int32)))) + (1 : Int32))), .unset, .unset, .unset, .unset, .unset] [(.int ((own_lo ((p2 &&& (2147483647 : Int32)) % (16 : Int32))) + ((p3 &&& (2147483647 : Int32)) % (((own_hi ((p2 &&& (2147483647 : Int32)) % (16 : Int32))) - (own_lo ((p2 &&& (2147483647 : Int32)) % (16 : Int32)))) + (1 : Int32)))))])) _
    refine XS.istore X4.here hx rfl (hb hby at_44) rfl (l' := #[.val (.int p1), .val (.int p2), .val (.int p3), .val (.ref rr1), .val (.ref rr4), .val (.int ((p2 &&& (2147483647 : Int32)) % (16 : Int32))), .val (.int (((own_hi ((p2 &&& (2147483647 : Int32)) % (16 : Int32))) - (own_lo ((p2 &&& (2147483647 : Int32)) % (16 : Int32)))) + (1 : Int32))), .val (.int ((own_lo ((p2 &&& (2147483647 : Int32)) % (16 : Int32))) + ((p3 &&& (2147483647 : Int32)) % (((own_hi ((p2 &&& (2147483647 : Int32)) % (16 : Int32))) - (own_lo ((p2 &&& (2147483647 : Int32)) % (16 : Int32)))) + (1 : Int32))))), .unset, .unset, .unset, .unset]) rfl ?_
    show Steps p.tables e below (T4.setTop (mkF m 46 #[.val (.int p1), .val (.int p2), .val (.int p3), .val (.ref rr1), .val (.ref rr4), .val (.int ((p2 &&& (2147483647 : Int32)) % (16 : Int32))), .val (.int (((own_hi ((p2 &&& (2147483647 : Int32)) % (16 : Int32))) - (own_lo ((p2 &&& (2147483647 : Int32)) % (16 : Int32)))) + (1 : Int32))), .val (.int ((own_lo ((p2 &&& (2147483647 : Int32)) % (16 : Int32))) + ((p3 &&& (2147483647 : Int32)) % (((own_hi ((p2 &&& (2147483647 : Int32)) % (16 : Int32))) - (own_lo ((p2 &&& (2147483647 : Int32)) % (16 : Int32)))) + (1 : Int32))))), .unset, .unset, .unset, .unset] [])) _
    refine XS.aloadN X4.here hx rfl (hb hby at_46) rfl rfl ?_
    show Steps p.tables e below (T4.setTop (mkF m 47 #[.val (.int p1), .val (.int p2), .val (.int p3), .val (.ref rr1), .val (.ref rr4), .val (.int ((p2 &&& (2147483647 : Int32)) % (16 : Int32))), .val (.int (((own_hi ((p2 &&& (2147483647 : Int32)) % (16 : Int32))) - (own_lo ((p2 &&& (2147483647 : Int32)) % (16 : Int32)))) + (1 : Int32))), .val (.int ((own_lo ((p2 &&& (2147483647 : Int32)) % (16 : Int32))) + ((p3 &&& (2147483647 : Int32)) % (((own_hi ((p2 &&& (2147483647 : Int32)) % (16 : Int32))) - (own_lo ((p2 &&& (2147483647 : Int32)) % (16 : Int32)))) + (1 : Int32))))), .unset, .unset, .unset, .unset] [(.ref rr1)])) _
    refine XS.iload X4.here hx rfl (hb hby at_47) rfl ?_
    exact k
  obtain ⟨cl15, Ar15, q15, Sz15, Nn15, Hs15, G15⟩ := id f6
  have hin15 : ¬ (((p2 &&& (2147483647 : Int32)) % (16 : Int32)) < 0 ∨ cl15.slots.size ≤ (((p2 &&& (2147483647 : Int32)) % (16 : Int32))).toNatClampNeg) := inb_of Sz15 (own_k p2)
  have hat15 : cl15.slots[(((p2 &&& (2147483647 : Int32)) % (16 : Int32))).toNatClampNeg]? = some (.int (own_lo ((p2 &&& (2147483647 : Int32)) % (16 : Int32)))) := Has.at Hs15 hin15 (own_loAt _)
  have st15 : ∀ t, Steps p.tables e below (T4.setTop (mkF m 50 #[.val (.int p1), .val (.int p2), .val (.int p3), .val (.ref rr1), .val (.ref rr4), .val (.int ((p2 &&& (2147483647 : Int32)) % (16 : Int32))), .val (.int (((own_hi ((p2 &&& (2147483647 : Int32)) % (16 : Int32))) - (own_lo ((p2 &&& (2147483647 : Int32)) % (16 : Int32)))) + (1 : Int32))), .val (.int ((own_lo ((p2 &&& (2147483647 : Int32)) % (16 : Int32))) + ((p3 &&& (2147483647 : Int32)) % (((own_hi ((p2 &&& (2147483647 : Int32)) % (16 : Int32))) - (own_lo ((p2 &&& (2147483647 : Int32)) % (16 : Int32)))) + (1 : Int32))))), .unset, .unset, .unset, .unset] [(.int (own_lo ((p2 &&& (2147483647 : Int32)) % (16 : Int32))))])) t → Steps p.tables e below (T4.setTop (mkF m 49 #[.val (.int p1), .val (.int p2), .val (.int p3), .val (.ref rr1), .val (.ref rr4), .val (.int ((p2 &&& (2147483647 : Int32)) % (16 : Int32))), .val (.int (((own_hi ((p2 &&& (2147483647 : Int32)) % (16 : Int32))) - (own_lo ((p2 &&& (2147483647 : Int32)) % (16 : Int32)))) + (1 : Int32))), .val (.int ((own_lo ((p2 &&& (2147483647 : Int32)) % (16 : Int32))) + ((p3 &&& (2147483647 : Int32)) % (((own_hi ((p2 &&& (2147483647 : Int32)) % (16 : Int32))) - (own_lo ((p2 &&& (2147483647 : Int32)) % (16 : Int32)))) + (1 : Int32))))), .unset, .unset, .unset, .unset] [(.int ((p2 &&& (2147483647 : Int32)) % (16 : Int32))), (.ref rr1)])) t := by
    intro t k
    refine X4.iaload hx (j := ((p2 &&& (2147483647 : Int32)) % (16 : Int32))) (v := (.int (own_lo ((p2 &&& (2147483647 : Int32)) % (16 : Int32))))) Ar15.1 (State.isArrayOf_alike hZ.alike Ar15.2.1) Ar15.2.2 hin15 hat15 (g := (mkF m 49 #[.val (.int p1), .val (.int p2), .val (.int p3), .val (.ref rr1), .val (.ref rr4), .val (.int ((p2 &&& (2147483647 : Int32)) % (16 : Int32))), .val (.int (((own_hi ((p2 &&& (2147483647 : Int32)) % (16 : Int32))) - (own_lo ((p2 &&& (2147483647 : Int32)) % (16 : Int32)))) + (1 : Int32))), .val (.int ((own_lo ((p2 &&& (2147483647 : Int32)) % (16 : Int32))) + ((p3 &&& (2147483647 : Int32)) % (((own_hi ((p2 &&& (2147483647 : Int32)) % (16 : Int32))) - (own_lo ((p2 &&& (2147483647 : Int32)) % (16 : Int32)))) + (1 : Int32))))), .unset, .unset, .unset, .unset] [(.int ((p2 &&& (2147483647 : Int32)) % (16 : Int32))), (.ref rr1)])) rfl rfl (hb hby at_49) _ ?_
    exact k
  obtain ⟨_, _, ⟨T16, L16, k16, n16⟩, -, X16, ⟨Lc16, hQ16, l16, y16, z16⟩, st16⟩ := Jvm.LawKit.callS X4 hx (y := (⟨"com/example/dongying/dongying/xml/XmlNames", "isNameStartChar", "(I)Z"⟩ : MethodName)) hown (mvT hZ (hw _ (List.mem_of_getElem? (i := 16) rfl))) (mvT hZ (hw _ (List.mem_of_getElem? (i := 17) rfl))) (mvT hZ (hw _ (List.mem_of_getElem? (i := 18) rfl))) (mvT hZ (hw _ (List.mem_of_getElem? (i := 19) rfl))) (by decide) (backOf (W := 0) (rmA l Z a0 hw [] (own_lo ((p2 &&& (2147483647 : Int32)) % (16 : Int32))) T4.heap n0 z7) hZ (hw _ (List.mem_of_getElem? (i := 19) rfl)) (hw _ (List.mem_of_getElem? (i := 18) rfl)) (by decide) (by decide)) (g := (mkF m 50 #[.val (.int p1), .val (.int p2), .val (.int p3), .val (.ref rr1), .val (.ref rr4), .val (.int ((p2 &&& (2147483647 : Int32)) % (16 : Int32))), .val (.int (((own_hi ((p2 &&& (2147483647 : Int32)) % (16 : Int32))) - (own_lo ((p2 &&& (2147483647 : Int32)) % (16 : Int32)))) + (1 : Int32))), .val (.int ((own_lo ((p2 &&& (2147483647 : Int32)) % (16 : Int32))) + ((p3 &&& (2147483647 : Int32)) % (((own_hi ((p2 &&& (2147483647 : Int32)) % (16 : Int32))) - (own_lo ((p2 &&& (2147483647 : Int32)) % (16 : Int32)))) + (1 : Int32))))), .unset, .unset, .unset, .unset] [(.int (own_lo ((p2 &&& (2147483647 : Int32)) % (16 : Int32))))])) rfl (by rw [hml]; rfl) (argsL := [(.int (own_lo ((p2 &&& (2147483647 : Int32)) % (16 : Int32))))]) (rest := []) (lenOf pd_1 rfl) rfl (by show 2 * 0 + _ ≤ _; exact Nat.le_of_eq rfl) (hb hby at_50) (fun _ _ => ⟨rfl, rfl, (by decide : 2 + 0 ≤ _), (by decide : 32 + 0 ≤ _)⟩)
  dsimp only [Pt.U, Pt.locs, Pt.cells, Pt.slots] at X16 l16 y16 z16 st16 hQ16
  subst l16 y16 z16
  obtain ⟨rfl, N16q, e16⟩ := hQ16
  have N16 := Fr.app N4 N16q
  have sg17 : ∀ t, Steps p.tables e below (T16.setTop (mkF m 60 #[.val (.int p1), .val (.int p2), .val (.int p3), .val (.ref rr1), .val (.ref rr4), .val (.int ((p2 &&& (2147483647 : Int32)) % (16 : Int32))), .val (.int (((own_hi ((p2 &&& (2147483647 : Int32)) % (16 : Int32))) - (own_lo ((p2 &&& (2147483647 : Int32)) % (16 : Int32)))) + (1 : Int32))), .val (.int ((own_lo ((p2 &&& (2147483647 : Int32)) % (16 : Int32))) + ((p3 &&& (2147483647 : Int32)) % (((own_hi ((p2 &&& (2147483647 : Int32)) % (16 : Int32))) - (own_lo ((p2 &&& (2147483647 : Int32)) % (16 : Int32)))) + (1 : Int32))))), .unset, .unset, .unset, .unset] [(.int ((p2 &&& (2147483647 : Int32)) % (16 : Int32))), (.ref rr4)])) t → Steps p.tables e below (T16.setTop (mkF m 53 #[.val (.int p1), .val (.int p2), .val (.int p3), .val (.ref rr1), .val (.ref rr4), .val (.int ((p2 &&& (2147483647 : Int32)) % (16 : Int32))), .val (.int (((own_hi ((p2 &&& (2147483647 : Int32)) % (16 : Int32))) - (own_lo ((p2 &&& (2147483647 : Int32)) % (16 : Int32)))) + (1 : Int32))), .val (.int ((own_lo ((p2 &&& (2147483647 : Int32)) % (16 : Int32))) + ((p3 &&& (2147483647 : Int32)) % (((own_hi ((p2 &&& (2147483647 : Int32)) % (16 : Int32))) - (own_lo ((p2 &&& (2147483647 : Int32)) % (16 : Int32)))) + (1 : Int32))))), .unset, .unset, .unset, .unset] [(.int (fN (own_lo ((p2 &&& (2147483647 : Int32)) % (16 : Int32)))))])) t := by
    intro t k
    show Steps p.tables e below (T16.setTop (mkF m 53 #[.val (.int p1), .val (.int p2), .val (.int p3), .val (.ref rr1), .val (.ref rr4), .val (.int ((p2 &&& (2147483647 : Int32)) % (16 : Int32))), .val (.int (((own_hi ((p2 &&& (2147483647 : Int32)) % (16 : Int32))) - (own_lo ((p2 &&& (2147483647 : Int32)) % (16 : Int32)))) + (1 : Int32))), .val (.int ((own_lo ((p2 &&& (2147483647 : Int32)) % (16 : Int32))) + ((p3 &&& (2147483647 : Int32)) % (((own_hi ((p2 &&& (2147483647 : Int32)) % (16 : Int32))) - (own_lo ((p2 &&& (2147483647 : Int32)) % (16 : Int32)))) + (1 : Int32))))), .unset, .unset, .unset, .unset] [(.int (fN (own_lo ((p2 &&& (2147483647 : Int32)) % (16 : Int32)))))])) _
    refine XS.ifNo X16.here hx rfl (hb hby at_53) rfl ((if0 _ _).trans (feq ((own_01 (own_t1 _ (own_nat (k := 16) rfl (own_k p2)))) : ¬ ((fN (own_lo ((p2 &&& (2147483647 : Int32)) % (16 : Int32)))) = (0 : Int32)))).1) ?_
    show Steps p.tables e below (T16.setTop (mkF m 56 #[.val (.int p1), .val (.int p2), .val (.int p3), .val (.ref rr1), .val (.ref rr4), .val (.int ((p2 &&& (2147483647 : Int32)) % (16 : Int32))), .val (.int (((own_hi ((p2 &&& (2147483647 : Int32)) % (16 : Int32))) - (own_lo ((p2 &&& (2147483647 : Int32)) % (16 : Int32)))) + (1 : Int32))), .val (.int ((own_lo ((p2 &&& (2147483647 : Int32)) % (16 : Int32))) + ((p3 &&& (2147483647 : Int32)) % (((own_hi ((p2 &&& (2147483647 : Int32)) % (16 : Int32))) - (own_lo ((p2 &&& (2147483647 : Int32)) % (16 : Int32)))) + (1 : Int32))))), .unset, .unset, .unset, .unset] [])) _
    refine XS.aload X16.here hx rfl (hb hby at_56) rfl rfl ?_
    show Steps p.tables e below (T16.setTop (mkF m 58 #[.val (.int p1), .val (.int p2), .val (.int p3), .val (.ref rr1), .val (.ref rr4), .val (.int ((p2 &&& (2147483647 : Int32)) % (16 : Int32))), .val (.int (((own_hi ((p2 &&& (2147483647 : Int32)) % (16 : Int32))) - (own_lo ((p2 &&& (2147483647 : Int32)) % (16 : Int32)))) + (1 : Int32))), .val (.int ((own_lo ((p2 &&& (2147483647 : Int32)) % (16 : Int32))) + ((p3 &&& (2147483647 : Int32)) % (((own_hi ((p2 &&& (2147483647 : Int32)) % (16 : Int32))) - (own_lo ((p2 &&& (2147483647 : Int32)) % (16 : Int32)))) + (1 : Int32))))), .unset, .unset, .unset, .unset] [(.ref rr4)])) _
    refine XS.iload X16.here hx rfl (hb hby at_58) rfl ?_
    exact k
  obtain ⟨cl18, Ar18, q18, Sz18, Nn18, Hs18, G18⟩ := id Q4f0
  have hin18 : ¬ (((p2 &&& (2147483647 : Int32)) % (16 : Int32)) < 0 ∨ cl18.slots.size ≤ (((p2 &&& (2147483647 : Int32)) % (16 : Int32))).toNatClampNeg) := inb_of Sz18 (own_k p2)
  have hat18 : cl18.slots[(((p2 &&& (2147483647 : Int32)) % (16 : Int32))).toNatClampNeg]? = some (.int (own_hi ((p2 &&& (2147483647 : Int32)) % (16 : Int32)))) := Has.at Hs18 hin18 (own_hiAt _)
  have st18 : ∀ t, Steps p.tables e below (T16.setTop (mkF m 61 #[.val (.int p1), .val (.int p2), .val (.int p3), .val (.ref rr1), .val (.ref rr4), .val (.int ((p2 &&& (2147483647 : Int32)) % (16 : Int32))), .val (.int (((own_hi ((p2 &&& (2147483647 : Int32)) % (16 : Int32))) - (own_lo ((p2 &&& (2147483647 : Int32)) % (16 : Int32)))) + (1 : Int32))), .val (.int ((own_lo ((p2 &&& (2147483647 : Int32)) % (16 : Int32))) + ((p3 &&& (2147483647 : Int32)) % (((own_hi ((p2 &&& (2147483647 : Int32)) % (16 : Int32))) - (own_lo ((p2 &&& (2147483647 : Int32)) % (16 : Int32)))) + (1 : Int32))))), .unset, .unset, .unset, .unset] [(.int (own_hi ((p2 &&& (2147483647 : Int32)) % (16 : Int32))))])) t → Steps p.tables e below (T16.setTop (mkF m 60 #[.val (.int p1), .val (.int p2), .val (.int p3), .val (.ref rr1), .val (.ref rr4), .val (.int ((p2 &&& (2147483647 : Int32)) % (16 : Int32))), .val (.int (((own_hi ((p2 &&& (2147483647 : Int32)) % (16 : Int32))) - (own_lo ((p2 &&& (2147483647 : Int32)) % (16 : Int32)))) + (1 : Int32))), .val (.int ((own_lo ((p2 &&& (2147483647 : Int32)) % (16 : Int32))) + ((p3 &&& (2147483647 : Int32)) % (((own_hi ((p2 &&& (2147483647 : Int32)) % (16 : Int32))) - (own_lo ((p2 &&& (2147483647 : Int32)) % (16 : Int32)))) + (1 : Int32))))), .unset, .unset, .unset, .unset] [(.int ((p2 &&& (2147483647 : Int32)) % (16 : Int32))), (.ref rr4)])) t := by
    intro t k
    refine X16.iaload hx (j := ((p2 &&& (2147483647 : Int32)) % (16 : Int32))) (v := (.int (own_hi ((p2 &&& (2147483647 : Int32)) % (16 : Int32))))) (by rw [e16]; exact Ar18.1) (State.isArrayOf_alike hZ.alike Ar18.2.1) Ar18.2.2 hin18 hat18 (g := (mkF m 60 #[.val (.int p1), .val (.int p2), .val (.int p3), .val (.ref rr1), .val (.ref rr4), .val (.int ((p2 &&& (2147483647 : Int32)) % (16 : Int32))), .val (.int (((own_hi ((p2 &&& (2147483647 : Int32)) % (16 : Int32))) - (own_lo ((p2 &&& (2147483647 : Int32)) % (16 : Int32)))) + (1 : Int32))), .val (.int ((own_lo ((p2 &&& (2147483647 : Int32)) % (16 : Int32))) + ((p3 &&& (2147483647 : Int32)) % (((own_hi ((p2 &&& (2147483647 : Int32)) % (16 : Int32))) - (own_lo ((p2 &&& (2147483647 : Int32)) % (16 : Int32)))) + (1 : Int32))))), .unset, .unset, .unset, .unset] [(.int ((p2 &&& (2147483647 : Int32)) % (16 : Int32))), (.ref rr4)])) rfl rfl (hb hby at_60) _ ?_
    exact k
  obtain ⟨_, _, ⟨T19, L19, k19, n19⟩, -, X19, ⟨Lc19, hQ19, l19, y19, z19⟩, st19⟩ := Jvm.LawKit.callS X16 hx (y := (⟨"com/example/dongying/dongying/xml/XmlNames", "isNameStartChar", "(I)Z"⟩ : MethodName)) hown (mvT hZ (hw _ (List.mem_of_getElem? (i := 16) rfl))) (mvT hZ (hw _ (List.mem_of_getElem? (i := 17) rfl))) (mvT hZ (hw _ (List.mem_of_getElem? (i := 18) rfl))) (mvT hZ (hw _ (List.mem_of_getElem? (i := 19) rfl))) (by decide) (backOf (W := 0) (rmA l Z a0 hw [] (own_hi ((p2 &&& (2147483647 : Int32)) % (16 : Int32))) T4.heap n0 z7) hZ (hw _ (List.mem_of_getElem? (i := 19) rfl)) (hw _ (List.mem_of_getElem? (i := 18) rfl)) (by decide) (by decide)) (g := (mkF m 61 #[.val (.int p1), .val (.int p2), .val (.int p3), .val (.ref rr1), .val (.ref rr4), .val (.int ((p2 &&& (2147483647 : Int32)) % (16 : Int32))), .val (.int (((own_hi ((p2 &&& (2147483647 : Int32)) % (16 : Int32))) - (own_lo ((p2 &&& (2147483647 : Int32)) % (16 : Int32)))) + (1 : Int32))), .val (.int ((own_lo ((p2 &&& (2147483647 : Int32)) % (16 : Int32))) + ((p3 &&& (2147483647 : Int32)) % (((own_hi ((p2 &&& (2147483647 : Int32)) % (16 : Int32))) - (own_lo ((p2 &&& (2147483647 : Int32)) % (16 : Int32)))) + (1 : Int32))))), .unset, .unset, .unset, .unset] [(.int (own_hi ((p2 &&& (2147483647 : Int32)) % (16 : Int32))))])) rfl (by rw [hml]; rfl) (argsL := [(.int (own_hi ((p2 &&& (2147483647 : Int32)) % (16 : Int32))))]) (rest := []) (lenOf pd_1 rfl) rfl (by show 2 * 0 + _ ≤ _; exact Nat.le_of_eq rfl) (hb hby at_61) (fun _ _ => ⟨rfl, e16, (by decide : 2 + 0 ≤ _), (by decide : 32 + 0 ≤ _)⟩)
  dsimp only [Pt.U, Pt.locs, Pt.cells, Pt.slots] at X19 l19 y19 z19 st19 hQ19
  subst l19 y19 z19
  obtain ⟨rfl, N19q, e19⟩ := hQ19
  have N19 := Fr.app N16 N19q
  have sg20 : ∀ t, Steps p.tables e below (T19.setTop (mkF m 69 #[.val (.int p1), .val (.int p2), .val (.int p3), .val (.ref rr1), .val (.ref rr4), .val (.int ((p2 &&& (2147483647 : Int32)) % (16 : Int32))), .val (.int (((own_hi ((p2 &&& (2147483647 : Int32)) % (16 : Int32))) - (own_lo ((p2 &&& (2147483647 : Int32)) % (16 : Int32)))) + (1 : Int32))), .val (.int ((own_lo ((p2 &&& (2147483647 : Int32)) % (16 : Int32))) + ((p3 &&& (2147483647 : Int32)) % (((own_hi ((p2 &&& (2147483647 : Int32)) % (16 : Int32))) - (own_lo ((p2 &&& (2147483647 : Int32)) % (16 : Int32)))) + (1 : Int32))))), .unset, .unset, .unset, .unset] [(.int ((own_lo ((p2 &&& (2147483647 : Int32)) % (16 : Int32))) + ((p3 &&& (2147483647 : Int32)) % (((own_hi ((p2 &&& (2147483647 : Int32)) % (16 : Int32))) - (own_lo ((p2 &&& (2147483647 : Int32)) % (16 : Int32)))) + (1 : Int32)))))])) t → Steps p.tables e below (T19.setTop (mkF m 64 #[.val (.int p1), .val (.int p2), .val (.int p3), .val (.ref rr1), .val (.ref rr4), .val (.int ((p2 &&& (2147483647 : Int32)) % (16 : Int32))), .val (.int (((own_hi ((p2 &&& (2147483647 : Int32)) % (16 : Int32))) - (own_lo ((p2 &&& (2147483647 : Int32)) % (16 : Int32)))) + (1 : Int32))), .val (.int ((own_lo ((p2 &&& (2147483647 : Int32)) % (16 : Int32))) + ((p3 &&& (2147483647 : Int32)) % (((own_hi ((p2 &&& (2147483647 : Int32)) % (16 : Int32))) - (own_lo ((p2 &&& (2147483647 : Int32)) % (16 : Int32)))) + (1 : Int32))))), .unset, .unset, .unset, .unset] [(.int (fN (own_hi ((p2 &&& (2147483647 : Int32)) % (16 : Int32)))))])) t := by
    intro t k
    show Steps p.tables e below (T19.setTop (mkF m 64 #[.val (.int p1), .val (.int p2), .val (.int p3), .val (.ref rr1), .val (.ref rr4), .val (.int ((p2 &&& (2147483647 : Int32)) % (16 : Int32))), .val (.int (((own_hi ((p2 &&& (2147483647 : Int32)) % (16 : Int32))) - (own_lo ((p2 &&& (2147483647 : Int32)) % (16 : Int32)))) + (1 : Int32))), .val (.int ((own_lo ((p2 &&& (2147483647 : Int32)) % (16 : Int32))) + ((p3 &&& (2147483647 : Int32)) % (((own_hi ((p2 &&& (2147483647 : Int32)) % (16 : Int32))) - (own_lo ((p2 &&& (2147483647 : Int32)) % (16 : Int32)))) + (1 : Int32))))), .unset, .unset, .unset, .unset] [(.int (fN (own_hi ((p2 &&& (2147483647 : Int32)) % (16 : Int32)))))])) _
    refine XS.ifNo X19.here hx rfl (hb hby at_64) rfl ((if0 _ _).trans (feq ((own_01 (own_t2 _ (own_nat (k := 16) rfl (own_k p2)))) : ¬ ((fN (own_hi ((p2 &&& (2147483647 : Int32)) % (16 : Int32)))) = (0 : Int32)))).1) ?_
    show Steps p.tables e below (T19.setTop (mkF m 67 #[.val (.int p1), .val (.int p2), .val (.int p3), .val (.ref rr1), .val (.ref rr4), .val (.int ((p2 &&& (2147483647 : Int32)) % (16 : Int32))), .val (.int (((own_hi ((p2 &&& (2147483647 : Int32)) % (16 : Int32))) - (own_lo ((p2 &&& (2147483647 : Int32)) % (16 : Int32)))) + (1 : Int32))), .val (.int ((own_lo ((p2 &&& (2147483647 : Int32)) % (16 : Int32))) + ((p3 &&& (2147483647 : Int32)) % (((own_hi ((p2 &&& (2147483647 : Int32)) % (16 : Int32))) - (own_lo ((p2 &&& (2147483647 : Int32)) % (16 : Int32)))) + (1 : Int32))))), .unset, .unset, .unset, .unset] [])) _
    refine XS.iload X19.here hx rfl (hb hby at_67) rfl ?_
    exact k
  obtain ⟨_, _, ⟨T21, L21, k21, n21⟩, -, X21, ⟨Lc21, hQ21, l21, y21, z21⟩, st21⟩ := Jvm.LawKit.callS X19 hx (y := (⟨"com/example/dongying/dongying/xml/XmlNames", "isNameStartChar", "(I)Z"⟩ : MethodName)) hown (mvT hZ (hw _ (List.mem_of_getElem? (i := 16) rfl))) (mvT hZ (hw _ (List.mem_of_getElem? (i := 17) rfl))) (mvT hZ (hw _ (List.mem_of_getElem? (i := 18) rfl))) (mvT hZ (hw _ (List.mem_of_getElem? (i := 19) rfl))) (by decide) (backOf (W := 0) (rmA l Z a0 hw [] ((own_lo ((p2 &&& (2147483647 : Int32)) % (16 : Int32))) + ((p3 &&& (2147483647 : Int32)) % (((own_hi ((p2 &&& (2147483647 : Int32)) % (16 : Int32))) - (own_lo ((p2 &&& (2147483647 : Int32)) % (16 : Int32)))) + (1 : Int32)))) T4.heap n0 z7) hZ (hw _ (List.mem_of_getElem? (i := 19) rfl)) (hw _ (List.mem_of_getElem? (i := 18) rfl)) (by decide) (by decide)) (g := (mkF m 69 #[.val (.int p1), .val (.int p2), .val (.int p3), .val (.ref rr1), .val (.ref rr4), .val (.int ((p2 &&& (2147483647 : Int32)) % (16 : Int32))), .val (.int (((own_hi ((p2 &&& (2147483647 : Int32)) % (16 : Int32))) - (own_lo ((p2 &&& (2147483647 : Int32)) % (16 : Int32)))) + (1 : Int32))), .val (.int ((own_lo ((p2 &&& (2147483647 : Int32)) % (16 : Int32))) + ((p3 &&& (2147483647 : Int32)) % (((own_hi ((p2 &&& (2147483647 : Int32)) % (16 : Int32))) - (own_lo ((p2 &&& (2147483647 : Int32)) % (16 : Int32)))) + (1 : Int32))))), .unset, .unset, .unset, .unset] [(.int ((own_lo ((p2 &&& (2147483647 : Int32)) % (16 : Int32))) + ((p3 &&& (2147483647 : Int32)) % (((own_hi ((p2 &&& (2147483647 : Int32)) % (16 : Int32))) - (own_lo ((p2 &&& (2147483647 : Int32)) % (16 : Int32)))) + (1 : Int32)))))])) rfl (by rw [hml]; rfl) (argsL := [(.int ((own_lo ((p2 &&& (2147483647 : Int32)) % (16 : Int32))) + ((p3 &&& (2147483647 : Int32)) % (((own_hi ((p2 &&& (2147483647 : Int32)) % (16 : Int32))) - (own_lo ((p2 &&& (2147483647 : Int32)) % (16 : Int32)))) + (1 : Int32)))))]) (rest := []) (lenOf pd_1 rfl) rfl (by show 2 * 0 + _ ≤ _; exact Nat.le_of_eq rfl) (hb hby at_69) (fun _ _ => ⟨rfl, e19, (by decide : 2 + 0 ≤ _), (by decide : 32 + 0 ≤ _)⟩)
  dsimp only [Pt.U, Pt.locs, Pt.cells, Pt.slots] at X21 l21 y21 z21 st21 hQ21
  subst l21 y21 z21
  obtain ⟨rfl, N21q, e21⟩ := hQ21
  have N21 := Fr.app N19 N21q
  have sg22 : ∀ t, Steps p.tables e below (T21.setTop (mkF m 78 #[.val (.int p1), .val (.int p2), .val (.int p3), .val (.ref rr1), .val (.ref rr4), .val (.int ((p2 &&& (2147483647 : Int32)) % (16 : Int32))), .val (.int (((own_hi ((p2 &&& (2147483647 : Int32)) % (16 : Int32))) - (own_lo ((p2 &&& (2147483647 : Int32)) % (16 : Int32)))) + (1 : Int32))), .val (.int ((own_lo ((p2 &&& (2147483647 : Int32)) % (16 : Int32))) + ((p3 &&& (2147483647 : Int32)) % (((own_hi ((p2 &&& (2147483647 : Int32)) % (16 : Int32))) - (own_lo ((p2 &&& (2147483647 : Int32)) % (16 : Int32)))) + (1 : Int32))))), .unset, .unset, .unset, .unset] [(.int ((p2 &&& (2147483647 : Int32)) % (16 : Int32))), (.ref rr1)])) t → Steps p.tables e below (T21.setTop (mkF m 72 #[.val (.int p1), .val (.int p2), .val (.int p3), .val (.ref rr1), .val (.ref rr4), .val (.int ((p2 &&& (2147483647 : Int32)) % (16 : Int32))), .val (.int (((own_hi ((p2 &&& (2147483647 : Int32)) % (16 : Int32))) - (own_lo ((p2 &&& (2147483647 : Int32)) % (16 : Int32)))) + (1 : Int32))), .val (.int ((own_lo ((p2 &&& (2147483647 : Int32)) % (16 : Int32))) + ((p3 &&& (2147483647 : Int32)) % (((own_hi ((p2 &&& (2147483647 : Int32)) % (16 : Int32))) - (own_lo ((p2 &&& (2147483647 : Int32)) % (16 : Int32)))) + (1 : Int32))))), .unset, .unset, .unset, .unset] [(.int (fN ((own_lo ((p2 &&& (2147483647 : Int32)) % (16 : Int32))) + ((p3 &&& (2147483647 : Int32)) % (((own_hi ((p2 &&& (2147483647 : Int32)) % (16 : Int32))) - (own_lo ((p2 &&& (2147483647 : Int32)) % (16 : Int32)))) + (1 : Int32))))))])) t := by
    intro t k
    show Steps p.tables e below (T21.setTop (mkF m 72 #[.val (.int p1), .val (.int p2), .val (.int p3), .val (.ref rr1), .val (.ref rr4), .val (.int ((p2 &&& (2147483647 : Int32)) % (16 : Int32))), .val (.int (((own_hi ((p2 &&& (2147483647 : Int32)) % (16 : Int32))) - (own_lo ((p2 &&& (2147483647 : Int32)) % (16 : Int32)))) + (1 : Int32))), .val (.int ((own_lo ((p2 &&& (2147483647 : Int32)) % (16 : Int32))) + ((p3 &&& (2147483647 : Int32)) % (((own_hi ((p2 &&& (2147483647 : Int32)) % (16 : Int32))) - (own_lo ((p2 &&& (2147483647 : Int32)) % (16 : Int32)))) + (1 : Int32))))), .unset, .unset, .unset, .unset] [(.int (fN ((own_lo ((p2 &&& (2147483647 : Int32)) % (16 : Int32))) + ((p3 &&& (2147483647 : Int32)) % (((own_hi ((p2 &&& (2147483647 : Int32)) % (16 : Int32))) - (own_lo ((p2 &&& (2147483647 : Int32)) % (16 : Int32)))) + (1 : Int32))))))])) _
    refine XS.ifNo X21.here hx rfl (hb hby at_72) rfl ((if0 _ _).trans (feq ((own_01 (own_inside _ (own_k p2) p3)) : ¬ ((fN ((own_lo ((p2 &&& (2147483647 : Int32)) % (16 : Int32))) + ((p3 &&& (2147483647 : Int32)) % (((own_hi ((p2 &&& (2147483647 : Int32)) % (16 : Int32))) - (own_lo ((p2 &&& (2147483647 : Int32)) % (16 : Int32)))) + (1 : Int32))))) = (0 : Int32)))).1) ?_
    show Steps p.tables e below (T21.setTop (mkF m 75 #[.val (.int p1), .val (.int p2), .val (.int p3), .val (.ref rr1), .val (.ref rr4), .val (.int ((p2 &&& (2147483647 : Int32)) % (16 : Int32))), .val (.int (((own_hi ((p2 &&& (2147483647 : Int32)) % (16 : Int32))) - (own_lo ((p2 &&& (2147483647 : Int32)) % (16 : Int32)))) + (1 : Int32))), .val (.int ((own_lo ((p2 &&& (2147483647 : Int32)) % (16 : Int32))) + ((p3 &&& (2147483647 : Int32)) % (((own_hi ((p2 &&& (2147483647 : Int32)) % (16 : Int32))) - (own_lo ((p2 &&& (2147483647 : Int32)) % (16 : Int32)))) + (1 : Int32))))), .unset, .unset, .unset, .unset] [])) _
    refine XS.aloadN X21.here hx rfl (hb hby at_75) rfl rfl ?_
    show Steps p.tables e below (T21.setTop (mkF m 76 #[.val (.int p1), .val (.int p2), .val (.int p3), .val (.ref rr1), .val (.ref rr4), .val (.int ((p2 &&& (2147483647 : Int32)) % (16 : Int32))), .val (.int (((own_hi ((p2 &&& (2147483647 : Int32)) % (16 : Int32))) - (own_lo ((p2 &&& (2147483647 : Int32)) % (16 : Int32)))) + (1 : Int32))), .val (.int ((own_lo ((p2 &&& (2147483647 : Int32)) % (16 : Int32))) + ((p3 &&& (2147483647 : Int32)) % (((own_hi ((p2 &&& (2147483647 : Int32)) % (16 : Int32))) - (own_lo ((p2 &&& (2147483647 : Int32)) % (16 : Int32)))) + (1 : Int32))))), .unset, .unset, .unset, .unset] [(.ref rr1)])) _
    refine XS.iload X21.here hx rfl (hb hby at_76) rfl ?_
    exact k
  obtain ⟨cl23, Ar23, q23, Sz23, Nn23, Hs23, G23⟩ := id f6
  have hin23 : ¬ (((p2 &&& (2147483647 : Int32)) % (16 : Int32)) < 0 ∨ cl23.slots.size ≤ (((p2 &&& (2147483647 : Int32)) % (16 : Int32))).toNatClampNeg) := inb_of Sz23 (own_k p2)
  have hat23 : cl23.slots[(((p2 &&& (2147483647 : Int32)) % (16 : Int32))).toNatClampNeg]? = some (.int (own_lo ((p2 &&& (2147483647 : Int32)) % (16 : Int32)))) := Has.at Hs23 hin23 (own_loAt _)
  have st23 : ∀ t, Steps p.tables e below (T21.setTop (mkF m 79 #[.val (.int p1), .val (.int p2), .val (.int p3), .val (.ref rr1), .val (.ref rr4), .val (.int ((p2 &&& (2147483647 : Int32)) % (16 : Int32))), .val (.int (((own_hi ((p2 &&& (2147483647 : Int32)) % (16 : Int32))) - (own_lo ((p2 &&& (2147483647 : Int32)) % (16 : Int32)))) + (1 : Int32))), .val (.int ((own_lo ((p2 &&& (2147483647 : Int32)) % (16 : Int32))) + ((p3 &&& (2147483647 : Int32)) % (((own_hi ((p2 &&& (2147483647 : Int32)) % (16 : Int32))) - (own_lo ((p2 &&& (2147483647 : Int32)) % (16 : Int32)))) + (1 : Int32))))), .unset, .unset, .unset, .unset] [(.int (own_lo ((p2 &&& (2147483647 : Int32)) % (16 : Int32))))])) t → Steps p.tables e below (T21.setTop (mkF m 78 #[.val (.int p1), .val (.int p2), .val (.int p3), .val (.ref rr1), .val (.ref rr4), .val (.int ((p2 &&& (2147483647 : Int32)) % (16 : Int32))), .val (.int (((own_hi ((p2 &&& (2147483647 : Int32)) % (16 : Int32))) - (own_lo ((p2 &&& (2147483647 : Int32)) % (16 : Int32)))) + (1 : Int32))), .val (.int ((own_lo ((p2 &&& (2147483647 : Int32)) % (16 : Int32))) + ((p3 &&& (2147483647 : Int32)) % (((own_hi ((p2 &&& (2147483647 : Int32)) % (16 : Int32))) - (own_lo ((p2 &&& (2147483647 : Int32)) % (16 : Int32)))) + (1 : Int32))))), .unset, .unset, .unset, .unset] [(.int ((p2 &&& (2147483647 : Int32)) % (16 : Int32))), (.ref rr1)])) t := by
    intro t k
    refine X21.iaload hx (j := ((p2 &&& (2147483647 : Int32)) % (16 : Int32))) (v := (.int (own_lo ((p2 &&& (2147483647 : Int32)) % (16 : Int32))))) (by rw [e21]; exact Ar23.1) (State.isArrayOf_alike hZ.alike Ar23.2.1) Ar23.2.2 hin23 hat23 (g := (mkF m 78 #[.val (.int p1), .val (.int p2), .val (.int p3), .val (.ref rr1), .val (.ref rr4), .val (.int ((p2 &&& (2147483647 : Int32)) % (16 : Int32))), .val (.int (((own_hi ((p2 &&& (2147483647 : Int32)) % (16 : Int32))) - (own_lo ((p2 &&& (2147483647 : Int32)) % (16 : Int32)))) + (1 : Int32))), .val (.int ((own_lo ((p2 &&& (2147483647 : Int32)) % (16 : Int32))) + ((p3 &&& (2147483647 : Int32)) % (((own_hi ((p2 &&& (2147483647 : Int32)) % (16 : Int32))) - (own_lo ((p2 &&& (2147483647 : Int32)) % (16 : Int32)))) + (1 : Int32))))), .unset, .unset, .unset, .unset] [(.int ((p2 &&& (2147483647 : Int32)) % (16 : Int32))), (.ref rr1)])) rfl rfl (hb hby at_78) _ ?_
    exact k
  have sg24 : ∀ t, Steps p.tables e below (T21.setTop (mkF m 81 #[.val (.int p1), .val (.int p2), .val (.int p3), .val (.ref rr1), .val (.ref rr4), .val (.int ((p2 &&& (2147483647 : Int32)) % (16 : Int32))), .val (.int (((own_hi ((p2 &&& (2147483647 : Int32)) % (16 : Int32))) - (own_lo ((p2 &&& (2147483647 : Int32)) % (16 : Int32)))) + (1 : Int32))), .val (.int ((own_lo ((p2 &&& (2147483647 : Int32)) % (16 : Int32))) + ((p3 &&& (2147483647 : Int32)) % (((own_hi ((p2 &&& (2147483647 : Int32)) % (16 : Int32))) - (own_lo ((p2 &&& (2147483647 : Int32)) % (16 : Int32)))) + (1 : Int32))))), .unset, .unset, .unset, .unset] [(.int ((own_lo ((p2 &&& (2147483647 : Int32)) % (16 : Int32))) - (1 : Int32)))])) t → Steps p.tables e below (T21.setTop (mkF m 79 #[.val (.int p1), .val (.int p2), .val (.int p3), .val (.ref rr1), .val (.ref rr4), .val (.int ((p2 &&& (2147483647 : Int32)) % (16 : Int32))), .val (.int (((own_hi ((p2 &&& (2147483647 : Int32)) % (16 : Int32))) - (own_lo ((p2 &&& (2147483647 : Int32)) % (16 : Int32)))) + (1 : Int32))), .val (.int ((own_lo ((p2 &&& (2147483647 : Int32)) % (16 : Int32))) + ((p3 &&& (2147483647 : Int32)) % (((own_hi ((p2 &&& (2147483647 : Int32)) % (16 : Int32))) - (own_lo ((p2 &&& (2147483647 : Int32)) % (16 : Int32)))) + (1 : Int32))))), .unset, .unset, .unset, .unset] [(.int (own_lo ((p2 &&& (2147483647 : Int32)) % (16 : Int32))))])) t := by
    intro t k
    show Steps p.tables e below (T21.setTop (mkF m 79 #[.val (.int p1), .val (.int p2), .val (.int p3), .val (.ref rr1), .val (.ref rr4), .val (.int ((p2 &&& (2147483647 : Int32)) % (16 : Int32))), .val (.int (((own_hi ((p2 &&& (2147483647 : Int32)) % (16 : Int32))) - (own_lo ((p2 &&& (2147483647 : Int32)) % (16 : Int32)))) + (1 : Int32))), .val (.int ((own_lo ((p2 &&& (2147483647 : Int32)) % (16 : Int32))) + ((p3 &&& (2147483647 : Int32)) % (((own_hi ((p2 &&& (2147483647 : Int32)) % (16 : Int32))) - (own_lo ((p2 &&& (2147483647 : Int32)) % (16 : Int32)))) + (1 : Int32))))), .unset, .unset, .unset, .unset] [(.int (own_lo ((p2 &&& (2147483647 : Int32)) % (16 : Int32))))])) _
    refine XS.iconst X21.here hx rfl (hb hby at_79) ?_
    show Steps p.tables e below (T21.setTop (mkF m 80 #[.val (.int p1), .val (.int p2), .val (.int p3), .val (.ref rr1), .val (.ref rr4), .val (.int ((p2 &&& (2147483647 : Int32)) % (16 : Int32))), .val (.int (((own_hi ((p2 &&& (2147483647 : Int32)) % (16 : Int32))) - (own_lo ((p2 &&& (2147483647 : Int32)) % (16 : Int32)))) + (1 : Int32))), .val (.int ((own_lo ((p2 &&& (2147483647 : Int32)) % (16 : Int32))) + ((p3 &&& (2147483647 : Int32)) % (((own_hi ((p2 &&& (2147483647 : Int32)) % (16 : Int32))) - (own_lo ((p2 &&& (2147483647 : Int32)) % (16 : Int32)))) + (1 : Int32))))), .unset, .unset, .unset, .unset] [(.int (1 : Int32)), (.int (own_lo ((p2 &&& (2147483647 : Int32)) % (16 : Int32))))])) _
    refine XS.isub X21.here hx rfl (hb hby at_80) rfl ?_
    exact k
  obtain ⟨_, _, ⟨T25, L25, k25, n25⟩, -, X25, ⟨Lc25, hQ25, l25, y25, z25⟩, st25⟩ := Jvm.LawKit.callS X21 hx (y := (⟨"com/example/dongying/dongying/xml/XmlNames", "isNameStartChar", "(I)Z"⟩ : MethodName)) hown (mvT hZ (hw _ (List.mem_of_getElem? (i := 16) rfl))) (mvT hZ (hw _ (List.mem_of_getElem? (i := 17) rfl))) (mvT hZ (hw _ (List.mem_of_getElem? (i := 18) rfl))) (mvT hZ (hw _ (List.mem_of_getElem? (i := 19) rfl))) (by decide) (backOf (W := 0) (rmA l Z a0 hw [] ((own_lo ((p2 &&& (2147483647 : Int32)) % (16 : Int32))) - (1 : Int32)) T4.heap n0 z7) hZ (hw _ (List.mem_of_getElem? (i := 19) rfl)) (hw _ (List.mem_of_getElem? (i := 18) rfl)) (by decide) (by decide)) (g := (mkF m 81 #[.val (.int p1), .val (.int p2), .val (.int p3), .val (.ref rr1), .val (.ref rr4), .val (.int ((p2 &&& (2147483647 : Int32)) % (16 : Int32))), .val (.int (((own_hi ((p2 &&& (2147483647 : Int32)) % (16 : Int32))) - (own_lo ((p2 &&& (2147483647 : Int32)) % (16 : Int32)))) + (1 : Int32))), .val (.int ((own_lo ((p2 &&& (2147483647 : Int32)) % (16 : Int32))) + ((p3 &&& (2147483647 : Int32)) % (((own_hi ((p2 &&& (2147483647 : Int32)) % (16 : Int32))) - (own_lo ((p2 &&& (2147483647 : Int32)) % (16 : Int32)))) + (1 : Int32))))), .unset, .unset, .unset, .unset] [(.int ((own_lo ((p2 &&& (2147483647 : Int32)) % (16 : Int32))) - (1 : Int32)))])) rfl (by rw [hml]; rfl) (argsL := [(.int ((own_lo ((p2 &&& (2147483647 : Int32)) % (16 : Int32))) - (1 : Int32)))]) (rest := []) (lenOf pd_1 rfl) rfl (by show 2 * 0 + _ ≤ _; exact Nat.le_of_eq rfl) (hb hby at_81) (fun _ _ => ⟨rfl, e21, (by decide : 2 + 0 ≤ _), (by decide : 32 + 0 ≤ _)⟩)
  dsimp only [Pt.U, Pt.locs, Pt.cells, Pt.slots] at X25 l25 y25 z25 st25 hQ25
  subst l25 y25 z25
  obtain ⟨rfl, N25q, e25⟩ := hQ25
  have N25 := Fr.app N21 N25q
  have sg26 : ∀ t, Steps p.tables e below (T25.setTop (mkF m 91 #[.val (.int p1), .val (.int p2), .val (.int p3), .val (.ref rr1), .val (.ref rr4), .val (.int ((p2 &&& (2147483647 : Int32)) % (16 : Int32))), .val (.int (((own_hi ((p2 &&& (2147483647 : Int32)) % (16 : Int32))) - (own_lo ((p2 &&& (2147483647 : Int32)) % (16 : Int32)))) + (1 : Int32))), .val (.int ((own_lo ((p2 &&& (2147483647 : Int32)) % (16 : Int32))) + ((p3 &&& (2147483647 : Int32)) % (((own_hi ((p2 &&& (2147483647 : Int32)) % (16 : Int32))) - (own_lo ((p2 &&& (2147483647 : Int32)) % (16 : Int32)))) + (1 : Int32))))), .unset, .unset, .unset, .unset] [(.int ((p2 &&& (2147483647 : Int32)) % (16 : Int32))), (.ref rr4)])) t → Steps p.tables e below (T25.setTop (mkF m 84 #[.val (.int p1), .val (.int p2), .val (.int p3), .val (.ref rr1), .val (.ref rr4), .val (.int ((p2 &&& (2147483647 : Int32)) % (16 : Int32))), .val (.int (((own_hi ((p2 &&& (2147483647 : Int32)) % (16 : Int32))) - (own_lo ((p2 &&& (2147483647 : Int32)) % (16 : Int32)))) + (1 : Int32))), .val (.int ((own_lo ((p2 &&& (2147483647 : Int32)) % (16 : Int32))) + ((p3 &&& (2147483647 : Int32)) % (((own_hi ((p2 &&& (2147483647 : Int32)) % (16 : Int32))) - (own_lo ((p2 &&& (2147483647 : Int32)) % (16 : Int32)))) + (1 : Int32))))), .unset, .unset, .unset, .unset] [(.int (fN ((own_lo ((p2 &&& (2147483647 : Int32)) % (16 : Int32))) - (1 : Int32))))])) t := by
    intro t k
    show Steps p.tables e below (T25.setTop (mkF m 84 #[.val (.int p1), .val (.int p2), .val (.int p3), .val (.ref rr1), .val (.ref rr4), .val (.int ((p2 &&& (2147483647 : Int32)) % (16 : Int32))), .val (.int (((own_hi ((p2 &&& (2147483647 : Int32)) % (16 : Int32))) - (own_lo ((p2 &&& (2147483647 : Int32)) % (16 : Int32)))) + (1 : Int32))), .val (.int ((own_lo ((p2 &&& (2147483647 : Int32)) % (16 : Int32))) + ((p3 &&& (2147483647 : Int32)) % (((own_hi ((p2 &&& (2147483647 : Int32)) % (16 : Int32))) - (own_lo ((p2 &&& (2147483647 : Int32)) % (16 : Int32)))) + (1 : Int32))))), .unset, .unset, .unset, .unset] [(.int (fN ((own_lo ((p2 &&& (2147483647 : Int32)) % (16 : Int32))) - (1 : Int32))))])) _
    refine XS.ifNo X25.here hx rfl (hb hby at_84) rfl ((if0 _ _).trans (teq ((own_t3 _ (own_nat (k := 16) rfl (own_k p2))) : (fN ((own_lo ((p2 &&& (2147483647 : Int32)) % (16 : Int32))) - (1 : Int32))) = (0 : Int32))).2) ?_
    show Steps p.tables e below (T25.setTop (mkF m 87 #[.val (.int p1), .val (.int p2), .val (.int p3), .val (.ref rr1), .val (.ref rr4), .val (.int ((p2 &&& (2147483647 : Int32)) % (16 : Int32))), .val (.int (((own_hi ((p2 &&& (2147483647 : Int32)) % (16 : Int32))) - (own_lo ((p2 &&& (2147483647 : Int32)) % (16 : Int32)))) + (1 : Int32))), .val (.int ((own_lo ((p2 &&& (2147483647 : Int32)) % (16 : Int32))) + ((p3 &&& (2147483647 : Int32)) % (((own_hi ((p2 &&& (2147483647 : Int32)) % (16 : Int32))) - (own_lo ((p2 &&& (2147483647 : Int32)) % (16 : Int32)))) + (1 : Int32))))), .unset, .unset, .unset, .unset] [])) _
    refine XS.aload X25.here hx rfl (hb hby at_87) rfl rfl ?_
    show Steps p.tables e below (T25.setTop (mkF m 89 #[.val (.int p1), .val (.int p2), .val (.int p3), .val (.ref rr1), .val (.ref rr4), .val (.int ((p2 &&& (2147483647 : Int32)) % (16 : Int32))), .val (.int (((own_hi ((p2 &&& (2147483647 : Int32)) % (16 : Int32))) - (own_lo ((p2 &&& (2147483647 : Int32)) % (16 : Int32)))) + (1 : Int32))), .val (.int ((own_lo ((p2 &&& (2147483647 : Int32)) % (16 : Int32))) + ((p3 &&& (2147483647 : Int32)) % (((own_hi ((p2 &&& (2147483647 : Int32)) % (16 : Int32))) - (own_lo ((p2 &&& (2147483647 : Int32)) % (16 : Int32)))) + (1 : Int32))))), .unset, .unset, .unset, .unset] [(.ref rr4)])) _
    refine XS.iload X25.here hx rfl (hb hby at_89) rfl ?_
    exact k
  obtain ⟨cl27, Ar27, q27, Sz27, Nn27, Hs27, G27⟩ := id Q4f0
  have hin27 : ¬ (((p2 &&& (2147483647 : Int32)) % (16 : Int32)) < 0 ∨ cl27.slots.size ≤ (((p2 &&& (2147483647 : Int32)) % (16 : Int32))).toNatClampNeg) := inb_of Sz27 (own_k p2)
  have hat27 : cl27.slots[(((p2 &&& (2147483647 : Int32)) % (16 : Int32))).toNatClampNeg]? = some (.int (own_hi ((p2 &&& (2147483647 : Int32)) % (16 : Int32)))) := Has.at Hs27 hin27 (own_hiAt _)
  have st27 : ∀ t, Steps p.tables e below (T25.setTop (mkF m 92 #[.val (.int p1), .val (.int p2), .val (.int p3), .val (.ref rr1), .val (.ref rr4), .val (.int ((p2 &&& (2147483647 : Int32)) % (16 : Int32))), .val (.int (((own_hi ((p2 &&& (2147483647 : Int32)) % (16 : Int32))) - (own_lo ((p2 &&& (2147483647 : Int32)) % (16 : Int32)))) + (1 : Int32))), .val (.int ((own_lo ((p2 &&& (2147483647 : Int32)) % (16 : Int32))) + ((p3 &&& (2147483647 : Int32)) % (((own_hi ((p2 &&& (2147483647 : Int32)) % (16 : Int32))) - (own_lo ((p2 &&& (2147483647 : Int32)) % (16 : Int32)))) + (1 : Int32))))), .unset, .unset, .unset, .unset] [(.int (own_hi ((p2 &&& (2147483647 : Int32)) % (16 : Int32))))])) t → Steps p.tables e below (T25.setTop (mkF m 91 #[.val (.int p1), .val (.int p2), .val (.int p3), .val (.ref rr1), .val (.ref rr4), .val (.int ((p2 &&& (2147483647 : Int32)) % (16 : Int32))), .val (.int (((own_hi ((p2 &&& (2147483647 : Int32)) % (16 : Int32))) - (own_lo ((p2 &&& (2147483647 : Int32)) % (16 : Int32)))) + (1 : Int32))), .val (.int ((own_lo ((p2 &&& (2147483647 : Int32)) % (16 : Int32))) + ((p3 &&& (2147483647 : Int32)) % (((own_hi ((p2 &&& (2147483647 : Int32)) % (16 : Int32))) - (own_lo ((p2 &&& (2147483647 : Int32)) % (16 : Int32)))) + (1 : Int32))))), .unset, .unset, .unset, .unset] [(.int ((p2 &&& (2147483647 : Int32)) % (16 : Int32))), (.ref rr4)])) t := by
    intro t k
    refine X25.iaload hx (j := ((p2 &&& (2147483647 : Int32)) % (16 : Int32))) (v := (.int (own_hi ((p2 &&& (2147483647 : Int32)) % (16 : Int32))))) (by rw [e25]; exact Ar27.1) (State.isArrayOf_alike hZ.alike Ar27.2.1) Ar27.2.2 hin27 hat27 (g := (mkF m 91 #[.val (.int p1), .val (.int p2), .val (.int p3), .val (.ref rr1), .val (.ref rr4), .val (.int ((p2 &&& (2147483647 : Int32)) % (16 : Int32))), .val (.int (((own_hi ((p2 &&& (2147483647 : Int32)) % (16 : Int32))) - (own_lo ((p2 &&& (2147483647 : Int32)) % (16 : Int32)))) + (1 : Int32))), .val (.int ((own_lo ((p2 &&& (2147483647 : Int32)) % (16 : Int32))) + ((p3 &&& (2147483647 : Int32)) % (((own_hi ((p2 &&& (2147483647 : Int32)) % (16 : Int32))) - (own_lo ((p2 &&& (2147483647 : Int32)) % (16 : Int32)))) + (1 : Int32))))), .unset, .unset, .unset, .unset] [(.int ((p2 &&& (2147483647 : Int32)) % (16 : Int32))), (.ref rr4)])) rfl rfl (hb hby at_91) _ ?_
    exact k
  have sg28 : ∀ t, Steps p.tables e below (T25.setTop (mkF m 94 #[.val (.int p1), .val (.int p2), .val (.int p3), .val (.ref rr1), .val (.ref rr4), .val (.int ((p2 &&& (2147483647 : Int32)) % (16 : Int32))), .val (.int (((own_hi ((p2 &&& (2147483647 : Int32)) % (16 : Int32))) - (own_lo ((p2 &&& (2147483647 : Int32)) % (16 : Int32)))) + (1 : Int32))), .val (.int ((own_lo ((p2 &&& (2147483647 : Int32)) % (16 : Int32))) + ((p3 &&& (2147483647 : Int32)) % (((own_hi ((p2 &&& (2147483647 : Int32)) % (16 : Int32))) - (own_lo ((p2 &&& (2147483647 : Int32)) % (16 : Int32)))) + (1 : Int32))))), .unset, .unset, .unset, .unset] [(.int ((own_hi ((p2 &&& (2147483647 : Int32)) % (16 : Int32))) + (1 : Int32)))])) t → Steps p.tables e below (T25.setTop (mkF m 92 #[.val (.int p1), .val (.int p2), .val (.int p3), .val (.ref rr1), .val (.ref rr4), .val (.int ((p2 &&& (2147483647 : Int32)) % (16 : Int32))), .val (.int (((own_hi ((p2 &&& (2147483647 : Int32)) % (16 : Int32))) - (own_lo ((p2 &&& (2147483647 : Int32)) % (16 : Int32)))) + (1 : Int32))), .val (.int ((own_lo ((p2 &&& (2147483647 : Int32)) % (16 : Int32))) + ((p3 &&& (2147483647 : Int32)) % (((own_hi ((p2 &&& (2147483647 : Int32)) % (16 : Int32))) - (own_lo ((p2 &&& (2147483647 : Int32)) % (16 : Int32)))) + (1 : Int32))))), .unset, .unset, .unset, .unset] [(.int (own_hi ((p2 &&& (2147483647 : Int32)) % (16 : Int32))))])) t := by
    intro t k
    show Steps p.tables e below (T25.setTop (mkF m 92 #[.val (.int p1), .val (.int p2), .val (.int p3), .val (.ref rr1), .val (.ref rr4), .val (.int ((p2 &&& (2147483647 : Int32)) % (16 : Int32))), .val (.int (((own_hi ((p2 &&& (2147483647 : Int32)) % (16 : Int32))) - (own_lo ((p2 &&& (2147483647 : Int32)) % (16 : Int32)))) + (1 : Int32))), .val (.int ((own_lo ((p2 &&& (2147483647 : Int32)) % (16 : Int32))) + ((p3 &&& (2147483647 : Int32)) % (((own_hi ((p2 &&& (2147483647 : Int32)) % (16 : Int32))) - (own_lo ((p2 &&& (2147483647 : Int32)) % (16 : Int32)))) + (1 : Int32))))), .unset, .unset, .unset, .unset] [(.int (own_hi ((p2 &&& (2147483647 : Int32)) % (16 : Int32))))])) _
    refine XS.iconst X25.here hx rfl (hb hby at_92) ?_
    show Steps p.tables e below (T25.setTop (mkF m 93 #[.val (.int p1), .val (.int p2), .val (.int p3), .val (.ref rr1), .val (.ref rr4), .val (.int ((p2 &&& (2147483647 : Int32)) % (16 : Int32))), .val (.int (((own_hi ((p2 &&& (2147483647 : Int32)) % (16 : Int32))) - (own_lo ((p2 &&& (2147483647 : Int32)) % (16 : Int32)))) + (1 : Int32))), .val (.int ((own_lo ((p2 &&& (2147483647 : Int32)) % (16 : Int32))) + ((p3 &&& (2147483647 : Int32)) % (((own_hi ((p2 &&& (2147483647 : Int32)) % (16 : Int32))) - (own_lo ((p2 &&& (2147483647 : Int32)) % (16 : Int32)))) + (1 : Int32))))), .unset, .unset, .unset, .unset] [(.int (1 : Int32)), (.int (own_hi ((p2 &&& (2147483647 : Int32)) % (16 : Int32))))])) _
    refine XS.iadd X25.here hx rfl (hb hby at_93) rfl ?_
    exact k
  obtain ⟨_, _, ⟨T29, L29, k29, n29⟩, -, X29, ⟨Lc29, hQ29, l29, y29, z29⟩, st29⟩ := Jvm.LawKit.callS X25 hx (y := (⟨"com/example/dongying/dongying/xml/XmlNames", "isNameStartChar", "(I)Z"⟩ : MethodName)) hown (mvT hZ (hw _ (List.mem_of_getElem? (i := 16) rfl))) (mvT hZ (hw _ (List.mem_of_getElem? (i := 17) rfl))) (mvT hZ (hw _ (List.mem_of_getElem? (i := 18) rfl))) (mvT hZ (hw _ (List.mem_of_getElem? (i := 19) rfl))) (by decide) (backOf (W := 0) (rmA l Z a0 hw [] ((own_hi ((p2 &&& (2147483647 : Int32)) % (16 : Int32))) + (1 : Int32)) T4.heap n0 z7) hZ (hw _ (List.mem_of_getElem? (i := 19) rfl)) (hw _ (List.mem_of_getElem? (i := 18) rfl)) (by decide) (by decide)) (g := (mkF m 94 #[.val (.int p1), .val (.int p2), .val (.int p3), .val (.ref rr1), .val (.ref rr4), .val (.int ((p2 &&& (2147483647 : Int32)) % (16 : Int32))), .val (.int (((own_hi ((p2 &&& (2147483647 : Int32)) % (16 : Int32))) - (own_lo ((p2 &&& (2147483647 : Int32)) % (16 : Int32)))) + (1 : Int32))), .val (.int ((own_lo ((p2 &&& (2147483647 : Int32)) % (16 : Int32))) + ((p3 &&& (2147483647 : Int32)) % (((own_hi ((p2 &&& (2147483647 : Int32)) % (16 : Int32))) - (own_lo ((p2 &&& (2147483647 : Int32)) % (16 : Int32)))) + (1 : Int32))))), .unset, .unset, .unset, .unset] [(.int ((own_hi ((p2 &&& (2147483647 : Int32)) % (16 : Int32))) + (1 : Int32)))])) rfl (by rw [hml]; rfl) (argsL := [(.int ((own_hi ((p2 &&& (2147483647 : Int32)) % (16 : Int32))) + (1 : Int32)))]) (rest := []) (lenOf pd_1 rfl) rfl (by show 2 * 0 + _ ≤ _; exact Nat.le_of_eq rfl) (hb hby at_94) (fun _ _ => ⟨rfl, e25, (by decide : 2 + 0 ≤ _), (by decide : 32 + 0 ≤ _)⟩)
  dsimp only [Pt.U, Pt.locs, Pt.cells, Pt.slots] at X29 l29 y29 z29 st29 hQ29
  subst l29 y29 z29
  obtain ⟨rfl, N29q, e29⟩ := hQ29
  have N29 := Fr.app N25 N29q
  have sg30 : ∀ t, Steps p.tables e below (T29.setTop (mkF m 121 #[.val (.int p1), .val (.int p2), .val (.int p3), .val (.ref rr1), .val (.ref rr4), .val (.int ((p2 &&& (2147483647 : Int32)) % (16 : Int32))), .val (.int (((own_hi ((p2 &&& (2147483647 : Int32)) % (16 : Int32))) - (own_lo ((p2 &&& (2147483647 : Int32)) % (16 : Int32)))) + (1 : Int32))), .val (.int ((own_lo ((p2 &&& (2147483647 : Int32)) % (16 : Int32))) + ((p3 &&& (2147483647 : Int32)) % (((own_hi ((p2 &&& (2147483647 : Int32)) % (16 : Int32))) - (own_lo ((p2 &&& (2147483647 : Int32)) % (16 : Int32)))) + (1 : Int32))))), .val (.int (1 : Int32)), .val (.int (((p2.toUInt32 >>> ((8 : Int32) &&& 31).toUInt32).toInt32) % (15 : Int32))), .unset, .unset] [(.int ((((p2.toUInt32 >>> ((8 : Int32) &&& 31).toUInt32).toInt32) % (15 : Int32)) + (1 : Int32))), (.ref rr1)])) t → Steps p.tables e below (T29.setTop (mkF m 97 #[.val (.int p1), .val (.int p2), .val (.int p3), .val (.ref rr1), .val (.ref rr4), .val (.int ((p2 &&& (2147483647 : Int32)) % (16 : Int32))), .val (.int (((own_hi ((p2 &&& (2147483647 : Int32)) % (16 : Int32))) - (own_lo ((p2 &&& (2147483647 : Int32)) % (16 : Int32)))) + (1 : Int32))), .val (.int ((own_lo ((p2 &&& (2147483647 : Int32)) % (16 : Int32))) + ((p3 &&& (2147483647 : Int32)) % (((own_hi ((p2 &&& (2147483647 : Int32)) % (16 : Int32))) - (own_lo ((p2 &&& (2147483647 : Int32)) % (16 : Int32)))) + (1 : Int32))))), .unset, .unset, .unset, .unset] [(.int (fN ((own_hi ((p2 &&& (2147483647 : Int32)) % (16 : Int32))) + (1 : Int32))))])) t := by
    intro t k
    show Steps p.tables e below (T29.setTop (mkF m 97 #[.val (.int p1), .val (.int p2), .val (.int p3), .val (.ref rr1), .val (.ref rr4), .val (.int ((p2 &&& (2147483647 : Int32)) % (16 : Int32))), .val (.int (((own_hi ((p2 &&& (2147483647 : Int32)) % (16 : Int32))) - (own_lo ((p2 &&& (2147483647 : Int32)) % (16 : Int32)))) + (1 : Int32))), .val (.int ((own_lo ((p2 &&& (2147483647 : Int32)) % (16 : Int32))) + ((p3 &&& (2147483647 : Int32)) % (((own_hi ((p2 &&& (2147483647 : Int32)) % (16 : Int32))) - (own_lo ((p2 &&& (2147483647 : Int32)) % (16 : Int32)))) + (1 : Int32))))), .unset, .unset, .unset, .unset] [(.int (fN ((own_hi ((p2 &&& (2147483647 : Int32)) % (16 : Int32))) + (1 : Int32))))])) _
    refine XS.ifNo X29.here hx rfl (hb hby at_97) rfl ((if0 _ _).trans (teq ((own_t4 _ (own_nat (k := 16) rfl (own_k p2))) : (fN ((own_hi ((p2 &&& (2147483647 : Int32)) % (16 : Int32))) + (1 : Int32))) = (0 : Int32))).2) ?_
    show Steps p.tables e below (T29.setTop (mkF m 100 #[.val (.int p1), .val (.int p2), .val (.int p3), .val (.ref rr1), .val (.ref rr4), .val (.int ((p2 &&& (2147483647 : Int32)) % (16 : Int32))), .val (.int (((own_hi ((p2 &&& (2147483647 : Int32)) % (16 : Int32))) - (own_lo ((p2 &&& (2147483647 : Int32)) % (16 : Int32)))) + (1 : Int32))), .val (.int ((own_lo ((p2 &&& (2147483647 : Int32)) % (16 : Int32))) + ((p3 &&& (2147483647 : Int32)) % (((own_hi ((p2 &&& (2147483647 : Int32)) % (16 : Int32))) - (own_lo ((p2 &&& (2147483647 : Int32)) % (16 : Int32)))) + (1 : Int32))))), .unset, .unset, .unset, .unset] [])) _
    refine XS.iconst X29.here hx rfl (hb hby at_100) ?_
    show Steps p.tables e below (T29.setTop (mkF m 101 #[.val (.int p1), .val (.int p2), .val (.int p3), .val (.ref rr1), .val (.ref rr4), .val (.int ((p2 &&& (2147483647 : Int32)) % (16 : Int32))), .val (.int (((own_hi ((p2 &&& (2147483647 : Int32)) % (16 : Int32))) - (own_lo ((p2 &&& (2147483647 : Int32)) % (16 : Int32)))) + (1 : Int32))), .val (.int ((own_lo ((p2 &&& (2147483647 : Int32)) % (16 : Int32))) + ((p3 &&& (2147483647 : Int32)) % (((own_hi ((p2 &&& (2147483647 : Int32)) % (16 : Int32))) - (own_lo ((p2 &&& (2147483647 : Int32)) % (16 : Int32)))) + (1 : Int32))))), .unset, .unset, .unset, .unset] [(.int (1 : Int32))])) _
    refine XS.goto X29.here hx rfl (pc0 := 101) (pc' := 105) rfl (hb hby at_101) (by decide) (by decide) ?_
    show Steps p.tables e below (T29.setTop (mkF m 105 #[.val (.int p1), .val (.int p2), .val (.int p3), .val (.ref rr1), .val (.ref rr4), .val (.int ((p2 &&& (2147483647 : Int32)) % (16 : Int32))), .val (.int (((own_hi ((p2 &&& (2147483647 : Int32)) % (16 : Int32))) - (own_lo ((p2 &&& (2147483647 : Int32)) % (16 : Int32)))) + (1 : Int32))), .val (.int ((own_lo ((p2 &&& (2147483647 : Int32)) % (16 : Int32))) + ((p3 &&& (2147483647 : Int32)) % (((own_hi ((p2 &&& (2147483647 : Int32)) % (16 : Int32))) - (own_lo ((p2 &&& (2147483647 : Int32)) % (16 : Int32)))) + (1 : Int32))))), .unset, .unset, .unset, .unset] [(.int (1 : Int32))])) _
    refine XS.istore X29.here hx rfl (hb hby at_105) rfl (l' := #[.val (.int p1), .val (.int p2), .val (.int p3), .val (.ref rr1), .val (.ref rr4), .val (.int ((p2 &&& (2147483647 : Int32)) % (16 : Int32))), .val (.int (((own_hi ((p2 &&& (2147483647 : Int32)) % (16 : Int32))) - (own_lo ((p2 &&& (2147483647 : Int32)) % (16 : Int32)))) + (1 : Int32))), .val (.int ((own_lo ((p2 &&& (2147483647 : Int32)) % (16 : Int32))) + ((p3 &&& (2147483647 : Int32)) % (((own_hi ((p2 &&& (2147483647 : Int32)) % (16 : Int32))) - (own_lo ((p2 &&& (2147483647 : Int32)) % (16 : Int32)))) + (1 : Int32))))), .val (.int (1 : Int32)), .unset, .unset, .unset]) rfl ?_
    show Steps p.tables e below (T29.setTop (mkF m 107 #[.val (.int p1), .val (.int p2), .val (.int p3), .val (.ref rr1), .val (.ref rr4), .val (.int ((p2 &&& (2147483647 : Int32)) % (16 : Int32))), .val (.int (((own_hi ((p2 &&& (2147483647 : Int32)) % (16 : Int32))) - (own_lo ((p2 &&& (2147483647 : Int32)) % (16 : Int32)))) + (1 : Int32))), .val (.int ((own_lo ((p2 &&& (2147483647 : Int32)) % (16 : Int32))) + ((p3 &&& (2147483647 : Int32)) % (((own_hi ((p2 &&& (2147483647 : Int32)) % (16 : Int32))) - (own_lo ((p2 &&& (2147483647 : Int32)) % (16 : Int32)))) + (1 : Int32))))), .val (.int (1 : Int32)), .unset, .unset, .unset] [])) _
    refine XS.iloadN X29.here hx rfl (hb hby at_107) rfl ?_
    show Steps p.tables e below (T29.setTop (mkF m 108 #[.val (.int p1), .val (.int p2), .val (.int p3), .val (.ref rr1), .val (.ref rr4), .val (.int ((p2 &&& (2147483647 : Int32)) % (16 : Int32))), .val (.int (((own_hi ((p2 &&& (2147483647 : Int32)) % (16 : Int32))) - (own_lo ((p2 &&& (2147483647 : Int32)) % (16 : Int32)))) + (1 : Int32))), .val (.int ((own_lo ((p2 &&& (2147483647 : Int32)) % (16 : Int32))) + ((p3 &&& (2147483647 : Int32)) % (((own_hi ((p2 &&& (2147483647 : Int32)) % (16 : Int32))) - (own_lo ((p2 &&& (2147483647 : Int32)) % (16 : Int32)))) + (1 : Int32))))), .val (.int (1 : Int32)), .unset, .unset, .unset] [(.int p2)])) _
    refine XS.bipush X29.here hx rfl (hb hby at_108) ?_
    show Steps p.tables e below (T29.setTop (mkF m 110 #[.val (.int p1), .val (.int p2), .val (.int p3), .val (.ref rr1), .val (.ref rr4), .val (.int ((p2 &&& (2147483647 : Int32)) % (16 : Int32))), .val (.int (((own_hi ((p2 &&& (2147483647 : Int32)) % (16 : Int32))) - (own_lo ((p2 &&& (2147483647 : Int32)) % (16 : Int32)))) + (1 : Int32))), .val (.int ((own_lo ((p2 &&& (2147483647 : Int32)) % (16 : Int32))) + ((p3 &&& (2147483647 : Int32)) % (((own_hi ((p2 &&& (2147483647 : Int32)) % (16 : Int32))) - (own_lo ((p2 &&& (2147483647 : Int32)) % (16 : Int32)))) + (1 : Int32))))), .val (.int (1 : Int32)), .unset, .unset, .unset] [(.int (8 : Int32)), (.int p2)])) _
    refine XS.iushr X29.here hx rfl (hb hby at_110) rfl ?_
    show Steps p.tables e below (T29.setTop (mkF m 111 #[.val (.int p1), .val (.int p2), .val (.int p3), .val (.ref rr1), .val (.ref rr4), .val (.int ((p2 &&& (2147483647 : Int32)) % (16 : Int32))), .val (.int (((own_hi ((p2 &&& (2147483647 : Int32)) % (16 : Int32))) - (own_lo ((p2 &&& (2147483647 : Int32)) % (16 : Int32)))) + (1 : Int32))), .val (.int ((own_lo ((p2 &&& (2147483647 : Int32)) % (16 : Int32))) + ((p3 &&& (2147483647 : Int32)) % (((own_hi ((p2 &&& (2147483647 : Int32)) % (16 : Int32))) - (own_lo ((p2 &&& (2147483647 : Int32)) % (16 : Int32)))) + (1 : Int32))))), .val (.int (1 : Int32)), .unset, .unset, .unset] [(.int ((p2.toUInt32 >>> ((8 : Int32) &&& 31).toUInt32).toInt32))])) _
    refine XS.bipush X29.here hx rfl (hb hby at_111) ?_
    show Steps p.tables e below (T29.setTop (mkF m 113 #[.val (.int p1), .val (.int p2), .val (.int p3), .val (.ref rr1), .val (.ref rr4), .val (.int ((p2 &&& (2147483647 : Int32)) % (16 : Int32))), .val (.int (((own_hi ((p2 &&& (2147483647 : Int32)) % (16 : Int32))) - (own_lo ((p2 &&& (2147483647 : Int32)) % (16 : Int32)))) + (1 : Int32))), .val (.int ((own_lo ((p2 &&& (2147483647 : Int32)) % (16 : Int32))) + ((p3 &&& (2147483647 : Int32)) % (((own_hi ((p2 &&& (2147483647 : Int32)) % (16 : Int32))) - (own_lo ((p2 &&& (2147483647 : Int32)) % (16 : Int32)))) + (1 : Int32))))), .val (.int (1 : Int32)), .unset, .unset, .unset] [(.int (15 : Int32)), (.int ((p2.toUInt32 >>> ((8 : Int32) &&& 31).toUInt32).toInt32))])) _
    refine iremM X29 hx rfl (hb hby at_113) rfl (by decide) ?_
    show Steps p.tables e below (T29.setTop (mkF m 114 #[.val (.int p1), .val (.int p2), .val (.int p3), .val (.ref rr1), .val (.ref rr4), .val (.int ((p2 &&& (2147483647 : Int32)) % (16 : Int32))), .val (.int (((own_hi ((p2 &&& (2147483647 : Int32)) % (16 : Int32))) - (own_lo ((p2 &&& (2147483647 : Int32)) % (16 : Int32)))) + (1 : Int32))), .val (.int ((own_lo ((p2 &&& (2147483647 : Int32)) % (16 : Int32))) + ((p3 &&& (2147483647 : Int32)) % (((own_hi ((p2 &&& (2147483647 : Int32)) % (16 : Int32))) - (own_lo ((p2 &&& (2147483647 : Int32)) % (16 : Int32)))) + (1 : Int32))))), .val (.int (1 : Int32)), .unset, .unset, .unset] [(.int (((p2.toUInt32 >>> ((8 : Int32) &&& 31).toUInt32).toInt32) % (15 : Int32)))])) _
    refine XS.istore X29.here hx rfl (hb hby at_114) rfl (l' := #[.val (.int p1), .val (.int p2), .val (.int p3), .val (.ref rr1), .val (.ref rr4), .val (.int ((p2 &&& (2147483647 : Int32)) % (16 : Int32))), .val (.int (((own_hi ((p2 &&& (2147483647 : Int32)) % (16 : Int32))) - (own_lo ((p2 &&& (2147483647 : Int32)) % (16 : Int32)))) + (1 : Int32))), .val (.int ((own_lo ((p2 &&& (2147483647 : Int32)) % (16 : Int32))) + ((p3 &&& (2147483647 : Int32)) % (((own_hi ((p2 &&& (2147483647 : Int32)) % (16 : Int32))) - (own_lo ((p2 &&& (2147483647 : Int32)) % (16 : Int32)))) + (1 : Int32))))), .val (.int (1 : Int32)), .val (.int (((p2.toUInt32 >>> ((8 : Int32) &&& 31).toUInt32).toInt32) % (15 : Int32))), .unset, .unset]) rfl ?_
    show Steps p.tables e below (T29.setTop (mkF m 116 #[.val (.int p1), .val (.int p2), .val (.int p3), .val (.ref rr1), .val (.ref rr4), .val (.int ((p2 &&& (2147483647 : Int32)) % (16 : Int32))), .val (.int (((own_hi ((p2 &&& (2147483647 : Int32)) % (16 : Int32))) - (own_lo ((p2 &&& (2147483647 : Int32)) % (16 : Int32)))) + (1 : Int32))), .val (.int ((own_lo ((p2 &&& (2147483647 : Int32)) % (16 : Int32))) + ((p3 &&& (2147483647 : Int32)) % (((own_hi ((p2 &&& (2147483647 : Int32)) % (16 : Int32))) - (own_lo ((p2 &&& (2147483647 : Int32)) % (16 : Int32)))) + (1 : Int32))))), .val (.int (1 : Int32)), .val (.int (((p2.toUInt32 >>> ((8 : Int32) &&& 31).toUInt32).toInt32) % (15 : Int32))), .unset, .unset] [])) _
    refine XS.aloadN X29.here hx rfl (hb hby at_116) rfl rfl ?_
    show Steps p.tables e below (T29.setTop (mkF m 117 #[.val (.int p1), .val (.int p2), .val (.int p3), .val (.ref rr1), .val (.ref rr4), .val (.int ((p2 &&& (2147483647 : Int32)) % (16 : Int32))), .val (.int (((own_hi ((p2 &&& (2147483647 : Int32)) % (16 : Int32))) - (own_lo ((p2 &&& (2147483647 : Int32)) % (16 : Int32)))) + (1 : Int32))), .val (.int ((own_lo ((p2 &&& (2147483647 : Int32)) % (16 : Int32))) + ((p3 &&& (2147483647 : Int32)) % (((own_hi ((p2 &&& (2147483647 : Int32)) % (16 : Int32))) - (own_lo ((p2 &&& (2147483647 : Int32)) % (16 : Int32)))) + (1 : Int32))))), .val (.int (1 : Int32)), .val (.int (((p2.toUInt32 >>> ((8 : Int32) &&& 31).toUInt32).toInt32) % (15 : Int32))), .unset, .unset] [(.ref rr1)])) _
    refine XS.iload X29.here hx rfl (hb hby at_117) rfl ?_
    show Steps p.tables e below (T29.setTop (mkF m 119 #[.val (.int p1), .val (.int p2), .val (.int p3), .val (.ref rr1), .val (.ref rr4), .val (.int ((p2 &&& (2147483647 : Int32)) % (16 : Int32))), .val (.int (((own_hi ((p2 &&& (2147483647 : Int32)) % (16 : Int32))) - (own_lo ((p2 &&& (2147483647 : Int32)) % (16 : Int32)))) + (1 : Int32))), .val (.int ((own_lo ((p2 &&& (2147483647 : Int32)) % (16 : Int32))) + ((p3 &&& (2147483647 : Int32)) % (((own_hi ((p2 &&& (2147483647 : Int32)) % (16 : Int32))) - (own_lo ((p2 &&& (2147483647 : Int32)) % (16 : Int32)))) + (1 : Int32))))), .val (.int (1 : Int32)), .val (.int (((p2.toUInt32 >>> ((8 : Int32) &&& 31).toUInt32).toInt32) % (15 : Int32))), .unset, .unset] [(.int (((p2.toUInt32 >>> ((8 : Int32) &&& 31).toUInt32).toInt32) % (15 : Int32))), (.ref rr1)])) _
    refine XS.iconst X29.here hx rfl (hb hby at_119) ?_
    show Steps p.tables e below (T29.setTop (mkF m 120 #[.val (.int p1), .val (.int p2), .val (.int p3), .val (.ref rr1), .val (.ref rr4), .val (.int ((p2 &&& (2147483647 : Int32)) % (16 : Int32))), .val (.int (((own_hi ((p2 &&& (2147483647 : Int32)) % (16 : Int32))) - (own_lo ((p2 &&& (2147483647 : Int32)) % (16 : Int32)))) + (1 : Int32))), .val (.int ((own_lo ((p2 &&& (2147483647 : Int32)) % (16 : Int32))) + ((p3 &&& (2147483647 : Int32)) % (((own_hi ((p2 &&& (2147483647 : Int32)) % (16 : Int32))) - (own_lo ((p2 &&& (2147483647 : Int32)) % (16 : Int32)))) + (1 : Int32))))), .val (.int (1 : Int32)), .val (.int (((p2.toUInt32 >>> ((8 : Int32) &&& 31).toUInt32).toInt32) % (15 : Int32))), .unset, .unset] [(.int (1 : Int32)), (.int (((p2.toUInt32 >>> ((8 : Int32) &&& 31).toUInt32).toInt32) % (15 : Int32))), (.ref rr1)])) _
    refine XS.iadd X29.here hx rfl (hb hby at_120) rfl ?_
    exact k
  obtain ⟨cl31, Ar31, q31, Sz31, Nn31, Hs31, G31⟩ := id f6
  have hin31 : ¬ (((((p2.toUInt32 >>> ((8 : Int32) &&& 31).toUInt32).toInt32) % (15 : Int32)) + (1 : Int32)) < 0 ∨ cl31.slots.size ≤ (((((p2.toUInt32 >>> ((8 : Int32) &&& 31).toUInt32).toInt32) % (15 : Int32)) + (1 : Int32))).toNatClampNeg) := inb_of Sz31 (own_g1 (own_g p2)).2.1
  have hat31 : cl31.slots[(((((p2.toUInt32 >>> ((8 : Int32) &&& 31).toUInt32).toInt32) % (15 : Int32)) + (1 : Int32))).toNatClampNeg]? = some (.int (own_lo ((((p2.toUInt32 >>> ((8 : Int32) &&& 31).toUInt32).toInt32) % (15 : Int32)) + (1 : Int32)))) := Has.at Hs31 hin31 (own_loAt _)
  have st31 : ∀ t, Steps p.tables e below (T29.setTop (mkF m 122 #[.val (.int p1), .val (.int p2), .val (.int p3), .val (.ref rr1), .val (.ref rr4), .val (.int ((p2 &&& (2147483647 : Int32)) % (16 : Int32))), .val (.int (((own_hi ((p2 &&& (2147483647 : Int32)) % (16 : Int32))) - (own_lo ((p2 &&& (2147483647 : Int32)) % (16 : Int32)))) + (1 : Int32))), .val (.int ((own_lo ((p2 &&& (2147483647 : Int32)) % (16 : Int32))) + ((p3 &&& (2147483647 : Int32)) % (((own_hi ((p2 &&& (2147483647 : Int32)) % (16 : Int32))) - (own_lo ((p2 &&& (2147483647 : Int32)) % (16 : Int32)))) + (1 : Int32))))), .val (.int (1 : Int32)), .val (.int (((p2.toUInt32 >>> ((8 : Int32) &&& 31).toUInt32).toInt32) % (15 : Int32))), .unset, .unset] [(.int (own_lo ((((p2.toUInt32 >>> ((8 : Int32) &&& 31).toUInt32).toInt32) % (15 : Int32)) + (1 : Int32))))])) t → Steps p.tables e below (T29.setTop (mkF m 121 #[.val (.int p1), .val (.int p2), .val (.int p3), .val (.ref rr1), .val (.ref rr4), .val (.int ((p2 &&& (2147483647 : Int32)) % (16 : Int32))), .val (.int (((own_hi ((p2 &&& (2147483647 : Int32)) % (16 : Int32))) - (own_lo ((p2 &&& (2147483647 : Int32)) % (16 : Int32)))) + (1 : Int32))), .val (.int ((own_lo ((p2 &&& (2147483647 : Int32)) % (16 : Int32))) + ((p3 &&& (2147483647 : Int32)) % (((own_hi ((p2 &&& (2147483647 : Int32)) % (16 : Int32))) - (own_lo ((p2 &&& (2147483647 : Int32)) % (16 : Int32)))) + (1 : Int32))))), .val (.int (1 : Int32)), .val (.int (((p2.toUInt32 >>> ((8 : Int32) &&& 31).toUInt32).toInt32) % (15 : Int32))), .unset, .unset] [(.int ((((p2.toUInt32 >>> ((8 : Int32) &&& 31).toUInt32).toInt32) % (15 : Int32)) + (1 : Int32))), (.ref rr1)])) t := by
    intro t k
    refine X29.iaload hx (j := ((((p2.toUInt32 >>> ((8 : Int32) &&& 31).toUInt32).toInt32) % (15 : Int32)) + (1 : Int32))) (v := (.int (own_lo ((((p2.toUInt32 >>> ((8 : Int32) &&& 31).toUInt32).toInt32) % (15 : Int32)) + (1 : Int32))))) (by rw [e29]; exact Ar31.1) (State.isArrayOf_alike hZ.alike Ar31.2.1) Ar31.2.2 hin31 hat31 (g := (mkF m 121 #[.val (.int p1), .val (.int p2), .val (.int p3), .val (.ref rr1), .val (.ref rr4), .val (.int ((p2 &&& (2147483647 : Int32)) % (16 : Int32))), .val (.int (((own_hi ((p2 &&& (2147483647 : Int32)) % (16 : Int32))) - (own_lo ((p2 &&& (2147483647 : Int32)) % (16 : Int32)))) + (1 : Int32))), .val (.int ((own_lo ((p2 &&& (2147483647 : Int32)) % (16 : Int32))) + ((p3 &&& (2147483647 : Int32)) % (((own_hi ((p2 &&& (2147483647 : Int32)) % (16 : Int32))) - (own_lo ((p2 &&& (2147483647 : Int32)) % (16 : Int32)))) + (1 : Int32))))), .val (.int (1 : Int32)), .val (.int (((p2.toUInt32 >>> ((8 : Int32) &&& 31).toUInt32).toInt32) % (15 : Int32))), .unset, .unset] [(.int ((((p2.toUInt32 >>> ((8 : Int32) &&& 31).toUInt32).toInt32) % (15 : Int32)) + (1 : Int32))), (.ref rr1)])) rfl rfl (hb hby at_121) _ ?_
    exact k
  have sg32 : ∀ t, Steps p.tables e below (T29.setTop (mkF m 126 #[.val (.int p1), .val (.int p2), .val (.int p3), .val (.ref rr1), .val (.ref rr4), .val (.int ((p2 &&& (2147483647 : Int32)) % (16 : Int32))), .val (.int (((own_hi ((p2 &&& (2147483647 : Int32)) % (16 : Int32))) - (own_lo ((p2 &&& (2147483647 : Int32)) % (16 : Int32)))) + (1 : Int32))), .val (.int ((own_lo ((p2 &&& (2147483647 : Int32)) % (16 : Int32))) + ((p3 &&& (2147483647 : Int32)) % (((own_hi ((p2 &&& (2147483647 : Int32)) % (16 : Int32))) - (own_lo ((p2 &&& (2147483647 : Int32)) % (16 : Int32)))) + (1 : Int32))))), .val (.int (1 : Int32)), .val (.int (((p2.toUInt32 >>> ((8 : Int32) &&& 31).toUInt32).toInt32) % (15 : Int32))), .unset, .unset] [(.int (((p2.toUInt32 >>> ((8 : Int32) &&& 31).toUInt32).toInt32) % (15 : Int32))), (.ref rr4), (.int (own_lo ((((p2.toUInt32 >>> ((8 : Int32) &&& 31).toUInt32).toInt32) % (15 : Int32)) + (1 : Int32))))])) t → Steps p.tables e below (T29.setTop (mkF m 122 #[.val (.int p1), .val (.int p2), .val (.int p3), .val (.ref rr1), .val (.ref rr4), .val (.int ((p2 &&& (2147483647 : Int32)) % (16 : Int32))), .val (.int (((own_hi ((p2 &&& (2147483647 : Int32)) % (16 : Int32))) - (own_lo ((p2 &&& (2147483647 : Int32)) % (16 : Int32)))) + (1 : Int32))), .val (.int ((own_lo ((p2 &&& (2147483647 : Int32)) % (16 : Int32))) + ((p3 &&& (2147483647 : Int32)) % (((own_hi ((p2 &&& (2147483647 : Int32)) % (16 : Int32))) - (own_lo ((p2 &&& (2147483647 : Int32)) % (16 : Int32)))) + (1 : Int32))))), .val (.int (1 : Int32)), .val (.int (((p2.toUInt32 >>> ((8 : Int32) &&& 31).toUInt32).toInt32) % (15 : Int32))), .unset, .unset] [(.int (own_lo ((((p2.toUInt32 >>> ((8 : Int32) &&& 31).toUInt32).toInt32) % (15 : Int32)) + (1 : Int32))))])) t := by
    intro t k
    show Steps p.tables e below (T29.setTop (mkF m 122 #[.val (.int p1), .val (.int p2), .val (.int p3), .val (.ref rr1), .val (.ref rr4), .val (.int ((p2 &&& (2147483647 : Int32)) % (16 : Int32))), .val (.int (((own_hi ((p2 &&& (2147483647 : Int32)) % (16 : Int32))) - (own_lo ((p2 &&& (2147483647 : Int32)) % (16 : Int32)))) + (1 : Int32))), .val (.int ((own_lo ((p2 &&& (2147483647 : Int32)) % (16 : Int32))) + ((p3 &&& (2147483647 : Int32)) % (((own_hi ((p2 &&& (2147483647 : Int32)) % (16 : Int32))) - (own_lo ((p2 &&& (2147483647 : Int32)) % (16 : Int32)))) + (1 : Int32))))), .val (.int (1 : Int32)), .val (.int (((p2.toUInt32 >>> ((8 : Int32) &&& 31).toUInt32).toInt32) % (15 : Int32))), .unset, .unset] [(.int (own_lo ((((p2.toUInt32 >>> ((8 : Int32) &&& 31).toUInt32).toInt32) % (15 : Int32)) + (1 : Int32))))])) _
    refine XS.aload X29.here hx rfl (hb hby at_122) rfl rfl ?_
    show Steps p.tables e below (T29.setTop (mkF m 124 #[.val (.int p1), .val (.int p2), .val (.int p3), .val (.ref rr1), .val (.ref rr4), .val (.int ((p2 &&& (2147483647 : Int32)) % (16 : Int32))), .val (.int (((own_hi ((p2 &&& (2147483647 : Int32)) % (16 : Int32))) - (own_lo ((p2 &&& (2147483647 : Int32)) % (16 : Int32)))) + (1 : Int32))), .val (.int ((own_lo ((p2 &&& (2147483647 : Int32)) % (16 : Int32))) + ((p3 &&& (2147483647 : Int32)) % (((own_hi ((p2 &&& (2147483647 : Int32)) % (16 : Int32))) - (own_lo ((p2 &&& (2147483647 : Int32)) % (16 : Int32)))) + (1 : Int32))))), .val (.int (1 : Int32)), .val (.int (((p2.toUInt32 >>> ((8 : Int32) &&& 31).toUInt32).toInt32) % (15 : Int32))), .unset, .unset] [(.ref rr4), (.int (own_lo ((((p2.toUInt32 >>> ((8 : Int32) &&& 31).toUInt32).toInt32) % (15 : Int32)) + (1 : Int32))))])) _
    refine XS.iload X29.here hx rfl (hb hby at_124) rfl ?_
    exact k
  obtain ⟨cl33, Ar33, q33, Sz33, Nn33, Hs33, G33⟩ := id Q4f0
  have hin33 : ¬ ((((p2.toUInt32 >>> ((8 : Int32) &&& 31).toUInt32).toInt32) % (15 : Int32)) < 0 ∨ cl33.slots.size ≤ ((((p2.toUInt32 >>> ((8 : Int32) &&& 31).toUInt32).toInt32) % (15 : Int32))).toNatClampNeg) := inb_of Sz33 ⟨(own_g p2).1, Int32.lt_trans (own_g p2).2 (by decide)⟩
  have hat33 : cl33.slots[((((p2.toUInt32 >>> ((8 : Int32) &&& 31).toUInt32).toInt32) % (15 : Int32))).toNatClampNeg]? = some (.int (own_hi (((p2.toUInt32 >>> ((8 : Int32) &&& 31).toUInt32).toInt32) % (15 : Int32)))) := Has.at Hs33 hin33 (own_hiAt _)
  have st33 : ∀ t, Steps p.tables e below (T29.setTop (mkF m 127 #[.val (.int p1), .val (.int p2), .val (.int p3), .val (.ref rr1), .val (.ref rr4), .val (.int ((p2 &&& (2147483647 : Int32)) % (16 : Int32))), .val (.int (((own_hi ((p2 &&& (2147483647 : Int32)) % (16 : Int32))) - (own_lo ((p2 &&& (2147483647 : Int32)) % (16 : Int32)))) + (1 : Int32))), .val (.int ((own_lo ((p2 &&& (2147483647 : Int32)) % (16 : Int32))) + ((p3 &&& (2147483647 : Int32)) % (((own_hi ((p2 &&& (2147483647 : Int32)) % (16 : Int32))) - (own_lo ((p2 &&& (2147483647 : Int32)) % (16 : Int32)))) + (1 : Int32))))), .val (.int (1 : Int32)), .val (.int (((p2.toUInt32 >>> ((8 : Int32) &&& 31).toUInt32).toInt32) % (15 : Int32))), .unset, .unset] [(.int (own_hi (((p2.toUInt32 >>> ((8 : Int32) &&& 31).toUInt32).toInt32) % (15 : Int32)))), (.int (own_lo ((((p2.toUInt32 >>> ((8 : Int32) &&& 31).toUInt32).toInt32) % (15 : Int32)) + (1 : Int32))))])) t → Steps p.tables e below (T29.setTop (mkF m 126 #[.val (.int p1), .val (.int p2), .val (.int p3), .val (.ref rr1), .val (.ref rr4), .val (.int ((p2 &&& (2147483647 : Int32)) % (16 : Int32))), .val (.int (((own_hi ((p2 &&& (2147483647 : Int32)) % (16 : Int32))) - (own_lo ((p2 &&& (2147483647 : Int32)) % (16 : Int32)))) + (1 : Int32))), .val (.int ((own_lo ((p2 &&& (2147483647 : Int32)) % (16 : Int32))) + ((p3 &&& (2147483647 : Int32)) % (((own_hi ((p2 &&& (2147483647 : Int32)) % (16 : Int32))) - (own_lo ((p2 &&& (2147483647 : Int32)) % (16 : Int32)))) + (1 : Int32))))), .val (.int (1 : Int32)), .val (.int (((p2.toUInt32 >>> ((8 : Int32) &&& 31).toUInt32).toInt32) % (15 : Int32))), .unset, .unset] [(.int (((p2.toUInt32 >>> ((8 : Int32) &&& 31).toUInt32).toInt32) % (15 : Int32))), (.ref rr4), (.int (own_lo ((((p2.toUInt32 >>> ((8 : Int32) &&& 31).toUInt32).toInt32) % (15 : Int32)) + (1 : Int32))))])) t := by
    intro t k
    refine X29.iaload hx (j := (((p2.toUInt32 >>> ((8 : Int32) &&& 31).toUInt32).toInt32) % (15 : Int32))) (v := (.int (own_hi (((p2.toUInt32 >>> ((8 : Int32) &&& 31).toUInt32).toInt32) % (15 : Int32))))) (by rw [e29]; exact Ar33.1) (State.isArrayOf_alike hZ.alike Ar33.2.1) Ar33.2.2 hin33 hat33 (g := (mkF m 126 #[.val (.int p1), .val (.int p2), .val (.int p3), .val (.ref rr1), .val (.ref rr4), .val (.int ((p2 &&& (2147483647 : Int32)) % (16 : Int32))), .val (.int (((own_hi ((p2 &&& (2147483647 : Int32)) % (16 : Int32))) - (own_lo ((p2 &&& (2147483647 : Int32)) % (16 : Int32)))) + (1 : Int32))), .val (.int ((own_lo ((p2 &&& (2147483647 : Int32)) % (16 : Int32))) + ((p3 &&& (2147483647 : Int32)) % (((own_hi ((p2 &&& (2147483647 : Int32)) % (16 : Int32))) - (own_lo ((p2 &&& (2147483647 : Int32)) % (16 : Int32)))) + (1 : Int32))))), .val (.int (1 : Int32)), .val (.int (((p2.toUInt32 >>> ((8 : Int32) &&& 31).toUInt32).toInt32) % (15 : Int32))), .unset, .unset] [(.int (((p2.toUInt32 >>> ((8 : Int32) &&& 31).toUInt32).toInt32) % (15 : Int32))), (.ref rr4), (.int (own_lo ((((p2.toUInt32 >>> ((8 : Int32) &&& 31).toUInt32).toInt32) % (15 : Int32)) + (1 : Int32))))])) rfl rfl (hb hby at_126) _ ?_
    exact k
  have sg34 : ∀ t, Steps p.tables e below (T29.setTop (mkF m 136 #[.val (.int p1), .val (.int p2), .val (.int p3), .val (.ref rr1), .val (.ref rr4), .val (.int ((p2 &&& (2147483647 : Int32)) % (16 : Int32))), .val (.int (((own_hi ((p2 &&& (2147483647 : Int32)) % (16 : Int32))) - (own_lo ((p2 &&& (2147483647 : Int32)) % (16 : Int32)))) + (1 : Int32))), .val (.int ((own_lo ((p2 &&& (2147483647 : Int32)) % (16 : Int32))) + ((p3 &&& (2147483647 : Int32)) % (((own_hi ((p2 &&& (2147483647 : Int32)) % (16 : Int32))) - (own_lo ((p2 &&& (2147483647 : Int32)) % (16 : Int32)))) + (1 : Int32))))), .val (.int (1 : Int32)), .val (.int (((p2.toUInt32 >>> ((8 : Int32) &&& 31).toUInt32).toInt32) % (15 : Int32))), .val (.int (((own_lo ((((p2.toUInt32 >>> ((8 : Int32) &&& 31).toUInt32).toInt32) % (15 : Int32)) + (1 : Int32))) - (own_hi (((p2.toUInt32 >>> ((8 : Int32) &&& 31).toUInt32).toInt32) % (15 : Int32)))) - (1 : Int32))), .unset] [(.int (((p2.toUInt32 >>> ((8 : Int32) &&& 31).toUInt32).toInt32) % (15 : Int32))), (.ref rr4)])) t → Steps p.tables e below (T29.setTop (mkF m 127 #[.val (.int p1), .val (.int p2), .val (.int p3), .val (.ref rr1), .val (.ref rr4), .val (.int ((p2 &&& (2147483647 : Int32)) % (16 : Int32))), .val (.int (((own_hi ((p2 &&& (2147483647 : Int32)) % (16 : Int32))) - (own_lo ((p2 &&& (2147483647 : Int32)) % (16 : Int32)))) + (1 : Int32))), .val (.int ((own_lo ((p2 &&& (2147483647 : Int32)) % (16 : Int32))) + ((p3 &&& (2147483647 : Int32)) % (((own_hi ((p2 &&& (2147483647 : Int32)) % (16 : Int32))) - (own_lo ((p2 &&& (2147483647 : Int32)) % (16 : Int32)))) + (1 : Int32))))), .val (.int (1 : Int32)), .val (.int (((p2.toUInt32 >>> ((8 : Int32) &&& 31).toUInt32).toInt32) % (15 : Int32))), .unset, .unset] [(.int (own_hi (((p2.toUInt32 >>> ((8 : Int32) &&& 31).toUInt32).toInt32) % (15 : Int32)))), (.int (own_lo ((((p2.toUInt32 >>> ((8 : Int32) &&& 31).toUInt32).toInt32) % (15 : Int32)) + (1 : Int32))))])) t := by
    intro t k
    show Steps p.tables e below (T29.setTop (mkF m 127 #[.val (.int p1), .val (.int p2), .val (.int p3), .val (.ref rr1), .val (.ref rr4), .val (.int ((p2 &&& (2147483647 : Int32)) % (16 : Int32))), .val (.int (((own_hi ((p2 &&& (2147483647 : Int32)) % (16 : Int32))) - (own_lo ((p2 &&& (2147483647 : Int32)) % (16 : Int32)))) + (1 : Int32))), .val (.int ((own_lo ((p2 &&& (2147483647 : Int32)) % (16 : Int32))) + ((p3 &&& (2147483647 : Int32)) % (((own_hi ((p2 &&& (2147483647 : Int32)) % (16 : Int32))) - (own_lo ((p2 &&& (2147483647 : Int32)) % (16 : Int32)))) + (1 : Int32))))), .val (.int (1 : Int32)), .val (.int (((p2.toUInt32 >>> ((8 : Int32) &&& 31).toUInt32).toInt32) % (15 : Int32))), .unset, .unset] [(.int (own_hi (((p2.toUInt32 >>> ((8 : Int32) &&& 31).toUInt32).toInt32) % (15 : Int32)))), (.int (own_lo ((((p2.toUInt32 >>> ((8 : Int32) &&& 31).toUInt32).toInt32) % (15 : Int32)) + (1 : Int32))))])) _
    refine XS.isub X29.here hx rfl (hb hby at_127) rfl ?_
    show Steps p.tables e below (T29.setTop (mkF m 128 #[.val (.int p1), .val (.int p2), .val (.int p3), .val (.ref rr1), .val (.ref rr4), .val (.int ((p2 &&& (2147483647 : Int32)) % (16 : Int32))), .val (.int (((own_hi ((p2 &&& (2147483647 : Int32)) % (16 : Int32))) - (own_lo ((p2 &&& (2147483647 : Int32)) % (16 : Int32)))) + (1 : Int32))), .val (.int ((own_lo ((p2 &&& (2147483647 : Int32)) % (16 : Int32))) + ((p3 &&& (2147483647 : Int32)) % (((own_hi ((p2 &&& (2147483647 : Int32)) % (16 : Int32))) - (own_lo ((p2 &&& (2147483647 : Int32)) % (16 : Int32)))) + (1 : Int32))))), .val (.int (1 : Int32)), .val (.int (((p2.toUInt32 >>> ((8 : Int32) &&& 31).toUInt32).toInt32) % (15 : Int32))), .unset, .unset] [(.int ((own_lo ((((p2.toUInt32 >>> ((8 : Int32) &&& 31).toUInt32).toInt32) % (15 : Int32)) + (1 : Int32))) - (own_hi (((p2.toUInt32 >>> ((8 : Int32) &&& 31).toUInt32).toInt32) % (15 : Int32)))))])) _
    refine XS.iconst X29.here hx rfl (hb hby at_128) ?_
    show Steps p.tables e below (T29.setTop (mkF m 129 #[.val (.int p1), .val (.int p2), .val (.int p3), .val (.ref rr1), .val (.ref rr4), .val (.int ((p2 &&& (2147483647 : Int32)) % (16 : Int32))), .val (.int (((own_hi ((p2 &&& (2147483647 : Int32)) % (16 : Int32))) - (own_lo ((p2 &&& (2147483647 : Int32)) % (16 : Int32)))) + (1 : Int32))), .val (.int ((own_lo ((p2 &&& (2147483647 : Int32)) % (16 : Int32))) + ((p3 &&& (2147483647 : Int32)) % (((own_hi ((p2 &&& (2147483647 : Int32)) % (16 : Int32))) - (own_lo ((p2 &&& (2147483647 : Int32)) % (16 : Int32)))) + (1 : Int32))))), .val (.int (1 : Int32)), .val (.int (((p2.toUInt32 >>> ((8 : Int32) &&& 31).toUInt32).toInt32) % (15 : Int32))), .unset, .unset] [(.int (1 : Int32)), (.int ((own_lo ((((p2.toUInt32 >>> ((8 : Int32) &&& 31).toUInt32).toInt32) % (15 : Int32)) + (1 : Int32))) - (own_hi (((p2.toUInt32 >>> ((8 : Int32) &&& 31).toUInt32).toInt32) % (15 : Int32)))))])) _
    refine XS.isub X29.here hx rfl (hb hby at_129) rfl ?_
    show Steps p.tables e below (T29.setTop (mkF m 130 #[.val (.int p1), .val (.int p2), .val (.int p3), .val (.ref rr1), .val (.ref rr4), .val (.int ((p2 &&& (2147483647 : Int32)) % (16 : Int32))), .val (.int (((own_hi ((p2 &&& (2147483647 : Int32)) % (16 : Int32))) - (own_lo ((p2 &&& (2147483647 : Int32)) % (16 : Int32)))) + (1 : Int32))), .val (.int ((own_lo ((p2 &&& (2147483647 : Int32)) % (16 : Int32))) + ((p3 &&& (2147483647 : Int32)) % (((own_hi ((p2 &&& (2147483647 : Int32)) % (16 : Int32))) - (own_lo ((p2 &&& (2147483647 : Int32)) % (16 : Int32)))) + (1 : Int32))))), .val (.int (1 : Int32)), .val (.int (((p2.toUInt32 >>> ((8 : Int32) &&& 31).toUInt32).toInt32) % (15 : Int32))), .unset, .unset] [(.int (((own_lo ((((p2.toUInt32 >>> ((8 : Int32) &&& 31).toUInt32).toInt32) % (15 : Int32)) + (1 : Int32))) - (own_hi (((p2.toUInt32 >>> ((8 : Int32) &&& 31).toUInt32).toInt32) % (15 : Int32)))) - (1 : Int32)))])) _
    refine XS.istore X29.here hx rfl (hb hby at_130) rfl (l' := #[.val (.int p1), .val (.int p2), .val (.int p3), .val (.ref rr1), .val (.ref rr4), .val (.int ((p2 &&& (2147483647 : Int32)) % (16 : Int32))), .val (.int (((own_hi ((p2 &&& (2147483647 : Int32)) % (16 : Int32))) - (own_lo ((p2 &&& (2147483647 : Int32)) % (16 : Int32)))) + (1 : Int32))), .val (.int ((own_lo ((p2 &&& (2147483647 : Int32)) % (16 : Int32))) + ((p3 &&& (2147483647 : Int32)) % (((own_hi ((p2 &&& (2147483647 : Int32)) % (16 : Int32))) - (own_lo ((p2 &&& (2147483647 : Int32)) % (16 : Int32)))) + (1 : Int32))))), .val (.int (1 : Int32)), .val (.int (((p2.toUInt32 >>> ((8 : Int32) &&& 31).toUInt32).toInt32) % (15 : Int32))), .val (.int (((own_lo ((((p2.toUInt32 >>> ((8 : Int32) &&& 31).toUInt32).toInt32) % (15 : Int32)) + (1 : Int32))) - (own_hi (((p2.toUInt32 >>> ((8 : Int32) &&& 31).toUInt32).toInt32) % (15 : Int32)))) - (1 : Int32))), .unset]) rfl ?_
    show Steps p.tables e below (T29.setTop (mkF m 132 #[.val (.int p1), .val (.int p2), .val (.int p3), .val (.ref rr1), .val (.ref rr4), .val (.int ((p2 &&& (2147483647 : Int32)) % (16 : Int32))), .val (.int (((own_hi ((p2 &&& (2147483647 : Int32)) % (16 : Int32))) - (own_lo ((p2 &&& (2147483647 : Int32)) % (16 : Int32)))) + (1 : Int32))), .val (.int ((own_lo ((p2 &&& (2147483647 : Int32)) % (16 : Int32))) + ((p3 &&& (2147483647 : Int32)) % (((own_hi ((p2 &&& (2147483647 : Int32)) % (16 : Int32))) - (own_lo ((p2 &&& (2147483647 : Int32)) % (16 : Int32)))) + (1 : Int32))))), .val (.int (1 : Int32)), .val (.int (((p2.toUInt32 >>> ((8 : Int32) &&& 31).toUInt32).toInt32) % (15 : Int32))), .val (.int (((own_lo ((((p2.toUInt32 >>> ((8 : Int32) &&& 31).toUInt32).toInt32) % (15 : Int32)) + (1 : Int32))) - (own_hi (((p2.toUInt32 >>> ((8 : Int32) &&& 31).toUInt32).toInt32) % (15 : Int32)))) - (1 : Int32))), .unset] [])) _
    refine XS.aload X29.here hx rfl (hb hby at_132) rfl rfl ?_
    show Steps p.tables e below (T29.setTop (mkF m 134 #[.val (.int p1), .val (.int p2), .val (.int p3), .val (.ref rr1), .val (.ref rr4), .val (.int ((p2 &&& (2147483647 : Int32)) % (16 : Int32))), .val (.int (((own_hi ((p2 &&& (2147483647 : Int32)) % (16 : Int32))) - (own_lo ((p2 &&& (2147483647 : Int32)) % (16 : Int32)))) + (1 : Int32))), .val (.int ((own_lo ((p2 &&& (2147483647 : Int32)) % (16 : Int32))) + ((p3 &&& (2147483647 : Int32)) % (((own_hi ((p2 &&& (2147483647 : Int32)) % (16 : Int32))) - (own_lo ((p2 &&& (2147483647 : Int32)) % (16 : Int32)))) + (1 : Int32))))), .val (.int (1 : Int32)), .val (.int (((p2.toUInt32 >>> ((8 : Int32) &&& 31).toUInt32).toInt32) % (15 : Int32))), .val (.int (((own_lo ((((p2.toUInt32 >>> ((8 : Int32) &&& 31).toUInt32).toInt32) % (15 : Int32)) + (1 : Int32))) - (own_hi (((p2.toUInt32 >>> ((8 : Int32) &&& 31).toUInt32).toInt32) % (15 : Int32)))) - (1 : Int32))), .unset] [(.ref rr4)])) _
    refine XS.iload X29.here hx rfl (hb hby at_134) rfl ?_
    exact k
  obtain ⟨cl35, Ar35, q35, Sz35, Nn35, Hs35, G35⟩ := id Q4f0
  have hin35 : ¬ ((((p2.toUInt32 >>> ((8 : Int32) &&& 31).toUInt32).toInt32) % (15 : Int32)) < 0 ∨ cl35.slots.size ≤ ((((p2.toUInt32 >>> ((8 : Int32) &&& 31).toUInt32).toInt32) % (15 : Int32))).toNatClampNeg) := inb_of Sz35 ⟨(own_g p2).1, Int32.lt_trans (own_g p2).2 (by decide)⟩
  have hat35 : cl35.slots[((((p2.toUInt32 >>> ((8 : Int32) &&& 31).toUInt32).toInt32) % (15 : Int32))).toNatClampNeg]? = some (.int (own_hi (((p2.toUInt32 >>> ((8 : Int32) &&& 31).toUInt32).toInt32) % (15 : Int32)))) := Has.at Hs35 hin35 (own_hiAt _)
  have st35 : ∀ t, Steps p.tables e below (T29.setTop (mkF m 137 #[.val (.int p1), .val (.int p2), .val (.int p3), .val (.ref rr1), .val (.ref rr4), .val (.int ((p2 &&& (2147483647 : Int32)) % (16 : Int32))), .val (.int (((own_hi ((p2 &&& (2147483647 : Int32)) % (16 : Int32))) - (own_lo ((p2 &&& (2147483647 : Int32)) % (16 : Int32)))) + (1 : Int32))), .val (.int ((own_lo ((p2 &&& (2147483647 : Int32)) % (16 : Int32))) + ((p3 &&& (2147483647 : Int32)) % (((own_hi ((p2 &&& (2147483647 : Int32)) % (16 : Int32))) - (own_lo ((p2 &&& (2147483647 : Int32)) % (16 : Int32)))) + (1 : Int32))))), .val (.int (1 : Int32)), .val (.int (((p2.toUInt32 >>> ((8 : Int32) &&& 31).toUInt32).toInt32) % (15 : Int32))), .val (.int (((own_lo ((((p2.toUInt32 >>> ((8 : Int32) &&& 31).toUInt32).toInt32) % (15 : Int32)) + (1 : Int32))) - (own_hi (((p2.toUInt32 >>> ((8 : Int32) &&& 31).toUInt32).toInt32) % (15 : Int32)))) - (1 : Int32))), .unset] [(.int (own_hi (((p2.toUInt32 >>> ((8 : Int32) &&& 31).toUInt32).toInt32) % (15 : Int32))))])) t → Steps p.tables e below (T29.setTop (mkF m 136 #[.val (.int p1), .val (.int p2), .val (.int p3), .val (.ref rr1), .val (.ref rr4), .val (.int ((p2 &&& (2147483647 : Int32)) % (16 : Int32))), .val (.int (((own_hi ((p2 &&& (2147483647 : Int32)) % (16 : Int32))) - (own_lo ((p2 &&& (2147483647 : Int32)) % (16 : Int32)))) + (1 : Int32))), .val (.int ((own_lo ((p2 &&& (2147483647 : Int32)) % (16 : Int32))) + ((p3 &&& (2147483647 : Int32)) % (((own_hi ((p2 &&& (2147483647 : Int32)) % (16 : Int32))) - (own_lo ((p2 &&& (2147483647 : Int32)) % (16 : Int32)))) + (1 : Int32))))), .val (.int (1 : Int32)), .val (.int (((p2.toUInt32 >>> ((8 : Int32) &&& 31).toUInt32).toInt32) % (15 : Int32))), .val (.int (((own_lo ((((p2.toUInt32 >>> ((8 : Int32) &&& 31).toUInt32).toInt32) % (15 : Int32)) + (1 : Int32))) - (own_hi (((p2.toUInt32 >>> ((8 : Int32) &&& 31).toUInt32).toInt32) % (15 : Int32)))) - (1 : Int32))), .unset] [(.int (((p2.toUInt32 >>> ((8 : Int32) &&& 31).toUInt32).toInt32) % (15 : Int32))), (.ref rr4)])) t := by
    intro t k
    refine X29.iaload hx (j := (((p2.toUInt32 >>> ((8 : Int32) &&& 31).toUInt32).toInt32) % (15 : Int32))) (v := (.int (own_hi (((p2.toUInt32 >>> ((8 : Int32) &&& 31).toUInt32).toInt32) % (15 : Int32))))) (by rw [e29]; exact Ar35.1) (State.isArrayOf_alike hZ.alike Ar35.2.1) Ar35.2.2 hin35 hat35 (g := (mkF m 136 #[.val (.int p1), .val (.int p2), .val (.int p3), .val (.ref rr1), .val (.ref rr4), .val (.int ((p2 &&& (2147483647 : Int32)) % (16 : Int32))), .val (.int (((own_hi ((p2 &&& (2147483647 : Int32)) % (16 : Int32))) - (own_lo ((p2 &&& (2147483647 : Int32)) % (16 : Int32)))) + (1 : Int32))), .val (.int ((own_lo ((p2 &&& (2147483647 : Int32)) % (16 : Int32))) + ((p3 &&& (2147483647 : Int32)) % (((own_hi ((p2 &&& (2147483647 : Int32)) % (16 : Int32))) - (own_lo ((p2 &&& (2147483647 : Int32)) % (16 : Int32)))) + (1 : Int32))))), .val (.int (1 : Int32)), .val (.int (((p2.toUInt32 >>> ((8 : Int32) &&& 31).toUInt32).toInt32) % (15 : Int32))), .val (.int (((own_lo ((((p2.toUInt32 >>> ((8 : Int32) &&& 31).toUInt32).toInt32) % (15 : Int32)) + (1 : Int32))) - (own_hi (((p2.toUInt32 >>> ((8 : Int32) &&& 31).toUInt32).toInt32) % (15 : Int32)))) - (1 : Int32))), .unset] [(.int (((p2.toUInt32 >>> ((8 : Int32) &&& 31).toUInt32).toInt32) % (15 : Int32))), (.ref rr4)])) rfl rfl (hb hby at_136) _ ?_
    exact k
  have sg36 : ∀ t, Steps p.tables e below (T29.setTop (mkF m 155 #[.val (.int p1), .val (.int p2), .val (.int p3), .val (.ref rr1), .val (.ref rr4), .val (.int ((p2 &&& (2147483647 : Int32)) % (16 : Int32))), .val (.int (((own_hi ((p2 &&& (2147483647 : Int32)) % (16 : Int32))) - (own_lo ((p2 &&& (2147483647 : Int32)) % (16 : Int32)))) + (1 : Int32))), .val (.int ((own_lo ((p2 &&& (2147483647 : Int32)) % (16 : Int32))) + ((p3 &&& (2147483647 : Int32)) % (((own_hi ((p2 &&& (2147483647 : Int32)) % (16 : Int32))) - (own_lo ((p2 &&& (2147483647 : Int32)) % (16 : Int32)))) + (1 : Int32))))), .val (.int (1 : Int32)), .val (.int (((p2.toUInt32 >>> ((8 : Int32) &&& 31).toUInt32).toInt32) % (15 : Int32))), .val (.int (((own_lo ((((p2.toUInt32 >>> ((8 : Int32) &&& 31).toUInt32).toInt32) % (15 : Int32)) + (1 : Int32))) - (own_hi (((p2.toUInt32 >>> ((8 : Int32) &&& 31).toUInt32).toInt32) % (15 : Int32)))) - (1 : Int32))), .val (.int (((own_hi (((p2.toUInt32 >>> ((8 : Int32) &&& 31).toUInt32).toInt32) % (15 : Int32))) + (1 : Int32)) + (((p3.toUInt32 >>> ((1 : Int32) &&& 31).toUInt32).toInt32) % (((own_lo ((((p2.toUInt32 >>> ((8 : Int32) &&& 31).toUInt32).toInt32) % (15 : Int32)) + (1 : Int32))) - (own_hi (((p2.toUInt32 >>> ((8 : Int32) &&& 31).toUInt32).toInt32) % (15 : Int32)))) - (1 : Int32)))))] [(.int (((own_hi (((p2.toUInt32 >>> ((8 : Int32) &&& 31).toUInt32).toInt32) % (15 : Int32))) + (1 : Int32)) + (((p3.toUInt32 >>> ((1 : Int32) &&& 31).toUInt32).toInt32) % (((own_lo ((((p2.toUInt32 >>> ((8 : Int32) &&& 31).toUInt32).toInt32) % (15 : Int32)) + (1 : Int32))) - (own_hi (((p2.toUInt32 >>> ((8 : Int32) &&& 31).toUInt32).toInt32) % (15 : Int32)))) - (1 : Int32)))))])) t → Steps p.tables e below (T29.setTop (mkF m 137 #[.val (.int p1), .val (.int p2), .val (.int p3), .val (.ref rr1), .val (.ref rr4), .val (.int ((p2 &&& (2147483647 : Int32)) % (16 : Int32))), .val (.int (((own_hi ((p2 &&& (2147483647 : Int32)) % (16 : Int32))) - (own_lo ((p2 &&& (2147483647 : Int32)) % (16 : Int32)))) + (1 : Int32))), .val (.int ((own_lo ((p2 &&& (2147483647 : Int32)) % (16 : Int32))) + ((p3 &&& (2147483647 : Int32)) % (((own_hi ((p2 &&& (2147483647 : Int32)) % (16 : Int32))) - (own_lo ((p2 &&& (2147483647 : Int32)) % (16 : Int32)))) + (1 : Int32))))), .val (.int (1 : Int32)), .val (.int (((p2.toUInt32 >>> ((8 : Int32) &&& 31).toUInt32).toInt32) % (15 : Int32))), .val (.int (((own_lo ((((p2.toUInt32 >>> ((8 : Int32) &&& 31).toUInt32).toInt32) % (15 : Int32)) + (1 : Int32))) - (own_hi (((p2.toUInt32 >>> ((8 : Int32) &&& 31).toUInt32).toInt32) % (15 : Int32)))) - (1 : Int32))), .unset] [(.int (own_hi (((p2.toUInt32 >>> ((8 : Int32) &&& 31).toUInt32).toInt32) % (15 : Int32))))])) t := by
    intro t k
    show Steps p.tables e below (T29.setTop (mkF m 137 #[.val (.int p1), .val (.int p2), .val (.int p3), .val (.ref rr1), .val (.ref rr4), .val (.int ((p2 &&& (2147483647 : Int32)) % (16 : Int32))), .val (.int (((own_hi ((p2 &&& (2147483647 : Int32)) % (16 : Int32))) - (own_lo ((p2 &&& (2147483647 : Int32)) % (16 : Int32)))) + (1 : Int32))), .val (.int ((own_lo ((p2 &&& (2147483647 : Int32)) % (16 : Int32))) + ((p3 &&& (2147483647 : Int32)) % (((own_hi ((p2 &&& (2147483647 : Int32)) % (16 : Int32))) - (own_lo ((p2 &&& (2147483647 : Int32)) % (16 : Int32)))) + (1 : Int32))))), .val (.int (1 : Int32)), .val (.int (((p2.toUInt32 >>> ((8 : Int32) &&& 31).toUInt32).toInt32) % (15 : Int32))), .val (.int (((own_lo ((((p2.toUInt32 >>> ((8 : Int32) &&& 31).toUInt32).toInt32) % (15 : Int32)) + (1 : Int32))) - (own_hi (((p2.toUInt32 >>> ((8 : Int32) &&& 31).toUInt32).toInt32) % (15 : Int32)))) - (1 : Int32))), .unset] [(.int (own_hi (((p2.toUInt32 >>> ((8 : Int32) &&& 31).toUInt32).toInt32) % (15 : Int32))))])) _
    refine XS.iconst X29.here hx rfl (hb hby at_137) ?_
    show Steps p.tables e below (T29.setTop (mkF m 138 #[.val (.int p1), .val (.int p2), .val (.int p3), .val (.ref rr1), .val (.ref rr4), .val (.int ((p2 &&& (2147483647 : Int32)) % (16 : Int32))), .val (.int (((own_hi ((p2 &&& (2147483647 : Int32)) % (16 : Int32))) - (own_lo ((p2 &&& (2147483647 : Int32)) % (16 : Int32)))) + (1 : Int32))), .val (.int ((own_lo ((p2 &&& (2147483647 : Int32)) % (16 : Int32))) + ((p3 &&& (2147483647 : Int32)) % (((own_hi ((p2 &&& (2147483647 : Int32)) % (16 : Int32))) - (own_lo ((p2 &&& (2147483647 : Int32)) % (16 : Int32)))) + (1 : Int32))))), .val (.int (1 : Int32)), .val (.int (((p2.toUInt32 >>> ((8 : Int32) &&& 31).toUInt32).toInt32) % (15 : Int32))), .val (.int (((own_lo ((((p2.toUInt32 >>> ((8 : Int32) &&& 31).toUInt32).toInt32) % (15 : Int32)) + (1 : Int32))) - (own_hi (((p2.toUInt32 >>> ((8 : Int32) &&& 31).toUInt32).toInt32) % (15 : Int32)))) - (1 : Int32))), .unset] [(.int (1 : Int32)), (.int (own_hi (((p2.toUInt32 >>> ((8 : Int32) &&& 31).toUInt32).toInt32) % (15 : Int32))))])) _
    refine XS.iadd X29.here hx rfl (hb hby at_138) rfl ?_
    show Steps p.tables e below (T29.setTop (mkF m 139 #[.val (.int p1), .val (.int p2), .val (.int p3), .val (.ref rr1), .val (.ref rr4), .val (.int ((p2 &&& (2147483647 : Int32)) % (16 : Int32))), .val (.int (((own_hi ((p2 &&& (2147483647 : Int32)) % (16 : Int32))) - (own_lo ((p2 &&& (2147483647 : Int32)) % (16 : Int32)))) + (1 : Int32))), .val (.int ((own_lo ((p2 &&& (2147483647 : Int32)) % (16 : Int32))) + ((p3 &&& (2147483647 : Int32)) % (((own_hi ((p2 &&& (2147483647 : Int32)) % (16 : Int32))) - (own_lo ((p2 &&& (2147483647 : Int32)) % (16 : Int32)))) + (1 : Int32))))), .val (.int (1 : Int32)), .val (.int (((p2.toUInt32 >>> ((8 : Int32) &&& 31).toUInt32).toInt32) % (15 : Int32))), .val (.int (((own_lo ((((p2.toUInt32 >>> ((8 : Int32) &&& 31).toUInt32).toInt32) % (15 : Int32)) + (1 : Int32))) - (own_hi (((p2.toUInt32 >>> ((8 : Int32) &&& 31).toUInt32).toInt32) % (15 : Int32)))) - (1 : Int32))), .unset] [(.int ((own_hi (((p2.toUInt32 >>> ((8 : Int32) &&& 31).toUInt32).toInt32) % (15 : Int32))) + (1 : Int32)))])) _
    refine XS.iloadN X29.here hx rfl (hb hby at_139) rfl ?_
    show Steps p.tables e below (T29.setTop (mkF m 140 #[.val (.int p1), .val (.int p2), .val (.int p3), .val (.ref rr1), .val (.ref rr4), .val (.int ((p2 &&& (2147483647 : Int32)) % (16 : Int32))), .val (.int (((own_hi ((p2 &&& (2147483647 : Int32)) % (16 : Int32))) - (own_lo ((p2 &&& (2147483647 : Int32)) % (16 : Int32)))) + (1 : Int32))), .val (.int ((own_lo ((p2 &&& (2147483647 : Int32)) % (16 : Int32))) + ((p3 &&& (2147483647 : Int32)) % (((own_hi ((p2 &&& (2147483647 : Int32)) % (16 : Int32))) - (own_lo ((p2 &&& (2147483647 : Int32)) % (16 : Int32)))) + (1 : Int32))))), .val (.int (1 : Int32)), .val (.int (((p2.toUInt32 >>> ((8 : Int32) &&& 31).toUInt32).toInt32) % (15 : Int32))), .val (.int (((own_lo ((((p2.toUInt32 >>> ((8 : Int32) &&& 31).toUInt32).toInt32) % (15 : Int32)) + (1 : Int32))) - (own_hi (((p2.toUInt32 >>> ((8 : Int32) &&& 31).toUInt32).toInt32) % (15 : Int32)))) - (1 : Int32))), .unset] [(.int p3), (.int ((own_hi (((p2.toUInt32 >>> ((8 : Int32) &&& 31).toUInt32).toInt32) % (15 : Int32))) + (1 : Int32)))])) _
    refine XS.iconst X29.here hx rfl (hb hby at_140) ?_
    show Steps p.tables e below (T29.setTop (mkF m 141 #[.val (.int p1), .val (.int p2), .val (.int p3), .val (.ref rr1), .val (.ref rr4), .val (.int ((p2 &&& (2147483647 : Int32)) % (16 : Int32))), .val (.int (((own_hi ((p2 &&& (2147483647 : Int32)) % (16 : Int32))) - (own_lo ((p2 &&& (2147483647 : Int32)) % (16 : Int32)))) + (1 : Int32))), .val (.int ((own_lo ((p2 &&& (2147483647 : Int32)) % (16 : Int32))) + ((p3 &&& (2147483647 : Int32)) % (((own_hi ((p2 &&& (2147483647 : Int32)) % (16 : Int32))) - (own_lo ((p2 &&& (2147483647 : Int32)) % (16 : Int32)))) + (1 : Int32))))), .val (.int (1 : Int32)), .val (.int (((p2.toUInt32 >>> ((8 : Int32) &&& 31).toUInt32).toInt32) % (15 : Int32))), .val (.int (((own_lo ((((p2.toUInt32 >>> ((8 : Int32) &&& 31).toUInt32).toInt32) % (15 : Int32)) + (1 : Int32))) - (own_hi (((p2.toUInt32 >>> ((8 : Int32) &&& 31).toUInt32).toInt32) % (15 : Int32)))) - (1 : Int32))), .unset] [(.int (1 : Int32)), (.int p3), (.int ((own_hi (((p2.toUInt32 >>> ((8 : Int32) &&& 31).toUInt32).toInt32) % (15 : Int32))) + (1 : Int32)))])) _
    refine XS.iushr X29.here hx rfl (hb hby at_141) rfl ?_
    show Steps p.tables e below (T29.setTop (mkF m 142 #[.val (.int p1), .val (.int p2), .val (.int p3), .val (.ref rr1), .val (.ref rr4), .val (.int ((p2 &&& (2147483647 : Int32)) % (16 : Int32))), .val (.int (((own_hi ((p2 &&& (2147483647 : Int32)) % (16 : Int32))) - (own_lo ((p2 &&& (2147483647 : Int32)) % (16 : Int32)))) + (1 : Int32))), .val (.int ((own_lo ((p2 &&& (2147483647 : Int32)) % (16 : Int32))) + ((p3 &&& (2147483647 : Int32)) % (((own_hi ((p2 &&& (2147483647 : Int32)) % (16 : Int32))) - (own_lo ((p2 &&& (2147483647 : Int32)) % (16 : Int32)))) + (1 : Int32))))), .val (.int (1 : Int32)), .val (.int (((p2.toUInt32 >>> ((8 : Int32) &&& 31).toUInt32).toInt32) % (15 : Int32))), .val (.int (((own_lo ((((p2.toUInt32 >>> ((8 : Int32) &&& 31).toUInt32).toInt32) % (15 : Int32)) + (1 : Int32))) - (own_hi (((p2.toUInt32 >>> ((8 : Int32) &&& 31).toUInt32).toInt32) % (15 : Int32)))) - (1 : Int32))), .unset] [(.int ((p3.toUInt32 >>> ((1 : Int32) &&& 31).toUInt32).toInt32)), (.int ((own_hi (((p2.toUInt32 >>> ((8 : Int32) &&& 31).toUInt32).toInt32) % (15 : Int32))) + (1 : Int32)))])) _
    refine XS.iload X29.here hx rfl (hb hby at_142) rfl ?_
    show Steps p.tables e below (T29.setTop (mkF m 144 #[.val (.int p1), .val (.int p2), .val (.int p3), .val (.ref rr1), .val (.ref rr4), .val (.int ((p2 &&& (2147483647 : Int32)) % (16 : Int32))), .val (.int (((own_hi ((p2 &&& (2147483647 : Int32)) % (16 : Int32))) - (own_lo ((p2 &&& (2147483647 : Int32)) % (16 : Int32)))) + (1 : Int32))), .val (.int ((own_lo ((p2 &&& (2147483647 : Int32)) % (16 : Int32))) + ((p3 &&& (2147483647 : Int32)) % (((own_hi ((p2 &&& (2147483647 : Int32)) % (16 : Int32))) - (own_lo ((p2 &&& (2147483647 : Int32)) % (16 : Int32)))) + (1 : Int32))))), .val (.int (1 : Int32)), .val (.int (((p2.toUInt32 >>> ((8 : Int32) &&& 31).toUInt32).toInt32) % (15 : Int32))), .val (.int (((own_lo ((((p2.toUInt32 >>> ((8 : Int32) &&& 31).toUInt32).toInt32) % (15 : Int32)) + (1 : Int32))) - (own_hi (((p2.toUInt32 >>> ((8 : Int32) &&& 31).toUInt32).toInt32) % (15 : Int32)))) - (1 : Int32))), .unset] [(.int (((own_lo ((((p2.toUInt32 >>> ((8 : Int32) &&& 31).toUInt32).toInt32) % (15 : Int32)) + (1 : Int32))) - (own_hi (((p2.toUInt32 >>> ((8 : Int32) &&& 31).toUInt32).toInt32) % (15 : Int32)))) - (1 : Int32))), (.int ((p3.toUInt32 >>> ((1 : Int32) &&& 31).toUInt32).toInt32)), (.int ((own_hi (((p2.toUInt32 >>> ((8 : Int32) &&& 31).toUInt32).toInt32) % (15 : Int32))) + (1 : Int32)))])) _
    refine iremM X29 hx rfl (hb hby at_144) rfl (own_glen0 _ (own_g p2)) ?_
    show Steps p.tables e below (T29.setTop (mkF m 145 #[.val (.int p1), .val (.int p2), .val (.int p3), .val (.ref rr1), .val (.ref rr4), .val (.int ((p2 &&& (2147483647 : Int32)) % (16 : Int32))), .val (.int (((own_hi ((p2 &&& (2147483647 : Int32)) % (16 : Int32))) - (own_lo ((p2 &&& (2147483647 : Int32)) % (16 : Int32)))) + (1 : Int32))), .val (.int ((own_lo ((p2 &&& (2147483647 : Int32)) % (16 : Int32))) + ((p3 &&& (2147483647 : Int32)) % (((own_hi ((p2 &&& (2147483647 : Int32)) % (16 : Int32))) - (own_lo ((p2 &&& (2147483647 : Int32)) % (16 : Int32)))) + (1 : Int32))))), .val (.int (1 : Int32)), .val (.int (((p2.toUInt32 >>> ((8 : Int32) &&& 31).toUInt32).toInt32) % (15 : Int32))), .val (.int (((own_lo ((((p2.toUInt32 >>> ((8 : Int32) &&& 31).toUInt32).toInt32) % (15 : Int32)) + (1 : Int32))) - (own_hi (((p2.toUInt32 >>> ((8 : Int32) &&& 31).toUInt32).toInt32) % (15 : Int32)))) - (1 : Int32))), .unset] [(.int (((p3.toUInt32 >>> ((1 : Int32) &&& 31).toUInt32).toInt32) % (((own_lo ((((p2.toUInt32 >>> ((8 : Int32) &&& 31).toUInt32).toInt32) % (15 : Int32)) + (1 : Int32))) - (own_hi (((p2.toUInt32 >>> ((8 : Int32) &&& 31).toUInt32).toInt32) % (15 : Int32)))) - (1 : Int32)))), (.int ((own_hi (((p2.toUInt32 >>> ((8 : Int32) &&& 31).toUInt32).toInt32) % (15 : Int32))) + (1 : Int32)))])) _
    refine XS.iadd X29.here hx rfl (hb hby at_145) rfl ?_
    show Steps p.tables e below (T29.setTop (mkF m 146 #[.val (.int p1), .val (.int p2), .val (.int p3), .val (.ref rr1), .val (.ref rr4), .val (.int ((p2 &&& (2147483647 : Int32)) % (16 : Int32))), .val (.int (((own_hi ((p2 &&& (2147483647 : Int32)) % (16 : Int32))) - (own_lo ((p2 &&& (2147483647 : Int32)) % (16 : Int32)))) + (1 : Int32))), .val (.int ((own_lo ((p2 &&& (2147483647 : Int32)) % (16 : Int32))) + ((p3 &&& (2147483647 : Int32)) % (((own_hi ((p2 &&& (2147483647 : Int32)) % (16 : Int32))) - (own_lo ((p2 &&& (2147483647 : Int32)) % (16 : Int32)))) + (1 : Int32))))), .val (.int (1 : Int32)), .val (.int (((p2.toUInt32 >>> ((8 : Int32) &&& 31).toUInt32).toInt32) % (15 : Int32))), .val (.int (((own_lo ((((p2.toUInt32 >>> ((8 : Int32) &&& 31).toUInt32).toInt32) % (15 : Int32)) + (1 : Int32))) - (own_hi (((p2.toUInt32 >>> ((8 : Int32) &&& 31).toUInt32).toInt32) % (15 : Int32)))) - (1 : Int32))), .unset] [(.int (((own_hi (((p2.toUInt32 >>> ((8 : Int32) &&& 31).toUInt32).toInt32) % (15 : Int32))) + (1 : Int32)) + (((p3.toUInt32 >>> ((1 : Int32) &&& 31).toUInt32).toInt32) % (((own_lo ((((p2.toUInt32 >>> ((8 : Int32) &&& 31).toUInt32).toInt32) % (15 : Int32)) + (1 : Int32))) - (own_hi (((p2.toUInt32 >>> ((8 : Int32) &&& 31).toUInt32).toInt32) % (15 : Int32)))) - (1 : Int32)))))])) _
    refine XS.istore X29.here hx rfl (hb hby at_146) rfl (l' := #[.val (.int p1), .val (.int p2), .val (.int p3), .val (.ref rr1), .val (.ref rr4), .val (.int ((p2 &&& (2147483647 : Int32)) % (16 : Int32))), .val (.int (((own_hi ((p2 &&& (2147483647 : Int32)) % (16 : Int32))) - (own_lo ((p2 &&& (2147483647 : Int32)) % (16 : Int32)))) + (1 : Int32))), .val (.int ((own_lo ((p2 &&& (2147483647 : Int32)) % (16 : Int32))) + ((p3 &&& (2147483647 : Int32)) % (((own_hi ((p2 &&& (2147483647 : Int32)) % (16 : Int32))) - (own_lo ((p2 &&& (2147483647 : Int32)) % (16 : Int32)))) + (1 : Int32))))), .val (.int (1 : Int32)), .val (.int (((p2.toUInt32 >>> ((8 : Int32) &&& 31).toUInt32).toInt32) % (15 : Int32))), .val (.int (((own_lo ((((p2.toUInt32 >>> ((8 : Int32) &&& 31).toUInt32).toInt32) % (15 : Int32)) + (1 : Int32))) - (own_hi (((p2.toUInt32 >>> ((8 : Int32) &&& 31).toUInt32).toInt32) % (15 : Int32)))) - (1 : Int32))), .val (.int (((own_hi (((p2.toUInt32 >>> ((8 : Int32) &&& 31).toUInt32).toInt32) % (15 : Int32))) + (1 : Int32)) + (((p3.toUInt32 >>> ((1 : Int32) &&& 31).toUInt32).toInt32) % (((own_lo ((((p2.toUInt32 >>> ((8 : Int32) &&& 31).toUInt32).toInt32) % (15 : Int32)) + (1 : Int32))) - (own_hi (((p2.toUInt32 >>> ((8 : Int32) &&& 31).toUInt32).toInt32) % (15 : Int32)))) - (1 : Int32)))))]) rfl ?_
    show Steps p.tables e below (T29.setTop (mkF m 148 #[.val (.int p1), .val (.int p2), .val (.int p3), .val (.ref rr1), .val (.ref rr4), .val (.int ((p2 &&& (2147483647 : Int32)) % (16 : Int32))), .val (.int (((own_hi ((p2 &&& (2147483647 : Int32)) % (16 : Int32))) - (own_lo ((p2 &&& (2147483647 : Int32)) % (16 : Int32)))) + (1 : Int32))), .val (.int ((own_lo ((p2 &&& (2147483647 : Int32)) % (16 : Int32))) + ((p3 &&& (2147483647 : Int32)) % (((own_hi ((p2 &&& (2147483647 : Int32)) % (16 : Int32))) - (own_lo ((p2 &&& (2147483647 : Int32)) % (16 : Int32)))) + (1 : Int32))))), .val (.int (1 : Int32)), .val (.int (((p2.toUInt32 >>> ((8 : Int32) &&& 31).toUInt32).toInt32) % (15 : Int32))), .val (.int (((own_lo ((((p2.toUInt32 >>> ((8 : Int32) &&& 31).toUInt32).toInt32) % (15 : Int32)) + (1 : Int32))) - (own_hi (((p2.toUInt32 >>> ((8 : Int32) &&& 31).toUInt32).toInt32) % (15 : Int32)))) - (1 : Int32))), .val (.int (((own_hi (((p2.toUInt32 >>> ((8 : Int32) &&& 31).toUInt32).toInt32) % (15 : Int32))) + (1 : Int32)) + (((p3.toUInt32 >>> ((1 : Int32) &&& 31).toUInt32).toInt32) % (((own_lo ((((p2.toUInt32 >>> ((8 : Int32) &&& 31).toUInt32).toInt32) % (15 : Int32)) + (1 : Int32))) - (own_hi (((p2.toUInt32 >>> ((8 : Int32) &&& 31).toUInt32).toInt32) % (15 : Int32)))) - (1 : Int32)))))] [])) _
    refine XS.iload X29.here hx rfl (hb hby at_148) rfl ?_
    show Steps p.tables e below (T29.setTop (mkF m 150 #[.val (.int p1), .val (.int p2), .val (.int p3), .val (.ref rr1), .val (.ref rr4), .val (.int ((p2 &&& (2147483647 : Int32)) % (16 : Int32))), .val (.int (((own_hi ((p2 &&& (2147483647 : Int32)) % (16 : Int32))) - (own_lo ((p2 &&& (2147483647 : Int32)) % (16 : Int32)))) + (1 : Int32))), .val (.int ((own_lo ((p2 &&& (2147483647 : Int32)) % (16 : Int32))) + ((p3 &&& (2147483647 : Int32)) % (((own_hi ((p2 &&& (2147483647 : Int32)) % (16 : Int32))) - (own_lo ((p2 &&& (2147483647 : Int32)) % (16 : Int32)))) + (1 : Int32))))), .val (.int (1 : Int32)), .val (.int (((p2.toUInt32 >>> ((8 : Int32) &&& 31).toUInt32).toInt32) % (15 : Int32))), .val (.int (((own_lo ((((p2.toUInt32 >>> ((8 : Int32) &&& 31).toUInt32).toInt32) % (15 : Int32)) + (1 : Int32))) - (own_hi (((p2.toUInt32 >>> ((8 : Int32) &&& 31).toUInt32).toInt32) % (15 : Int32)))) - (1 : Int32))), .val (.int (((own_hi (((p2.toUInt32 >>> ((8 : Int32) &&& 31).toUInt32).toInt32) % (15 : Int32))) + (1 : Int32)) + (((p3.toUInt32 >>> ((1 : Int32) &&& 31).toUInt32).toInt32) % (((own_lo ((((p2.toUInt32 >>> ((8 : Int32) &&& 31).toUInt32).toInt32) % (15 : Int32)) + (1 : Int32))) - (own_hi (((p2.toUInt32 >>> ((8 : Int32) &&& 31).toUInt32).toInt32) % (15 : Int32)))) - (1 : Int32)))))] [(.int (1 : Int32))])) _
    refine XS.ifNo X29.here hx rfl (hb hby at_150) rfl ((if0 _ _).trans (feq (by decide : ¬ ((1 : Int32) = (0 : Int32)))).1) ?_
    show Steps p.tables e below (T29.setTop (mkF m 153 #[.val (.int p1), .val (.int p2), .val (.int p3), .val (.ref rr1), .val (.ref rr4), .val (.int ((p2 &&& (2147483647 : Int32)) % (16 : Int32))), .val (.int (((own_hi ((p2 &&& (2147483647 : Int32)) % (16 : Int32))) - (own_lo ((p2 &&& (2147483647 : Int32)) % (16 : Int32)))) + (1 : Int32))), .val (.int ((own_lo ((p2 &&& (2147483647 : Int32)) % (16 : Int32))) + ((p3 &&& (2147483647 : Int32)) % (((own_hi ((p2 &&& (2147483647 : Int32)) % (16 : Int32))) - (own_lo ((p2 &&& (2147483647 : Int32)) % (16 : Int32)))) + (1 : Int32))))), .val (.int (1 : Int32)), .val (.int (((p2.toUInt32 >>> ((8 : Int32) &&& 31).toUInt32).toInt32) % (15 : Int32))), .val (.int (((own_lo ((((p2.toUInt32 >>> ((8 : Int32) &&& 31).toUInt32).toInt32) % (15 : Int32)) + (1 : Int32))) - (own_hi (((p2.toUInt32 >>> ((8 : Int32) &&& 31).toUInt32).toInt32) % (15 : Int32)))) - (1 : Int32))), .val (.int (((own_hi (((p2.toUInt32 >>> ((8 : Int32) &&& 31).toUInt32).toInt32) % (15 : Int32))) + (1 : Int32)) + (((p3.toUInt32 >>> ((1 : Int32) &&& 31).toUInt32).toInt32) % (((own_lo ((((p2.toUInt32 >>> ((8 : Int32) &&& 31).toUInt32).toInt32) % (15 : Int32)) + (1 : Int32))) - (own_hi (((p2.toUInt32 >>> ((8 : Int32) &&& 31).toUInt32).toInt32) % (15 : Int32)))) - (1 : Int32)))))] [])) _
    refine XS.iload X29.here hx rfl (hb hby at_153) rfl ?_
    exact k
  obtain ⟨_, _, ⟨T37, L37, k37, n37⟩, -, X37, ⟨Lc37, hQ37, l37, y37, z37⟩, st37⟩ := Jvm.LawKit.callS X29 hx (y := (⟨"com/example/dongying/dongying/xml/XmlNames", "isNameStartChar", "(I)Z"⟩ : MethodName)) hown (mvT hZ (hw _ (List.mem_of_getElem? (i := 16) rfl))) (mvT hZ (hw _ (List.mem_of_getElem? (i := 17) rfl))) (mvT hZ (hw _ (List.mem_of_getElem? (i := 18) rfl))) (mvT hZ (hw _ (List.mem_of_getElem? (i := 19) rfl))) (by decide) (backOf (W := 0) (rmA l Z a0 hw [] (((own_hi (((p2.toUInt32 >>> ((8 : Int32) &&& 31).toUInt32).toInt32) % (15 : Int32))) + (1 : Int32)) + (((p3.toUInt32 >>> ((1 : Int32) &&& 31).toUInt32).toInt32) % (((own_lo ((((p2.toUInt32 >>> ((8 : Int32) &&& 31).toUInt32).toInt32) % (15 : Int32)) + (1 : Int32))) - (own_hi (((p2.toUInt32 >>> ((8 : Int32) &&& 31).toUInt32).toInt32) % (15 : Int32)))) - (1 : Int32)))) T4.heap n0 z7) hZ (hw _ (List.mem_of_getElem? (i := 19) rfl)) (hw _ (List.mem_of_getElem? (i := 18) rfl)) (by decide) (by decide)) (g := (mkF m 155 #[.val (.int p1), .val (.int p2), .val (.int p3), .val (.ref rr1), .val (.ref rr4), .val (.int ((p2 &&& (2147483647 : Int32)) % (16 : Int32))), .val (.int (((own_hi ((p2 &&& (2147483647 : Int32)) % (16 : Int32))) - (own_lo ((p2 &&& (2147483647 : Int32)) % (16 : Int32)))) + (1 : Int32))), .val (.int ((own_lo ((p2 &&& (2147483647 : Int32)) % (16 : Int32))) + ((p3 &&& (2147483647 : Int32)) % (((own_hi ((p2 &&& (2147483647 : Int32)) % (16 : Int32))) - (own_lo ((p2 &&& (2147483647 : Int32)) % (16 : Int32)))) + (1 : Int32))))), .val (.int (1 : Int32)), .val (.int (((p2.toUInt32 >>> ((8 : Int32) &&& 31).toUInt32).toInt32) % (15 : Int32))), .val (.int (((own_lo ((((p2.toUInt32 >>> ((8 : Int32) &&& 31).toUInt32).toInt32) % (15 : Int32)) + (1 : Int32))) - (own_hi (((p2.toUInt32 >>> ((8 : Int32) &&& 31).toUInt32).toInt32) % (15 : Int32)))) - (1 : Int32))), .val (.int (((own_hi (((p2.toUInt32 >>> ((8 : Int32) &&& 31).toUInt32).toInt32) % (15 : Int32))) + (1 : Int32)) + (((p3.toUInt32 >>> ((1 : Int32) &&& 31).toUInt32).toInt32) % (((own_lo ((((p2.toUInt32 >>> ((8 : Int32) &&& 31).toUInt32).toInt32) % (15 : Int32)) + (1 : Int32))) - (own_hi (((p2.toUInt32 >>> ((8 : Int32) &&& 31).toUInt32).toInt32) % (15 : Int32)))) - (1 : Int32)))))] [(.int (((own_hi (((p2.toUInt32 >>> ((8 : Int32) &&& 31).toUInt32).toInt32) % (15 : Int32))) + (1 : Int32)) + (((p3.toUInt32 >>> ((1 : Int32) &&& 31).toUInt32).toInt32) % (((own_lo ((((p2.toUInt32 >>> ((8 : Int32) &&& 31).toUInt32).toInt32) % (15 : Int32)) + (1 : Int32))) - (own_hi (((p2.toUInt32 >>> ((8 : Int32) &&& 31).toUInt32).toInt32) % (15 : Int32)))) - (1 : Int32)))))])) rfl (by rw [hml]; rfl) (argsL := [(.int (((own_hi (((p2.toUInt32 >>> ((8 : Int32) &&& 31).toUInt32).toInt32) % (15 : Int32))) + (1 : Int32)) + (((p3.toUInt32 >>> ((1 : Int32) &&& 31).toUInt32).toInt32) % (((own_lo ((((p2.toUInt32 >>> ((8 : Int32) &&& 31).toUInt32).toInt32) % (15 : Int32)) + (1 : Int32))) - (own_hi (((p2.toUInt32 >>> ((8 : Int32) &&& 31).toUInt32).toInt32) % (15 : Int32)))) - (1 : Int32)))))]) (rest := []) (lenOf pd_1 rfl) rfl (by show 2 * 0 + _ ≤ _; exact Nat.le_of_eq rfl) (hb hby at_155) (fun _ _ => ⟨rfl, e29, (by decide : 2 + 0 ≤ _), (by decide : 32 + 0 ≤ _)⟩)
  dsimp only [Pt.U, Pt.locs, Pt.cells, Pt.slots] at X37 l37 y37 z37 st37 hQ37
  subst l37 y37 z37
  obtain ⟨rfl, N37q, e37⟩ := hQ37
  have N37 := Fr.app N29 N37q
  have sg38 : ∀ t, Steps p.tables e below (T37.setTop (mkF m 171 #[.val (.int p1), .val (.int p2), .val (.int p3), .val (.ref rr1), .val (.ref rr4), .val (.int ((p2 &&& (2147483647 : Int32)) % (16 : Int32))), .val (.int (((own_hi ((p2 &&& (2147483647 : Int32)) % (16 : Int32))) - (own_lo ((p2 &&& (2147483647 : Int32)) % (16 : Int32)))) + (1 : Int32))), .val (.int ((own_lo ((p2 &&& (2147483647 : Int32)) % (16 : Int32))) + ((p3 &&& (2147483647 : Int32)) % (((own_hi ((p2 &&& (2147483647 : Int32)) % (16 : Int32))) - (own_lo ((p2 &&& (2147483647 : Int32)) % (16 : Int32)))) + (1 : Int32))))), .val (.int (1 : Int32)), .val (.int (((p2.toUInt32 >>> ((8 : Int32) &&& 31).toUInt32).toInt32) % (15 : Int32))), .val (.int (((own_lo ((((p2.toUInt32 >>> ((8 : Int32) &&& 31).toUInt32).toInt32) % (15 : Int32)) + (1 : Int32))) - (own_hi (((p2.toUInt32 >>> ((8 : Int32) &&& 31).toUInt32).toInt32) % (15 : Int32)))) - (1 : Int32))), .val (.int (((own_hi (((p2.toUInt32 >>> ((8 : Int32) &&& 31).toUInt32).toInt32) % (15 : Int32))) + (1 : Int32)) + (((p3.toUInt32 >>> ((1 : Int32) &&& 31).toUInt32).toInt32) % (((own_lo ((((p2.toUInt32 >>> ((8 : Int32) &&& 31).toUInt32).toInt32) % (15 : Int32)) + (1 : Int32))) - (own_hi (((p2.toUInt32 >>> ((8 : Int32) &&& 31).toUInt32).toInt32) % (15 : Int32)))) - (1 : Int32)))))] [(.int (58 : Int32)), (.int p1)])) t → Steps p.tables e below (T37.setTop (mkF m 158 #[.val (.int p1), .val (.int p2), .val (.int p3), .val (.ref rr1), .val (.ref rr4), .val (.int ((p2 &&& (2147483647 : Int32)) % (16 : Int32))), .val (.int (((own_hi ((p2 &&& (2147483647 : Int32)) % (16 : Int32))) - (own_lo ((p2 &&& (2147483647 : Int32)) % (16 : Int32)))) + (1 : Int32))), .val (.int ((own_lo ((p2 &&& (2147483647 : Int32)) % (16 : Int32))) + ((p3 &&& (2147483647 : Int32)) % (((own_hi ((p2 &&& (2147483647 : Int32)) % (16 : Int32))) - (own_lo ((p2 &&& (2147483647 : Int32)) % (16 : Int32)))) + (1 : Int32))))), .val (.int (1 : Int32)), .val (.int (((p2.toUInt32 >>> ((8 : Int32) &&& 31).toUInt32).toInt32) % (15 : Int32))), .val (.int (((own_lo ((((p2.toUInt32 >>> ((8 : Int32) &&& 31).toUInt32).toInt32) % (15 : Int32)) + (1 : Int32))) - (own_hi (((p2.toUInt32 >>> ((8 : Int32) &&& 31).toUInt32).toInt32) % (15 : Int32)))) - (1 : Int32))), .val (.int (((own_hi (((p2.toUInt32 >>> ((8 : Int32) &&& 31).toUInt32).toInt32) % (15 : Int32))) + (1 : Int32)) + (((p3.toUInt32 >>> ((1 : Int32) &&& 31).toUInt32).toInt32) % (((own_lo ((((p2.toUInt32 >>> ((8 : Int32) &&& 31).toUInt32).toInt32) % (15 : Int32)) + (1 : Int32))) - (own_hi (((p2.toUInt32 >>> ((8 : Int32) &&& 31).toUInt32).toInt32) % (15 : Int32)))) - (1 : Int32)))))] [(.int (fN (((own_hi (((p2.toUInt32 >>> ((8 : Int32) &&& 31).toUInt32).toInt32) % (15 : Int32))) + (1 : Int32)) + (((p3.toUInt32 >>> ((1 : Int32) &&& 31).toUInt32).toInt32) % (((own_lo ((((p2.toUInt32 >>> ((8 : Int32) &&& 31).toUInt32).toInt32) % (15 : Int32)) + (1 : Int32))) - (own_hi (((p2.toUInt32 >>> ((8 : Int32) &&& 31).toUInt32).toInt32) % (15 : Int32)))) - (1 : Int32))))))])) t := by
    intro t k
    show Steps p.tables e below (T37.setTop (mkF m 158 #[.val (.int p1), .val (.int p2), .val (.int p3), .val (.ref rr1), .val (.ref rr4), .val (.int ((p2 &&& (2147483647 : Int32)) % (16 : Int32))), .val (.int (((own_hi ((p2 &&& (2147483647 : Int32)) % (16 : Int32))) - (own_lo ((p2 &&& (2147483647 : Int32)) % (16 : Int32)))) + (1 : Int32))), .val (.int ((own_lo ((p2 &&& (2147483647 : Int32)) % (16 : Int32))) + ((p3 &&& (2147483647 : Int32)) % (((own_hi ((p2 &&& (2147483647 : Int32)) % (16 : Int32))) - (own_lo ((p2 &&& (2147483647 : Int32)) % (16 : Int32)))) + (1 : Int32))))), .val (.int (1 : Int32)), .val (.int (((p2.toUInt32 >>> ((8 : Int32) &&& 31).toUInt32).toInt32) % (15 : Int32))), .val (.int (((own_lo ((((p2.toUInt32 >>> ((8 : Int32) &&& 31).toUInt32).toInt32) % (15 : Int32)) + (1 : Int32))) - (own_hi (((p2.toUInt32 >>> ((8 : Int32) &&& 31).toUInt32).toInt32) % (15 : Int32)))) - (1 : Int32))), .val (.int (((own_hi (((p2.toUInt32 >>> ((8 : Int32) &&& 31).toUInt32).toInt32) % (15 : Int32))) + (1 : Int32)) + (((p3.toUInt32 >>> ((1 : Int32) &&& 31).toUInt32).toInt32) % (((own_lo ((((p2.toUInt32 >>> ((8 : Int32) &&& 31).toUInt32).toInt32) % (15 : Int32)) + (1 : Int32))) - (own_hi (((p2.toUInt32 >>> ((8 : Int32) &&& 31).toUInt32).toInt32) % (15 : Int32)))) - (1 : Int32)))))] [(.int (fN (((own_hi (((p2.toUInt32 >>> ((8 : Int32) &&& 31).toUInt32).toInt32) % (15 : Int32))) + (1 : Int32)) + (((p3.toUInt32 >>> ((1 : Int32) &&& 31).toUInt32).toInt32) % (((own_lo ((((p2.toUInt32 >>> ((8 : Int32) &&& 31).toUInt32).toInt32) % (15 : Int32)) + (1 : Int32))) - (own_hi (((p2.toUInt32 >>> ((8 : Int32) &&& 31).toUInt32).toInt32) % (15 : Int32)))) - (1 : Int32))))))])) _
    refine XS.ifNo X37.here hx rfl (hb hby at_158) rfl ((if0 _ _).trans (teq ((own_gapPoint _ (own_g p2) p3) : (fN (((own_hi (((p2.toUInt32 >>> ((8 : Int32) &&& 31).toUInt32).toInt32) % (15 : Int32))) + (1 : Int32)) + (((p3.toUInt32 >>> ((1 : Int32) &&& 31).toUInt32).toInt32) % (((own_lo ((((p2.toUInt32 >>> ((8 : Int32) &&& 31).toUInt32).toInt32) % (15 : Int32)) + (1 : Int32))) - (own_hi (((p2.toUInt32 >>> ((8 : Int32) &&& 31).toUInt32).toInt32) % (15 : Int32)))) - (1 : Int32))))) = (0 : Int32))).2) ?_
    show Steps p.tables e below (T37.setTop (mkF m 161 #[.val (.int p1), .val (.int p2), .val (.int p3), .val (.ref rr1), .val (.ref rr4), .val (.int ((p2 &&& (2147483647 : Int32)) % (16 : Int32))), .val (.int (((own_hi ((p2 &&& (2147483647 : Int32)) % (16 : Int32))) - (own_lo ((p2 &&& (2147483647 : Int32)) % (16 : Int32)))) + (1 : Int32))), .val (.int ((own_lo ((p2 &&& (2147483647 : Int32)) % (16 : Int32))) + ((p3 &&& (2147483647 : Int32)) % (((own_hi ((p2 &&& (2147483647 : Int32)) % (16 : Int32))) - (own_lo ((p2 &&& (2147483647 : Int32)) % (16 : Int32)))) + (1 : Int32))))), .val (.int (1 : Int32)), .val (.int (((p2.toUInt32 >>> ((8 : Int32) &&& 31).toUInt32).toInt32) % (15 : Int32))), .val (.int (((own_lo ((((p2.toUInt32 >>> ((8 : Int32) &&& 31).toUInt32).toInt32) % (15 : Int32)) + (1 : Int32))) - (own_hi (((p2.toUInt32 >>> ((8 : Int32) &&& 31).toUInt32).toInt32) % (15 : Int32)))) - (1 : Int32))), .val (.int (((own_hi (((p2.toUInt32 >>> ((8 : Int32) &&& 31).toUInt32).toInt32) % (15 : Int32))) + (1 : Int32)) + (((p3.toUInt32 >>> ((1 : Int32) &&& 31).toUInt32).toInt32) % (((own_lo ((((p2.toUInt32 >>> ((8 : Int32) &&& 31).toUInt32).toInt32) % (15 : Int32)) + (1 : Int32))) - (own_hi (((p2.toUInt32 >>> ((8 : Int32) &&& 31).toUInt32).toInt32) % (15 : Int32)))) - (1 : Int32)))))] [])) _
    refine XS.iconst X37.here hx rfl (hb hby at_161) ?_
    show Steps p.tables e below (T37.setTop (mkF m 162 #[.val (.int p1), .val (.int p2), .val (.int p3), .val (.ref rr1), .val (.ref rr4), .val (.int ((p2 &&& (2147483647 : Int32)) % (16 : Int32))), .val (.int (((own_hi ((p2 &&& (2147483647 : Int32)) % (16 : Int32))) - (own_lo ((p2 &&& (2147483647 : Int32)) % (16 : Int32)))) + (1 : Int32))), .val (.int ((own_lo ((p2 &&& (2147483647 : Int32)) % (16 : Int32))) + ((p3 &&& (2147483647 : Int32)) % (((own_hi ((p2 &&& (2147483647 : Int32)) % (16 : Int32))) - (own_lo ((p2 &&& (2147483647 : Int32)) % (16 : Int32)))) + (1 : Int32))))), .val (.int (1 : Int32)), .val (.int (((p2.toUInt32 >>> ((8 : Int32) &&& 31).toUInt32).toInt32) % (15 : Int32))), .val (.int (((own_lo ((((p2.toUInt32 >>> ((8 : Int32) &&& 31).toUInt32).toInt32) % (15 : Int32)) + (1 : Int32))) - (own_hi (((p2.toUInt32 >>> ((8 : Int32) &&& 31).toUInt32).toInt32) % (15 : Int32)))) - (1 : Int32))), .val (.int (((own_hi (((p2.toUInt32 >>> ((8 : Int32) &&& 31).toUInt32).toInt32) % (15 : Int32))) + (1 : Int32)) + (((p3.toUInt32 >>> ((1 : Int32) &&& 31).toUInt32).toInt32) % (((own_lo ((((p2.toUInt32 >>> ((8 : Int32) &&& 31).toUInt32).toInt32) % (15 : Int32)) + (1 : Int32))) - (own_hi (((p2.toUInt32 >>> ((8 : Int32) &&& 31).toUInt32).toInt32) % (15 : Int32)))) - (1 : Int32)))))] [(.int (1 : Int32))])) _
    refine XS.goto X37.here hx rfl (pc0 := 162) (pc' := 166) rfl (hb hby at_162) (by decide) (by decide) ?_
    show Steps p.tables e below (T37.setTop (mkF m 166 #[.val (.int p1), .val (.int p2), .val (.int p3), .val (.ref rr1), .val (.ref rr4), .val (.int ((p2 &&& (2147483647 : Int32)) % (16 : Int32))), .val (.int (((own_hi ((p2 &&& (2147483647 : Int32)) % (16 : Int32))) - (own_lo ((p2 &&& (2147483647 : Int32)) % (16 : Int32)))) + (1 : Int32))), .val (.int ((own_lo ((p2 &&& (2147483647 : Int32)) % (16 : Int32))) + ((p3 &&& (2147483647 : Int32)) % (((own_hi ((p2 &&& (2147483647 : Int32)) % (16 : Int32))) - (own_lo ((p2 &&& (2147483647 : Int32)) % (16 : Int32)))) + (1 : Int32))))), .val (.int (1 : Int32)), .val (.int (((p2.toUInt32 >>> ((8 : Int32) &&& 31).toUInt32).toInt32) % (15 : Int32))), .val (.int (((own_lo ((((p2.toUInt32 >>> ((8 : Int32) &&& 31).toUInt32).toInt32) % (15 : Int32)) + (1 : Int32))) - (own_hi (((p2.toUInt32 >>> ((8 : Int32) &&& 31).toUInt32).toInt32) % (15 : Int32)))) - (1 : Int32))), .val (.int (((own_hi (((p2.toUInt32 >>> ((8 : Int32) &&& 31).toUInt32).toInt32) % (15 : Int32))) + (1 : Int32)) + (((p3.toUInt32 >>> ((1 : Int32) &&& 31).toUInt32).toInt32) % (((own_lo ((((p2.toUInt32 >>> ((8 : Int32) &&& 31).toUInt32).toInt32) % (15 : Int32)) + (1 : Int32))) - (own_hi (((p2.toUInt32 >>> ((8 : Int32) &&& 31).toUInt32).toInt32) % (15 : Int32)))) - (1 : Int32)))))] [(.int (1 : Int32))])) _
    refine XS.istore X37.here hx rfl (hb hby at_166) rfl (l' := #[.val (.int p1), .val (.int p2), .val (.int p3), .val (.ref rr1), .val (.ref rr4), .val (.int ((p2 &&& (2147483647 : Int32)) % (16 : Int32))), .val (.int (((own_hi ((p2 &&& (2147483647 : Int32)) % (16 : Int32))) - (own_lo ((p2 &&& (2147483647 : Int32)) % (16 : Int32)))) + (1 : Int32))), .val (.int ((own_lo ((p2 &&& (2147483647 : Int32)) % (16 : Int32))) + ((p3 &&& (2147483647 : Int32)) % (((own_hi ((p2 &&& (2147483647 : Int32)) % (16 : Int32))) - (own_lo ((p2 &&& (2147483647 : Int32)) % (16 : Int32)))) + (1 : Int32))))), .val (.int (1 : Int32)), .val (.int (((p2.toUInt32 >>> ((8 : Int32) &&& 31).toUInt32).toInt32) % (15 : Int32))), .val (.int (((own_lo ((((p2.toUInt32 >>> ((8 : Int32) &&& 31).toUInt32).toInt32) % (15 : Int32)) + (1 : Int32))) - (own_hi (((p2.toUInt32 >>> ((8 : Int32) &&& 31).toUInt32).toInt32) % (15 : Int32)))) - (1 : Int32))), .val (.int (((own_hi (((p2.toUInt32 >>> ((8 : Int32) &&& 31).toUInt32).toInt32) % (15 : Int32))) + (1 : Int32)) + (((p3.toUInt32 >>> ((1 : Int32) &&& 31).toUInt32).toInt32) % (((own_lo ((((p2.toUInt32 >>> ((8 : Int32) &&& 31).toUInt32).toInt32) % (15 : Int32)) + (1 : Int32))) - (own_hi (((p2.toUInt32 >>> ((8 : Int32) &&& 31).toUInt32).toInt32) % (15 : Int32)))) - (1 : Int32)))))]) rfl ?_
    show Steps p.tables e below (T37.setTop (mkF m 168 #[.val (.int p1), .val (.int p2), .val (.int p3), .val (.ref rr1), .val (.ref rr4), .val (.int ((p2 &&& (2147483647 : Int32)) % (16 : Int32))), .val (.int (((own_hi ((p2 &&& (2147483647 : Int32)) % (16 : Int32))) - (own_lo ((p2 &&& (2147483647 : Int32)) % (16 : Int32)))) + (1 : Int32))), .val (.int ((own_lo ((p2 &&& (2147483647 : Int32)) % (16 : Int32))) + ((p3 &&& (2147483647 : Int32)) % (((own_hi ((p2 &&& (2147483647 : Int32)) % (16 : Int32))) - (own_lo ((p2 &&& (2147483647 : Int32)) % (16 : Int32)))) + (1 : Int32))))), .val (.int (1 : Int32)), .val (.int (((p2.toUInt32 >>> ((8 : Int32) &&& 31).toUInt32).toInt32) % (15 : Int32))), .val (.int (((own_lo ((((p2.toUInt32 >>> ((8 : Int32) &&& 31).toUInt32).toInt32) % (15 : Int32)) + (1 : Int32))) - (own_hi (((p2.toUInt32 >>> ((8 : Int32) &&& 31).toUInt32).toInt32) % (15 : Int32)))) - (1 : Int32))), .val (.int (((own_hi (((p2.toUInt32 >>> ((8 : Int32) &&& 31).toUInt32).toInt32) % (15 : Int32))) + (1 : Int32)) + (((p3.toUInt32 >>> ((1 : Int32) &&& 31).toUInt32).toInt32) % (((own_lo ((((p2.toUInt32 >>> ((8 : Int32) &&& 31).toUInt32).toInt32) % (15 : Int32)) + (1 : Int32))) - (own_hi (((p2.toUInt32 >>> ((8 : Int32) &&& 31).toUInt32).toInt32) % (15 : Int32)))) - (1 : Int32)))))] [])) _
    refine XS.iloadN X37.here hx rfl (hb hby at_168) rfl ?_
    show Steps p.tables e below (T37.setTop (mkF m 169 #[.val (.int p1), .val (.int p2), .val (.int p3), .val (.ref rr1), .val (.ref rr4), .val (.int ((p2 &&& (2147483647 : Int32)) % (16 : Int32))), .val (.int (((own_hi ((p2 &&& (2147483647 : Int32)) % (16 : Int32))) - (own_lo ((p2 &&& (2147483647 : Int32)) % (16 : Int32)))) + (1 : Int32))), .val (.int ((own_lo ((p2 &&& (2147483647 : Int32)) % (16 : Int32))) + ((p3 &&& (2147483647 : Int32)) % (((own_hi ((p2 &&& (2147483647 : Int32)) % (16 : Int32))) - (own_lo ((p2 &&& (2147483647 : Int32)) % (16 : Int32)))) + (1 : Int32))))), .val (.int (1 : Int32)), .val (.int (((p2.toUInt32 >>> ((8 : Int32) &&& 31).toUInt32).toInt32) % (15 : Int32))), .val (.int (((own_lo ((((p2.toUInt32 >>> ((8 : Int32) &&& 31).toUInt32).toInt32) % (15 : Int32)) + (1 : Int32))) - (own_hi (((p2.toUInt32 >>> ((8 : Int32) &&& 31).toUInt32).toInt32) % (15 : Int32)))) - (1 : Int32))), .val (.int (((own_hi (((p2.toUInt32 >>> ((8 : Int32) &&& 31).toUInt32).toInt32) % (15 : Int32))) + (1 : Int32)) + (((p3.toUInt32 >>> ((1 : Int32) &&& 31).toUInt32).toInt32) % (((own_lo ((((p2.toUInt32 >>> ((8 : Int32) &&& 31).toUInt32).toInt32) % (15 : Int32)) + (1 : Int32))) - (own_hi (((p2.toUInt32 >>> ((8 : Int32) &&& 31).toUInt32).toInt32) % (15 : Int32)))) - (1 : Int32)))))] [(.int p1)])) _
    refine XS.bipush X37.here hx rfl (hb hby at_169) ?_
    exact k
  have ch39 : ∀ t, Steps p.tables e below (T37.setTop (mkF m 171 #[.val (.int p1), .val (.int p2), .val (.int p3), .val (.ref rr1), .val (.ref rr4), .val (.int ((p2 &&& (2147483647 : Int32)) % (16 : Int32))), .val (.int (((own_hi ((p2 &&& (2147483647 : Int32)) % (16 : Int32))) - (own_lo ((p2 &&& (2147483647 : Int32)) % (16 : Int32)))) + (1 : Int32))), .val (.int ((own_lo ((p2 &&& (2147483647 : Int32)) % (16 : Int32))) + ((p3 &&& (2147483647 : Int32)) % (((own_hi ((p2 &&& (2147483647 : Int32)) % (16 : Int32))) - (own_lo ((p2 &&& (2147483647 : Int32)) % (16 : Int32)))) + (1 : Int32))))), .val (.int (1 : Int32)), .val (.int (((p2.toUInt32 >>> ((8 : Int32) &&& 31).toUInt32).toInt32) % (15 : Int32))), .val (.int (((own_lo ((((p2.toUInt32 >>> ((8 : Int32) &&& 31).toUInt32).toInt32) % (15 : Int32)) + (1 : Int32))) - (own_hi (((p2.toUInt32 >>> ((8 : Int32) &&& 31).toUInt32).toInt32) % (15 : Int32)))) - (1 : Int32))), .val (.int (((own_hi (((p2.toUInt32 >>> ((8 : Int32) &&& 31).toUInt32).toInt32) % (15 : Int32))) + (1 : Int32)) + (((p3.toUInt32 >>> ((1 : Int32) &&& 31).toUInt32).toInt32) % (((own_lo ((((p2.toUInt32 >>> ((8 : Int32) &&& 31).toUInt32).toInt32) % (15 : Int32)) + (1 : Int32))) - (own_hi (((p2.toUInt32 >>> ((8 : Int32) &&& 31).toUInt32).toInt32) % (15 : Int32)))) - (1 : Int32)))))] [(.int (58 : Int32)), (.int p1)])) t → Steps p.tables e below (s₁.setTop (mkF m 0 #[.val (.int p1), .val (.int p2), .val (.int p3), .unset, .unset, .unset, .unset, .unset, .unset, .unset, .unset, .unset] [])) t := by
    intro t k
    refine st1 _ ?_
    show Steps p.tables e below (T1.setTop (mkF m 3 #[.val (.int p1), .val (.int p2), .val (.int p3), .unset, .unset, .unset, .unset, .unset, .unset, .unset, .unset, .unset] [(.ref rr1)])) _
    refine sg3 _ ?_
    show Steps p.tables e below (T1.setTop (mkF m 4 #[.val (.int p1), .val (.int p2), .val (.int p3), .val (.ref rr1), .unset, .unset, .unset, .unset, .unset, .unset, .unset, .unset] [])) _
    refine st4 _ ?_
    show Steps p.tables e below (T4.setTop (mkF m 7 #[.val (.int p1), .val (.int p2), .val (.int p3), .val (.ref rr1), .unset, .unset, .unset, .unset, .unset, .unset, .unset, .unset] [(.ref rr4)])) _
    refine sg8 _ ?_
    show Steps p.tables e below (T4.setTop (mkF m 22 #[.val (.int p1), .val (.int p2), .val (.int p3), .val (.ref rr1), .val (.ref rr4), .val (.int ((p2 &&& (2147483647 : Int32)) % (16 : Int32))), .unset, .unset, .unset, .unset, .unset, .unset] [(.int ((p2 &&& (2147483647 : Int32)) % (16 : Int32))), (.ref rr4)])) _
    refine st9 _ ?_
    show Steps p.tables e below (T4.setTop (mkF m 23 #[.val (.int p1), .val (.int p2), .val (.int p3), .val (.ref rr1), .val (.ref rr4), .val (.int ((p2 &&& (2147483647 : Int32)) % (16 : Int32))), .unset, .unset, .unset, .unset, .unset, .unset] [(.int (own_hi ((p2 &&& (2147483647 : Int32)) % (16 : Int32))))])) _
    refine sg10 _ ?_
    show Steps p.tables e below (T4.setTop (mkF m 26 #[.val (.int p1), .val (.int p2), .val (.int p3), .val (.ref rr1), .val (.ref rr4), .val (.int ((p2 &&& (2147483647 : Int32)) % (16 : Int32))), .unset, .unset, .unset, .unset, .unset, .unset] [(.int ((p2 &&& (2147483647 : Int32)) % (16 : Int32))), (.ref rr1), (.int (own_hi ((p2 &&& (2147483647 : Int32)) % (16 : Int32))))])) _
    refine st11 _ ?_
    show Steps p.tables e below (T4.setTop (mkF m 27 #[.val (.int p1), .val (.int p2), .val (.int p3), .val (.ref rr1), .val (.ref rr4), .val (.int ((p2 &&& (2147483647 : Int32)) % (16 : Int32))), .unset, .unset, .unset, .unset, .unset, .unset] [(.int (own_lo ((p2 &&& (2147483647 : Int32)) % (16 : Int32)))), (.int (own_hi ((p2 &&& (2147483647 : Int32)) % (16 : Int32))))])) _
    refine sg12 _ ?_
    show Steps p.tables e below (T4.setTop (mkF m 35 #[.val (.int p1), .val (.int p2), .val (.int p3), .val (.ref rr1), .val (.ref rr4), .val (.int ((p2 &&& (2147483647 : Int32)) % (16 : Int32))), .val (.int (((own_hi ((p2 &&& (2147483647 : Int32)) % (16 : Int32))) - (own_lo ((p2 &&& (2147483647 : Int32)) % (16 : Int32)))) + (1 : Int32))), .unset, .unset, .unset, .unset, .unset] [(.int ((p2 &&& (2147483647 : Int32)) % (16 : Int32))), (.ref rr1)])) _
    refine st13 _ ?_
    show Steps p.tables e below (T4.setTop (mkF m 36 #[.val (.int p1), .val (.int p2), .val (.int p3), .val (.ref rr1), .val (.ref rr4), .val (.int ((p2 &&& (2147483647 : Int32)) % (16 : Int32))), .val (.int (((own_hi ((p2 &&& (2147483647 : Int32)) % (16 : Int32))) - (own_lo ((p2 &&& (2147483647 : Int32)) % (16 : Int32)))) + (1 : Int32))), .unset, .unset, .unset, .unset, .unset] [(.int (own_lo ((p2 &&& (2147483647 : Int32)) % (16 : Int32))))])) _
    refine sg14 _ ?_
    show Steps p.tables e below (T4.setTop (mkF m 49 #[.val (.int p1), .val (.int p2), .val (.int p3), .val (.ref rr1), .val (.ref rr4), .val (.int ((p2 &&& (2147483647 : Int32)) % (16 : Int32))), .val (.int (((own_hi ((p2 &&& (2147483647 : Int32)) % (16 : Int32))) - (own_lo ((p2 &&& (2147483647 : Int32)) % (16 : Int32)))) + (1 : Int32))), .val (.int ((own_lo ((p2 &&& (2147483647 : Int32)) % (16 : Int32))) + ((p3 &&& (2147483647 : Int32)) % (((own_hi ((p2 &&& (2147483647 : Int32)) % (16 : Int32))) - (own_lo ((p2 &&& (2147483647 : Int32)) % (16 : Int32)))) + (1 : Int32))))), .unset, .unset, .unset, .unset] [(.int ((p2 &&& (2147483647 : Int32)) % (16 : Int32))), (.ref rr1)])) _
    refine st15 _ ?_
    show Steps p.tables e below (T4.setTop (mkF m 50 #[.val (.int p1), .val (.int p2), .val (.int p3), .val (.ref rr1), .val (.ref rr4), .val (.int ((p2 &&& (2147483647 : Int32)) % (16 : Int32))), .val (.int (((own_hi ((p2 &&& (2147483647 : Int32)) % (16 : Int32))) - (own_lo ((p2 &&& (2147483647 : Int32)) % (16 : Int32)))) + (1 : Int32))), .val (.int ((own_lo ((p2 &&& (2147483647 : Int32)) % (16 : Int32))) + ((p3 &&& (2147483647 : Int32)) % (((own_hi ((p2 &&& (2147483647 : Int32)) % (16 : Int32))) - (own_lo ((p2 &&& (2147483647 : Int32)) % (16 : Int32)))) + (1 : Int32))))), .unset, .unset, .unset, .unset] [(.int (own_lo ((p2 &&& (2147483647 : Int32)) % (16 : Int32))))])) _
    refine st16 _ ?_
    show Steps p.tables e below (T16.setTop (mkF m 53 #[.val (.int p1), .val (.int p2), .val (.int p3), .val (.ref rr1), .val (.ref rr4), .val (.int ((p2 &&& (2147483647 : Int32)) % (16 : Int32))), .val (.int (((own_hi ((p2 &&& (2147483647 : Int32)) % (16 : Int32))) - (own_lo ((p2 &&& (2147483647 : Int32)) % (16 : Int32)))) + (1 : Int32))), .val (.int ((own_lo ((p2 &&& (2147483647 : Int32)) % (16 : Int32))) + ((p3 &&& (2147483647 : Int32)) % (((own_hi ((p2 &&& (2147483647 : Int32)) % (16 : Int32))) - (own_lo ((p2 &&& (2147483647 : Int32)) % (16 : Int32)))) + (1 : Int32))))), .unset, .unset, .unset, .unset] [(.int (fN (own_lo ((p2 &&& (2147483647 : Int32)) % (16 : Int32)))))])) _
    refine sg17 _ ?_
    show Steps p.tables e below (T16.setTop (mkF m 60 #[.val (.int p1), .val (.int p2), .val (.int p3), .val (.ref rr1), .val (.ref rr4), .val (.int ((p2 &&& (2147483647 : Int32)) % (16 : Int32))), .val (.int (((own_hi ((p2 &&& (2147483647 : Int32)) % (16 : Int32))) - (own_lo ((p2 &&& (2147483647 : Int32)) % (16 : Int32)))) + (1 : Int32))), .val (.int ((own_lo ((p2 &&& (2147483647 : Int32)) % (16 : Int32))) + ((p3 &&& (2147483647 : Int32)) % (((own_hi ((p2 &&& (2147483647 : Int32)) % (16 : Int32))) - (own_lo ((p2 &&& (2147483647 : Int32)) % (16 : Int32)))) + (1 : Int32))))), .unset, .unset, .unset, .unset] [(.int ((p2 &&& (2147483647 : Int32)) % (16 : Int32))), (.ref rr4)])) _
    refine st18 _ ?_
    show Steps p.tables e below (T16.setTop (mkF m 61 #[.val (.int p1), .val (.int p2), .val (.int p3), .val (.ref rr1), .val (.ref rr4), .val (.int ((p2 &&& (2147483647 : Int32)) % (16 : Int32))), .val (.int (((own_hi ((p2 &&& (2147483647 : Int32)) % (16 : Int32))) - (own_lo ((p2 &&& (2147483647 : Int32)) % (16 : Int32)))) + (1 : Int32))), .val (.int ((own_lo ((p2 &&& (2147483647 : Int32)) % (16 : Int32))) + ((p3 &&& (2147483647 : Int32)) % (((own_hi ((p2 &&& (2147483647 : Int32)) % (16 : Int32))) - (own_lo ((p2 &&& (2147483647 : Int32)) % (16 : Int32)))) + (1 : Int32))))), .unset, .unset, .unset, .unset] [(.int (own_hi ((p2 &&& (2147483647 : Int32)) % (16 : Int32))))])) _
    refine st19 _ ?_
    show Steps p.tables e below (T19.setTop (mkF m 64 #[.val (.int p1), .val (.int p2), .val (.int p3), .val (.ref rr1), .val (.ref rr4), .val (.int ((p2 &&& (2147483647 : Int32)) % (16 : Int32))), .val (.int (((own_hi ((p2 &&& (2147483647 : Int32)) % (16 : Int32))) - (own_lo ((p2 &&& (2147483647 : Int32)) % (16 : Int32)))) + (1 : Int32))), .val (.int ((own_lo ((p2 &&& (2147483647 : Int32)) % (16 : Int32))) + ((p3 &&& (2147483647 : Int32)) % (((own_hi ((p2 &&& (2147483647 : Int32)) % (16 : Int32))) - (own_lo ((p2 &&& (2147483647 : Int32)) % (16 : Int32)))) + (1 : Int32))))), .unset, .unset, .unset, .unset] [(.int (fN (own_hi ((p2 &&& (2147483647 : Int32)) % (16 : Int32)))))])) _
    refine sg20 _ ?_
    show Steps p.tables e below (T19.setTop (mkF m 69 #[.val (.int p1), .val (.int p2), .val (.int p3), .val (.ref rr1), .val (.ref rr4), .val (.int ((p2 &&& (2147483647 : Int32)) % (16 : Int32))), .val (.int (((own_hi ((p2 &&& (2147483647 : Int32)) % (16 : Int32))) - (own_lo ((p2 &&& (2147483647 : Int32)) % (16 : Int32)))) + (1 : Int32))), .val (.int ((own_lo ((p2 &&& (2147483647 : Int32)) % (16 : Int32))) + ((p3 &&& (2147483647 : Int32)) % (((own_hi ((p2 &&& (2147483647 : Int32)) % (16 : Int32))) - (own_lo ((p2 &&& (2147483647 : Int32)) % (16 : Int32)))) + (1 : Int32))))), .unset, .unset, .unset, .unset] [(.int ((own_lo ((p2 &&& (2147483647 : Int32)) % (16 : Int32))) + ((p3 &&& (2147483647 : Int32)) % (((own_hi ((p2 &&& (2147483647 : Int32)) % (16 : Int32))) - (own_lo ((p2 &&& (2147483647 : Int32)) % (16 : Int32)))) + (1 : Int32)))))])) _
    refine st21 _ ?_
    show Steps p.tables e below (T21.setTop (mkF m 72 #[.val (.int p1), .val (.int p2), .val (.int p3), .val (.ref rr1), .val (.ref rr4), .val (.int ((p2 &&& (2147483647 : Int32)) % (16 : Int32))), .val (.int (((own_hi ((p2 &&& (2147483647 : Int32)) % (16 : Int32))) - (own_lo ((p2 &&& (2147483647 : Int32)) % (16 : Int32)))) + (1 : Int32))), .val (.int ((own_lo ((p2 &&& (2147483647 : Int32)) % (16 : Int32))) + ((p3 &&& (2147483647 : Int32)) % (((own_hi ((p2 &&& (2147483647 : Int32)) % (16 : Int32))) - (own_lo ((p2 &&& (2147483647 : Int32)) % (16 : Int32)))) + (1 : Int32))))), .unset, .unset, .unset, .unset] [(.int (fN ((own_lo ((p2 &&& (2147483647 : Int32)) % (16 : Int32))) + ((p3 &&& (2147483647 : Int32)) % (((own_hi ((p2 &&& (2147483647 : Int32)) % (16 : Int32))) - (own_lo ((p2 &&& (2147483647 : Int32)) % (16 : Int32)))) + (1 : Int32))))))])) _
    refine sg22 _ ?_
    show Steps p.tables e below (T21.setTop (mkF m 78 #[.val (.int p1), .val (.int p2), .val (.int p3), .val (.ref rr1), .val (.ref rr4), .val (.int ((p2 &&& (2147483647 : Int32)) % (16 : Int32))), .val (.int (((own_hi ((p2 &&& (2147483647 : Int32)) % (16 : Int32))) - (own_lo ((p2 &&& (2147483647 : Int32)) % (16 : Int32)))) + (1 : Int32))), .val (.int ((own_lo ((p2 &&& (2147483647 : Int32)) % (16 : Int32))) + ((p3 &&& (2147483647 : Int32)) % (((own_hi ((p2 &&& (2147483647 : Int32)) % (16 : Int32))) - (own_lo ((p2 &&& (2147483647 : Int32)) % (16 : Int32)))) + (1 : Int32))))), .unset, .unset, .unset, .unset] [(.int ((p2 &&& (2147483647 : Int32)) % (16 : Int32))), (.ref rr1)])) _
    refine st23 _ ?_
    show Steps p.tables e below (T21.setTop (mkF m 79 #[.val (.int p1), .val (.int p2), .val (.int p3), .val (.ref rr1), .val (.ref rr4), .val (.int ((p2 &&& (2147483647 : Int32)) % (16 : Int32))), .val (.int (((own_hi ((p2 &&& (2147483647 : Int32)) % (16 : Int32))) - (own_lo ((p2 &&& (2147483647 : Int32)) % (16 : Int32)))) + (1 : Int32))), .val (.int ((own_lo ((p2 &&& (2147483647 : Int32)) % (16 : Int32))) + ((p3 &&& (2147483647 : Int32)) % (((own_hi ((p2 &&& (2147483647 : Int32)) % (16 : Int32))) - (own_lo ((p2 &&& (2147483647 : Int32)) % (16 : Int32)))) + (1 : Int32))))), .unset, .unset, .unset, .unset] [(.int (own_lo ((p2 &&& (2147483647 : Int32)) % (16 : Int32))))])) _
    refine sg24 _ ?_
    show Steps p.tables e below (T21.setTop (mkF m 81 #[.val (.int p1), .val (.int p2), .val (.int p3), .val (.ref rr1), .val (.ref rr4), .val (.int ((p2 &&& (2147483647 : Int32)) % (16 : Int32))), .val (.int (((own_hi ((p2 &&& (2147483647 : Int32)) % (16 : Int32))) - (own_lo ((p2 &&& (2147483647 : Int32)) % (16 : Int32)))) + (1 : Int32))), .val (.int ((own_lo ((p2 &&& (2147483647 : Int32)) % (16 : Int32))) + ((p3 &&& (2147483647 : Int32)) % (((own_hi ((p2 &&& (2147483647 : Int32)) % (16 : Int32))) - (own_lo ((p2 &&& (2147483647 : Int32)) % (16 : Int32)))) + (1 : Int32))))), .unset, .unset, .unset, .unset] [(.int ((own_lo ((p2 &&& (2147483647 : Int32)) % (16 : Int32))) - (1 : Int32)))])) _
    refine st25 _ ?_
    show Steps p.tables e below (T25.setTop (mkF m 84 #[.val (.int p1), .val (.int p2), .val (.int p3), .val (.ref rr1), .val (.ref rr4), .val (.int ((p2 &&& (2147483647 : Int32)) % (16 : Int32))), .val (.int (((own_hi ((p2 &&& (2147483647 : Int32)) % (16 : Int32))) - (own_lo ((p2 &&& (2147483647 : Int32)) % (16 : Int32)))) + (1 : Int32))), .val (.int ((own_lo ((p2 &&& (2147483647 : Int32)) % (16 : Int32))) + ((p3 &&& (2147483647 : Int32)) % (((own_hi ((p2 &&& (2147483647 : Int32)) % (16 : Int32))) - (own_lo ((p2 &&& (2147483647 : Int32)) % (16 : Int32)))) + (1 : Int32))))), .unset, .unset, .unset, .unset] [(.int (fN ((own_lo ((p2 &&& (2147483647 : Int32)) % (16 : Int32))) - (1 : Int32))))])) _
    refine sg26 _ ?_
    show Steps p.tables e below (T25.setTop (mkF m 91 #[.val (.int p1), .val (.int p2), .val (.int p3), .val (.ref rr1), .val (.ref rr4), .val (.int ((p2 &&& (2147483647 : Int32)) % (16 : Int32))), .val (.int (((own_hi ((p2 &&& (2147483647 : Int32)) % (16 : Int32))) - (own_lo ((p2 &&& (2147483647 : Int32)) % (16 : Int32)))) + (1 : Int32))), .val (.int ((own_lo ((p2 &&& (2147483647 : Int32)) % (16 : Int32))) + ((p3 &&& (2147483647 : Int32)) % (((own_hi ((p2 &&& (2147483647 : Int32)) % (16 : Int32))) - (own_lo ((p2 &&& (2147483647 : Int32)) % (16 : Int32)))) + (1 : Int32))))), .unset, .unset, .unset, .unset] [(.int ((p2 &&& (2147483647 : Int32)) % (16 : Int32))), (.ref rr4)])) _
    refine st27 _ ?_
    show Steps p.tables e below (T25.setTop (mkF m 92 #[.val (.int p1), .val (.int p2), .val (.int p3), .val (.ref rr1), .val (.ref rr4), .val (.int ((p2 &&& (2147483647 : Int32)) % (16 : Int32))), .val (.int (((own_hi ((p2 &&& (2147483647 : Int32)) % (16 : Int32))) - (own_lo ((p2 &&& (2147483647 : Int32)) % (16 : Int32)))) + (1 : Int32))), .val (.int ((own_lo ((p2 &&& (2147483647 : Int32)) % (16 : Int32))) + ((p3 &&& (2147483647 : Int32)) % (((own_hi ((p2 &&& (2147483647 : Int32)) % (16 : Int32))) - (own_lo ((p2 &&& (2147483647 : Int32)) % (16 : Int32)))) + (1 : Int32))))), .unset, .unset, .unset, .unset] [(.int (own_hi ((p2 &&& (2147483647 : Int32)) % (16 : Int32))))])) _
    refine sg28 _ ?_
    show Steps p.tables e below (T25.setTop (mkF m 94 #[.val (.int p1), .val (.int p2), .val (.int p3), .val (.ref rr1), .val (.ref rr4), .val (.int ((p2 &&& (2147483647 : Int32)) % (16 : Int32))), .val (.int (((own_hi ((p2 &&& (2147483647 : Int32)) % (16 : Int32))) - (own_lo ((p2 &&& (2147483647 : Int32)) % (16 : Int32)))) + (1 : Int32))), .val (.int ((own_lo ((p2 &&& (2147483647 : Int32)) % (16 : Int32))) + ((p3 &&& (2147483647 : Int32)) % (((own_hi ((p2 &&& (2147483647 : Int32)) % (16 : Int32))) - (own_lo ((p2 &&& (2147483647 : Int32)) % (16 : Int32)))) + (1 : Int32))))), .unset, .unset, .unset, .unset] [(.int ((own_hi ((p2 &&& (2147483647 : Int32)) % (16 : Int32))) + (1 : Int32)))])) _
    refine st29 _ ?_
    show Steps p.tables e below (T29.setTop (mkF m 97 #[.val (.int p1), .val (.int p2), .val (.int p3), .val (.ref rr1), .val (.ref rr4), .val (.int ((p2 &&& (2147483647 : Int32)) % (16 : Int32))), .val (.int (((own_hi ((p2 &&& (2147483647 : Int32)) % (16 : Int32))) - (own_lo ((p2 &&& (2147483647 : Int32)) % (16 : Int32)))) + (1 : Int32))), .val (.int ((own_lo ((p2 &&& (2147483647 : Int32)) % (16 : Int32))) + ((p3 &&& (2147483647 : Int32)) % (((own_hi ((p2 &&& (2147483647 : Int32)) % (16 : Int32))) - (own_lo ((p2 &&& (2147483647 : Int32)) % (16 : Int32)))) + (1 : Int32))))), .unset, .unset, .unset, .unset] [(.int (fN ((own_hi ((p2 &&& (2147483647 : Int32)) % (16 : Int32))) + (1 : Int32))))])) _
    refine sg30 _ ?_
    show Steps p.tables e below (T29.setTop (mkF m 121 #[.val (.int p1), .val (.int p2), .val (.int p3), .val (.ref rr1), .val (.ref rr4), .val (.int ((p2 &&& (2147483647 : Int32)) % (16 : Int32))), .val (.int (((own_hi ((p2 &&& (2147483647 : Int32)) % (16 : Int32))) - (own_lo ((p2 &&& (2147483647 : Int32)) % (16 : Int32)))) + (1 : Int32))), .val (.int ((own_lo ((p2 &&& (2147483647 : Int32)) % (16 : Int32))) + ((p3 &&& (2147483647 : Int32)) % (((own_hi ((p2 &&& (2147483647 : Int32)) % (16 : Int32))) - (own_lo ((p2 &&& (2147483647 : Int32)) % (16 : Int32)))) + (1 : Int32))))), .val (.int (1 : Int32)), .val (.int (((p2.toUInt32 >>> ((8 : Int32) &&& 31).toUInt32).toInt32) % (15 : Int32))), .unset, .unset] [(.int ((((p2.toUInt32 >>> ((8 : Int32) &&& 31).toUInt32).toInt32) % (15 : Int32)) + (1 : Int32))), (.ref rr1)])) _
    refine st31 _ ?_
    show Steps p.tables e below (T29.setTop (mkF m 122 #[.val (.int p1), .val (.int p2), .val (.int p3), .val (.ref rr1), .val (.ref rr4), .val (.int ((p2 &&& (2147483647 : Int32)) % (16 : Int32))), .val (.int (((own_hi ((p2 &&& (2147483647 : Int32)) % (16 : Int32))) - (own_lo ((p2 &&& (2147483647 : Int32)) % (16 : Int32)))) + (1 : Int32))), .val (.int ((own_lo ((p2 &&& (2147483647 : Int32)) % (16 : Int32))) + ((p3 &&& (2147483647 : Int32)) % (((own_hi ((p2 &&& (2147483647 : Int32)) % (16 : Int32))) - (own_lo ((p2 &&& (2147483647 : Int32)) % (16 : Int32)))) + (1 : Int32))))), .val (.int (1 : Int32)), .val (.int (((p2.toUInt32 >>> ((8 : Int32) &&& 31).toUInt32).toInt32) % (15 : Int32))), .unset, .unset] [(.int (own_lo ((((p2.toUInt32 >>> ((8 : Int32) &&& 31).toUInt32).toInt32) % (15 : Int32)) + (1 : Int32))))])) _
    refine sg32 _ ?_
    show Steps p.tables e below (T29.setTop (mkF m 126 #[.val (.int p1), .val (.int p2), .val (.int p3), .val (.ref rr1), .val (.ref rr4), .val (.int ((p2 &&& (2147483647 : Int32)) % (16 : Int32))), .val (.int (((own_hi ((p2 &&& (2147483647 : Int32)) % (16 : Int32))) - (own_lo ((p2 &&& (2147483647 : Int32)) % (16 : Int32)))) + (1 : Int32))), .val (.int ((own_lo ((p2 &&& (2147483647 : Int32)) % (16 : Int32))) + ((p3 &&& (2147483647 : Int32)) % (((own_hi ((p2 &&& (2147483647 : Int32)) % (16 : Int32))) - (own_lo ((p2 &&& (2147483647 : Int32)) % (16 : Int32)))) + (1 : Int32))))), .val (.int (1 : Int32)), .val (.int (((p2.toUInt32 >>> ((8 : Int32) &&& 31).toUInt32).toInt32) % (15 : Int32))), .unset, .unset] [(.int (((p2.toUInt32 >>> ((8 : Int32) &&& 31).toUInt32).toInt32) % (15 : Int32))), (.ref rr4), (.int (own_lo ((((p2.toUInt32 >>> ((8 : Int32) &&& 31).toUInt32).toInt32) % (15 : Int32)) + (1 : Int32))))])) _
    refine st33 _ ?_
    show Steps p.tables e below (T29.setTop (mkF m 127 #[.val (.int p1), .val (.int p2), .val (.int p3), .val (.ref rr1), .val (.ref rr4), .val (.int ((p2 &&& (2147483647 : Int32)) % (16 : Int32))), .val (.int (((own_hi ((p2 &&& (2147483647 : Int32)) % (16 : Int32))) - (own_lo ((p2 &&& (2147483647 : Int32)) % (16 : Int32)))) + (1 : Int32))), .val (.int ((own_lo ((p2 &&& (2147483647 : Int32)) % (16 : Int32))) + ((p3 &&& (2147483647 : Int32)) % (((own_hi ((p2 &&& (2147483647 : Int32)) % (16 : Int32))) - (own_lo ((p2 &&& (2147483647 : Int32)) % (16 : Int32)))) + (1 : Int32))))), .val (.int (1 : Int32)), .val (.int (((p2.toUInt32 >>> ((8 : Int32) &&& 31).toUInt32).toInt32) % (15 : Int32))), .unset, .unset] [(.int (own_hi (((p2.toUInt32 >>> ((8 : Int32) &&& 31).toUInt32).toInt32) % (15 : Int32)))), (.int (own_lo ((((p2.toUInt32 >>> ((8 : Int32) &&& 31).toUInt32).toInt32) % (15 : Int32)) + (1 : Int32))))])) _
    refine sg34 _ ?_
    show Steps p.tables e below (T29.setTop (mkF m 136 #[.val (.int p1), .val (.int p2), .val (.int p3), .val (.ref rr1), .val (.ref rr4), .val (.int ((p2 &&& (2147483647 : Int32)) % (16 : Int32))), .val (.int (((own_hi ((p2 &&& (2147483647 : Int32)) % (16 : Int32))) - (own_lo ((p2 &&& (2147483647 : Int32)) % (16 : Int32)))) + (1 : Int32))), .val (.int ((own_lo ((p2 &&& (2147483647 : Int32)) % (16 : Int32))) + ((p3 &&& (2147483647 : Int32)) % (((own_hi ((p2 &&& (2147483647 : Int32)) % (16 : Int32))) - (own_lo ((p2 &&& (2147483647 : Int32)) % (16 : Int32)))) + (1 : Int32))))), .val (.int (1 : Int32)), .val (.int (((p2.toUInt32 >>> ((8 : Int32) &&& 31).toUInt32).toInt32) % (15 : Int32))), .val (.int (((own_lo ((((p2.toUInt32 >>> ((8 : Int32) &&& 31).toUInt32).toInt32) % (15 : Int32)) + (1 : Int32))) - (own_hi (((p2.toUInt32 >>> ((8 : Int32) &&& 31).toUInt32).toInt32) % (15 : Int32)))) - (1 : Int32))), .unset] [(.int (((p2.toUInt32 >>> ((8 : Int32) &&& 31).toUInt32).toInt32) % (15 : Int32))), (.ref rr4)])) _
    refine st35 _ ?_
    show Steps p.tables e below (T29.setTop (mkF m 137 #[.val (.int p1), .val (.int p2), .val (.int p3), .val (.ref rr1), .val (.ref rr4), .val (.int ((p2 &&& (2147483647 : Int32)) % (16 : Int32))), .val (.int (((own_hi ((p2 &&& (2147483647 : Int32)) % (16 : Int32))) - (own_lo ((p2 &&& (2147483647 : Int32)) % (16 : Int32)))) + (1 : Int32))), .val (.int ((own_lo ((p2 &&& (2147483647 : Int32)) % (16 : Int32))) + ((p3 &&& (2147483647 : Int32)) % (((own_hi ((p2 &&& (2147483647 : Int32)) % (16 : Int32))) - (own_lo ((p2 &&& (2147483647 : Int32)) % (16 : Int32)))) + (1 : Int32))))), .val (.int (1 : Int32)), .val (.int (((p2.toUInt32 >>> ((8 : Int32) &&& 31).toUInt32).toInt32) % (15 : Int32))), .val (.int (((own_lo ((((p2.toUInt32 >>> ((8 : Int32) &&& 31).toUInt32).toInt32) % (15 : Int32)) + (1 : Int32))) - (own_hi (((p2.toUInt32 >>> ((8 : Int32) &&& 31).toUInt32).toInt32) % (15 : Int32)))) - (1 : Int32))), .unset] [(.int (own_hi (((p2.toUInt32 >>> ((8 : Int32) &&& 31).toUInt32).toInt32) % (15 : Int32))))])) _
    refine sg36 _ ?_
    show Steps p.tables e below (T29.setTop (mkF m 155 #[.val (.int p1), .val (.int p2), .val (.int p3), .val (.ref rr1), .val (.ref rr4), .val (.int ((p2 &&& (2147483647 : Int32)) % (16 : Int32))), .val (.int (((own_hi ((p2 &&& (2147483647 : Int32)) % (16 : Int32))) - (own_lo ((p2 &&& (2147483647 : Int32)) % (16 : Int32)))) + (1 : Int32))), .val (.int ((own_lo ((p2 &&& (2147483647 : Int32)) % (16 : Int32))) + ((p3 &&& (2147483647 : Int32)) % (((own_hi ((p2 &&& (2147483647 : Int32)) % (16 : Int32))) - (own_lo ((p2 &&& (2147483647 : Int32)) % (16 : Int32)))) + (1 : Int32))))), .val (.int (1 : Int32)), .val (.int (((p2.toUInt32 >>> ((8 : Int32) &&& 31).toUInt32).toInt32) % (15 : Int32))), .val (.int (((own_lo ((((p2.toUInt32 >>> ((8 : Int32) &&& 31).toUInt32).toInt32) % (15 : Int32)) + (1 : Int32))) - (own_hi (((p2.toUInt32 >>> ((8 : Int32) &&& 31).toUInt32).toInt32) % (15 : Int32)))) - (1 : Int32))), .val (.int (((own_hi (((p2.toUInt32 >>> ((8 : Int32) &&& 31).toUInt32).toInt32) % (15 : Int32))) + (1 : Int32)) + (((p3.toUInt32 >>> ((1 : Int32) &&& 31).toUInt32).toInt32) % (((own_lo ((((p2.toUInt32 >>> ((8 : Int32) &&& 31).toUInt32).toInt32) % (15 : Int32)) + (1 : Int32))) - (own_hi (((p2.toUInt32 >>> ((8 : Int32) &&& 31).toUInt32).toInt32) % (15 : Int32)))) - (1 : Int32)))))] [(.int (((own_hi (((p2.toUInt32 >>> ((8 : Int32) &&& 31).toUInt32).toInt32) % (15 : Int32))) + (1 : Int32)) + (((p3.toUInt32 >>> ((1 : Int32) &&& 31).toUInt32).toInt32) % (((own_lo ((((p2.toUInt32 >>> ((8 : Int32) &&& 31).toUInt32).toInt32) % (15 : Int32)) + (1 : Int32))) - (own_hi (((p2.toUInt32 >>> ((8 : Int32) &&& 31).toUInt32).toInt32) % (15 : Int32)))) - (1 : Int32)))))])) _
    refine st37 _ ?_
    show Steps p.tables e below (T37.setTop (mkF m 158 #[.val (.int p1), .val (.int p2), .val (.int p3), .val (.ref rr1), .val (.ref rr4), .val (.int ((p2 &&& (2147483647 : Int32)) % (16 : Int32))), .val (.int (((own_hi ((p2 &&& (2147483647 : Int32)) % (16 : Int32))) - (own_lo ((p2 &&& (2147483647 : Int32)) % (16 : Int32)))) + (1 : Int32))), .val (.int ((own_lo ((p2 &&& (2147483647 : Int32)) % (16 : Int32))) + ((p3 &&& (2147483647 : Int32)) % (((own_hi ((p2 &&& (2147483647 : Int32)) % (16 : Int32))) - (own_lo ((p2 &&& (2147483647 : Int32)) % (16 : Int32)))) + (1 : Int32))))), .val (.int (1 : Int32)), .val (.int (((p2.toUInt32 >>> ((8 : Int32) &&& 31).toUInt32).toInt32) % (15 : Int32))), .val (.int (((own_lo ((((p2.toUInt32 >>> ((8 : Int32) &&& 31).toUInt32).toInt32) % (15 : Int32)) + (1 : Int32))) - (own_hi (((p2.toUInt32 >>> ((8 : Int32) &&& 31).toUInt32).toInt32) % (15 : Int32)))) - (1 : Int32))), .val (.int (((own_hi (((p2.toUInt32 >>> ((8 : Int32) &&& 31).toUInt32).toInt32) % (15 : Int32))) + (1 : Int32)) + (((p3.toUInt32 >>> ((1 : Int32) &&& 31).toUInt32).toInt32) % (((own_lo ((((p2.toUInt32 >>> ((8 : Int32) &&& 31).toUInt32).toInt32) % (15 : Int32)) + (1 : Int32))) - (own_hi (((p2.toUInt32 >>> ((8 : Int32) &&& 31).toUInt32).toInt32) % (15 : Int32)))) - (1 : Int32)))))] [(.int (fN (((own_hi (((p2.toUInt32 >>> ((8 : Int32) &&& 31).toUInt32).toInt32) % (15 : Int32))) + (1 : Int32)) + (((p3.toUInt32 >>> ((1 : Int32) &&& 31).toUInt32).toInt32) % (((own_lo ((((p2.toUInt32 >>> ((8 : Int32) &&& 31).toUInt32).toInt32) % (15 : Int32)) + (1 : Int32))) - (own_hi (((p2.toUInt32 >>> ((8 : Int32) &&& 31).toUInt32).toInt32) % (15 : Int32)))) - (1 : Int32))))))])) _
    refine sg38 _ ?_
    show Steps p.tables e below (T37.setTop (mkF m 171 #[.val (.int p1), .val (.int p2), .val (.int p3), .val (.ref rr1), .val (.ref rr4), .val (.int ((p2 &&& (2147483647 : Int32)) % (16 : Int32))), .val (.int (((own_hi ((p2 &&& (2147483647 : Int32)) % (16 : Int32))) - (own_lo ((p2 &&& (2147483647 : Int32)) % (16 : Int32)))) + (1 : Int32))), .val (.int ((own_lo ((p2 &&& (2147483647 : Int32)) % (16 : Int32))) + ((p3 &&& (2147483647 : Int32)) % (((own_hi ((p2 &&& (2147483647 : Int32)) % (16 : Int32))) - (own_lo ((p2 &&& (2147483647 : Int32)) % (16 : Int32)))) + (1 : Int32))))), .val (.int (1 : Int32)), .val (.int (((p2.toUInt32 >>> ((8 : Int32) &&& 31).toUInt32).toInt32) % (15 : Int32))), .val (.int (((own_lo ((((p2.toUInt32 >>> ((8 : Int32) &&& 31).toUInt32).toInt32) % (15 : Int32)) + (1 : Int32))) - (own_hi (((p2.toUInt32 >>> ((8 : Int32) &&& 31).toUInt32).toInt32) % (15 : Int32)))) - (1 : Int32))), .val (.int (((own_hi (((p2.toUInt32 >>> ((8 : Int32) &&& 31).toUInt32).toInt32) % (15 : Int32))) + (1 : Int32)) + (((p3.toUInt32 >>> ((1 : Int32) &&& 31).toUInt32).toInt32) % (((own_lo ((((p2.toUInt32 >>> ((8 : Int32) &&& 31).toUInt32).toInt32) % (15 : Int32)) + (1 : Int32))) - (own_hi (((p2.toUInt32 >>> ((8 : Int32) &&& 31).toUInt32).toInt32) % (15 : Int32)))) - (1 : Int32)))))] [(.int (58 : Int32)), (.int p1)])) _
    exact k
  by_cases hc171 : p1 < (58 : Int32)
  · have sgf171 : ∀ t, Steps p.tables e below (T37.setTop (mkF m 180 #[.val (.int p1), .val (.int p2), .val (.int p3), .val (.ref rr1), .val (.ref rr4), .val (.int ((p2 &&& (2147483647 : Int32)) % (16 : Int32))), .val (.int (((own_hi ((p2 &&& (2147483647 : Int32)) % (16 : Int32))) - (own_lo ((p2 &&& (2147483647 : Int32)) % (16 : Int32)))) + (1 : Int32))), .val (.int ((own_lo ((p2 &&& (2147483647 : Int32)) % (16 : Int32))) + ((p3 &&& (2147483647 : Int32)) % (((own_hi ((p2 &&& (2147483647 : Int32)) % (16 : Int32))) - (own_lo ((p2 &&& (2147483647 : Int32)) % (16 : Int32)))) + (1 : Int32))))), .val (.int (1 : Int32)), .val (.int (((p2.toUInt32 >>> ((8 : Int32) &&& 31).toUInt32).toInt32) % (15 : Int32))), .val (.int (((own_lo ((((p2.toUInt32 >>> ((8 : Int32) &&& 31).toUInt32).toInt32) % (15 : Int32)) + (1 : Int32))) - (own_hi (((p2.toUInt32 >>> ((8 : Int32) &&& 31).toUInt32).toInt32) % (15 : Int32)))) - (1 : Int32))), .val (.int (((own_hi (((p2.toUInt32 >>> ((8 : Int32) &&& 31).toUInt32).toInt32) % (15 : Int32))) + (1 : Int32)) + (((p3.toUInt32 >>> ((1 : Int32) &&& 31).toUInt32).toInt32) % (((own_lo ((((p2.toUInt32 >>> ((8 : Int32) &&& 31).toUInt32).toInt32) % (15 : Int32)) + (1 : Int32))) - (own_hi (((p2.toUInt32 >>> ((8 : Int32) &&& 31).toUInt32).toInt32) % (15 : Int32)))) - (1 : Int32)))))] [])) t → Steps p.tables e below (T37.setTop (mkF m 171 #[.val (.int p1), .val (.int p2), .val (.int p3), .val (.ref rr1), .val (.ref rr4), .val (.int ((p2 &&& (2147483647 : Int32)) % (16 : Int32))), .val (.int (((own_hi ((p2 &&& (2147483647 : Int32)) % (16 : Int32))) - (own_lo ((p2 &&& (2147483647 : Int32)) % (16 : Int32)))) + (1 : Int32))), .val (.int ((own_lo ((p2 &&& (2147483647 : Int32)) % (16 : Int32))) + ((p3 &&& (2147483647 : Int32)) % (((own_hi ((p2 &&& (2147483647 : Int32)) % (16 : Int32))) - (own_lo ((p2 &&& (2147483647 : Int32)) % (16 : Int32)))) + (1 : Int32))))), .val (.int (1 : Int32)), .val (.int (((p2.toUInt32 >>> ((8 : Int32) &&& 31).toUInt32).toInt32) % (15 : Int32))), .val (.int (((own_lo ((((p2.toUInt32 >>> ((8 : Int32) &&& 31).toUInt32).toInt32) % (15 : Int32)) + (1 : Int32))) - (own_hi (((p2.toUInt32 >>> ((8 : Int32) &&& 31).toUInt32).toInt32) % (15 : Int32)))) - (1 : Int32))), .val (.int (((own_hi (((p2.toUInt32 >>> ((8 : Int32) &&& 31).toUInt32).toInt32) % (15 : Int32))) + (1 : Int32)) + (((p3.toUInt32 >>> ((1 : Int32) &&& 31).toUInt32).toInt32) % (((own_lo ((((p2.toUInt32 >>> ((8 : Int32) &&& 31).toUInt32).toInt32) % (15 : Int32)) + (1 : Int32))) - (own_hi (((p2.toUInt32 >>> ((8 : Int32) &&& 31).toUInt32).toInt32) % (15 : Int32)))) - (1 : Int32)))))] [(.int (58 : Int32)), (.int p1)])) t := fun t k => by
      refine XS.icmpYes X37.here hx rfl (pc0 := 171) (pc' := 180) rfl (hb hby at_171) rfl (tlt hc171).1 (by decide) (by decide) ?_
      exact k
    have sg40 : ∀ t, Steps p.tables e below (T37.setTop (mkF m 186 #[.val (.int p1), .val (.int p2), .val (.int p3), .val (.ref rr1), .val (.ref rr4), .val (.int ((p2 &&& (2147483647 : Int32)) % (16 : Int32))), .val (.int (((own_hi ((p2 &&& (2147483647 : Int32)) % (16 : Int32))) - (own_lo ((p2 &&& (2147483647 : Int32)) % (16 : Int32)))) + (1 : Int32))), .val (.int ((own_lo ((p2 &&& (2147483647 : Int32)) % (16 : Int32))) + ((p3 &&& (2147483647 : Int32)) % (((own_hi ((p2 &&& (2147483647 : Int32)) % (16 : Int32))) - (own_lo ((p2 &&& (2147483647 : Int32)) % (16 : Int32)))) + (1 : Int32))))), .val (.int (1 : Int32)), .val (.int (((p2.toUInt32 >>> ((8 : Int32) &&& 31).toUInt32).toInt32) % (15 : Int32))), .val (.int (((own_lo ((((p2.toUInt32 >>> ((8 : Int32) &&& 31).toUInt32).toInt32) % (15 : Int32)) + (1 : Int32))) - (own_hi (((p2.toUInt32 >>> ((8 : Int32) &&& 31).toUInt32).toInt32) % (15 : Int32)))) - (1 : Int32))), .val (.int (((own_hi (((p2.toUInt32 >>> ((8 : Int32) &&& 31).toUInt32).toInt32) % (15 : Int32))) + (1 : Int32)) + (((p3.toUInt32 >>> ((1 : Int32) &&& 31).toUInt32).toInt32) % (((own_lo ((((p2.toUInt32 >>> ((8 : Int32) &&& 31).toUInt32).toInt32) % (15 : Int32)) + (1 : Int32))) - (own_hi (((p2.toUInt32 >>> ((8 : Int32) &&& 31).toUInt32).toInt32) % (15 : Int32)))) - (1 : Int32)))))] [(.int p1)])) t → Steps p.tables e below (T37.setTop (mkF m 180 #[.val (.int p1), .val (.int p2), .val (.int p3), .val (.ref rr1), .val (.ref rr4), .val (.int ((p2 &&& (2147483647 : Int32)) % (16 : Int32))), .val (.int (((own_hi ((p2 &&& (2147483647 : Int32)) % (16 : Int32))) - (own_lo ((p2 &&& (2147483647 : Int32)) % (16 : Int32)))) + (1 : Int32))), .val (.int ((own_lo ((p2 &&& (2147483647 : Int32)) % (16 : Int32))) + ((p3 &&& (2147483647 : Int32)) % (((own_hi ((p2 &&& (2147483647 : Int32)) % (16 : Int32))) - (own_lo ((p2 &&& (2147483647 : Int32)) % (16 : Int32)))) + (1 : Int32))))), .val (.int (1 : Int32)), .val (.int (((p2.toUInt32 >>> ((8 : Int32) &&& 31).toUInt32).toInt32) % (15 : Int32))), .val (.int (((own_lo ((((p2.toUInt32 >>> ((8 : Int32) &&& 31).toUInt32).toInt32) % (15 : Int32)) + (1 : Int32))) - (own_hi (((p2.toUInt32 >>> ((8 : Int32) &&& 31).toUInt32).toInt32) % (15 : Int32)))) - (1 : Int32))), .val (.int (((own_hi (((p2.toUInt32 >>> ((8 : Int32) &&& 31).toUInt32).toInt32) % (15 : Int32))) + (1 : Int32)) + (((p3.toUInt32 >>> ((1 : Int32) &&& 31).toUInt32).toInt32) % (((own_lo ((((p2.toUInt32 >>> ((8 : Int32) &&& 31).toUInt32).toInt32) % (15 : Int32)) + (1 : Int32))) - (own_hi (((p2.toUInt32 >>> ((8 : Int32) &&& 31).toUInt32).toInt32) % (15 : Int32)))) - (1 : Int32)))))] [])) t := by
      intro t k
      show Steps p.tables e below (T37.setTop (mkF m 180 #[.val (.int p1), .val (.int p2), .val (.int p3), .val (.ref rr1), .val (.ref rr4), .val (.int ((p2 &&& (2147483647 : Int32)) % (16 : Int32))), .val (.int (((own_hi ((p2 &&& (2147483647 : Int32)) % (16 : Int32))) - (own_lo ((p2 &&& (2147483647 : Int32)) % (16 : Int32)))) + (1 : Int32))), .val (.int ((own_lo ((p2 &&& (2147483647 : Int32)) % (16 : Int32))) + ((p3 &&& (2147483647 : Int32)) % (((own_hi ((p2 &&& (2147483647 : Int32)) % (16 : Int32))) - (own_lo ((p2 &&& (2147483647 : Int32)) % (16 : Int32)))) + (1 : Int32))))), .val (.int (1 : Int32)), .val (.int (((p2.toUInt32 >>> ((8 : Int32) &&& 31).toUInt32).toInt32) % (15 : Int32))), .val (.int (((own_lo ((((p2.toUInt32 >>> ((8 : Int32) &&& 31).toUInt32).toInt32) % (15 : Int32)) + (1 : Int32))) - (own_hi (((p2.toUInt32 >>> ((8 : Int32) &&& 31).toUInt32).toInt32) % (15 : Int32)))) - (1 : Int32))), .val (.int (((own_hi (((p2.toUInt32 >>> ((8 : Int32) &&& 31).toUInt32).toInt32) % (15 : Int32))) + (1 : Int32)) + (((p3.toUInt32 >>> ((1 : Int32) &&& 31).toUInt32).toInt32) % (((own_lo ((((p2.toUInt32 >>> ((8 : Int32) &&& 31).toUInt32).toInt32) % (15 : Int32)) + (1 : Int32))) - (own_hi (((p2.toUInt32 >>> ((8 : Int32) &&& 31).toUInt32).toInt32) % (15 : Int32)))) - (1 : Int32)))))] [])) _
      refine XS.iload X37.here hx rfl (hb hby at_180) rfl ?_
      show Steps p.tables e below (T37.setTop (mkF m 182 #[.val (.int p1), .val (.int p2), .val (.int p3), .val (.ref rr1), .val (.ref rr4), .val (.int ((p2 &&& (2147483647 : Int32)) % (16 : Int32))), .val (.int (((own_hi ((p2 &&& (2147483647 : Int32)) % (16 : Int32))) - (own_lo ((p2 &&& (2147483647 : Int32)) % (16 : Int32)))) + (1 : Int32))), .val (.int ((own_lo ((p2 &&& (2147483647 : Int32)) % (16 : Int32))) + ((p3 &&& (2147483647 : Int32)) % (((own_hi ((p2 &&& (2147483647 : Int32)) % (16 : Int32))) - (own_lo ((p2 &&& (2147483647 : Int32)) % (16 : Int32)))) + (1 : Int32))))), .val (.int (1 : Int32)), .val (.int (((p2.toUInt32 >>> ((8 : Int32) &&& 31).toUInt32).toInt32) % (15 : Int32))), .val (.int (((own_lo ((((p2.toUInt32 >>> ((8 : Int32) &&& 31).toUInt32).toInt32) % (15 : Int32)) + (1 : Int32))) - (own_hi (((p2.toUInt32 >>> ((8 : Int32) &&& 31).toUInt32).toInt32) % (15 : Int32)))) - (1 : Int32))), .val (.int (((own_hi (((p2.toUInt32 >>> ((8 : Int32) &&& 31).toUInt32).toInt32) % (15 : Int32))) + (1 : Int32)) + (((p3.toUInt32 >>> ((1 : Int32) &&& 31).toUInt32).toInt32) % (((own_lo ((((p2.toUInt32 >>> ((8 : Int32) &&& 31).toUInt32).toInt32) % (15 : Int32)) + (1 : Int32))) - (own_hi (((p2.toUInt32 >>> ((8 : Int32) &&& 31).toUInt32).toInt32) % (15 : Int32)))) - (1 : Int32)))))] [(.int (1 : Int32))])) _
      refine XS.ifNo X37.here hx rfl (hb hby at_182) rfl ((if0 _ _).trans (feq (by decide : ¬ ((1 : Int32) = (0 : Int32)))).1) ?_
      show Steps p.tables e below (T37.setTop (mkF m 185 #[.val (.int p1), .val (.int p2), .val (.int p3), .val (.ref rr1), .val (.ref rr4), .val (.int ((p2 &&& (2147483647 : Int32)) % (16 : Int32))), .val (.int (((own_hi ((p2 &&& (2147483647 : Int32)) % (16 : Int32))) - (own_lo ((p2 &&& (2147483647 : Int32)) % (16 : Int32)))) + (1 : Int32))), .val (.int ((own_lo ((p2 &&& (2147483647 : Int32)) % (16 : Int32))) + ((p3 &&& (2147483647 : Int32)) % (((own_hi ((p2 &&& (2147483647 : Int32)) % (16 : Int32))) - (own_lo ((p2 &&& (2147483647 : Int32)) % (16 : Int32)))) + (1 : Int32))))), .val (.int (1 : Int32)), .val (.int (((p2.toUInt32 >>> ((8 : Int32) &&& 31).toUInt32).toInt32) % (15 : Int32))), .val (.int (((own_lo ((((p2.toUInt32 >>> ((8 : Int32) &&& 31).toUInt32).toInt32) % (15 : Int32)) + (1 : Int32))) - (own_hi (((p2.toUInt32 >>> ((8 : Int32) &&& 31).toUInt32).toInt32) % (15 : Int32)))) - (1 : Int32))), .val (.int (((own_hi (((p2.toUInt32 >>> ((8 : Int32) &&& 31).toUInt32).toInt32) % (15 : Int32))) + (1 : Int32)) + (((p3.toUInt32 >>> ((1 : Int32) &&& 31).toUInt32).toInt32) % (((own_lo ((((p2.toUInt32 >>> ((8 : Int32) &&& 31).toUInt32).toInt32) % (15 : Int32)) + (1 : Int32))) - (own_hi (((p2.toUInt32 >>> ((8 : Int32) &&& 31).toUInt32).toInt32) % (15 : Int32)))) - (1 : Int32)))))] [])) _
      refine XS.iloadN X37.here hx rfl (hb hby at_185) rfl ?_
      exact k
    obtain ⟨_, _, ⟨T41, L41, k41, n41⟩, -, X41, ⟨Lc41, hQ41, l41, y41, z41⟩, st41⟩ := Jvm.LawKit.callS X37 hx (y := (⟨"com/example/dongying/dongying/xml/XmlNames", "isNameStartChar", "(I)Z"⟩ : MethodName)) hown (mvT hZ (hw _ (List.mem_of_getElem? (i := 16) rfl))) (mvT hZ (hw _ (List.mem_of_getElem? (i := 17) rfl))) (mvT hZ (hw _ (List.mem_of_getElem? (i := 18) rfl))) (mvT hZ (hw _ (List.mem_of_getElem? (i := 19) rfl))) (by decide) (backOf (W := 0) (rmA l Z a0 hw [] p1 T4.heap n0 z7) hZ (hw _ (List.mem_of_getElem? (i := 19) rfl)) (hw _ (List.mem_of_getElem? (i := 18) rfl)) (by decide) (by decide)) (g := (mkF m 186 #[.val (.int p1), .val (.int p2), .val (.int p3), .val (.ref rr1), .val (.ref rr4), .val (.int ((p2 &&& (2147483647 : Int32)) % (16 : Int32))), .val (.int (((own_hi ((p2 &&& (2147483647 : Int32)) % (16 : Int32))) - (own_lo ((p2 &&& (2147483647 : Int32)) % (16 : Int32)))) + (1 : Int32))), .val (.int ((own_lo ((p2 &&& (2147483647 : Int32)) % (16 : Int32))) + ((p3 &&& (2147483647 : Int32)) % (((own_hi ((p2 &&& (2147483647 : Int32)) % (16 : Int32))) - (own_lo ((p2 &&& (2147483647 : Int32)) % (16 : Int32)))) + (1 : Int32))))), .val (.int (1 : Int32)), .val (.int (((p2.toUInt32 >>> ((8 : Int32) &&& 31).toUInt32).toInt32) % (15 : Int32))), .val (.int (((own_lo ((((p2.toUInt32 >>> ((8 : Int32) &&& 31).toUInt32).toInt32) % (15 : Int32)) + (1 : Int32))) - (own_hi (((p2.toUInt32 >>> ((8 : Int32) &&& 31).toUInt32).toInt32) % (15 : Int32)))) - (1 : Int32))), .val (.int (((own_hi (((p2.toUInt32 >>> ((8 : Int32) &&& 31).toUInt32).toInt32) % (15 : Int32))) + (1 : Int32)) + (((p3.toUInt32 >>> ((1 : Int32) &&& 31).toUInt32).toInt32) % (((own_lo ((((p2.toUInt32 >>> ((8 : Int32) &&& 31).toUInt32).toInt32) % (15 : Int32)) + (1 : Int32))) - (own_hi (((p2.toUInt32 >>> ((8 : Int32) &&& 31).toUInt32).toInt32) % (15 : Int32)))) - (1 : Int32)))))] [(.int p1)])) rfl (by rw [hml]; rfl) (argsL := [(.int p1)]) (rest := []) (lenOf pd_1 rfl) rfl (by show 2 * 0 + _ ≤ _; exact Nat.le_of_eq rfl) (hb hby at_186) (fun _ _ => ⟨rfl, e37, (by decide : 2 + 0 ≤ _), (by decide : 32 + 0 ≤ _)⟩)
    dsimp only [Pt.U, Pt.locs, Pt.cells, Pt.slots] at X41 l41 y41 z41 st41 hQ41
    subst l41 y41 z41
    obtain ⟨rfl, N41q, e41⟩ := hQ41
    have N41 := Fr.app N37 N41q
    have sg42 : ∀ t, Steps p.tables e below (T41.setTop (mkF m 201 #[.val (.int p1), .val (.int p2), .val (.int p3), .val (.ref rr1), .val (.ref rr4), .val (.int ((p2 &&& (2147483647 : Int32)) % (16 : Int32))), .val (.int (((own_hi ((p2 &&& (2147483647 : Int32)) % (16 : Int32))) - (own_lo ((p2 &&& (2147483647 : Int32)) % (16 : Int32)))) + (1 : Int32))), .val (.int ((own_lo ((p2 &&& (2147483647 : Int32)) % (16 : Int32))) + ((p3 &&& (2147483647 : Int32)) % (((own_hi ((p2 &&& (2147483647 : Int32)) % (16 : Int32))) - (own_lo ((p2 &&& (2147483647 : Int32)) % (16 : Int32)))) + (1 : Int32))))), .val (.int (1 : Int32)), .val (.int (((p2.toUInt32 >>> ((8 : Int32) &&& 31).toUInt32).toInt32) % (15 : Int32))), .val (.int (((own_lo ((((p2.toUInt32 >>> ((8 : Int32) &&& 31).toUInt32).toInt32) % (15 : Int32)) + (1 : Int32))) - (own_hi (((p2.toUInt32 >>> ((8 : Int32) &&& 31).toUInt32).toInt32) % (15 : Int32)))) - (1 : Int32))), .val (.int (((own_hi (((p2.toUInt32 >>> ((8 : Int32) &&& 31).toUInt32).toInt32) % (15 : Int32))) + (1 : Int32)) + (((p3.toUInt32 >>> ((1 : Int32) &&& 31).toUInt32).toInt32) % (((own_lo ((((p2.toUInt32 >>> ((8 : Int32) &&& 31).toUInt32).toInt32) % (15 : Int32)) + (1 : Int32))) - (own_hi (((p2.toUInt32 >>> ((8 : Int32) &&& 31).toUInt32).toInt32) % (15 : Int32)))) - (1 : Int32)))))] [(.int (1 : Int32))])) t → Steps p.tables e below (T41.setTop (mkF m 189 #[.val (.int p1), .val (.int p2), .val (.int p3), .val (.ref rr1), .val (.ref rr4), .val (.int ((p2 &&& (2147483647 : Int32)) % (16 : Int32))), .val (.int (((own_hi ((p2 &&& (2147483647 : Int32)) % (16 : Int32))) - (own_lo ((p2 &&& (2147483647 : Int32)) % (16 : Int32)))) + (1 : Int32))), .val (.int ((own_lo ((p2 &&& (2147483647 : Int32)) % (16 : Int32))) + ((p3 &&& (2147483647 : Int32)) % (((own_hi ((p2 &&& (2147483647 : Int32)) % (16 : Int32))) - (own_lo ((p2 &&& (2147483647 : Int32)) % (16 : Int32)))) + (1 : Int32))))), .val (.int (1 : Int32)), .val (.int (((p2.toUInt32 >>> ((8 : Int32) &&& 31).toUInt32).toInt32) % (15 : Int32))), .val (.int (((own_lo ((((p2.toUInt32 >>> ((8 : Int32) &&& 31).toUInt32).toInt32) % (15 : Int32)) + (1 : Int32))) - (own_hi (((p2.toUInt32 >>> ((8 : Int32) &&& 31).toUInt32).toInt32) % (15 : Int32)))) - (1 : Int32))), .val (.int (((own_hi (((p2.toUInt32 >>> ((8 : Int32) &&& 31).toUInt32).toInt32) % (15 : Int32))) + (1 : Int32)) + (((p3.toUInt32 >>> ((1 : Int32) &&& 31).toUInt32).toInt32) % (((own_lo ((((p2.toUInt32 >>> ((8 : Int32) &&& 31).toUInt32).toInt32) % (15 : Int32)) + (1 : Int32))) - (own_hi (((p2.toUInt32 >>> ((8 : Int32) &&& 31).toUInt32).toInt32) % (15 : Int32)))) - (1 : Int32)))))] [(.int (fN p1))])) t := by
      intro t k
      show Steps p.tables e below (T41.setTop (mkF m 189 #[.val (.int p1), .val (.int p2), .val (.int p3), .val (.ref rr1), .val (.ref rr4), .val (.int ((p2 &&& (2147483647 : Int32)) % (16 : Int32))), .val (.int (((own_hi ((p2 &&& (2147483647 : Int32)) % (16 : Int32))) - (own_lo ((p2 &&& (2147483647 : Int32)) % (16 : Int32)))) + (1 : Int32))), .val (.int ((own_lo ((p2 &&& (2147483647 : Int32)) % (16 : Int32))) + ((p3 &&& (2147483647 : Int32)) % (((own_hi ((p2 &&& (2147483647 : Int32)) % (16 : Int32))) - (own_lo ((p2 &&& (2147483647 : Int32)) % (16 : Int32)))) + (1 : Int32))))), .val (.int (1 : Int32)), .val (.int (((p2.toUInt32 >>> ((8 : Int32) &&& 31).toUInt32).toInt32) % (15 : Int32))), .val (.int (((own_lo ((((p2.toUInt32 >>> ((8 : Int32) &&& 31).toUInt32).toInt32) % (15 : Int32)) + (1 : Int32))) - (own_hi (((p2.toUInt32 >>> ((8 : Int32) &&& 31).toUInt32).toInt32) % (15 : Int32)))) - (1 : Int32))), .val (.int (((own_hi (((p2.toUInt32 >>> ((8 : Int32) &&& 31).toUInt32).toInt32) % (15 : Int32))) + (1 : Int32)) + (((p3.toUInt32 >>> ((1 : Int32) &&& 31).toUInt32).toInt32) % (((own_lo ((((p2.toUInt32 >>> ((8 : Int32) &&& 31).toUInt32).toInt32) % (15 : Int32)) + (1 : Int32))) - (own_hi (((p2.toUInt32 >>> ((8 : Int32) &&& 31).toUInt32).toInt32) % (15 : Int32)))) - (1 : Int32)))))] [(.int (fN p1))])) _
      refine XS.ifNo X41.here hx rfl (hb hby at_189) rfl ((if0 _ _).trans (teq ((own_low p1 hc171) : (fN p1) = (0 : Int32))).2) ?_
      show Steps p.tables e below (T41.setTop (mkF m 192 #[.val (.int p1), .val (.int p2), .val (.int p3), .val (.ref rr1), .val (.ref rr4), .val (.int ((p2 &&& (2147483647 : Int32)) % (16 : Int32))), .val (.int (((own_hi ((p2 &&& (2147483647 : Int32)) % (16 : Int32))) - (own_lo ((p2 &&& (2147483647 : Int32)) % (16 : Int32)))) + (1 : Int32))), .val (.int ((own_lo ((p2 &&& (2147483647 : Int32)) % (16 : Int32))) + ((p3 &&& (2147483647 : Int32)) % (((own_hi ((p2 &&& (2147483647 : Int32)) % (16 : Int32))) - (own_lo ((p2 &&& (2147483647 : Int32)) % (16 : Int32)))) + (1 : Int32))))), .val (.int (1 : Int32)), .val (.int (((p2.toUInt32 >>> ((8 : Int32) &&& 31).toUInt32).toInt32) % (15 : Int32))), .val (.int (((own_lo ((((p2.toUInt32 >>> ((8 : Int32) &&& 31).toUInt32).toInt32) % (15 : Int32)) + (1 : Int32))) - (own_hi (((p2.toUInt32 >>> ((8 : Int32) &&& 31).toUInt32).toInt32) % (15 : Int32)))) - (1 : Int32))), .val (.int (((own_hi (((p2.toUInt32 >>> ((8 : Int32) &&& 31).toUInt32).toInt32) % (15 : Int32))) + (1 : Int32)) + (((p3.toUInt32 >>> ((1 : Int32) &&& 31).toUInt32).toInt32) % (((own_lo ((((p2.toUInt32 >>> ((8 : Int32) &&& 31).toUInt32).toInt32) % (15 : Int32)) + (1 : Int32))) - (own_hi (((p2.toUInt32 >>> ((8 : Int32) &&& 31).toUInt32).toInt32) % (15 : Int32)))) - (1 : Int32)))))] [])) _
      refine XS.iconst X41.here hx rfl (hb hby at_192) ?_
      show Steps p.tables e below (T41.setTop (mkF m 193 #[.val (.int p1), .val (.int p2), .val (.int p3), .val (.ref rr1), .val (.ref rr4), .val (.int ((p2 &&& (2147483647 : Int32)) % (16 : Int32))), .val (.int (((own_hi ((p2 &&& (2147483647 : Int32)) % (16 : Int32))) - (own_lo ((p2 &&& (2147483647 : Int32)) % (16 : Int32)))) + (1 : Int32))), .val (.int ((own_lo ((p2 &&& (2147483647 : Int32)) % (16 : Int32))) + ((p3 &&& (2147483647 : Int32)) % (((own_hi ((p2 &&& (2147483647 : Int32)) % (16 : Int32))) - (own_lo ((p2 &&& (2147483647 : Int32)) % (16 : Int32)))) + (1 : Int32))))), .val (.int (1 : Int32)), .val (.int (((p2.toUInt32 >>> ((8 : Int32) &&& 31).toUInt32).toInt32) % (15 : Int32))), .val (.int (((own_lo ((((p2.toUInt32 >>> ((8 : Int32) &&& 31).toUInt32).toInt32) % (15 : Int32)) + (1 : Int32))) - (own_hi (((p2.toUInt32 >>> ((8 : Int32) &&& 31).toUInt32).toInt32) % (15 : Int32)))) - (1 : Int32))), .val (.int (((own_hi (((p2.toUInt32 >>> ((8 : Int32) &&& 31).toUInt32).toInt32) % (15 : Int32))) + (1 : Int32)) + (((p3.toUInt32 >>> ((1 : Int32) &&& 31).toUInt32).toInt32) % (((own_lo ((((p2.toUInt32 >>> ((8 : Int32) &&& 31).toUInt32).toInt32) % (15 : Int32)) + (1 : Int32))) - (own_hi (((p2.toUInt32 >>> ((8 : Int32) &&& 31).toUInt32).toInt32) % (15 : Int32)))) - (1 : Int32)))))] [(.int (1 : Int32))])) _
      refine XS.goto X41.here hx rfl (pc0 := 193) (pc' := 197) rfl (hb hby at_193) (by decide) (by decide) ?_
      show Steps p.tables e below (T41.setTop (mkF m 197 #[.val (.int p1), .val (.int p2), .val (.int p3), .val (.ref rr1), .val (.ref rr4), .val (.int ((p2 &&& (2147483647 : Int32)) % (16 : Int32))), .val (.int (((own_hi ((p2 &&& (2147483647 : Int32)) % (16 : Int32))) - (own_lo ((p2 &&& (2147483647 : Int32)) % (16 : Int32)))) + (1 : Int32))), .val (.int ((own_lo ((p2 &&& (2147483647 : Int32)) % (16 : Int32))) + ((p3 &&& (2147483647 : Int32)) % (((own_hi ((p2 &&& (2147483647 : Int32)) % (16 : Int32))) - (own_lo ((p2 &&& (2147483647 : Int32)) % (16 : Int32)))) + (1 : Int32))))), .val (.int (1 : Int32)), .val (.int (((p2.toUInt32 >>> ((8 : Int32) &&& 31).toUInt32).toInt32) % (15 : Int32))), .val (.int (((own_lo ((((p2.toUInt32 >>> ((8 : Int32) &&& 31).toUInt32).toInt32) % (15 : Int32)) + (1 : Int32))) - (own_hi (((p2.toUInt32 >>> ((8 : Int32) &&& 31).toUInt32).toInt32) % (15 : Int32)))) - (1 : Int32))), .val (.int (((own_hi (((p2.toUInt32 >>> ((8 : Int32) &&& 31).toUInt32).toInt32) % (15 : Int32))) + (1 : Int32)) + (((p3.toUInt32 >>> ((1 : Int32) &&& 31).toUInt32).toInt32) % (((own_lo ((((p2.toUInt32 >>> ((8 : Int32) &&& 31).toUInt32).toInt32) % (15 : Int32)) + (1 : Int32))) - (own_hi (((p2.toUInt32 >>> ((8 : Int32) &&& 31).toUInt32).toInt32) % (15 : Int32)))) - (1 : Int32)))))] [(.int (1 : Int32))])) _
      refine XS.istore X41.here hx rfl (hb hby at_197) rfl (l' := #[.val (.int p1), .val (.int p2), .val (.int p3), .val (.ref rr1), .val (.ref rr4), .val (.int ((p2 &&& (2147483647 : Int32)) % (16 : Int32))), .val (.int (((own_hi ((p2 &&& (2147483647 : Int32)) % (16 : Int32))) - (own_lo ((p2 &&& (2147483647 : Int32)) % (16 : Int32)))) + (1 : Int32))), .val (.int ((own_lo ((p2 &&& (2147483647 : Int32)) % (16 : Int32))) + ((p3 &&& (2147483647 : Int32)) % (((own_hi ((p2 &&& (2147483647 : Int32)) % (16 : Int32))) - (own_lo ((p2 &&& (2147483647 : Int32)) % (16 : Int32)))) + (1 : Int32))))), .val (.int (1 : Int32)), .val (.int (((p2.toUInt32 >>> ((8 : Int32) &&& 31).toUInt32).toInt32) % (15 : Int32))), .val (.int (((own_lo ((((p2.toUInt32 >>> ((8 : Int32) &&& 31).toUInt32).toInt32) % (15 : Int32)) + (1 : Int32))) - (own_hi (((p2.toUInt32 >>> ((8 : Int32) &&& 31).toUInt32).toInt32) % (15 : Int32)))) - (1 : Int32))), .val (.int (((own_hi (((p2.toUInt32 >>> ((8 : Int32) &&& 31).toUInt32).toInt32) % (15 : Int32))) + (1 : Int32)) + (((p3.toUInt32 >>> ((1 : Int32) &&& 31).toUInt32).toInt32) % (((own_lo ((((p2.toUInt32 >>> ((8 : Int32) &&& 31).toUInt32).toInt32) % (15 : Int32)) + (1 : Int32))) - (own_hi (((p2.toUInt32 >>> ((8 : Int32) &&& 31).toUInt32).toInt32) % (15 : Int32)))) - (1 : Int32)))))]) rfl ?_
      show Steps p.tables e below (T41.setTop (mkF m 199 #[.val (.int p1), .val (.int p2), .val (.int p3), .val (.ref rr1), .val (.ref rr4), .val (.int ((p2 &&& (2147483647 : Int32)) % (16 : Int32))), .val (.int (((own_hi ((p2 &&& (2147483647 : Int32)) % (16 : Int32))) - (own_lo ((p2 &&& (2147483647 : Int32)) % (16 : Int32)))) + (1 : Int32))), .val (.int ((own_lo ((p2 &&& (2147483647 : Int32)) % (16 : Int32))) + ((p3 &&& (2147483647 : Int32)) % (((own_hi ((p2 &&& (2147483647 : Int32)) % (16 : Int32))) - (own_lo ((p2 &&& (2147483647 : Int32)) % (16 : Int32)))) + (1 : Int32))))), .val (.int (1 : Int32)), .val (.int (((p2.toUInt32 >>> ((8 : Int32) &&& 31).toUInt32).toInt32) % (15 : Int32))), .val (.int (((own_lo ((((p2.toUInt32 >>> ((8 : Int32) &&& 31).toUInt32).toInt32) % (15 : Int32)) + (1 : Int32))) - (own_hi (((p2.toUInt32 >>> ((8 : Int32) &&& 31).toUInt32).toInt32) % (15 : Int32)))) - (1 : Int32))), .val (.int (((own_hi (((p2.toUInt32 >>> ((8 : Int32) &&& 31).toUInt32).toInt32) % (15 : Int32))) + (1 : Int32)) + (((p3.toUInt32 >>> ((1 : Int32) &&& 31).toUInt32).toInt32) % (((own_lo ((((p2.toUInt32 >>> ((8 : Int32) &&& 31).toUInt32).toInt32) % (15 : Int32)) + (1 : Int32))) - (own_hi (((p2.toUInt32 >>> ((8 : Int32) &&& 31).toUInt32).toInt32) % (15 : Int32)))) - (1 : Int32)))))] [])) _
      refine XS.iload X41.here hx rfl (hb hby at_199) rfl ?_
      exact k
    obtain ⟨fs, hr, hrun, hended, hW, hsame⟩ := X41.leave (v := some (.int (1 : Int32))) (fun h => by rw [Bd.returns] at h; cases h)
    refine ⟨_, _, pre0 _ ?_, hrun, hended, _, _, rfl, ?_, ⟨_, rfl⟩, hW, hsame.mono (by decide) (by decide)⟩
    · show Steps p.tables e below (s₁.setTop (mkF m 0 #[.val (.int p1), .val (.int p2), .val (.int p3), .unset, .unset, .unset, .unset, .unset, .unset, .unset, .unset, .unset] [])) _
      refine ch39 _ ?_
      show Steps p.tables e below (T37.setTop (mkF m 171 #[.val (.int p1), .val (.int p2), .val (.int p3), .val (.ref rr1), .val (.ref rr4), .val (.int ((p2 &&& (2147483647 : Int32)) % (16 : Int32))), .val (.int (((own_hi ((p2 &&& (2147483647 : Int32)) % (16 : Int32))) - (own_lo ((p2 &&& (2147483647 : Int32)) % (16 : Int32)))) + (1 : Int32))), .val (.int ((own_lo ((p2 &&& (2147483647 : Int32)) % (16 : Int32))) + ((p3 &&& (2147483647 : Int32)) % (((own_hi ((p2 &&& (2147483647 : Int32)) % (16 : Int32))) - (own_lo ((p2 &&& (2147483647 : Int32)) % (16 : Int32)))) + (1 : Int32))))), .val (.int (1 : Int32)), .val (.int (((p2.toUInt32 >>> ((8 : Int32) &&& 31).toUInt32).toInt32) % (15 : Int32))), .val (.int (((own_lo ((((p2.toUInt32 >>> ((8 : Int32) &&& 31).toUInt32).toInt32) % (15 : Int32)) + (1 : Int32))) - (own_hi (((p2.toUInt32 >>> ((8 : Int32) &&& 31).toUInt32).toInt32) % (15 : Int32)))) - (1 : Int32))), .val (.int (((own_hi (((p2.toUInt32 >>> ((8 : Int32) &&& 31).toUInt32).toInt32) % (15 : Int32))) + (1 : Int32)) + (((p3.toUInt32 >>> ((1 : Int32) &&& 31).toUInt32).toInt32) % (((own_lo ((((p2.toUInt32 >>> ((8 : Int32) &&& 31).toUInt32).toInt32) % (15 : Int32)) + (1 : Int32))) - (own_hi (((p2.toUInt32 >>> ((8 : Int32) &&& 31).toUInt32).toInt32) % (15 : Int32)))) - (1 : Int32)))))] [(.int (58 : Int32)), (.int p1)])) _
      refine sgf171 _ ?_
      show Steps p.tables e below (T37.setTop (mkF m 180 #[.val (.int p1), .val (.int p2), .val (.int p3), .val (.ref rr1), .val (.ref rr4), .val (.int ((p2 &&& (2147483647 : Int32)) % (16 : Int32))), .val (.int (((own_hi ((p2 &&& (2147483647 : Int32)) % (16 : Int32))) - (own_lo ((p2 &&& (2147483647 : Int32)) % (16 : Int32)))) + (1 : Int32))), .val (.int ((own_lo ((p2 &&& (2147483647 : Int32)) % (16 : Int32))) + ((p3 &&& (2147483647 : Int32)) % (((own_hi ((p2 &&& (2147483647 : Int32)) % (16 : Int32))) - (own_lo ((p2 &&& (2147483647 : Int32)) % (16 : Int32)))) + (1 : Int32))))), .val (.int (1 : Int32)), .val (.int (((p2.toUInt32 >>> ((8 : Int32) &&& 31).toUInt32).toInt32) % (15 : Int32))), .val (.int (((own_lo ((((p2.toUInt32 >>> ((8 : Int32) &&& 31).toUInt32).toInt32) % (15 : Int32)) + (1 : Int32))) - (own_hi (((p2.toUInt32 >>> ((8 : Int32) &&& 31).toUInt32).toInt32) % (15 : Int32)))) - (1 : Int32))), .val (.int (((own_hi (((p2.toUInt32 >>> ((8 : Int32) &&& 31).toUInt32).toInt32) % (15 : Int32))) + (1 : Int32)) + (((p3.toUInt32 >>> ((1 : Int32) &&& 31).toUInt32).toInt32) % (((own_lo ((((p2.toUInt32 >>> ((8 : Int32) &&& 31).toUInt32).toInt32) % (15 : Int32)) + (1 : Int32))) - (own_hi (((p2.toUInt32 >>> ((8 : Int32) &&& 31).toUInt32).toInt32) % (15 : Int32)))) - (1 : Int32)))))] [])) _
      refine sg40 _ ?_
      show Steps p.tables e below (T37.setTop (mkF m 186 #[.val (.int p1), .val (.int p2), .val (.int p3), .val (.ref rr1), .val (.ref rr4), .val (.int ((p2 &&& (2147483647 : Int32)) % (16 : Int32))), .val (.int (((own_hi ((p2 &&& (2147483647 : Int32)) % (16 : Int32))) - (own_lo ((p2 &&& (2147483647 : Int32)) % (16 : Int32)))) + (1 : Int32))), .val (.int ((own_lo ((p2 &&& (2147483647 : Int32)) % (16 : Int32))) + ((p3 &&& (2147483647 : Int32)) % (((own_hi ((p2 &&& (2147483647 : Int32)) % (16 : Int32))) - (own_lo ((p2 &&& (2147483647 : Int32)) % (16 : Int32)))) + (1 : Int32))))), .val (.int (1 : Int32)), .val (.int (((p2.toUInt32 >>> ((8 : Int32) &&& 31).toUInt32).toInt32) % (15 : Int32))), .val (.int (((own_lo ((((p2.toUInt32 >>> ((8 : Int32) &&& 31).toUInt32).toInt32) % (15 : Int32)) + (1 : Int32))) - (own_hi (((p2.toUInt32 >>> ((8 : Int32) &&& 31).toUInt32).toInt32) % (15 : Int32)))) - (1 : Int32))), .val (.int (((own_hi (((p2.toUInt32 >>> ((8 : Int32) &&& 31).toUInt32).toInt32) % (15 : Int32))) + (1 : Int32)) + (((p3.toUInt32 >>> ((1 : Int32) &&& 31).toUInt32).toInt32) % (((own_lo ((((p2.toUInt32 >>> ((8 : Int32) &&& 31).toUInt32).toInt32) % (15 : Int32)) + (1 : Int32))) - (own_hi (((p2.toUInt32 >>> ((8 : Int32) &&& 31).toUInt32).toInt32) % (15 : Int32)))) - (1 : Int32)))))] [(.int p1)])) _
      refine st41 _ ?_
      show Steps p.tables e below (T41.setTop (mkF m 189 #[.val (.int p1), .val (.int p2), .val (.int p3), .val (.ref rr1), .val (.ref rr4), .val (.int ((p2 &&& (2147483647 : Int32)) % (16 : Int32))), .val (.int (((own_hi ((p2 &&& (2147483647 : Int32)) % (16 : Int32))) - (own_lo ((p2 &&& (2147483647 : Int32)) % (16 : Int32)))) + (1 : Int32))), .val (.int ((own_lo ((p2 &&& (2147483647 : Int32)) % (16 : Int32))) + ((p3 &&& (2147483647 : Int32)) % (((own_hi ((p2 &&& (2147483647 : Int32)) % (16 : Int32))) - (own_lo ((p2 &&& (2147483647 : Int32)) % (16 : Int32)))) + (1 : Int32))))), .val (.int (1 : Int32)), .val (.int (((p2.toUInt32 >>> ((8 : Int32) &&& 31).toUInt32).toInt32) % (15 : Int32))), .val (.int (((own_lo ((((p2.toUInt32 >>> ((8 : Int32) &&& 31).toUInt32).toInt32) % (15 : Int32)) + (1 : Int32))) - (own_hi (((p2.toUInt32 >>> ((8 : Int32) &&& 31).toUInt32).toInt32) % (15 : Int32)))) - (1 : Int32))), .val (.int (((own_hi (((p2.toUInt32 >>> ((8 : Int32) &&& 31).toUInt32).toInt32) % (15 : Int32))) + (1 : Int32)) + (((p3.toUInt32 >>> ((1 : Int32) &&& 31).toUInt32).toInt32) % (((own_lo ((((p2.toUInt32 >>> ((8 : Int32) &&& 31).toUInt32).toInt32) % (15 : Int32)) + (1 : Int32))) - (own_hi (((p2.toUInt32 >>> ((8 : Int32) &&& 31).toUInt32).toInt32) % (15 : Int32)))) - (1 : Int32)))))] [(.int (fN p1))])) _
      refine sg42 _ ?_
      show Steps p.tables e below (T41.setTop (mkF m 201 #[.val (.int p1), .val (.int p2), .val (.int p3), .val (.ref rr1), .val (.ref rr4), .val (.int ((p2 &&& (2147483647 : Int32)) % (16 : Int32))), .val (.int (((own_hi ((p2 &&& (2147483647 : Int32)) % (16 : Int32))) - (own_lo ((p2 &&& (2147483647 : Int32)) % (16 : Int32)))) + (1 : Int32))), .val (.int ((own_lo ((p2 &&& (2147483647 : Int32)) % (16 : Int32))) + ((p3 &&& (2147483647 : Int32)) % (((own_hi ((p2 &&& (2147483647 : Int32)) % (16 : Int32))) - (own_lo ((p2 &&& (2147483647 : Int32)) % (16 : Int32)))) + (1 : Int32))))), .val (.int (1 : Int32)), .val (.int (((p2.toUInt32 >>> ((8 : Int32) &&& 31).toUInt32).toInt32) % (15 : Int32))), .val (.int (((own_lo ((((p2.toUInt32 >>> ((8 : Int32) &&& 31).toUInt32).toInt32) % (15 : Int32)) + (1 : Int32))) - (own_hi (((p2.toUInt32 >>> ((8 : Int32) &&& 31).toUInt32).toInt32) % (15 : Int32)))) - (1 : Int32))), .val (.int (((own_hi (((p2.toUInt32 >>> ((8 : Int32) &&& 31).toUInt32).toInt32) % (15 : Int32))) + (1 : Int32)) + (((p3.toUInt32 >>> ((1 : Int32) &&& 31).toUInt32).toInt32) % (((own_lo ((((p2.toUInt32 >>> ((8 : Int32) &&& 31).toUInt32).toInt32) % (15 : Int32)) + (1 : Int32))) - (own_hi (((p2.toUInt32 >>> ((8 : Int32) &&& 31).toUInt32).toInt32) % (15 : Int32)))) - (1 : Int32)))))] [(.int (1 : Int32))])) _
      exact retN X41 hx (t := .boolean) Bd.returns (by simp) (hb hby at_201) hr
    · show Q0 Z p1 p2 p3 h0 n0 _ T41.heap _
      rw [e41]
      exact ⟨rfl, N41⟩
  · have sgf171 : ∀ t, Steps p.tables e below (T37.setTop (mkF m 174 #[.val (.int p1), .val (.int p2), .val (.int p3), .val (.ref rr1), .val (.ref rr4), .val (.int ((p2 &&& (2147483647 : Int32)) % (16 : Int32))), .val (.int (((own_hi ((p2 &&& (2147483647 : Int32)) % (16 : Int32))) - (own_lo ((p2 &&& (2147483647 : Int32)) % (16 : Int32)))) + (1 : Int32))), .val (.int ((own_lo ((p2 &&& (2147483647 : Int32)) % (16 : Int32))) + ((p3 &&& (2147483647 : Int32)) % (((own_hi ((p2 &&& (2147483647 : Int32)) % (16 : Int32))) - (own_lo ((p2 &&& (2147483647 : Int32)) % (16 : Int32)))) + (1 : Int32))))), .val (.int (1 : Int32)), .val (.int (((p2.toUInt32 >>> ((8 : Int32) &&& 31).toUInt32).toInt32) % (15 : Int32))), .val (.int (((own_lo ((((p2.toUInt32 >>> ((8 : Int32) &&& 31).toUInt32).toInt32) % (15 : Int32)) + (1 : Int32))) - (own_hi (((p2.toUInt32 >>> ((8 : Int32) &&& 31).toUInt32).toInt32) % (15 : Int32)))) - (1 : Int32))), .val (.int (((own_hi (((p2.toUInt32 >>> ((8 : Int32) &&& 31).toUInt32).toInt32) % (15 : Int32))) + (1 : Int32)) + (((p3.toUInt32 >>> ((1 : Int32) &&& 31).toUInt32).toInt32) % (((own_lo ((((p2.toUInt32 >>> ((8 : Int32) &&& 31).toUInt32).toInt32) % (15 : Int32)) + (1 : Int32))) - (own_hi (((p2.toUInt32 >>> ((8 : Int32) &&& 31).toUInt32).toInt32) % (15 : Int32)))) - (1 : Int32)))))] [])) t → Steps p.tables e below (T37.setTop (mkF m 171 #[.val (.int p1), .val (.int p2), .val (.int p3), .val (.ref rr1), .val (.ref rr4), .val (.int ((p2 &&& (2147483647 : Int32)) % (16 : Int32))), .val (.int (((own_hi ((p2 &&& (2147483647 : Int32)) % (16 : Int32))) - (own_lo ((p2 &&& (2147483647 : Int32)) % (16 : Int32)))) + (1 : Int32))), .val (.int ((own_lo ((p2 &&& (2147483647 : Int32)) % (16 : Int32))) + ((p3 &&& (2147483647 : Int32)) % (((own_hi ((p2 &&& (2147483647 : Int32)) % (16 : Int32))) - (own_lo ((p2 &&& (2147483647 : Int32)) % (16 : Int32)))) + (1 : Int32))))), .val (.int (1 : Int32)), .val (.int (((p2.toUInt32 >>> ((8 : Int32) &&& 31).toUInt32).toInt32) % (15 : Int32))), .val (.int (((own_lo ((((p2.toUInt32 >>> ((8 : Int32) &&& 31).toUInt32).toInt32) % (15 : Int32)) + (1 : Int32))) - (own_hi (((p2.toUInt32 >>> ((8 : Int32) &&& 31).toUInt32).toInt32) % (15 : Int32)))) - (1 : Int32))), .val (.int (((own_hi (((p2.toUInt32 >>> ((8 : Int32) &&& 31).toUInt32).toInt32) % (15 : Int32))) + (1 : Int32)) + (((p3.toUInt32 >>> ((1 : Int32) &&& 31).toUInt32).toInt32) % (((own_lo ((((p2.toUInt32 >>> ((8 : Int32) &&& 31).toUInt32).toInt32) % (15 : Int32)) + (1 : Int32))) - (own_hi (((p2.toUInt32 >>> ((8 : Int32) &&& 31).toUInt32).toInt32) % (15 : Int32)))) - (1 : Int32)))))] [(.int (58 : Int32)), (.int p1)])) t := fun t k => by
      refine XS.icmpNo X37.here hx rfl (hb hby at_171) rfl (flt hc171).1 ?_
      exact k
    have sg43 : ∀ t, Steps p.tables e below (T37.setTop (mkF m 177 #[.val (.int p1), .val (.int p2), .val (.int p3), .val (.ref rr1), .val (.ref rr4), .val (.int ((p2 &&& (2147483647 : Int32)) % (16 : Int32))), .val (.int (((own_hi ((p2 &&& (2147483647 : Int32)) % (16 : Int32))) - (own_lo ((p2 &&& (2147483647 : Int32)) % (16 : Int32)))) + (1 : Int32))), .val (.int ((own_lo ((p2 &&& (2147483647 : Int32)) % (16 : Int32))) + ((p3 &&& (2147483647 : Int32)) % (((own_hi ((p2 &&& (2147483647 : Int32)) % (16 : Int32))) - (own_lo ((p2 &&& (2147483647 : Int32)) % (16 : Int32)))) + (1 : Int32))))), .val (.int (1 : Int32)), .val (.int (((p2.toUInt32 >>> ((8 : Int32) &&& 31).toUInt32).toInt32) % (15 : Int32))), .val (.int (((own_lo ((((p2.toUInt32 >>> ((8 : Int32) &&& 31).toUInt32).toInt32) % (15 : Int32)) + (1 : Int32))) - (own_hi (((p2.toUInt32 >>> ((8 : Int32) &&& 31).toUInt32).toInt32) % (15 : Int32)))) - (1 : Int32))), .val (.int (((own_hi (((p2.toUInt32 >>> ((8 : Int32) &&& 31).toUInt32).toInt32) % (15 : Int32))) + (1 : Int32)) + (((p3.toUInt32 >>> ((1 : Int32) &&& 31).toUInt32).toInt32) % (((own_lo ((((p2.toUInt32 >>> ((8 : Int32) &&& 31).toUInt32).toInt32) % (15 : Int32)) + (1 : Int32))) - (own_hi (((p2.toUInt32 >>> ((8 : Int32) &&& 31).toUInt32).toInt32) % (15 : Int32)))) - (1 : Int32)))))] [(.int (983039 : Int32)), (.int p1)])) t → Steps p.tables e below (T37.setTop (mkF m 174 #[.val (.int p1), .val (.int p2), .val (.int p3), .val (.ref rr1), .val (.ref rr4), .val (.int ((p2 &&& (2147483647 : Int32)) % (16 : Int32))), .val (.int (((own_hi ((p2 &&& (2147483647 : Int32)) % (16 : Int32))) - (own_lo ((p2 &&& (2147483647 : Int32)) % (16 : Int32)))) + (1 : Int32))), .val (.int ((own_lo ((p2 &&& (2147483647 : Int32)) % (16 : Int32))) + ((p3 &&& (2147483647 : Int32)) % (((own_hi ((p2 &&& (2147483647 : Int32)) % (16 : Int32))) - (own_lo ((p2 &&& (2147483647 : Int32)) % (16 : Int32)))) + (1 : Int32))))), .val (.int (1 : Int32)), .val (.int (((p2.toUInt32 >>> ((8 : Int32) &&& 31).toUInt32).toInt32) % (15 : Int32))), .val (.int (((own_lo ((((p2.toUInt32 >>> ((8 : Int32) &&& 31).toUInt32).toInt32) % (15 : Int32)) + (1 : Int32))) - (own_hi (((p2.toUInt32 >>> ((8 : Int32) &&& 31).toUInt32).toInt32) % (15 : Int32)))) - (1 : Int32))), .val (.int (((own_hi (((p2.toUInt32 >>> ((8 : Int32) &&& 31).toUInt32).toInt32) % (15 : Int32))) + (1 : Int32)) + (((p3.toUInt32 >>> ((1 : Int32) &&& 31).toUInt32).toInt32) % (((own_lo ((((p2.toUInt32 >>> ((8 : Int32) &&& 31).toUInt32).toInt32) % (15 : Int32)) + (1 : Int32))) - (own_hi (((p2.toUInt32 >>> ((8 : Int32) &&& 31).toUInt32).toInt32) % (15 : Int32)))) - (1 : Int32)))))] [])) t := by
      intro t k
      show Steps p.tables e below (T37.setTop (mkF m 174 #[.val (.int p1), .val (.int p2), .val (.int p3), .val (.ref rr1), .val (.ref rr4), .val (.int ((p2 &&& (2147483647 : Int32)) % (16 : Int32))), .val (.int (((own_hi ((p2 &&& (2147483647 : Int32)) % (16 : Int32))) - (own_lo ((p2 &&& (2147483647 : Int32)) % (16 : Int32)))) + (1 : Int32))), .val (.int ((own_lo ((p2 &&& (2147483647 : Int32)) % (16 : Int32))) + ((p3 &&& (2147483647 : Int32)) % (((own_hi ((p2 &&& (2147483647 : Int32)) % (16 : Int32))) - (own_lo ((p2 &&& (2147483647 : Int32)) % (16 : Int32)))) + (1 : Int32))))), .val (.int (1 : Int32)), .val (.int (((p2.toUInt32 >>> ((8 : Int32) &&& 31).toUInt32).toInt32) % (15 : Int32))), .val (.int (((own_lo ((((p2.toUInt32 >>> ((8 : Int32) &&& 31).toUInt32).toInt32) % (15 : Int32)) + (1 : Int32))) - (own_hi (((p2.toUInt32 >>> ((8 : Int32) &&& 31).toUInt32).toInt32) % (15 : Int32)))) - (1 : Int32))), .val (.int (((own_hi (((p2.toUInt32 >>> ((8 : Int32) &&& 31).toUInt32).toInt32) % (15 : Int32))) + (1 : Int32)) + (((p3.toUInt32 >>> ((1 : Int32) &&& 31).toUInt32).toInt32) % (((own_lo ((((p2.toUInt32 >>> ((8 : Int32) &&& 31).toUInt32).toInt32) % (15 : Int32)) + (1 : Int32))) - (own_hi (((p2.toUInt32 >>> ((8 : Int32) &&& 31).toUInt32).toInt32) % (15 : Int32)))) - (1 : Int32)))))] [])) _
      refine XS.iloadN X37.here hx rfl (hb hby at_174) rfl ?_
      show Steps p.tables e below (T37.setTop (mkF m 175 #[.val (.int p1), .val (.int p2), .val (.int p3), .val (.ref rr1), .val (.ref rr4), .val (.int ((p2 &&& (2147483647 : Int32)) % (16 : Int32))), .val (.int (((own_hi ((p2 &&& (2147483647 : Int32)) % (16 : Int32))) - (own_lo ((p2 &&& (2147483647 : Int32)) % (16 : Int32)))) + (1 : Int32))), .val (.int ((own_lo ((p2 &&& (2147483647 : Int32)) % (16 : Int32))) + ((p3 &&& (2147483647 : Int32)) % (((own_hi ((p2 &&& (2147483647 : Int32)) % (16 : Int32))) - (own_lo ((p2 &&& (2147483647 : Int32)) % (16 : Int32)))) + (1 : Int32))))), .val (.int (1 : Int32)), .val (.int (((p2.toUInt32 >>> ((8 : Int32) &&& 31).toUInt32).toInt32) % (15 : Int32))), .val (.int (((own_lo ((((p2.toUInt32 >>> ((8 : Int32) &&& 31).toUInt32).toInt32) % (15 : Int32)) + (1 : Int32))) - (own_hi (((p2.toUInt32 >>> ((8 : Int32) &&& 31).toUInt32).toInt32) % (15 : Int32)))) - (1 : Int32))), .val (.int (((own_hi (((p2.toUInt32 >>> ((8 : Int32) &&& 31).toUInt32).toInt32) % (15 : Int32))) + (1 : Int32)) + (((p3.toUInt32 >>> ((1 : Int32) &&& 31).toUInt32).toInt32) % (((own_lo ((((p2.toUInt32 >>> ((8 : Int32) &&& 31).toUInt32).toInt32) % (15 : Int32)) + (1 : Int32))) - (own_hi (((p2.toUInt32 >>> ((8 : Int32) &&& 31).toUInt32).toInt32) % (15 : Int32)))) - (1 : Int32)))))] [(.int p1)])) _
      refine X37.ldcInt hx hown (mvT hZ (hw _ (List.mem_of_getElem? (i := 14) rfl))) (g := (mkF m 175 #[.val (.int p1), .val (.int p2), .val (.int p3), .val (.ref rr1), .val (.ref rr4), .val (.int ((p2 &&& (2147483647 : Int32)) % (16 : Int32))), .val (.int (((own_hi ((p2 &&& (2147483647 : Int32)) % (16 : Int32))) - (own_lo ((p2 &&& (2147483647 : Int32)) % (16 : Int32)))) + (1 : Int32))), .val (.int ((own_lo ((p2 &&& (2147483647 : Int32)) % (16 : Int32))) + ((p3 &&& (2147483647 : Int32)) % (((own_hi ((p2 &&& (2147483647 : Int32)) % (16 : Int32))) - (own_lo ((p2 &&& (2147483647 : Int32)) % (16 : Int32)))) + (1 : Int32))))), .val (.int (1 : Int32)), .val (.int (((p2.toUInt32 >>> ((8 : Int32) &&& 31).toUInt32).toInt32) % (15 : Int32))), .val (.int (((own_lo ((((p2.toUInt32 >>> ((8 : Int32) &&& 31).toUInt32).toInt32) % (15 : Int32)) + (1 : Int32))) - (own_hi (((p2.toUInt32 >>> ((8 : Int32) &&& 31).toUInt32).toInt32) % (15 : Int32)))) - (1 : Int32))), .val (.int (((own_hi (((p2.toUInt32 >>> ((8 : Int32) &&& 31).toUInt32).toInt32) % (15 : Int32))) + (1 : Int32)) + (((p3.toUInt32 >>> ((1 : Int32) &&& 31).toUInt32).toInt32) % (((own_lo ((((p2.toUInt32 >>> ((8 : Int32) &&& 31).toUInt32).toInt32) % (15 : Int32)) + (1 : Int32))) - (own_hi (((p2.toUInt32 >>> ((8 : Int32) &&& 31).toUInt32).toInt32) % (15 : Int32)))) - (1 : Int32)))))] [(.int p1)])) rfl (hb hby at_175) _ ?_
      exact k
    have ch44 : ∀ t, Steps p.tables e below (T37.setTop (mkF m 177 #[.val (.int p1), .val (.int p2), .val (.int p3), .val (.ref rr1), .val (.ref rr4), .val (.int ((p2 &&& (2147483647 : Int32)) % (16 : Int32))), .val (.int (((own_hi ((p2 &&& (2147483647 : Int32)) % (16 : Int32))) - (own_lo ((p2 &&& (2147483647 : Int32)) % (16 : Int32)))) + (1 : Int32))), .val (.int ((own_lo ((p2 &&& (2147483647 : Int32)) % (16 : Int32))) + ((p3 &&& (2147483647 : Int32)) % (((own_hi ((p2 &&& (2147483647 : Int32)) % (16 : Int32))) - (own_lo ((p2 &&& (2147483647 : Int32)) % (16 : Int32)))) + (1 : Int32))))), .val (.int (1 : Int32)), .val (.int (((p2.toUInt32 >>> ((8 : Int32) &&& 31).toUInt32).toInt32) % (15 : Int32))), .val (.int (((own_lo ((((p2.toUInt32 >>> ((8 : Int32) &&& 31).toUInt32).toInt32) % (15 : Int32)) + (1 : Int32))) - (own_hi (((p2.toUInt32 >>> ((8 : Int32) &&& 31).toUInt32).toInt32) % (15 : Int32)))) - (1 : Int32))), .val (.int (((own_hi (((p2.toUInt32 >>> ((8 : Int32) &&& 31).toUInt32).toInt32) % (15 : Int32))) + (1 : Int32)) + (((p3.toUInt32 >>> ((1 : Int32) &&& 31).toUInt32).toInt32) % (((own_lo ((((p2.toUInt32 >>> ((8 : Int32) &&& 31).toUInt32).toInt32) % (15 : Int32)) + (1 : Int32))) - (own_hi (((p2.toUInt32 >>> ((8 : Int32) &&& 31).toUInt32).toInt32) % (15 : Int32)))) - (1 : Int32)))))] [(.int (983039 : Int32)), (.int p1)])) t → Steps p.tables e below (s₁.setTop (mkF m 0 #[.val (.int p1), .val (.int p2), .val (.int p3), .unset, .unset, .unset, .unset, .unset, .unset, .unset, .unset, .unset] [])) t := by
      intro t k
      refine ch39 _ ?_
      show Steps p.tables e below (T37.setTop (mkF m 171 #[.val (.int p1), .val (.int p2), .val (.int p3), .val (.ref rr1), .val (.ref rr4), .val (.int ((p2 &&& (2147483647 : Int32)) % (16 : Int32))), .val (.int (((own_hi ((p2 &&& (2147483647 : Int32)) % (16 : Int32))) - (own_lo ((p2 &&& (2147483647 : Int32)) % (16 : Int32)))) + (1 : Int32))), .val (.int ((own_lo ((p2 &&& (2147483647 : Int32)) % (16 : Int32))) + ((p3 &&& (2147483647 : Int32)) % (((own_hi ((p2 &&& (2147483647 : Int32)) % (16 : Int32))) - (own_lo ((p2 &&& (2147483647 : Int32)) % (16 : Int32)))) + (1 : Int32))))), .val (.int (1 : Int32)), .val (.int (((p2.toUInt32 >>> ((8 : Int32) &&& 31).toUInt32).toInt32) % (15 : Int32))), .val (.int (((own_lo ((((p2.toUInt32 >>> ((8 : Int32) &&& 31).toUInt32).toInt32) % (15 : Int32)) + (1 : Int32))) - (own_hi (((p2.toUInt32 >>> ((8 : Int32) &&& 31).toUInt32).toInt32) % (15 : Int32)))) - (1 : Int32))), .val (.int (((own_hi (((p2.toUInt32 >>> ((8 : Int32) &&& 31).toUInt32).toInt32) % (15 : Int32))) + (1 : Int32)) + (((p3.toUInt32 >>> ((1 : Int32) &&& 31).toUInt32).toInt32) % (((own_lo ((((p2.toUInt32 >>> ((8 : Int32) &&& 31).toUInt32).toInt32) % (15 : Int32)) + (1 : Int32))) - (own_hi (((p2.toUInt32 >>> ((8 : Int32) &&& 31).toUInt32).toInt32) % (15 : Int32)))) - (1 : Int32)))))] [(.int (58 : Int32)), (.int p1)])) _
      refine sgf171 _ ?_
      show Steps p.tables e below (T37.setTop (mkF m 174 #[.val (.int p1), .val (.int p2), .val (.int p3), .val (.ref rr1), .val (.ref rr4), .val (.int ((p2 &&& (2147483647 : Int32)) % (16 : Int32))), .val (.int (((own_hi ((p2 &&& (2147483647 : Int32)) % (16 : Int32))) - (own_lo ((p2 &&& (2147483647 : Int32)) % (16 : Int32)))) + (1 : Int32))), .val (.int ((own_lo ((p2 &&& (2147483647 : Int32)) % (16 : Int32))) + ((p3 &&& (2147483647 : Int32)) % (((own_hi ((p2 &&& (2147483647 : Int32)) % (16 : Int32))) - (own_lo ((p2 &&& (2147483647 : Int32)) % (16 : Int32)))) + (1 : Int32))))), .val (.int (1 : Int32)), .val (.int (((p2.toUInt32 >>> ((8 : Int32) &&& 31).toUInt32).toInt32) % (15 : Int32))), .val (.int (((own_lo ((((p2.toUInt32 >>> ((8 : Int32) &&& 31).toUInt32).toInt32) % (15 : Int32)) + (1 : Int32))) - (own_hi (((p2.toUInt32 >>> ((8 : Int32) &&& 31).toUInt32).toInt32) % (15 : Int32)))) - (1 : Int32))), .val (.int (((own_hi (((p2.toUInt32 >>> ((8 : Int32) &&& 31).toUInt32).toInt32) % (15 : Int32))) + (1 : Int32)) + (((p3.toUInt32 >>> ((1 : Int32) &&& 31).toUInt32).toInt32) % (((own_lo ((((p2.toUInt32 >>> ((8 : Int32) &&& 31).toUInt32).toInt32) % (15 : Int32)) + (1 : Int32))) - (own_hi (((p2.toUInt32 >>> ((8 : Int32) &&& 31).toUInt32).toInt32) % (15 : Int32)))) - (1 : Int32)))))] [])) _
      refine sg43 _ ?_
      show Steps p.tables e below (T37.setTop (mkF m 177 #[.val (.int p1), .val (.int p2), .val (.int p3), .val (.ref rr1), .val (.ref rr4), .val (.int ((p2 &&& (2147483647 : Int32)) % (16 : Int32))), .val (.int (((own_hi ((p2 &&& (2147483647 : Int32)) % (16 : Int32))) - (own_lo ((p2 &&& (2147483647 : Int32)) % (16 : Int32)))) + (1 : Int32))), .val (.int ((own_lo ((p2 &&& (2147483647 : Int32)) % (16 : Int32))) + ((p3 &&& (2147483647 : Int32)) % (((own_hi ((p2 &&& (2147483647 : Int32)) % (16 : Int32))) - (own_lo ((p2 &&& (2147483647 : Int32)) % (16 : Int32)))) + (1 : Int32))))), .val (.int (1 : Int32)), .val (.int (((p2.toUInt32 >>> ((8 : Int32) &&& 31).toUInt32).toInt32) % (15 : Int32))), .val (.int (((own_lo ((((p2.toUInt32 >>> ((8 : Int32) &&& 31).toUInt32).toInt32) % (15 : Int32)) + (1 : Int32))) - (own_hi (((p2.toUInt32 >>> ((8 : Int32) &&& 31).toUInt32).toInt32) % (15 : Int32)))) - (1 : Int32))), .val (.int (((own_hi (((p2.toUInt32 >>> ((8 : Int32) &&& 31).toUInt32).toInt32) % (15 : Int32))) + (1 : Int32)) + (((p3.toUInt32 >>> ((1 : Int32) &&& 31).toUInt32).toInt32) % (((own_lo ((((p2.toUInt32 >>> ((8 : Int32) &&& 31).toUInt32).toInt32) % (15 : Int32)) + (1 : Int32))) - (own_hi (((p2.toUInt32 >>> ((8 : Int32) &&& 31).toUInt32).toInt32) % (15 : Int32)))) - (1 : Int32)))))] [(.int (983039 : Int32)), (.int p1)])) _
      exact k
    by_cases hc177 : (983039 : Int32) < p1
    · have sgf177 : ∀ t, Steps p.tables e below (T37.setTop (mkF m 180 #[.val (.int p1), .val (.int p2), .val (.int p3), .val (.ref rr1), .val (.ref rr4), .val (.int ((p2 &&& (2147483647 : Int32)) % (16 : Int32))), .val (.int (((own_hi ((p2 &&& (2147483647 : Int32)) % (16 : Int32))) - (own_lo ((p2 &&& (2147483647 : Int32)) % (16 : Int32)))) + (1 : Int32))), .val (.int ((own_lo ((p2 &&& (2147483647 : Int32)) % (16 : Int32))) + ((p3 &&& (2147483647 : Int32)) % (((own_hi ((p2 &&& (2147483647 : Int32)) % (16 : Int32))) - (own_lo ((p2 &&& (2147483647 : Int32)) % (16 : Int32)))) + (1 : Int32))))), .val (.int (1 : Int32)), .val (.int (((p2.toUInt32 >>> ((8 : Int32) &&& 31).toUInt32).toInt32) % (15 : Int32))), .val (.int (((own_lo ((((p2.toUInt32 >>> ((8 : Int32) &&& 31).toUInt32).toInt32) % (15 : Int32)) + (1 : Int32))) - (own_hi (((p2.toUInt32 >>> ((8 : Int32) &&& 31).toUInt32).toInt32) % (15 : Int32)))) - (1 : Int32))), .val (.int (((own_hi (((p2.toUInt32 >>> ((8 : Int32) &&& 31).toUInt32).toInt32) % (15 : Int32))) + (1 : Int32)) + (((p3.toUInt32 >>> ((1 : Int32) &&& 31).toUInt32).toInt32) % (((own_lo ((((p2.toUInt32 >>> ((8 : Int32) &&& 31).toUInt32).toInt32) % (15 : Int32)) + (1 : Int32))) - (own_hi (((p2.toUInt32 >>> ((8 : Int32) &&& 31).toUInt32).toInt32) % (15 : Int32)))) - (1 : Int32)))))] [])) t → Steps p.tables e below (T37.setTop (mkF m 177 #[.val (.int p1), .val (.int p2), .val (.int p3), .val (.ref rr1), .val (.ref rr4), .val (.int ((p2 &&& (2147483647 : Int32)) % (16 : Int32))), .val (.int (((own_hi ((p2 &&& (2147483647 : Int32)) % (16 : Int32))) - (own_lo ((p2 &&& (2147483647 : Int32)) % (16 : Int32)))) + (1 : Int32))), .val (.int ((own_lo ((p2 &&& (2147483647 : Int32)) % (16 : Int32))) + ((p3 &&& (2147483647 : Int32)) % (((own_hi ((p2 &&& (2147483647 : Int32)) % (16 : Int32))) - (own_lo ((p2 &&& (2147483647 : Int32)) % (16 : Int32)))) + (1 : Int32))))), .val (.int (1 : Int32)), .val (.int (((p2.toUInt32 >>> ((8 : Int32) &&& 31).toUInt32).toInt32) % (15 : Int32))), .val (.int (((own_lo ((((p2.toUInt32 >>> ((8 : Int32) &&& 31).toUInt32).toInt32) % (15 : Int32)) + (1 : Int32))) - (own_hi (((p2.toUInt32 >>> ((8 : Int32) &&& 31).toUInt32).toInt32) % (15 : Int32)))) - (1 : Int32))), .val (.int (((own_hi (((p2.toUInt32 >>> ((8 : Int32) &&& 31).toUInt32).toInt32) % (15 : Int32))) + (1 : Int32)) + (((p3.toUInt32 >>> ((1 : Int32) &&& 31).toUInt32).toInt32) % (((own_lo ((((p2.toUInt32 >>> ((8 : Int32) &&& 31).toUInt32).toInt32) % (15 : Int32)) + (1 : Int32))) - (own_hi (((p2.toUInt32 >>> ((8 : Int32) &&& 31).toUInt32).toInt32) % (15 : Int32)))) - (1 : Int32)))))] [(.int (983039 : Int32)), (.int p1)])) t := fun t k => by
        refine XS.icmpNo X37.here hx rfl (hb hby at_177) rfl (tlt hc177).2.2.2 ?_
        exact k
      have sg45 : ∀ t, Steps p.tables e below (T37.setTop (mkF m 186 #[.val (.int p1), .val (.int p2), .val (.int p3), .val (.ref rr1), .val (.ref rr4), .val (.int ((p2 &&& (2147483647 : Int32)) % (16 : Int32))), .val (.int (((own_hi ((p2 &&& (2147483647 : Int32)) % (16 : Int32))) - (own_lo ((p2 &&& (2147483647 : Int32)) % (16 : Int32)))) + (1 : Int32))), .val (.int ((own_lo ((p2 &&& (2147483647 : Int32)) % (16 : Int32))) + ((p3 &&& (2147483647 : Int32)) % (((own_hi ((p2 &&& (2147483647 : Int32)) % (16 : Int32))) - (own_lo ((p2 &&& (2147483647 : Int32)) % (16 : Int32)))) + (1 : Int32))))), .val (.int (1 : Int32)), .val (.int (((p2.toUInt32 >>> ((8 : Int32) &&& 31).toUInt32).toInt32) % (15 : Int32))), .val (.int (((own_lo ((((p2.toUInt32 >>> ((8 : Int32) &&& 31).toUInt32).toInt32) % (15 : Int32)) + (1 : Int32))) - (own_hi (((p2.toUInt32 >>> ((8 : Int32) &&& 31).toUInt32).toInt32) % (15 : Int32)))) - (1 : Int32))), .val (.int (((own_hi (((p2.toUInt32 >>> ((8 : Int32) &&& 31).toUInt32).toInt32) % (15 : Int32))) + (1 : Int32)) + (((p3.toUInt32 >>> ((1 : Int32) &&& 31).toUInt32).toInt32) % (((own_lo ((((p2.toUInt32 >>> ((8 : Int32) &&& 31).toUInt32).toInt32) % (15 : Int32)) + (1 : Int32))) - (own_hi (((p2.toUInt32 >>> ((8 : Int32) &&& 31).toUInt32).toInt32) % (15 : Int32)))) - (1 : Int32)))))] [(.int p1)])) t → Steps p.tables e below (T37.setTop (mkF m 180 #[.val (.int p1), .val (.int p2), .val (.int p3), .val (.ref rr1), .val (.ref rr4), .val (.int ((p2 &&& (2147483647 : Int32)) % (16 : Int32))), .val (.int (((own_hi ((p2 &&& (2147483647 : Int32)) % (16 : Int32))) - (own_lo ((p2 &&& (2147483647 : Int32)) % (16 : Int32)))) + (1 : Int32))), .val (.int ((own_lo ((p2 &&& (2147483647 : Int32)) % (16 : Int32))) + ((p3 &&& (2147483647 : Int32)) % (((own_hi ((p2 &&& (2147483647 : Int32)) % (16 : Int32))) - (own_lo ((p2 &&& (2147483647 : Int32)) % (16 : Int32)))) + (1 : Int32))))), .val (.int (1 : Int32)), .val (.int (((p2.toUInt32 >>> ((8 : Int32) &&& 31).toUInt32).toInt32) % (15 : Int32))), .val (.int (((own_lo ((((p2.toUInt32 >>> ((8 : Int32) &&& 31).toUInt32).toInt32) % (15 : Int32)) + (1 : Int32))) - (own_hi (((p2.toUInt32 >>> ((8 : Int32) &&& 31).toUInt32).toInt32) % (15 : Int32)))) - (1 : Int32))), .val (.int (((own_hi (((p2.toUInt32 >>> ((8 : Int32) &&& 31).toUInt32).toInt32) % (15 : Int32))) + (1 : Int32)) + (((p3.toUInt32 >>> ((1 : Int32) &&& 31).toUInt32).toInt32) % (((own_lo ((((p2.toUInt32 >>> ((8 : Int32) &&& 31).toUInt32).toInt32) % (15 : Int32)) + (1 : Int32))) - (own_hi (((p2.toUInt32 >>> ((8 : Int32) &&& 31).toUInt32).toInt32) % (15 : Int32)))) - (1 : Int32)))))] [])) t := by
        intro t k
        show Steps p.tables e below (T37.setTop (mkF m 180 #[.val (.int p1), .val (.int p2), .val (.int p3), .val (.ref rr1), .val (.ref rr4), .val (.int ((p2 &&& (2147483647 : Int32)) % (16 : Int32))), .val (.int (((own_hi ((p2 &&& (2147483647 : Int32)) % (16 : Int32))) - (own_lo ((p2 &&& (2147483647 : Int32)) % (16 : Int32)))) + (1 : Int32))), .val (.int ((own_lo ((p2 &&& (2147483647 : Int32)) % (16 : Int32))) + ((p3 &&& (2147483647 : Int32)) % (((own_hi ((p2 &&& (2147483647 : Int32)) % (16 : Int32))) - (own_lo ((p2 &&& (2147483647 : Int32)) % (16 : Int32)))) + (1 : Int32))))), .val (.int (1 : Int32)), .val (.int (((p2.toUInt32 >>> ((8 : Int32) &&& 31).toUInt32).toInt32) % (15 : Int32))), .val (.int (((own_lo ((((p2.toUInt32 >>> ((8 : Int32) &&& 31).toUInt32).toInt32) % (15 : Int32)) + (1 : Int32))) - (own_hi (((p2.toUInt32 >>> ((8 : Int32) &&& 31).toUInt32).toInt32) % (15 : Int32)))) - (1 : Int32))), .val (.int (((own_hi (((p2.toUInt32 >>> ((8 : Int32) &&& 31).toUInt32).toInt32) % (15 : Int32))) + (1 : Int32)) + (((p3.toUInt32 >>> ((1 : Int32) &&& 31).toUInt32).toInt32) % (((own_lo ((((p2.toUInt32 >>> ((8 : Int32) &&& 31).toUInt32).toInt32) % (15 : Int32)) + (1 : Int32))) - (own_hi (((p2.toUInt32 >>> ((8 : Int32) &&& 31).toUInt32).toInt32) % (15 : Int32)))) - (1 : Int32)))))] [])) _
        refine XS.iload X37.here hx rfl (hb hby at_180) rfl ?_
        show Steps p.tables e below (T37.setTop (mkF m 182 #[.val (.int p1), .val (.int p2), .val (.int p3), .val (.ref rr1), .val (.ref rr4), .val (.int ((p2 &&& (2147483647 : Int32)) % (16 : Int32))), .val (.int (((own_hi ((p2 &&& (2147483647 : Int32)) % (16 : Int32))) - (own_lo ((p2 &&& (2147483647 : Int32)) % (16 : Int32)))) + (1 : Int32))), .val (.int ((own_lo ((p2 &&& (2147483647 : Int32)) % (16 : Int32))) + ((p3 &&& (2147483647 : Int32)) % (((own_hi ((p2 &&& (2147483647 : Int32)) % (16 : Int32))) - (own_lo ((p2 &&& (2147483647 : Int32)) % (16 : Int32)))) + (1 : Int32))))), .val (.int (1 : Int32)), .val (.int (((p2.toUInt32 >>> ((8 : Int32) &&& 31).toUInt32).toInt32) % (15 : Int32))), .val (.int (((own_lo ((((p2.toUInt32 >>> ((8 : Int32) &&& 31).toUInt32).toInt32) % (15 : Int32)) + (1 : Int32))) - (own_hi (((p2.toUInt32 >>> ((8 : Int32) &&& 31).toUInt32).toInt32) % (15 : Int32)))) - (1 : Int32))), .val (.int (((own_hi (((p2.toUInt32 >>> ((8 : Int32) &&& 31).toUInt32).toInt32) % (15 : Int32))) + (1 : Int32)) + (((p3.toUInt32 >>> ((1 : Int32) &&& 31).toUInt32).toInt32) % (((own_lo ((((p2.toUInt32 >>> ((8 : Int32) &&& 31).toUInt32).toInt32) % (15 : Int32)) + (1 : Int32))) - (own_hi (((p2.toUInt32 >>> ((8 : Int32) &&& 31).toUInt32).toInt32) % (15 : Int32)))) - (1 : Int32)))))] [(.int (1 : Int32))])) _
        refine XS.ifNo X37.here hx rfl (hb hby at_182) rfl ((if0 _ _).trans (feq (by decide : ¬ ((1 : Int32) = (0 : Int32)))).1) ?_
        show Steps p.tables e below (T37.setTop (mkF m 185 #[.val (.int p1), .val (.int p2), .val (.int p3), .val (.ref rr1), .val (.ref rr4), .val (.int ((p2 &&& (2147483647 : Int32)) % (16 : Int32))), .val (.int (((own_hi ((p2 &&& (2147483647 : Int32)) % (16 : Int32))) - (own_lo ((p2 &&& (2147483647 : Int32)) % (16 : Int32)))) + (1 : Int32))), .val (.int ((own_lo ((p2 &&& (2147483647 : Int32)) % (16 : Int32))) + ((p3 &&& (2147483647 : Int32)) % (((own_hi ((p2 &&& (2147483647 : Int32)) % (16 : Int32))) - (own_lo ((p2 &&& (2147483647 : Int32)) % (16 : Int32)))) + (1 : Int32))))), .val (.int (1 : Int32)), .val (.int (((p2.toUInt32 >>> ((8 : Int32) &&& 31).toUInt32).toInt32) % (15 : Int32))), .val (.int (((own_lo ((((p2.toUInt32 >>> ((8 : Int32) &&& 31).toUInt32).toInt32) % (15 : Int32)) + (1 : Int32))) - (own_hi (((p2.toUInt32 >>> ((8 : Int32) &&& 31).toUInt32).toInt32) % (15 : Int32)))) - (1 : Int32))), .val (.int (((own_hi (((p2.toUInt32 >>> ((8 : Int32) &&& 31).toUInt32).toInt32) % (15 : Int32))) + (1 : Int32)) + (((p3.toUInt32 >>> ((1 : Int32) &&& 31).toUInt32).toInt32) % (((own_lo ((((p2.toUInt32 >>> ((8 : Int32) &&& 31).toUInt32).toInt32) % (15 : Int32)) + (1 : Int32))) - (own_hi (((p2.toUInt32 >>> ((8 : Int32) &&& 31).toUInt32).toInt32) % (15 : Int32)))) - (1 : Int32)))))] [])) _
        refine XS.iloadN X37.here hx rfl (hb hby at_185) rfl ?_
        exact k
      obtain ⟨_, _, ⟨T46, L46, k46, n46⟩, -, X46, ⟨Lc46, hQ46, l46, y46, z46⟩, st46⟩ := Jvm.LawKit.callS X37 hx (y := (⟨"com/example/dongying/dongying/xml/XmlNames", "isNameStartChar", "(I)Z"⟩ : MethodName)) hown (mvT hZ (hw _ (List.mem_of_getElem? (i := 16) rfl))) (mvT hZ (hw _ (List.mem_of_getElem? (i := 17) rfl))) (mvT hZ (hw _ (List.mem_of_getElem? (i := 18) rfl))) (mvT hZ (hw _ (List.mem_of_getElem? (i := 19) rfl))) (by decide) (backOf (W := 0) (rmA l Z a0 hw [] p1 T4.heap n0 z7) hZ (hw _ (List.mem_of_getElem? (i := 19) rfl)) (hw _ (List.mem_of_getElem? (i := 18) rfl)) (by decide) (by decide)) (g := (mkF m 186 #[.val (.int p1), .val (.int p2), .val (.int p3), .val (.ref rr1), .val (.ref rr4), .val (.int ((p2 &&& (2147483647 : Int32)) % (16 : Int32))), .val (.int (((own_hi ((p2 &&& (2147483647 : Int32)) % (16 : Int32))) - (own_lo ((p2 &&& (2147483647 : Int32)) % (16 : Int32)))) + (1 : Int32))), .val (.int ((own_lo ((p2 &&& (2147483647 : Int32)) % (16 : Int32))) + ((p3 &&& (2147483647 : Int32)) % (((own_hi ((p2 &&& (2147483647 : Int32)) % (16 : Int32))) - (own_lo ((p2 &&& (2147483647 : Int32)) % (16 : Int32)))) + (1 : Int32))))), .val (.int (1 : Int32)), .val (.int (((p2.toUInt32 >>> ((8 : Int32) &&& 31).toUInt32).toInt32) % (15 : Int32))), .val (.int (((own_lo ((((p2.toUInt32 >>> ((8 : Int32) &&& 31).toUInt32).toInt32) % (15 : Int32)) + (1 : Int32))) - (own_hi (((p2.toUInt32 >>> ((8 : Int32) &&& 31).toUInt32).toInt32) % (15 : Int32)))) - (1 : Int32))), .val (.int (((own_hi (((p2.toUInt32 >>> ((8 : Int32) &&& 31).toUInt32).toInt32) % (15 : Int32))) + (1 : Int32)) + (((p3.toUInt32 >>> ((1 : Int32) &&& 31).toUInt32).toInt32) % (((own_lo ((((p2.toUInt32 >>> ((8 : Int32) &&& 31).toUInt32).toInt32) % (15 : Int32)) + (1 : Int32))) - (own_hi (((p2.toUInt32 >>> ((8 : Int32) &&& 31).toUInt32).toInt32) % (15 : Int32)))) - (1 : Int32)))))] [(.int p1)])) rfl (by rw [hml]; rfl) (argsL := [(.int p1)]) (rest := []) (lenOf pd_1 rfl) rfl (by show 2 * 0 + _ ≤ _; exact Nat.le_of_eq rfl) (hb hby at_186) (fun _ _ => ⟨rfl, e37, (by decide : 2 + 0 ≤ _), (by decide : 32 + 0 ≤ _)⟩)
      dsimp only [Pt.U, Pt.locs, Pt.cells, Pt.slots] at X46 l46 y46 z46 st46 hQ46
      subst l46 y46 z46
      obtain ⟨rfl, N46q, e46⟩ := hQ46
      have N46 := Fr.app N37 N46q
      have sg47 : ∀ t, Steps p.tables e below (T46.setTop (mkF m 201 #[.val (.int p1), .val (.int p2), .val (.int p3), .val (.ref rr1), .val (.ref rr4), .val (.int ((p2 &&& (2147483647 : Int32)) % (16 : Int32))), .val (.int (((own_hi ((p2 &&& (2147483647 : Int32)) % (16 : Int32))) - (own_lo ((p2 &&& (2147483647 : Int32)) % (16 : Int32)))) + (1 : Int32))), .val (.int ((own_lo ((p2 &&& (2147483647 : Int32)) % (16 : Int32))) + ((p3 &&& (2147483647 : Int32)) % (((own_hi ((p2 &&& (2147483647 : Int32)) % (16 : Int32))) - (own_lo ((p2 &&& (2147483647 : Int32)) % (16 : Int32)))) + (1 : Int32))))), .val (.int (1 : Int32)), .val (.int (((p2.toUInt32 >>> ((8 : Int32) &&& 31).toUInt32).toInt32) % (15 : Int32))), .val (.int (((own_lo ((((p2.toUInt32 >>> ((8 : Int32) &&& 31).toUInt32).toInt32) % (15 : Int32)) + (1 : Int32))) - (own_hi (((p2.toUInt32 >>> ((8 : Int32) &&& 31).toUInt32).toInt32) % (15 : Int32)))) - (1 : Int32))), .val (.int (((own_hi (((p2.toUInt32 >>> ((8 : Int32) &&& 31).toUInt32).toInt32) % (15 : Int32))) + (1 : Int32)) + (((p3.toUInt32 >>> ((1 : Int32) &&& 31).toUInt32).toInt32) % (((own_lo ((((p2.toUInt32 >>> ((8 : Int32) &&& 31).toUInt32).toInt32) % (15 : Int32)) + (1 : Int32))) - (own_hi (((p2.toUInt32 >>> ((8 : Int32) &&& 31).toUInt32).toInt32) % (15 : Int32)))) - (1 : Int32)))))] [(.int (1 : Int32))])) t → Steps p.tables e below (T46.setTop (mkF m 189 #[.val (.int p1), .val (.int p2), .val (.int p3), .val (.ref rr1), .val (.ref rr4), .val (.int ((p2 &&& (2147483647 : Int32)) % (16 : Int32))), .val (.int (((own_hi ((p2 &&& (2147483647 : Int32)) % (16 : Int32))) - (own_lo ((p2 &&& (2147483647 : Int32)) % (16 : Int32)))) + (1 : Int32))), .val (.int ((own_lo ((p2 &&& (2147483647 : Int32)) % (16 : Int32))) + ((p3 &&& (2147483647 : Int32)) % (((own_hi ((p2 &&& (2147483647 : Int32)) % (16 : Int32))) - (own_lo ((p2 &&& (2147483647 : Int32)) % (16 : Int32)))) + (1 : Int32))))), .val (.int (1 : Int32)), .val (.int (((p2.toUInt32 >>> ((8 : Int32) &&& 31).toUInt32).toInt32) % (15 : Int32))), .val (.int (((own_lo ((((p2.toUInt32 >>> ((8 : Int32) &&& 31).toUInt32).toInt32) % (15 : Int32)) + (1 : Int32))) - (own_hi (((p2.toUInt32 >>> ((8 : Int32) &&& 31).toUInt32).toInt32) % (15 : Int32)))) - (1 : Int32))), .val (.int (((own_hi (((p2.toUInt32 >>> ((8 : Int32) &&& 31).toUInt32).toInt32) % (15 : Int32))) + (1 : Int32)) + (((p3.toUInt32 >>> ((1 : Int32) &&& 31).toUInt32).toInt32) % (((own_lo ((((p2.toUInt32 >>> ((8 : Int32) &&& 31).toUInt32).toInt32) % (15 : Int32)) + (1 : Int32))) - (own_hi (((p2.toUInt32 >>> ((8 : Int32) &&& 31).toUInt32).toInt32) % (15 : Int32)))) - (1 : Int32)))))] [(.int (fN p1))])) t := by
        intro t k
        show Steps p.tables e below (T46.setTop (mkF m 189 #[.val (.int p1), .val (.int p2), .val (.int p3), .val (.ref rr1), .val (.ref rr4), .val (.int ((p2 &&& (2147483647 : Int32)) % (16 : Int32))), .val (.int (((own_hi ((p2 &&& (2147483647 : Int32)) % (16 : Int32))) - (own_lo ((p2 &&& (2147483647 : Int32)) % (16 : Int32)))) + (1 : Int32))), .val (.int ((own_lo ((p2 &&& (2147483647 : Int32)) % (16 : Int32))) + ((p3 &&& (2147483647 : Int32)) % (((own_hi ((p2 &&& (2147483647 : Int32)) % (16 : Int32))) - (own_lo ((p2 &&& (2147483647 : Int32)) % (16 : Int32)))) + (1 : Int32))))), .val (.int (1 : Int32)), .val (.int (((p2.toUInt32 >>> ((8 : Int32) &&& 31).toUInt32).toInt32) % (15 : Int32))), .val (.int (((own_lo ((((p2.toUInt32 >>> ((8 : Int32) &&& 31).toUInt32).toInt32) % (15 : Int32)) + (1 : Int32))) - (own_hi (((p2.toUInt32 >>> ((8 : Int32) &&& 31).toUInt32).toInt32) % (15 : Int32)))) - (1 : Int32))), .val (.int (((own_hi (((p2.toUInt32 >>> ((8 : Int32) &&& 31).toUInt32).toInt32) % (15 : Int32))) + (1 : Int32)) + (((p3.toUInt32 >>> ((1 : Int32) &&& 31).toUInt32).toInt32) % (((own_lo ((((p2.toUInt32 >>> ((8 : Int32) &&& 31).toUInt32).toInt32) % (15 : Int32)) + (1 : Int32))) - (own_hi (((p2.toUInt32 >>> ((8 : Int32) &&& 31).toUInt32).toInt32) % (15 : Int32)))) - (1 : Int32)))))] [(.int (fN p1))])) _
        refine XS.ifNo X46.here hx rfl (hb hby at_189) rfl ((if0 _ _).trans (teq ((own_high p1 hc177) : (fN p1) = (0 : Int32))).2) ?_
        show Steps p.tables e below (T46.setTop (mkF m 192 #[.val (.int p1), .val (.int p2), .val (.int p3), .val (.ref rr1), .val (.ref rr4), .val (.int ((p2 &&& (2147483647 : Int32)) % (16 : Int32))), .val (.int (((own_hi ((p2 &&& (2147483647 : Int32)) % (16 : Int32))) - (own_lo ((p2 &&& (2147483647 : Int32)) % (16 : Int32)))) + (1 : Int32))), .val (.int ((own_lo ((p2 &&& (2147483647 : Int32)) % (16 : Int32))) + ((p3 &&& (2147483647 : Int32)) % (((own_hi ((p2 &&& (2147483647 : Int32)) % (16 : Int32))) - (own_lo ((p2 &&& (2147483647 : Int32)) % (16 : Int32)))) + (1 : Int32))))), .val (.int (1 : Int32)), .val (.int (((p2.toUInt32 >>> ((8 : Int32) &&& 31).toUInt32).toInt32) % (15 : Int32))), .val (.int (((own_lo ((((p2.toUInt32 >>> ((8 : Int32) &&& 31).toUInt32).toInt32) % (15 : Int32)) + (1 : Int32))) - (own_hi (((p2.toUInt32 >>> ((8 : Int32) &&& 31).toUInt32).toInt32) % (15 : Int32)))) - (1 : Int32))), .val (.int (((own_hi (((p2.toUInt32 >>> ((8 : Int32) &&& 31).toUInt32).toInt32) % (15 : Int32))) + (1 : Int32)) + (((p3.toUInt32 >>> ((1 : Int32) &&& 31).toUInt32).toInt32) % (((own_lo ((((p2.toUInt32 >>> ((8 : Int32) &&& 31).toUInt32).toInt32) % (15 : Int32)) + (1 : Int32))) - (own_hi (((p2.toUInt32 >>> ((8 : Int32) &&& 31).toUInt32).toInt32) % (15 : Int32)))) - (1 : Int32)))))] [])) _
        refine XS.iconst X46.here hx rfl (hb hby at_192) ?_
        show Steps p.tables e below (T46.setTop (mkF m 193 #[.val (.int p1), .val (.int p2), .val (.int p3), .val (.ref rr1), .val (.ref rr4), .val (.int ((p2 &&& (2147483647 : Int32)) % (16 : Int32))), .val (.int (((own_hi ((p2 &&& (2147483647 : Int32)) % (16 : Int32))) - (own_lo ((p2 &&& (2147483647 : Int32)) % (16 : Int32)))) + (1 : Int32))), .val (.int ((own_lo ((p2 &&& (2147483647 : Int32)) % (16 : Int32))) + ((p3 &&& (2147483647 : Int32)) % (((own_hi ((p2 &&& (2147483647 : Int32)) % (16 : Int32))) - (own_lo ((p2 &&& (2147483647 : Int32)) % (16 : Int32)))) + (1 : Int32))))), .val (.int (1 : Int32)), .val (.int (((p2.toUInt32 >>> ((8 : Int32) &&& 31).toUInt32).toInt32) % (15 : Int32))), .val (.int (((own_lo ((((p2.toUInt32 >>> ((8 : Int32) &&& 31).toUInt32).toInt32) % (15 : Int32)) + (1 : Int32))) - (own_hi (((p2.toUInt32 >>> ((8 : Int32) &&& 31).toUInt32).toInt32) % (15 : Int32)))) - (1 : Int32))), .val (.int (((own_hi (((p2.toUInt32 >>> ((8 : Int32) &&& 31).toUInt32).toInt32) % (15 : Int32))) + (1 : Int32)) + (((p3.toUInt32 >>> ((1 : Int32) &&& 31).toUInt32).toInt32) % (((own_lo ((((p2.toUInt32 >>> ((8 : Int32) &&& 31).toUInt32).toInt32) % (15 : Int32)) + (1 : Int32))) - (own_hi (((p2.toUInt32 >>> ((8 : Int32) &&& 31).toUInt32).toInt32) % (15 : Int32)))) - (1 : Int32)))))] [(.int (1 : Int32))])) _
        refine XS.goto X46.here hx rfl (pc0 := 193) (pc' := 197) rfl (hb hby at_193) (by decide) (by decide) ?_
        show Steps p.tables e below (T46.setTop (mkF m 197 #[.val (.int p1), .val (.int p2), .val (.int p3), .val (.ref rr1), .val (.ref rr4), .val (.int ((p2 &&& (2147483647 : Int32)) % (16 : Int32))), .val (.int (((own_hi ((p2 &&& (2147483647 : Int32)) % (16 : Int32))) - (own_lo ((p2 &&& (2147483647 : Int32)) % (16 : Int32)))) + (1 : Int32))), .val (.int ((own_lo ((p2 &&& (2147483647 : Int32)) % (16 : Int32))) + ((p3 &&& (2147483647 : Int32)) % (((own_hi ((p2 &&& (2147483647 : Int32)) % (16 : Int32))) - (own_lo ((p2 &&& (2147483647 : Int32)) % (16 : Int32)))) + (1 : Int32))))), .val (.int (1 : Int32)), .val (.int (((p2.toUInt32 >>> ((8 : Int32) &&& 31).toUInt32).toInt32) % (15 : Int32))), .val (.int (((own_lo ((((p2.toUInt32 >>> ((8 : Int32) &&& 31).toUInt32).toInt32) % (15 : Int32)) + (1 : Int32))) - (own_hi (((p2.toUInt32 >>> ((8 : Int32) &&& 31).toUInt32).toInt32) % (15 : Int32)))) - (1 : Int32))), .val (.int (((own_hi (((p2.toUInt32 >>> ((8 : Int32) &&& 31).toUInt32).toInt32) % (15 : Int32))) + (1 : Int32)) + (((p3.toUInt32 >>> ((1 : Int32) &&& 31).toUInt32).toInt32) % (((own_lo ((((p2.toUInt32 >>> ((8 : Int32) &&& 31).toUInt32).toInt32) % (15 : Int32)) + (1 : Int32))) - (own_hi (((p2.toUInt32 >>> ((8 : Int32) &&& 31).toUInt32).toInt32) % (15 : Int32)))) - (1 : Int32)))))] [(.int (1 : Int32))])) _
        refine XS.istore X46.here hx rfl (hb hby at_197) rfl (l' := #[.val (.int p1), .val (.int p2), .val (.int p3), .val (.ref rr1), .val (.ref rr4), .val (.int ((p2 &&& (2147483647 : Int32)) % (16 : Int32))), .val (.int (((own_hi ((p2 &&& (2147483647 : Int32)) % (16 : Int32))) - (own_lo ((p2 &&& (2147483647 : Int32)) % (16 : Int32)))) + (1 : Int32))), .val (.int ((own_lo ((p2 &&& (2147483647 : Int32)) % (16 : Int32))) + ((p3 &&& (2147483647 : Int32)) % (((own_hi ((p2 &&& (2147483647 : Int32)) % (16 : Int32))) - (own_lo ((p2 &&& (2147483647 : Int32)) % (16 : Int32)))) + (1 : Int32))))), .val (.int (1 : Int32)), .val (.int (((p2.toUInt32 >>> ((8 : Int32) &&& 31).toUInt32).toInt32) % (15 : Int32))), .val (.int (((own_lo ((((p2.toUInt32 >>> ((8 : Int32) &&& 31).toUInt32).toInt32) % (15 : Int32)) + (1 : Int32))) - (own_hi (((p2.toUInt32 >>> ((8 : Int32) &&& 31).toUInt32).toInt32) % (15 : Int32)))) - (1 : Int32))), .val (.int (((own_hi (((p2.toUInt32 >>> ((8 : Int32) &&& 31).toUInt32).toInt32) % (15 : Int32))) + (1 : Int32)) + (((p3.toUInt32 >>> ((1 : Int32) &&& 31).toUInt32).toInt32) % (((own_lo ((((p2.toUInt32 >>> ((8 : Int32) &&& 31).toUInt32).toInt32) % (15 : Int32)) + (1 : Int32))) - (own_hi (((p2.toUInt32 >>> ((8 : Int32) &&& 31).toUInt32).toInt32) % (15 : Int32)))) - (1 : Int32)))))]) rfl ?_
        show Steps p.tables e below (T46.setTop (mkF m 199 #[.val (.int p1), .val (.int p2), .val (.int p3), .val (.ref rr1), .val (.ref rr4), .val (.int ((p2 &&& (2147483647 : Int32)) % (16 : Int32))), .val (.int (((own_hi ((p2 &&& (2147483647 : Int32)) % (16 : Int32))) - (own_lo ((p2 &&& (2147483647 : Int32)) % (16 : Int32)))) + (1 : Int32))), .val (.int ((own_lo ((p2 &&& (2147483647 : Int32)) % (16 : Int32))) + ((p3 &&& (2147483647 : Int32)) % (((own_hi ((p2 &&& (2147483647 : Int32)) % (16 : Int32))) - (own_lo ((p2 &&& (2147483647 : Int32)) % (16 : Int32)))) + (1 : Int32))))), .val (.int (1 : Int32)), .val (.int (((p2.toUInt32 >>> ((8 : Int32) &&& 31).toUInt32).toInt32) % (15 : Int32))), .val (.int (((own_lo ((((p2.toUInt32 >>> ((8 : Int32) &&& 31).toUInt32).toInt32) % (15 : Int32)) + (1 : Int32))) - (own_hi (((p2.toUInt32 >>> ((8 : Int32) &&& 31).toUInt32).toInt32) % (15 : Int32)))) - (1 : Int32))), .val (.int (((own_hi (((p2.toUInt32 >>> ((8 : Int32) &&& 31).toUInt32).toInt32) % (15 : Int32))) + (1 : Int32)) + (((p3.toUInt32 >>> ((1 : Int32) &&& 31).toUInt32).toInt32) % (((own_lo ((((p2.toUInt32 >>> ((8 : Int32) &&& 31).toUInt32).toInt32) % (15 : Int32)) + (1 : Int32))) - (own_hi (((p2.toUInt32 >>> ((8 : Int32) &&& 31).toUInt32).toInt32) % (15 : Int32)))) - (1 : Int32)))))] [])) _
        refine XS.iload X46.here hx rfl (hb hby at_199) rfl ?_
        exact k
      obtain ⟨fs, hr, hrun, hended, hW, hsame⟩ := X46.leave (v := some (.int (1 : Int32))) (fun h => by rw [Bd.returns] at h; cases h)
      refine ⟨_, _, pre0 _ ?_, hrun, hended, _, _, rfl, ?_, ⟨_, rfl⟩, hW, hsame.mono (by decide) (by decide)⟩
      · show Steps p.tables e below (s₁.setTop (mkF m 0 #[.val (.int p1), .val (.int p2), .val (.int p3), .unset, .unset, .unset, .unset, .unset, .unset, .unset, .unset, .unset] [])) _
        refine ch44 _ ?_
        show Steps p.tables e below (T37.setTop (mkF m 177 #[.val (.int p1), .val (.int p2), .val (.int p3), .val (.ref rr1), .val (.ref rr4), .val (.int ((p2 &&& (2147483647 : Int32)) % (16 : Int32))), .val (.int (((own_hi ((p2 &&& (2147483647 : Int32)) % (16 : Int32))) - (own_lo ((p2 &&& (2147483647 : Int32)) % (16 : Int32)))) + (1 : Int32))), .val (.int ((own_lo ((p2 &&& (2147483647 : Int32)) % (16 : Int32))) + ((p3 &&& (2147483647 : Int32)) % (((own_hi ((p2 &&& (2147483647 : Int32)) % (16 : Int32))) - (own_lo ((p2 &&& (2147483647 : Int32)) % (16 : Int32)))) + (1 : Int32))))), .val (.int (1 : Int32)), .val (.int (((p2.toUInt32 >>> ((8 : Int32) &&& 31).toUInt32).toInt32) % (15 : Int32))), .val (.int (((own_lo ((((p2.toUInt32 >>> ((8 : Int32) &&& 31).toUInt32).toInt32) % (15 : Int32)) + (1 : Int32))) - (own_hi (((p2.toUInt32 >>> ((8 : Int32) &&& 31).toUInt32).toInt32) % (15 : Int32)))) - (1 : Int32))), .val (.int (((own_hi (((p2.toUInt32 >>> ((8 : Int32) &&& 31).toUInt32).toInt32) % (15 : Int32))) + (1 : Int32)) + (((p3.toUInt32 >>> ((1 : Int32) &&& 31).toUInt32).toInt32) % (((own_lo ((((p2.toUInt32 >>> ((8 : Int32) &&& 31).toUInt32).toInt32) % (15 : Int32)) + (1 : Int32))) - (own_hi (((p2.toUInt32 >>> ((8 : Int32) &&& 31).toUInt32).toInt32) % (15 : Int32)))) - (1 : Int32)))))] [(.int (983039 : Int32)), (.int p1)])) _
        refine sgf177 _ ?_
        show Steps p.tables e below (T37.setTop (mkF m 180 #[.val (.int p1), .val (.int p2), .val (.int p3), .val (.ref rr1), .val (.ref rr4), .val (.int ((p2 &&& (2147483647 : Int32)) % (16 : Int32))), .val (.int (((own_hi ((p2 &&& (2147483647 : Int32)) % (16 : Int32))) - (own_lo ((p2 &&& (2147483647 : Int32)) % (16 : Int32)))) + (1 : Int32))), .val (.int ((own_lo ((p2 &&& (2147483647 : Int32)) % (16 : Int32))) + ((p3 &&& (2147483647 : Int32)) % (((own_hi ((p2 &&& (2147483647 : Int32)) % (16 : Int32))) - (own_lo ((p2 &&& (2147483647 : Int32)) % (16 : Int32)))) + (1 : Int32))))), .val (.int (1 : Int32)), .val (.int (((p2.toUInt32 >>> ((8 : Int32) &&& 31).toUInt32).toInt32) % (15 : Int32))), .val (.int (((own_lo ((((p2.toUInt32 >>> ((8 : Int32) &&& 31).toUInt32).toInt32) % (15 : Int32)) + (1 : Int32))) - (own_hi (((p2.toUInt32 >>> ((8 : Int32) &&& 31).toUInt32).toInt32) % (15 : Int32)))) - (1 : Int32))), .val (.int (((own_hi (((p2.toUInt32 >>> ((8 : Int32) &&& 31).toUInt32).toInt32) % (15 : Int32))) + (1 : Int32)) + (((p3.toUInt32 >>> ((1 : Int32) &&& 31).toUInt32).toInt32) % (((own_lo ((((p2.toUInt32 >>> ((8 : Int32) &&& 31).toUInt32).toInt32) % (15 : Int32)) + (1 : Int32))) - (own_hi (((p2.toUInt32 >>> ((8 : Int32) &&& 31).toUInt32).toInt32) % (15 : Int32)))) - (1 : Int32)))))] [])) _
        refine sg45 _ ?_
        show Steps p.tables e below (T37.setTop (mkF m 186 #[.val (.int p1), .val (.int p2), .val (.int p3), .val (.ref rr1), .val (.ref rr4), .val (.int ((p2 &&& (2147483647 : Int32)) % (16 : Int32))), .val (.int (((own_hi ((p2 &&& (2147483647 : Int32)) % (16 : Int32))) - (own_lo ((p2 &&& (2147483647 : Int32)) % (16 : Int32)))) + (1 : Int32))), .val (.int ((own_lo ((p2 &&& (2147483647 : Int32)) % (16 : Int32))) + ((p3 &&& (2147483647 : Int32)) % (((own_hi ((p2 &&& (2147483647 : Int32)) % (16 : Int32))) - (own_lo ((p2 &&& (2147483647 : Int32)) % (16 : Int32)))) + (1 : Int32))))), .val (.int (1 : Int32)), .val (.int (((p2.toUInt32 >>> ((8 : Int32) &&& 31).toUInt32).toInt32) % (15 : Int32))), .val (.int (((own_lo ((((p2.toUInt32 >>> ((8 : Int32) &&& 31).toUInt32).toInt32) % (15 : Int32)) + (1 : Int32))) - (own_hi (((p2.toUInt32 >>> ((8 : Int32) &&& 31).toUInt32).toInt32) % (15 : Int32)))) - (1 : Int32))), .val (.int (((own_hi (((p2.toUInt32 >>> ((8 : Int32) &&& 31).toUInt32).toInt32) % (15 : Int32))) + (1 : Int32)) + (((p3.toUInt32 >>> ((1 : Int32) &&& 31).toUInt32).toInt32) % (((own_lo ((((p2.toUInt32 >>> ((8 : Int32) &&& 31).toUInt32).toInt32) % (15 : Int32)) + (1 : Int32))) - (own_hi (((p2.toUInt32 >>> ((8 : Int32) &&& 31).toUInt32).toInt32) % (15 : Int32)))) - (1 : Int32)))))] [(.int p1)])) _
        refine st46 _ ?_
        show Steps p.tables e below (T46.setTop (mkF m 189 #[.val (.int p1), .val (.int p2), .val (.int p3), .val (.ref rr1), .val (.ref rr4), .val (.int ((p2 &&& (2147483647 : Int32)) % (16 : Int32))), .val (.int (((own_hi ((p2 &&& (2147483647 : Int32)) % (16 : Int32))) - (own_lo ((p2 &&& (2147483647 : Int32)) % (16 : Int32)))) + (1 : Int32))), .val (.int ((own_lo ((p2 &&& (2147483647 : Int32)) % (16 : Int32))) + ((p3 &&& (2147483647 : Int32)) % (((own_hi ((p2 &&& (2147483647 : Int32)) % (16 : Int32))) - (own_lo ((p2 &&& (2147483647 : Int32)) % (16 : Int32)))) + (1 : Int32))))), .val (.int (1 : Int32)), .val (.int (((p2.toUInt32 >>> ((8 : Int32) &&& 31).toUInt32).toInt32) % (15 : Int32))), .val (.int (((own_lo ((((p2.toUInt32 >>> ((8 : Int32) &&& 31).toUInt32).toInt32) % (15 : Int32)) + (1 : Int32))) - (own_hi (((p2.toUInt32 >>> ((8 : Int32) &&& 31).toUInt32).toInt32) % (15 : Int32)))) - (1 : Int32))), .val (.int (((own_hi (((p2.toUInt32 >>> ((8 : Int32) &&& 31).toUInt32).toInt32) % (15 : Int32))) + (1 : Int32)) + (((p3.toUInt32 >>> ((1 : Int32) &&& 31).toUInt32).toInt32) % (((own_lo ((((p2.toUInt32 >>> ((8 : Int32) &&& 31).toUInt32).toInt32) % (15 : Int32)) + (1 : Int32))) - (own_hi (((p2.toUInt32 >>> ((8 : Int32) &&& 31).toUInt32).toInt32) % (15 : Int32)))) - (1 : Int32)))))] [(.int (fN p1))])) _
        refine sg47 _ ?_
        show Steps p.tables e below (T46.setTop (mkF m 201 #[.val (.int p1), .val (.int p2), .val (.int p3), .val (.ref rr1), .val (.ref rr4), .val (.int ((p2 &&& (2147483647 : Int32)) % (16 : Int32))), .val (.int (((own_hi ((p2 &&& (2147483647 : Int32)) % (16 : Int32))) - (own_lo ((p2 &&& (2147483647 : Int32)) % (16 : Int32)))) + (1 : Int32))), .val (.int ((own_lo ((p2 &&& (2147483647 : Int32)) % (16 : Int32))) + ((p3 &&& (2147483647 : Int32)) % (((own_hi ((p2 &&& (2147483647 : Int32)) % (16 : Int32))) - (own_lo ((p2 &&& (2147483647 : Int32)) % (16 : Int32)))) + (1 : Int32))))), .val (.int (1 : Int32)), .val (.int (((p2.toUInt32 >>> ((8 : Int32) &&& 31).toUInt32).toInt32) % (15 : Int32))), .val (.int (((own_lo ((((p2.toUInt32 >>> ((8 : Int32) &&& 31).toUInt32).toInt32) % (15 : Int32)) + (1 : Int32))) - (own_hi (((p2.toUInt32 >>> ((8 : Int32) &&& 31).toUInt32).toInt32) % (15 : Int32)))) - (1 : Int32))), .val (.int (((own_hi (((p2.toUInt32 >>> ((8 : Int32) &&& 31).toUInt32).toInt32) % (15 : Int32))) + (1 : Int32)) + (((p3.toUInt32 >>> ((1 : Int32) &&& 31).toUInt32).toInt32) % (((own_lo ((((p2.toUInt32 >>> ((8 : Int32) &&& 31).toUInt32).toInt32) % (15 : Int32)) + (1 : Int32))) - (own_hi (((p2.toUInt32 >>> ((8 : Int32) &&& 31).toUInt32).toInt32) % (15 : Int32)))) - (1 : Int32)))))] [(.int (1 : Int32))])) _
        exact retN X46 hx (t := .boolean) Bd.returns (by simp) (hb hby at_201) hr
      · show Q0 Z p1 p2 p3 h0 n0 _ T46.heap _
        rw [e46]
        exact ⟨rfl, N46⟩
    · have sgf177 : ∀ t, Steps p.tables e below (T37.setTop (mkF m 199 #[.val (.int p1), .val (.int p2), .val (.int p3), .val (.ref rr1), .val (.ref rr4), .val (.int ((p2 &&& (2147483647 : Int32)) % (16 : Int32))), .val (.int (((own_hi ((p2 &&& (2147483647 : Int32)) % (16 : Int32))) - (own_lo ((p2 &&& (2147483647 : Int32)) % (16 : Int32)))) + (1 : Int32))), .val (.int ((own_lo ((p2 &&& (2147483647 : Int32)) % (16 : Int32))) + ((p3 &&& (2147483647 : Int32)) % (((own_hi ((p2 &&& (2147483647 : Int32)) % (16 : Int32))) - (own_lo ((p2 &&& (2147483647 : Int32)) % (16 : Int32)))) + (1 : Int32))))), .val (.int (1 : Int32)), .val (.int (((p2.toUInt32 >>> ((8 : Int32) &&& 31).toUInt32).toInt32) % (15 : Int32))), .val (.int (((own_lo ((((p2.toUInt32 >>> ((8 : Int32) &&& 31).toUInt32).toInt32) % (15 : Int32)) + (1 : Int32))) - (own_hi (((p2.toUInt32 >>> ((8 : Int32) &&& 31).toUInt32).toInt32) % (15 : Int32)))) - (1 : Int32))), .val (.int (((own_hi (((p2.toUInt32 >>> ((8 : Int32) &&& 31).toUInt32).toInt32) % (15 : Int32))) + (1 : Int32)) + (((p3.toUInt32 >>> ((1 : Int32) &&& 31).toUInt32).toInt32) % (((own_lo ((((p2.toUInt32 >>> ((8 : Int32) &&& 31).toUInt32).toInt32) % (15 : Int32)) + (1 : Int32))) - (own_hi (((p2.toUInt32 >>> ((8 : Int32) &&& 31).toUInt32).toInt32) % (15 : Int32)))) - (1 : Int32)))))] [])) t → Steps p.tables e below (T37.setTop (mkF m 177 #[.val (.int p1), .val (.int p2), .val (.int p3), .val (.ref rr1), .val (.ref rr4), .val (.int ((p2 &&& (2147483647 : Int32)) % (16 : Int32))), .val (.int (((own_hi ((p2 &&& (2147483647 : Int32)) % (16 : Int32))) - (own_lo ((p2 &&& (2147483647 : Int32)) % (16 : Int32)))) + (1 : Int32))), .val (.int ((own_lo ((p2 &&& (2147483647 : Int32)) % (16 : Int32))) + ((p3 &&& (2147483647 : Int32)) % (((own_hi ((p2 &&& (2147483647 : Int32)) % (16 : Int32))) - (own_lo ((p2 &&& (2147483647 : Int32)) % (16 : Int32)))) + (1 : Int32))))), .val (.int (1 : Int32)), .val (.int (((p2.toUInt32 >>> ((8 : Int32) &&& 31).toUInt32).toInt32) % (15 : Int32))), .val (.int (((own_lo ((((p2.toUInt32 >>> ((8 : Int32) &&& 31).toUInt32).toInt32) % (15 : Int32)) + (1 : Int32))) - (own_hi (((p2.toUInt32 >>> ((8 : Int32) &&& 31).toUInt32).toInt32) % (15 : Int32)))) - (1 : Int32))), .val (.int (((own_hi (((p2.toUInt32 >>> ((8 : Int32) &&& 31).toUInt32).toInt32) % (15 : Int32))) + (1 : Int32)) + (((p3.toUInt32 >>> ((1 : Int32) &&& 31).toUInt32).toInt32) % (((own_lo ((((p2.toUInt32 >>> ((8 : Int32) &&& 31).toUInt32).toInt32) % (15 : Int32)) + (1 : Int32))) - (own_hi (((p2.toUInt32 >>> ((8 : Int32) &&& 31).toUInt32).toInt32) % (15 : Int32)))) - (1 : Int32)))))] [(.int (983039 : Int32)), (.int p1)])) t := fun t k => by
        refine XS.icmpYes X37.here hx rfl (pc0 := 177) (pc' := 199) rfl (hb hby at_177) rfl (flt hc177).2.2.2 (by decide) (by decide) ?_
        exact k
      have sg48 : ∀ t, Steps p.tables e below (T37.setTop (mkF m 201 #[.val (.int p1), .val (.int p2), .val (.int p3), .val (.ref rr1), .val (.ref rr4), .val (.int ((p2 &&& (2147483647 : Int32)) % (16 : Int32))), .val (.int (((own_hi ((p2 &&& (2147483647 : Int32)) % (16 : Int32))) - (own_lo ((p2 &&& (2147483647 : Int32)) % (16 : Int32)))) + (1 : Int32))), .val (.int ((own_lo ((p2 &&& (2147483647 : Int32)) % (16 : Int32))) + ((p3 &&& (2147483647 : Int32)) % (((own_hi ((p2 &&& (2147483647 : Int32)) % (16 : Int32))) - (own_lo ((p2 &&& (2147483647 : Int32)) % (16 : Int32)))) + (1 : Int32))))), .val (.int (1 : Int32)), .val (.int (((p2.toUInt32 >>> ((8 : Int32) &&& 31).toUInt32).toInt32) % (15 : Int32))), .val (.int (((own_lo ((((p2.toUInt32 >>> ((8 : Int32) &&& 31).toUInt32).toInt32) % (15 : Int32)) + (1 : Int32))) - (own_hi (((p2.toUInt32 >>> ((8 : Int32) &&& 31).toUInt32).toInt32) % (15 : Int32)))) - (1 : Int32))), .val (.int (((own_hi (((p2.toUInt32 >>> ((8 : Int32) &&& 31).toUInt32).toInt32) % (15 : Int32))) + (1 : Int32)) + (((p3.toUInt32 >>> ((1 : Int32) &&& 31).toUInt32).toInt32) % (((own_lo ((((p2.toUInt32 >>> ((8 : Int32) &&& 31).toUInt32).toInt32) % (15 : Int32)) + (1 : Int32))) - (own_hi (((p2.toUInt32 >>> ((8 : Int32) &&& 31).toUInt32).toInt32) % (15 : Int32)))) - (1 : Int32)))))] [(.int (1 : Int32))])) t → Steps p.tables e below (T37.setTop (mkF m 199 #[.val (.int p1), .val (.int p2), .val (.int p3), .val (.ref rr1), .val (.ref rr4), .val (.int ((p2 &&& (2147483647 : Int32)) % (16 : Int32))), .val (.int (((own_hi ((p2 &&& (2147483647 : Int32)) % (16 : Int32))) - (own_lo ((p2 &&& (2147483647 : Int32)) % (16 : Int32)))) + (1 : Int32))), .val (.int ((own_lo ((p2 &&& (2147483647 : Int32)) % (16 : Int32))) + ((p3 &&& (2147483647 : Int32)) % (((own_hi ((p2 &&& (2147483647 : Int32)) % (16 : Int32))) - (own_lo ((p2 &&& (2147483647 : Int32)) % (16 : Int32)))) + (1 : Int32))))), .val (.int (1 : Int32)), .val (.int (((p2.toUInt32 >>> ((8 : Int32) &&& 31).toUInt32).toInt32) % (15 : Int32))), .val (.int (((own_lo ((((p2.toUInt32 >>> ((8 : Int32) &&& 31).toUInt32).toInt32) % (15 : Int32)) + (1 : Int32))) - (own_hi (((p2.toUInt32 >>> ((8 : Int32) &&& 31).toUInt32).toInt32) % (15 : Int32)))) - (1 : Int32))), .val (.int (((own_hi (((p2.toUInt32 >>> ((8 : Int32) &&& 31).toUInt32).toInt32) % (15 : Int32))) + (1 : Int32)) + (((p3.toUInt32 >>> ((1 : Int32) &&& 31).toUInt32).toInt32) % (((own_lo ((((p2.toUInt32 >>> ((8 : Int32) &&& 31).toUInt32).toInt32) % (15 : Int32)) + (1 : Int32))) - (own_hi (((p2.toUInt32 >>> ((8 : Int32) &&& 31).toUInt32).toInt32) % (15 : Int32)))) - (1 : Int32)))))] [])) t := by
        intro t k
        show Steps p.tables e below (T37.setTop (mkF m 199 #[.val (.int p1), .val (.int p2), .val (.int p3), .val (.ref rr1), .val (.ref rr4), .val (.int ((p2 &&& (2147483647 : Int32)) % (16 : Int32))), .val (.int (((own_hi ((p2 &&& (2147483647 : Int32)) % (16 : Int32))) - (own_lo ((p2 &&& (2147483647 : Int32)) % (16 : Int32)))) + (1 : Int32))), .val (.int ((own_lo ((p2 &&& (2147483647 : Int32)) % (16 : Int32))) + ((p3 &&& (2147483647 : Int32)) % (((own_hi ((p2 &&& (2147483647 : Int32)) % (16 : Int32))) - (own_lo ((p2 &&& (2147483647 : Int32)) % (16 : Int32)))) + (1 : Int32))))), .val (.int (1 : Int32)), .val (.int (((p2.toUInt32 >>> ((8 : Int32) &&& 31).toUInt32).toInt32) % (15 : Int32))), .val (.int (((own_lo ((((p2.toUInt32 >>> ((8 : Int32) &&& 31).toUInt32).toInt32) % (15 : Int32)) + (1 : Int32))) - (own_hi (((p2.toUInt32 >>> ((8 : Int32) &&& 31).toUInt32).toInt32) % (15 : Int32)))) - (1 : Int32))), .val (.int (((own_hi (((p2.toUInt32 >>> ((8 : Int32) &&& 31).toUInt32).toInt32) % (15 : Int32))) + (1 : Int32)) + (((p3.toUInt32 >>> ((1 : Int32) &&& 31).toUInt32).toInt32) % (((own_lo ((((p2.toUInt32 >>> ((8 : Int32) &&& 31).toUInt32).toInt32) % (15 : Int32)) + (1 : Int32))) - (own_hi (((p2.toUInt32 >>> ((8 : Int32) &&& 31).toUInt32).toInt32) % (15 : Int32)))) - (1 : Int32)))))] [])) _
        refine XS.iload X37.here hx rfl (hb hby at_199) rfl ?_
        exact k
      obtain ⟨fs, hr, hrun, hended, hW, hsame⟩ := X37.leave (v := some (.int (1 : Int32))) (fun h => by rw [Bd.returns] at h; cases h)
      refine ⟨_, _, pre0 _ ?_, hrun, hended, _, _, rfl, ?_, ⟨_, rfl⟩, hW, hsame.mono (by decide) (by decide)⟩
      · show Steps p.tables e below (s₁.setTop (mkF m 0 #[.val (.int p1), .val (.int p2), .val (.int p3), .unset, .unset, .unset, .unset, .unset, .unset, .unset, .unset, .unset] [])) _
        refine ch44 _ ?_
        show Steps p.tables e below (T37.setTop (mkF m 177 #[.val (.int p1), .val (.int p2), .val (.int p3), .val (.ref rr1), .val (.ref rr4), .val (.int ((p2 &&& (2147483647 : Int32)) % (16 : Int32))), .val (.int (((own_hi ((p2 &&& (2147483647 : Int32)) % (16 : Int32))) - (own_lo ((p2 &&& (2147483647 : Int32)) % (16 : Int32)))) + (1 : Int32))), .val (.int ((own_lo ((p2 &&& (2147483647 : Int32)) % (16 : Int32))) + ((p3 &&& (2147483647 : Int32)) % (((own_hi ((p2 &&& (2147483647 : Int32)) % (16 : Int32))) - (own_lo ((p2 &&& (2147483647 : Int32)) % (16 : Int32)))) + (1 : Int32))))), .val (.int (1 : Int32)), .val (.int (((p2.toUInt32 >>> ((8 : Int32) &&& 31).toUInt32).toInt32) % (15 : Int32))), .val (.int (((own_lo ((((p2.toUInt32 >>> ((8 : Int32) &&& 31).toUInt32).toInt32) % (15 : Int32)) + (1 : Int32))) - (own_hi (((p2.toUInt32 >>> ((8 : Int32) &&& 31).toUInt32).toInt32) % (15 : Int32)))) - (1 : Int32))), .val (.int (((own_hi (((p2.toUInt32 >>> ((8 : Int32) &&& 31).toUInt32).toInt32) % (15 : Int32))) + (1 : Int32)) + (((p3.toUInt32 >>> ((1 : Int32) &&& 31).toUInt32).toInt32) % (((own_lo ((((p2.toUInt32 >>> ((8 : Int32) &&& 31).toUInt32).toInt32) % (15 : Int32)) + (1 : Int32))) - (own_hi (((p2.toUInt32 >>> ((8 : Int32) &&& 31).toUInt32).toInt32) % (15 : Int32)))) - (1 : Int32)))))] [(.int (983039 : Int32)), (.int p1)])) _
        refine sgf177 _ ?_
        show Steps p.tables e below (T37.setTop (mkF m 199 #[.val (.int p1), .val (.int p2), .val (.int p3), .val (.ref rr1), .val (.ref rr4), .val (.int ((p2 &&& (2147483647 : Int32)) % (16 : Int32))), .val (.int (((own_hi ((p2 &&& (2147483647 : Int32)) % (16 : Int32))) - (own_lo ((p2 &&& (2147483647 : Int32)) % (16 : Int32)))) + (1 : Int32))), .val (.int ((own_lo ((p2 &&& (2147483647 : Int32)) % (16 : Int32))) + ((p3 &&& (2147483647 : Int32)) % (((own_hi ((p2 &&& (2147483647 : Int32)) % (16 : Int32))) - (own_lo ((p2 &&& (2147483647 : Int32)) % (16 : Int32)))) + (1 : Int32))))), .val (.int (1 : Int32)), .val (.int (((p2.toUInt32 >>> ((8 : Int32) &&& 31).toUInt32).toInt32) % (15 : Int32))), .val (.int (((own_lo ((((p2.toUInt32 >>> ((8 : Int32) &&& 31).toUInt32).toInt32) % (15 : Int32)) + (1 : Int32))) - (own_hi (((p2.toUInt32 >>> ((8 : Int32) &&& 31).toUInt32).toInt32) % (15 : Int32)))) - (1 : Int32))), .val (.int (((own_hi (((p2.toUInt32 >>> ((8 : Int32) &&& 31).toUInt32).toInt32) % (15 : Int32))) + (1 : Int32)) + (((p3.toUInt32 >>> ((1 : Int32) &&& 31).toUInt32).toInt32) % (((own_lo ((((p2.toUInt32 >>> ((8 : Int32) &&& 31).toUInt32).toInt32) % (15 : Int32)) + (1 : Int32))) - (own_hi (((p2.toUInt32 >>> ((8 : Int32) &&& 31).toUInt32).toInt32) % (15 : Int32)))) - (1 : Int32)))))] [])) _
        refine sg48 _ ?_
        show Steps p.tables e below (T37.setTop (mkF m 201 #[.val (.int p1), .val (.int p2), .val (.int p3), .val (.ref rr1), .val (.ref rr4), .val (.int ((p2 &&& (2147483647 : Int32)) % (16 : Int32))), .val (.int (((own_hi ((p2 &&& (2147483647 : Int32)) % (16 : Int32))) - (own_lo ((p2 &&& (2147483647 : Int32)) % (16 : Int32)))) + (1 : Int32))), .val (.int ((own_lo ((p2 &&& (2147483647 : Int32)) % (16 : Int32))) + ((p3 &&& (2147483647 : Int32)) % (((own_hi ((p2 &&& (2147483647 : Int32)) % (16 : Int32))) - (own_lo ((p2 &&& (2147483647 : Int32)) % (16 : Int32)))) + (1 : Int32))))), .val (.int (1 : Int32)), .val (.int (((p2.toUInt32 >>> ((8 : Int32) &&& 31).toUInt32).toInt32) % (15 : Int32))), .val (.int (((own_lo ((((p2.toUInt32 >>> ((8 : Int32) &&& 31).toUInt32).toInt32) % (15 : Int32)) + (1 : Int32))) - (own_hi (((p2.toUInt32 >>> ((8 : Int32) &&& 31).toUInt32).toInt32) % (15 : Int32)))) - (1 : Int32))), .val (.int (((own_hi (((p2.toUInt32 >>> ((8 : Int32) &&& 31).toUInt32).toInt32) % (15 : Int32))) + (1 : Int32)) + (((p3.toUInt32 >>> ((1 : Int32) &&& 31).toUInt32).toInt32) % (((own_lo ((((p2.toUInt32 >>> ((8 : Int32) &&& 31).toUInt32).toInt32) % (15 : Int32)) + (1 : Int32))) - (own_hi (((p2.toUInt32 >>> ((8 : Int32) &&& 31).toUInt32).toInt32) % (15 : Int32)))) - (1 : Int32)))))] [(.int (1 : Int32))])) _
        exact retN X37 hx (t := .boolean) Bd.returns (by simp) (hb hby at_201) hr
      · show Q0 Z p1 p2 p3 h0 n0 _ T37.heap _
        rw [e37]
        exact ⟨rfl, N37⟩
set_option maxRecDepth 65536 in
set_option maxHeartbeats 40000000 in
theorem comes_1 {Post : Tables → Env → Array Value → State → Outcome → State → Prop} (hpost : ∀ tb e args s v u, (limb_1_1.after args s (.returned v) u = true ∧ limb_1_2.after args s (.returned v) u = true ∧ True) → FrameEnd s (.returned v) u (Jvm.fieldLocs frame_1_writes args s ++ Jvm.arrayLocs frame_1_arrays args s ++ Jvm.staticLocs frame_1_statics s) 16 128 → Post tb e args s (.returned v) u) :
    ArmFor flags0 classFile x code maxLocals ret World_1 tables_1 room_1 Calls_1 rest_1 Pre_1 Post := by
  intro l hfl _ _ p e ha hc hk s m args below hf hA hF happ hP
  obtain ⟨hcalls, hrest, hpre⟩ := hP
  obtain ⟨-, -, -, hnamed, -, -, -, hat⟩ := (Spec.applies_iff hf).mp happ
  obtain ⟨hg, hn⟩ := and_e (Cond.before_iff.mp (show (Jvm.Cond.and given_1 narrow_1).before args s = true from hpre))
  obtain ⟨gc, gr0⟩ := and_e hg
  obtain ⟨ga0, gr1⟩ := and_e gr0
  obtain ⟨ga1, gr2⟩ := and_e gr1
  have ga2 := gr2
  obtain ⟨w0, w1, w2, rfl⟩ : ∃ w0 w1 w2 : Value, args = #[w0, w1, w2] := by
    have hs : args.size = 3 := by simpa [Cond.value, given_1] using gc
    obtain ⟨L⟩ := args
    match L, hs with
    | [w0, w1, w2], _ => exact ⟨w0, w1, w2, rfl⟩
  have hw := fun d (hd : d ∈ tables_1) => atoms_spec (ws := Jvm.Cond.code x code maxLocals ret :: tables_1) hat d (List.mem_cons_of_mem _ hd)
  have hfit : Fit s := fun {y c} hc i hi => by
    obtain ⟨ha, rfl⟩ := Array.getElem?_eq_some_iff.mp hc
    have q := List.all_eq_true.mp ((Array.all_eq_true_iff_forall_mem.mp hF) _ (Array.getElem_mem ha)) i (List.mem_range.mpr hi)
    simpa [Array.getElem?_eq_getElem hi] using q
  obtain ⟨i0, ei0⟩ := is_v ga0
  obtain rfl : w0 = (.int i0) := Option.some.inj ei0
  obtain ⟨i1, ei1⟩ := is_v ga1
  obtain rfl : w1 = (.int i1) := Option.some.inj ei1
  obtain ⟨i2, ei2⟩ := is_v ga2
  obtain rfl : w2 = (.int i2) := Option.some.inj ei2
  obtain ⟨n, o, h1, h2, h3, _, L, rfl, ⟨rfl, N⟩, hq⟩ := rm0 l s _ hw tables_1 i0 i1 i2 s.heap s.heap.size (Nat.le_refl _)  p e ha hc hk s m _ below hf ((Spec.applies_iff_loose hf).mp happ).1 ⟨rfl, State.Warmed39.refl s, rfl⟩ trivial
  refine ⟨n, _, h1, h2, h3, hpost _ _ _ _ _ _ ⟨Cond.after_iff.mpr rfl, Cond.after_iff.mpr (eq_i res_at (Term.int_eval (1)) rfl), trivial⟩ ⟨hq.1, hq.2.1, (hq.2.2.sift fun y hy => Or.inr (N y hy)).mono (by decide) (by decide)⟩⟩
theorem main_1_1 : Claimed_1_1 := comes_1 fun _ _ _ _ _ _ h hF => ⟨h.1, hF⟩
theorem main_1_2 : Claimed_1_2 := comes_1 fun _ _ _ _ _ _ h hF => ⟨h.2.1, hF⟩
end Jvm.Pilot.@@N@@
namespace Jvm.Pilot.@@N@@
open Jvm Jvm.ClassFile Sem Op Lib Jvm.Free Jvm.Stand Jvm.Pilot.@@N@@.Jvm.D
/-! MADE BY PROGRAM (witnessworld.py) out of the Statement's table words and the real class files: 9 classes; the members and pool entries that the words name. The judged class is class 1, her method 3. -/
namespace start1
open Jvm.ClassFile
def u (s : String) : CpInfo := .utf8 (stringToUtf16 s)
/-- a pool by its gaps: so many unusable entries, then the entry; so many at the end -/
def gap : Nat → List CpInfo → List CpInfo
  | 0, r => r
  | n + 1, r => .unusable :: gap n r
def poolList (es : List (Nat × CpInfo)) (last : Nat) : List CpInfo := es.foldr (fun e r => gap e.1 (e.2 :: r)) (gap last [])
def pool (es : List (Nat × CpInfo)) (last : Nat) : Array CpInfo := ⟨poolList es last⟩
def fileOf (pool : Array CpInfo) (this : Nat) (attrs : Array Attribute := #[]) (ms : Array MethodInfo := #[]) (fl : Nat := 33) (sup : Nat := 0) (ifs : Array Nat := #[]) (fds : Array FieldInfo := #[]) : ClassFile where
  minorVersion := 0
  majorVersion := 65
  constantPool := pool
  accessFlags := fl
  thisClass := this
  superClass := sup
  interfaces := ifs
  fields := fds
  methods := ms
  attributes := attrs
def plain (name : String) (sup : Option ClassId) : Class where
  name := name
  kind := .ordinary
  loader := none
  accessFlags := 33
  super := sup
  interfaces := #[]
  cf := none
  fields := #[]
  methods := #[]
  instanceTypes := #[]
  staticTypes := #[]
  resolved := #[]
  callSites := []
  init := .initialized
  statics := none
  mirror := none

def pool0 : Array CpInfo := pool [(5, u "<init>"), (0, u "()V"), (1, .class_ 10), (1, u "java/lang/Object")] 113

def k0m0 : Method := { name := "<init>", desc := "()V", sig := { parameters := [], returnType := none }, accessFlags := 1, code := none }
/-- java/lang/Object -/
def k0 : Class := { plain "java/lang/Object" none with
  accessFlags := 33
  interfaces := #[]
  cf := some (fileOf pool0 8 #[] #[{ accessFlags := 1, nameIndex := 5, descriptorIndex := 6, attributes := #[] }] 33 0 #[] #[])
  fields := #[]
  methods := #[k0m0]
  instanceTypes := #[]
  staticTypes := #[]
  resolved := Array.replicate 124 none
  statics := none }

def pool1 : Array CpInfo := pool [(2, .class_ 4), (1, u "java/lang/Object"), (0, u "<init>"), (0, u "()V"), (0, .integer 63744), (0, .integer 65008), (0, .integer 65536), (0, .integer 55295), (0, .integer 64975), (0, .integer 65533), (0, .integer 983039), (0, .methodref 15 16), (0, .class_ 17), (0, .nameAndType 18 19), (0, u "com/example/dongying/dongying/xml/XmlNamesIsNameStartCharPinLaw"), (0, u "lows"), (0, u "()[I"), (0, .methodref 15 21), (0, .nameAndType 22 19), (0, u "highs"), (0, .integer 2147483647), (0, .methodref 25 26), (0, .class_ 27), (0, .nameAndType 28 29), (0, u "com/example/dongying/dongying/xml/XmlNames"), (0, u "isNameStartChar"), (0, u "(I)Z"), (2, u "law"), (0, u "(III)Z")] 5

def k1m0 : Method := { name := "<init>", desc := "()V", sig := { parameters := [], returnType := none }, accessFlags := 2, code := none }
def k1c1 : Code := { maxStack := 4, maxLocals := 0, code := method_2_code, exceptionTable := #[], attributes := #[] }
def k1m1 : Method := { name := "lows", desc := "()[I", sig := { parameters := [], returnType := some (.array .int) }, accessFlags := 10, code := some k1c1 }
def k1c2 : Code := { maxStack := 4, maxLocals := 0, code := method_3_code, exceptionTable := #[], attributes := #[] }
def k1m2 : Method := { name := "highs", desc := "()[I", sig := { parameters := [], returnType := some (.array .int) }, accessFlags := 10, code := some k1c2 }
def k1c3 : Code := { maxStack := 3, maxLocals := 12, code := code, exceptionTable := #[], attributes := #[] }
def k1m3 : Method := { name := "law", desc := "(III)Z", sig := { parameters := [.int, .int, .int], returnType := some .boolean }, accessFlags := 9, code := some k1c3 }
/-- com/example/dongying/dongying/xml/XmlNamesIsNameStartCharPinLaw -/
def k1 : Class := { plain "com/example/dongying/dongying/xml/XmlNamesIsNameStartCharPinLaw" (some 0) with
  accessFlags := 49
  interfaces := #[]
  cf := some (fileOf pool1 15 #[] #[{ accessFlags := 2, nameIndex := 5, descriptorIndex := 6, attributes := #[] }, { accessFlags := 10, nameIndex := 18, descriptorIndex := 19, attributes := #[] }, { accessFlags := 10, nameIndex := 22, descriptorIndex := 19, attributes := #[] }, { accessFlags := 9, nameIndex := 32, descriptorIndex := 33, attributes := #[] }] 49 2 #[] #[])
  fields := #[]
  methods := #[k1m0, k1m1, k1m2, k1m3]
  instanceTypes := #[]
  staticTypes := #[]
  resolved := Array.replicate 39 none
  statics := none }

def pool2 : Array CpInfo := pool [(2, .class_ 4), (1, u "java/lang/Object"), (0, u "<init>"), (0, u "()V"), (0, .integer 55295), (0, .integer 63744), (0, .integer 64975), (0, .integer 65008), (0, .integer 65533), (0, .integer 65536), (0, .integer 983039), (1, .class_ 17), (1, u "com/example/dongying/dongying/xml/XmlNames"), (0, u "isNameStartChar"), (0, u "(I)Z"), (28, u "ENCODING_NAME"), (0, u "Ljava/util/regex/Pattern;")] 46

def k2m0 : Method := { name := "<init>", desc := "()V", sig := { parameters := [], returnType := none }, accessFlags := 2, code := none }
def k2c1 : Code := { maxStack := 2, maxLocals := 1, code := prog_87_method_2_code, exceptionTable := #[], attributes := #[] }
def k2m1 : Method := { name := "isNameStartChar", desc := "(I)Z", sig := { parameters := [.int], returnType := some .boolean }, accessFlags := 9, code := some k2c1 }
/-- com/example/dongying/dongying/xml/XmlNames -/
def k2 : Class := { plain "com/example/dongying/dongying/xml/XmlNames" (some 0) with
  accessFlags := 49
  interfaces := #[]
  cf := some (fileOf pool2 15 #[] #[{ accessFlags := 2, nameIndex := 5, descriptorIndex := 6, attributes := #[] }, { accessFlags := 9, nameIndex := 18, descriptorIndex := 19, attributes := #[] }] 49 2 #[] #[{ accessFlags := 26, nameIndex := 48, descriptorIndex := 49, attributes := #[] }])
  fields := #[{ name := "ENCODING_NAME", type := (.object "java/util/regex/Pattern"), accessFlags := 26, slot := 0, constantValue := 0 }]
  methods := #[k2m0, k2m1]
  instanceTypes := #[]
  staticTypes := #[(.object "java/util/regex/Pattern")]
  resolved := Array.replicate 96 none
  statics := none }

def pool3 : Array CpInfo := pool [(1, u "java/lang/Cloneable"), (0, .class_ 1), (0, u "java/lang/Object"), (0, .class_ 3)] 3

/-- java/lang/Cloneable -/
def k3 : Class := { plain "java/lang/Cloneable" (some 0) with
  accessFlags := 1537
  interfaces := #[]
  cf := some (fileOf pool3 2 #[] #[] 1537 4 #[] #[])
  fields := #[]
  methods := #[]
  instanceTypes := #[]
  staticTypes := #[]
  resolved := Array.replicate 8 none
  statics := none }

def pool4 : Array CpInfo := pool [(1, u "java/io/Serializable"), (0, .class_ 1), (0, u "java/lang/Object"), (0, .class_ 3)] 3

/-- java/io/Serializable -/
def k4 : Class := { plain "java/io/Serializable" (some 0) with
  accessFlags := 1537
  interfaces := #[]
  cf := some (fileOf pool4 2 #[] #[] 1537 4 #[] #[])
  fields := #[]
  methods := #[]
  instanceTypes := #[]
  staticTypes := #[]
  resolved := Array.replicate 8 none
  statics := none }

/-- the primitive byte -/
def k5 : Class := { plain "byte" none with kind := .primitive 'B', accessFlags := 0x411 }
/-- [B -/
def k6 : Class := { plain "[B" (some 0) with kind := .array 5 .byte, interfaces := #[3, 4], accessFlags := 1041 }

/-- the primitive int -/
def k7 : Class := { plain "int" none with kind := .primitive 'I', accessFlags := 0x411 }
/-- [I -/
def k8 : Class := { plain "[I" (some 0) with kind := .array 7 .int, interfaces := #[3, 4], accessFlags := 1041 }

def heap : Heap := #[]
def classes : Array Class := #[k0, k1, k2, k3, k4, k5, k6, k7, k8]
def interned : List (Array UInt16 × Addr) := []
def slotsUsed : Nat := 0
def theMethod : MethodId := ⟨1, 3⟩
def args0 : Array Value := #[.int 5, .int 6, .int 7]
def aboutOver (below : List Frame) : State where
  vm := { classes := classes, interned := interned.toArray }
  heap := heap
  slotsUsed := slotsUsed
  threads := #[{ frames := .invoking theMethod args0 :: below }]
def below0 : List Frame := [.native { method := ⟨0, 0⟩, args := #[] }]
def about1 : State := aboutOver below0
def p0 : Program := .bare "" "" ""
def e0 : Env := launch0.env 0 0 0
theorem w_frames : about1.frames = Frame.invoking theMethod args0 :: below0 := rfl
set_option maxRecDepth 65536 in
theorem w_args : argsFit about1.vm theMethod args0 = true := by decide +kernel
set_option maxRecDepth 65536 in
theorem w_heap : heapFits about1 = true := by decide +kernel
set_option maxRecDepth 65536 in
theorem w_runnable : about1.curStatus? = some .runnable := by decide +kernel
set_option maxRecDepth 65536 in
theorem w_alone : about1.alone = true := by decide +kernel
set_option maxRecDepth 65536 in
theorem w_named : about1.methodNamed? x = some theMethod := by decide +kernel
set_option maxRecDepth 65536 in
theorem w_hears : about1.hears theMethod below0 = true := by decide +kernel
set_option maxRecDepth 65536 in
theorem w_ripe : about1.ripe theMethod args0 below0 = true := by decide +kernel
theorem w_running : about1.status = .running := rfl
set_option maxRecDepth 65536 in
theorem w_room : about1.hasRoom e0.platform room_1 = true :=
  launch0.hasRoom_least _ room_1 (by decide +kernel) (by decide +kernel) (by decide +kernel) (by decide +kernel) (by decide +kernel) (by decide +kernel)
theorem allAtoms_all (ts : List Jvm.Cond) (a : Array Jvm.Value) (st : Jvm.State) : (allAtoms ts).before a st = ts.all (fun c => c.before a st) := by
  induction ts with
  | nil => rfl
  | cons c t ih =>
    show (Jvm.Cond.and c (allAtoms t)).before a st = _
    rw [Jvm.Cond.before_and, ih, List.all_cons]
def words1 : List Jvm.Cond := Jvm.Cond.code x code maxLocals ret :: tables_1
/-- a 'code' word, met by the world's own term for the bytes: nothing is compared byte by byte -/
theorem code_word {y : MethodName} {bytes : ByteArray} {mx : Nat} {rt : Option FieldType} {a : Array Value} {s : State} {m : MethodId} {meth : Method} {c : Code} (h1 : s.methodNamed? y = some m) (h2 : s.vm.method? m = some meth) (h3 : meth.code = some c) (h4 : c.code = bytes)
    (h5 : (c.maxLocals == mx && c.exceptionTable.isEmpty && decide (c.maxStack ≤ mostOperands) && decide (meth.sig.returnType = rt) && !meth.locks && decide (parseMethodDescriptor y.desc = some meth.sig)) = true) : (Jvm.Cond.code y bytes mx rt).before a s = true := by
  simp only [Bool.and_eq_true, beq_iff_eq, Bool.not_eq_true', decide_eq_true_eq] at h5
  obtain ⟨⟨⟨⟨⟨g1, g2⟩, g3⟩, g4⟩, g5⟩, g6⟩ := h5
  simp [Cond.before, Cond.holds, Cond.value, h1, h2, h3, h4, g1, g2, g3, g4, g5, g6]
def isCode : Jvm.Cond → Bool
  | .code _ _ _ _ => true
  | _ => false
theorem all_split {L : List Jvm.Cond} {P : Jvm.Cond → Bool} (h1 : L.all (fun c => isCode c || P c) = true) (h2 : ∀ c ∈ L.filter isCode, P c = true) : L.all P = true := by
  refine List.all_eq_true.mpr fun c hc => ?_
  have h := List.all_eq_true.mp h1 c hc
  rcases Bool.eq_false_or_eq_true (isCode c) with hi | hi
  · exact h2 c (List.mem_filter.mpr ⟨hc, hi⟩)
  · simpa [hi] using h
set_option maxRecDepth 65536 in
theorem w_c0 : (Jvm.Cond.code x code maxLocals ret).before args0 about1 = true := code_word (m := ⟨1, 3⟩) (meth := k1m3) (c := k1c3) (by decide +kernel) rfl rfl rfl (by decide +kernel)
set_option maxRecDepth 65536 in
theorem w_c1 : (Jvm.Cond.code ({ cls := "com/example/dongying/dongying/xml/XmlNamesIsNameStartCharPinLaw", name := "lows", desc := "()[I" } : Jvm.MethodName) method_2_code (0 : Nat) (Option.some (Jvm.ClassFile.FieldType.array Jvm.ClassFile.FieldType.int))).before args0 about1 = true := code_word (m := ⟨1, 1⟩) (meth := k1m1) (c := k1c1) (by decide +kernel) rfl rfl rfl (by decide +kernel)
set_option maxRecDepth 65536 in
theorem w_c2 : (Jvm.Cond.code ({ cls := "com/example/dongying/dongying/xml/XmlNamesIsNameStartCharPinLaw", name := "highs", desc := "()[I" } : Jvm.MethodName) method_3_code (0 : Nat) (Option.some (Jvm.ClassFile.FieldType.array Jvm.ClassFile.FieldType.int))).before args0 about1 = true := code_word (m := ⟨1, 2⟩) (meth := k1m2) (c := k1c2) (by decide +kernel) rfl rfl rfl (by decide +kernel)
set_option maxRecDepth 65536 in
theorem w_c3 : (Jvm.Cond.code ({ cls := "com/example/dongying/dongying/xml/XmlNames", name := "isNameStartChar", desc := "(I)Z" } : Jvm.MethodName) prog_87_method_2_code (1 : Nat) (Option.some Jvm.ClassFile.FieldType.boolean)).before args0 about1 = true := code_word (m := ⟨2, 1⟩) (meth := k2m1) (c := k2c1) (by decide +kernel) rfl rfl rfl (by decide +kernel)
def codes1 : List Jvm.Cond := [Jvm.Cond.code x code maxLocals ret, Jvm.Cond.code ({ cls := "com/example/dongying/dongying/xml/XmlNamesIsNameStartCharPinLaw", name := "lows", desc := "()[I" } : Jvm.MethodName) method_2_code (0 : Nat) (Option.some (Jvm.ClassFile.FieldType.array Jvm.ClassFile.FieldType.int)), Jvm.Cond.code ({ cls := "com/example/dongying/dongying/xml/XmlNamesIsNameStartCharPinLaw", name := "highs", desc := "()[I" } : Jvm.MethodName) method_3_code (0 : Nat) (Option.some (Jvm.ClassFile.FieldType.array Jvm.ClassFile.FieldType.int)), Jvm.Cond.code ({ cls := "com/example/dongying/dongying/xml/XmlNames", name := "isNameStartChar", desc := "(I)Z" } : Jvm.MethodName) prog_87_method_2_code (1 : Nat) (Option.some Jvm.ClassFile.FieldType.boolean)]
set_option maxRecDepth 65536 in
theorem codes_eq : words1.filter isCode = codes1 := rfl
theorem w_codes : ∀ c ∈ words1.filter isCode, c.before args0 about1 = true := by
  rw [codes_eq]
  intro c hc
  simp only [codes1, List.mem_cons, List.not_mem_nil, or_false] at hc
  rcases hc with rfl | rfl | rfl | rfl
  · exact w_c0
  · exact w_c1
  · exact w_c2
  · exact w_c3
set_option maxRecDepth 65536 in
theorem w_t1 : (words1.take 24).all (fun c => isCode c || c.before args0 about1) = true := by decide +kernel
set_option maxRecDepth 65536 in
theorem w_t2 : (words1.drop 24).all (fun c => isCode c || c.before args0 about1) = true := by decide +kernel
theorem w_tables : (allAtoms (Jvm.Cond.code x code maxLocals ret :: tables_1)).before args0 about1 = true := by
  rw [allAtoms_all]
  show words1.all (fun c => c.before args0 about1) = true
  refine all_split ?_ w_codes
  rw [← List.take_append_drop 24 words1, List.all_append, w_t1, w_t2]
  rfl
set_option maxRecDepth 65536 in
theorem w_case : (Jvm.Cond.and given_1 narrow_1).before args0 about1 = true := by decide +kernel
theorem w_applies : (headSpec (Jvm.Cond.code x code maxLocals ret :: tables_1) room_1).applies x e0.platform about1 = true :=
  (Spec.applies_iff w_frames).mpr ⟨w_running, w_runnable, w_alone, w_named, w_hears, w_ripe, w_room, w_tables⟩
theorem atStart : AtStart classFile x code maxLocals ret World_1 tables_1 room_1 Calls_1 rest_1 Pre_1 launch0 p0 e0 about1 theMethod args0 below0 :=
  ⟨lists_1, trivial, launch0.admits_env _ _ _, launch0.least_env, fairChoices_fair.cas, fairChoices_fair.clock, w_frames, w_args, w_heap, w_applies, trivial, trivial, w_case⟩
end start1
theorem witness_1 : WitnessClaimed_1 := ⟨start1.p0, start1.e0, start1.about1, start1.theMethod, start1.args0, start1.below0, start1.atStart⟩
end Jvm.Pilot.@@N@@
