import JvmDerived
import JvmDerived.Pilot.@@N@@Statement
import JvmDerived.Pilot.@@N@@Code
set_option linter.unusedVariables false
set_option linter.unusedSimpArgs false
namespace Jvm.RoadKit
open Sem ClassFile Op Lib Jvm.Stand Jvm.Free Jvm.LawKit
section New
variable {p : Program} {l : Launch} {e : Env} {R : Room} {s : State} {m : MethodId} {args : Array Value} {below : List Frame} {meth : Method} {c : Code} {T : State} {locs : List Loc} {cells slots : Nat}
theorem retI (X : Stand p l e R s m args below meth c T locs cells slots) (hx : p.tables.exec = Jvm.exec) {pc : Nat} {Ls : Array Slot} {z : Int32} {rest : List Value} (hret : meth.sig.returnType = some .int) (hd : decode c.code pc = .ok (.ireturn, 1)) {fs : List Frame}
    (hl : ∀ (f : JFrame) (acts : List Action), f.method = m → f.locked = none → f.entered = [] → (doReturn e (T.setTop f) acts (some (.int z))).1 = T.setFrames fs) : Steps p.tables e below (T.setTop (mkF m pc Ls (.int z :: rest))) (T.setFrames fs) := by
  have hm' : T.vm.method? m = some meth := X.method'
  have hn : narrow .int (.int z) = .int z := rfl
  show Steps p.tables e below (T.setTop { method := m, pc := pc, locals := Ls, stack := _ :: rest, locked := none }) _
  jvm_step X.here [X.here.top, hx, hd, hm', hret, hn]
  first | (intro acts; rw [hl _ acts rfl rfl rfl]) | rw [hl _ _ rfl rfl rfl]
  exact Steps.refl _
end New
end Jvm.RoadKit
namespace Jvm.Pilot.@@N@@
open Jvm Jvm.ClassFile Sem Op Lib Jvm.Free Jvm.Stand Jvm.LawKit Jvm.RoadKit Bundle Jvm.Pilot.@@N@@.Jvm.D
theorem pd__I_Z : parseMethodDescriptor "(I)Z" = some ⟨[.int], some .boolean⟩ := by decide +kernel
def own_isc_195 (p1 : Int32) : Int32 := (0 : Int32)
def own_isc_191 (p1 : Int32) : Int32 := (1 : Int32)
def own_isc_185 (p1 : Int32) : Int32 := if (983039 : Int32) < p1 then own_isc_195 p1 else own_isc_191 p1
def own_isc_179 (p1 : Int32) : Int32 := if p1 < (65536 : Int32) then own_isc_195 p1 else own_isc_185 p1
def own_isc_173 (p1 : Int32) : Int32 := if (65533 : Int32) < p1 then own_isc_179 p1 else own_isc_191 p1
def own_isc_167 (p1 : Int32) : Int32 := if p1 < (65008 : Int32) then own_isc_179 p1 else own_isc_173 p1
def own_isc_161 (p1 : Int32) : Int32 := if (64975 : Int32) < p1 then own_isc_167 p1 else own_isc_191 p1
def own_isc_155 (p1 : Int32) : Int32 := if p1 < (63744 : Int32) then own_isc_167 p1 else own_isc_161 p1
def own_isc_149 (p1 : Int32) : Int32 := if (55295 : Int32) < p1 then own_isc_155 p1 else own_isc_191 p1
def own_isc_142 (p1 : Int32) : Int32 := if p1 < (12289 : Int32) then own_isc_155 p1 else own_isc_149 p1
def own_isc_135 (p1 : Int32) : Int32 := if (12271 : Int32) < p1 then own_isc_142 p1 else own_isc_191 p1
def own_isc_128 (p1 : Int32) : Int32 := if p1 < (11264 : Int32) then own_isc_142 p1 else own_isc_135 p1
def own_isc_121 (p1 : Int32) : Int32 := if (8591 : Int32) < p1 then own_isc_128 p1 else own_isc_191 p1
def own_isc_114 (p1 : Int32) : Int32 := if p1 < (8304 : Int32) then own_isc_128 p1 else own_isc_121 p1
def own_isc_107 (p1 : Int32) : Int32 := if (8205 : Int32) < p1 then own_isc_114 p1 else own_isc_191 p1
def own_isc_100 (p1 : Int32) : Int32 := if p1 < (8204 : Int32) then own_isc_114 p1 else own_isc_107 p1
def own_isc_93 (p1 : Int32) : Int32 := if (8191 : Int32) < p1 then own_isc_100 p1 else own_isc_191 p1
def own_isc_86 (p1 : Int32) : Int32 := if p1 < (895 : Int32) then own_isc_100 p1 else own_isc_93 p1
def own_isc_79 (p1 : Int32) : Int32 := if (893 : Int32) < p1 then own_isc_86 p1 else own_isc_191 p1
def own_isc_72 (p1 : Int32) : Int32 := if p1 < (880 : Int32) then own_isc_86 p1 else own_isc_79 p1
def own_isc_65 (p1 : Int32) : Int32 := if (767 : Int32) < p1 then own_isc_72 p1 else own_isc_191 p1
def own_isc_58 (p1 : Int32) : Int32 := if p1 < (248 : Int32) then own_isc_72 p1 else own_isc_65 p1
def own_isc_51 (p1 : Int32) : Int32 := if (246 : Int32) < p1 then own_isc_58 p1 else own_isc_191 p1
def own_isc_44 (p1 : Int32) : Int32 := if p1 < (216 : Int32) then own_isc_58 p1 else own_isc_51 p1
def own_isc_37 (p1 : Int32) : Int32 := if (214 : Int32) < p1 then own_isc_44 p1 else own_isc_191 p1
def own_isc_30 (p1 : Int32) : Int32 := if p1 < (192 : Int32) then own_isc_44 p1 else own_isc_37 p1
def own_isc_24 (p1 : Int32) : Int32 := if (122 : Int32) < p1 then own_isc_30 p1 else own_isc_191 p1
def own_isc_18 (p1 : Int32) : Int32 := if p1 < (97 : Int32) then own_isc_30 p1 else own_isc_24 p1
def own_isc_12 (p1 : Int32) : Int32 := if p1 = (95 : Int32) then own_isc_191 p1 else own_isc_18 p1
def own_isc_6 (p1 : Int32) : Int32 := if (90 : Int32) < p1 then own_isc_12 p1 else own_isc_191 p1
def own_isc_0 (p1 : Int32) : Int32 := if p1 < (65 : Int32) then own_isc_12 p1 else own_isc_6 p1
theorem d1_0 : decode prog_19_method_3_code 0 = .ok (.iload_n 0, 1) := by decide +kernel
theorem d1_1 : decode prog_19_method_3_code 1 = .ok (.bipush 65, 2) := by decide +kernel
theorem d1_3 : decode prog_19_method_3_code 3 = .ok (.if_icmp .lt 9, 3) := by decide +kernel
theorem d1_6 : decode prog_19_method_3_code 6 = .ok (.iload_n 0, 1) := by decide +kernel
theorem d1_7 : decode prog_19_method_3_code 7 = .ok (.bipush 90, 2) := by decide +kernel
theorem d1_9 : decode prog_19_method_3_code 9 = .ok (.if_icmp .le 182, 3) := by decide +kernel
theorem d1_12 : decode prog_19_method_3_code 12 = .ok (.iload_n 0, 1) := by decide +kernel
theorem d1_13 : decode prog_19_method_3_code 13 = .ok (.bipush 95, 2) := by decide +kernel
theorem d1_15 : decode prog_19_method_3_code 15 = .ok (.if_icmp .eq 176, 3) := by decide +kernel
theorem d1_18 : decode prog_19_method_3_code 18 = .ok (.iload_n 0, 1) := by decide +kernel
theorem d1_19 : decode prog_19_method_3_code 19 = .ok (.bipush 97, 2) := by decide +kernel
theorem d1_21 : decode prog_19_method_3_code 21 = .ok (.if_icmp .lt 9, 3) := by decide +kernel
theorem d1_24 : decode prog_19_method_3_code 24 = .ok (.iload_n 0, 1) := by decide +kernel
theorem d1_25 : decode prog_19_method_3_code 25 = .ok (.bipush 122, 2) := by decide +kernel
theorem d1_27 : decode prog_19_method_3_code 27 = .ok (.if_icmp .le 164, 3) := by decide +kernel
theorem d1_30 : decode prog_19_method_3_code 30 = .ok (.iload_n 0, 1) := by decide +kernel
theorem d1_31 : decode prog_19_method_3_code 31 = .ok (.sipush 192, 3) := by decide +kernel
theorem d1_34 : decode prog_19_method_3_code 34 = .ok (.if_icmp .lt 10, 3) := by decide +kernel
theorem d1_37 : decode prog_19_method_3_code 37 = .ok (.iload_n 0, 1) := by decide +kernel
theorem d1_38 : decode prog_19_method_3_code 38 = .ok (.sipush 214, 3) := by decide +kernel
theorem d1_41 : decode prog_19_method_3_code 41 = .ok (.if_icmp .le 150, 3) := by decide +kernel
theorem d1_44 : decode prog_19_method_3_code 44 = .ok (.iload_n 0, 1) := by decide +kernel
theorem d1_45 : decode prog_19_method_3_code 45 = .ok (.sipush 216, 3) := by decide +kernel
theorem d1_48 : decode prog_19_method_3_code 48 = .ok (.if_icmp .lt 10, 3) := by decide +kernel
theorem d1_51 : decode prog_19_method_3_code 51 = .ok (.iload_n 0, 1) := by decide +kernel
theorem d1_52 : decode prog_19_method_3_code 52 = .ok (.sipush 246, 3) := by decide +kernel
theorem d1_55 : decode prog_19_method_3_code 55 = .ok (.if_icmp .le 136, 3) := by decide +kernel
theorem d1_58 : decode prog_19_method_3_code 58 = .ok (.iload_n 0, 1) := by decide +kernel
theorem d1_59 : decode prog_19_method_3_code 59 = .ok (.sipush 248, 3) := by decide +kernel
theorem d1_62 : decode prog_19_method_3_code 62 = .ok (.if_icmp .lt 10, 3) := by decide +kernel
theorem d1_65 : decode prog_19_method_3_code 65 = .ok (.iload_n 0, 1) := by decide +kernel
theorem d1_66 : decode prog_19_method_3_code 66 = .ok (.sipush 767, 3) := by decide +kernel
theorem d1_69 : decode prog_19_method_3_code 69 = .ok (.if_icmp .le 122, 3) := by decide +kernel
theorem d1_72 : decode prog_19_method_3_code 72 = .ok (.iload_n 0, 1) := by decide +kernel
theorem d1_73 : decode prog_19_method_3_code 73 = .ok (.sipush 880, 3) := by decide +kernel
theorem d1_76 : decode prog_19_method_3_code 76 = .ok (.if_icmp .lt 10, 3) := by decide +kernel
theorem d1_79 : decode prog_19_method_3_code 79 = .ok (.iload_n 0, 1) := by decide +kernel
theorem d1_80 : decode prog_19_method_3_code 80 = .ok (.sipush 893, 3) := by decide +kernel
theorem d1_83 : decode prog_19_method_3_code 83 = .ok (.if_icmp .le 108, 3) := by decide +kernel
theorem d1_86 : decode prog_19_method_3_code 86 = .ok (.iload_n 0, 1) := by decide +kernel
theorem d1_87 : decode prog_19_method_3_code 87 = .ok (.sipush 895, 3) := by decide +kernel
theorem d1_90 : decode prog_19_method_3_code 90 = .ok (.if_icmp .lt 10, 3) := by decide +kernel
theorem d1_93 : decode prog_19_method_3_code 93 = .ok (.iload_n 0, 1) := by decide +kernel
theorem d1_94 : decode prog_19_method_3_code 94 = .ok (.sipush 8191, 3) := by decide +kernel
theorem d1_97 : decode prog_19_method_3_code 97 = .ok (.if_icmp .le 94, 3) := by decide +kernel
theorem d1_100 : decode prog_19_method_3_code 100 = .ok (.iload_n 0, 1) := by decide +kernel
theorem d1_101 : decode prog_19_method_3_code 101 = .ok (.sipush 8204, 3) := by decide +kernel
theorem d1_104 : decode prog_19_method_3_code 104 = .ok (.if_icmp .lt 10, 3) := by decide +kernel
theorem d1_107 : decode prog_19_method_3_code 107 = .ok (.iload_n 0, 1) := by decide +kernel
theorem d1_108 : decode prog_19_method_3_code 108 = .ok (.sipush 8205, 3) := by decide +kernel
theorem d1_111 : decode prog_19_method_3_code 111 = .ok (.if_icmp .le 80, 3) := by decide +kernel
theorem d1_114 : decode prog_19_method_3_code 114 = .ok (.iload_n 0, 1) := by decide +kernel
theorem d1_115 : decode prog_19_method_3_code 115 = .ok (.sipush 8304, 3) := by decide +kernel
theorem d1_118 : decode prog_19_method_3_code 118 = .ok (.if_icmp .lt 10, 3) := by decide +kernel
theorem d1_121 : decode prog_19_method_3_code 121 = .ok (.iload_n 0, 1) := by decide +kernel
theorem d1_122 : decode prog_19_method_3_code 122 = .ok (.sipush 8591, 3) := by decide +kernel
theorem d1_125 : decode prog_19_method_3_code 125 = .ok (.if_icmp .le 66, 3) := by decide +kernel
theorem d1_128 : decode prog_19_method_3_code 128 = .ok (.iload_n 0, 1) := by decide +kernel
theorem d1_129 : decode prog_19_method_3_code 129 = .ok (.sipush 11264, 3) := by decide +kernel
theorem d1_132 : decode prog_19_method_3_code 132 = .ok (.if_icmp .lt 10, 3) := by decide +kernel
theorem d1_135 : decode prog_19_method_3_code 135 = .ok (.iload_n 0, 1) := by decide +kernel
theorem d1_136 : decode prog_19_method_3_code 136 = .ok (.sipush 12271, 3) := by decide +kernel
theorem d1_139 : decode prog_19_method_3_code 139 = .ok (.if_icmp .le 52, 3) := by decide +kernel
theorem d1_142 : decode prog_19_method_3_code 142 = .ok (.iload_n 0, 1) := by decide +kernel
theorem d1_143 : decode prog_19_method_3_code 143 = .ok (.sipush 12289, 3) := by decide +kernel
theorem d1_146 : decode prog_19_method_3_code 146 = .ok (.if_icmp .lt 9, 3) := by decide +kernel
theorem d1_149 : decode prog_19_method_3_code 149 = .ok (.iload_n 0, 1) := by decide +kernel
theorem d1_150 : decode prog_19_method_3_code 150 = .ok (.ldc 7, 2) := by decide +kernel
theorem d1_152 : decode prog_19_method_3_code 152 = .ok (.if_icmp .le 39, 3) := by decide +kernel
theorem d1_155 : decode prog_19_method_3_code 155 = .ok (.iload_n 0, 1) := by decide +kernel
theorem d1_156 : decode prog_19_method_3_code 156 = .ok (.ldc 12, 2) := by decide +kernel
theorem d1_158 : decode prog_19_method_3_code 158 = .ok (.if_icmp .lt 9, 3) := by decide +kernel
theorem d1_161 : decode prog_19_method_3_code 161 = .ok (.iload_n 0, 1) := by decide +kernel
theorem d1_162 : decode prog_19_method_3_code 162 = .ok (.ldc 13, 2) := by decide +kernel
theorem d1_164 : decode prog_19_method_3_code 164 = .ok (.if_icmp .le 27, 3) := by decide +kernel
theorem d1_167 : decode prog_19_method_3_code 167 = .ok (.iload_n 0, 1) := by decide +kernel
theorem d1_168 : decode prog_19_method_3_code 168 = .ok (.ldc 14, 2) := by decide +kernel
theorem d1_170 : decode prog_19_method_3_code 170 = .ok (.if_icmp .lt 9, 3) := by decide +kernel
theorem d1_173 : decode prog_19_method_3_code 173 = .ok (.iload_n 0, 1) := by decide +kernel
theorem d1_174 : decode prog_19_method_3_code 174 = .ok (.ldc 9, 2) := by decide +kernel
theorem d1_176 : decode prog_19_method_3_code 176 = .ok (.if_icmp .le 15, 3) := by decide +kernel
theorem d1_179 : decode prog_19_method_3_code 179 = .ok (.iload_n 0, 1) := by decide +kernel
theorem d1_180 : decode prog_19_method_3_code 180 = .ok (.ldc 10, 2) := by decide +kernel
theorem d1_182 : decode prog_19_method_3_code 182 = .ok (.if_icmp .lt 13, 3) := by decide +kernel
theorem d1_185 : decode prog_19_method_3_code 185 = .ok (.iload_n 0, 1) := by decide +kernel
theorem d1_186 : decode prog_19_method_3_code 186 = .ok (.ldc 15, 2) := by decide +kernel
theorem d1_188 : decode prog_19_method_3_code 188 = .ok (.if_icmp .gt 7, 3) := by decide +kernel
theorem d1_191 : decode prog_19_method_3_code 191 = .ok (.iconst 1, 1) := by decide +kernel
theorem d1_192 : decode prog_19_method_3_code 192 = .ok (.goto 4, 3) := by decide +kernel
theorem d1_195 : decode prog_19_method_3_code 195 = .ok (.iconst 0, 1) := by decide +kernel
theorem d1_196 : decode prog_19_method_3_code 196 = .ok (.ireturn, 1) := by decide +kernel
theorem pn_1 : plainName "com/example/kellar/kellar/XmlChars" = true := by first | (simp [plainName, overriddenIn]; done) | decide +kernel
theorem ef_1 (m : MethodId) (x0 : Int32) : entryFrame m #[(.int x0)] 1 = mkF m 0 #[.val (.int x0)] [] := by first | (simp [entryFrame, mkF, argsToLocals, Value.category]; done) | rfl
def Q1 (Z : State) (p1 : Int32) (h0 : Heap) (n0 : Nat) (v : Option Value) (h : Heap) (L : List Loc) : Prop := v = some (.int (own_isc_0 p1)) ∧ Fr n0 L ∧ h = h0
set_option maxRecDepth 65536 in
set_option maxHeartbeats 40000000 in
theorem rm1 (l : Launch) (Z : State) (a0 : Array Value) (hw : ∀ d ∈ tables_1, d.before a0 Z = true) (ws : List Jvm.Cond) (p1 : Int32) (h0 : Heap) (n0 : Nat) (Z0 : n0 ≤ h0.size)  :
    MetFree l (⟨"com/example/kellar/kellar/XmlChars", "isNameStartChar", "(I)Z"⟩ : MethodName) (head1 (Jvm.Cond.code (⟨"com/example/kellar/kellar/XmlChars", "isNameStartChar", "(I)Z"⟩ : MethodName) prog_19_method_3_code 1 (some .boolean) :: ws) ({ frames := 0, cells := 0, slots := 0, locals := 0 } : Room)) (fun aa U => aa = #[(.int p1)] ∧ Z.Warmed39 U.vm ∧ U.heap = h0) (fun _ _ _ _ _ => True) (fun _ U o U' => ∃ v L, o = .returned v ∧ Q1 Z p1 h0 n0 v U'.heap L ∧ FrameEnd U o U' L ({ frames := 0, cells := 0, slots := 0, locals := 0 } : Room).cells ({ frames := 0, cells := 0, slots := 0, locals := 0 } : Room).slots) := by
  refine MetFree.of_bodySF (plainFor_of_name pn_1) hisR ?_
  intro p e s m args below meth c s₁ Bd hml0 hP hK
  obtain ⟨rfl, hZ, hh⟩ := hP
  have hx := Bd.exec
  have hby := Bd.bytes
  have hml : c.maxLocals = 1 := hml0
  have hown : s.vm.findClass "com/example/kellar/kellar/XmlChars" = some m.cls := findClass_of_methodNamed Bd.named
  have hnm := (name_of_methodNamed Bd.named Bd.method).1
  have X0 : Stand p l e ({ frames := 0, cells := 0, slots := 0, locals := 0 } : Room) s m #[(.int p1)] below meth c s₁ [] 0 0 := Stand.of_body Bd
  have e0 : s₁.heap = h0 := by rw [← hh, Bd.state]; rfl
  have N0 := Fr.nil n0
  have pre0 : ∀ t, Steps p.tables e below (s₁.setTop (mkF m 0 #[.val (.int p1)] [])) t → Steps p.tables e below (s₁.setTop (entryFrame m #[(.int p1)] 1)) t := fun t k => castTop (ef_1 m p1) k
  obtain ⟨fs, hr, hrun, hended, hW, hsame⟩ := X0.leave (v := some (.int (own_isc_0 p1))) (fun h => by rw [Bd.returns] at h; cases h)
  have j195 : own_isc_0 p1 = own_isc_195 p1 → Steps p.tables e below (s₁.setTop (mkF m 195 #[.val (.int p1)] [])) (s₁.setFrames fs) := by
    intro hv
    rw [show own_isc_0 p1 = (0 : Int32) from hv] at hr
    show Steps p.tables e below (s₁.setTop (mkF m 195 #[.val (.int p1)] [])) _
    refine XS.iconst X0.here hx rfl (hb hby d1_195) ?_
    show Steps p.tables e below (s₁.setTop (mkF m 196 #[.val (.int p1)] [(.int (0 : Int32))])) _
    exact retN X0 hx (t := .boolean) Bd.returns (by simp) (hb hby d1_196) hr
  have j191 : own_isc_0 p1 = own_isc_191 p1 → Steps p.tables e below (s₁.setTop (mkF m 191 #[.val (.int p1)] [])) (s₁.setFrames fs) := by
    intro hv
    rw [show own_isc_0 p1 = (1 : Int32) from hv] at hr
    show Steps p.tables e below (s₁.setTop (mkF m 191 #[.val (.int p1)] [])) _
    refine XS.iconst X0.here hx rfl (hb hby d1_191) ?_
    show Steps p.tables e below (s₁.setTop (mkF m 192 #[.val (.int p1)] [(.int (1 : Int32))])) _
    refine XS.goto X0.here hx rfl (pc0 := 192) (pc' := 196) rfl (hb hby d1_192) (by decide) (by decide) ?_
    show Steps p.tables e below (s₁.setTop (mkF m 196 #[.val (.int p1)] [(.int (1 : Int32))])) _
    exact retN X0 hx (t := .boolean) Bd.returns (by simp) (hb hby d1_196) hr
  have j185 : own_isc_0 p1 = own_isc_185 p1 → Steps p.tables e below (s₁.setTop (mkF m 185 #[.val (.int p1)] [])) (s₁.setFrames fs) := by
    intro hv
    show Steps p.tables e below (s₁.setTop (mkF m 185 #[.val (.int p1)] [])) _
    refine XS.iloadN X0.here hx rfl (hb hby d1_185) rfl ?_
    show Steps p.tables e below (s₁.setTop (mkF m 186 #[.val (.int p1)] [(.int p1)])) _
    refine X0.ldcI hx hown (mvT hZ (hw _ (List.mem_of_getElem? (i := 26) rfl))) (g := (mkF m 186 #[.val (.int p1)] [(.int p1)])) rfl (hb hby d1_186) ?_
    show Steps p.tables e below (s₁.setTop (mkF m 188 #[.val (.int p1)] [(.int (983039 : Int32)), (.int p1)])) _
    by_cases hc : (983039 : Int32) < p1
    · refine XS.icmpYes X0.here hx rfl (pc0 := 188) (pc' := 195) rfl (hb hby d1_188) rfl (XT.ii_gt_t hc) (by decide) (by decide) ?_
      show Steps p.tables e below (s₁.setTop (mkF m 195 #[.val (.int p1)] [])) _
      exact j195 (hv.trans (if_pos hc))
    · refine XS.icmpNo X0.here hx rfl (hb hby d1_188) rfl (XT.ii_gt_f hc) ?_
      show Steps p.tables e below (s₁.setTop (mkF m 191 #[.val (.int p1)] [])) _
      exact j191 (hv.trans (if_neg hc))
  have j179 : own_isc_0 p1 = own_isc_179 p1 → Steps p.tables e below (s₁.setTop (mkF m 179 #[.val (.int p1)] [])) (s₁.setFrames fs) := by
    intro hv
    show Steps p.tables e below (s₁.setTop (mkF m 179 #[.val (.int p1)] [])) _
    refine XS.iloadN X0.here hx rfl (hb hby d1_179) rfl ?_
    show Steps p.tables e below (s₁.setTop (mkF m 180 #[.val (.int p1)] [(.int p1)])) _
    refine X0.ldcI hx hown (mvT hZ (hw _ (List.mem_of_getElem? (i := 15) rfl))) (g := (mkF m 180 #[.val (.int p1)] [(.int p1)])) rfl (hb hby d1_180) ?_
    show Steps p.tables e below (s₁.setTop (mkF m 182 #[.val (.int p1)] [(.int (65536 : Int32)), (.int p1)])) _
    by_cases hc : p1 < (65536 : Int32)
    · refine XS.icmpYes X0.here hx rfl (pc0 := 182) (pc' := 195) rfl (hb hby d1_182) rfl (XT.ii_lt_t hc) (by decide) (by decide) ?_
      show Steps p.tables e below (s₁.setTop (mkF m 195 #[.val (.int p1)] [])) _
      exact j195 (hv.trans (if_pos hc))
    · refine XS.icmpNo X0.here hx rfl (hb hby d1_182) rfl (XT.ii_lt_f hc) ?_
      show Steps p.tables e below (s₁.setTop (mkF m 185 #[.val (.int p1)] [])) _
      exact j185 (hv.trans (if_neg hc))
  have j173 : own_isc_0 p1 = own_isc_173 p1 → Steps p.tables e below (s₁.setTop (mkF m 173 #[.val (.int p1)] [])) (s₁.setFrames fs) := by
    intro hv
    show Steps p.tables e below (s₁.setTop (mkF m 173 #[.val (.int p1)] [])) _
    refine XS.iloadN X0.here hx rfl (hb hby d1_173) rfl ?_
    show Steps p.tables e below (s₁.setTop (mkF m 174 #[.val (.int p1)] [(.int p1)])) _
    refine X0.ldcI hx hown (mvT hZ (hw _ (List.mem_of_getElem? (i := 25) rfl))) (g := (mkF m 174 #[.val (.int p1)] [(.int p1)])) rfl (hb hby d1_174) ?_
    show Steps p.tables e below (s₁.setTop (mkF m 176 #[.val (.int p1)] [(.int (65533 : Int32)), (.int p1)])) _
    by_cases hc : (65533 : Int32) < p1
    · refine XS.icmpNo X0.here hx rfl (hb hby d1_176) rfl (XT.ii_le_f hc) ?_
      show Steps p.tables e below (s₁.setTop (mkF m 179 #[.val (.int p1)] [])) _
      exact j179 (hv.trans (if_pos hc))
    · refine XS.icmpYes X0.here hx rfl (pc0 := 176) (pc' := 191) rfl (hb hby d1_176) rfl (XT.ii_le_t hc) (by decide) (by decide) ?_
      show Steps p.tables e below (s₁.setTop (mkF m 191 #[.val (.int p1)] [])) _
      exact j191 (hv.trans (if_neg hc))
  have j167 : own_isc_0 p1 = own_isc_167 p1 → Steps p.tables e below (s₁.setTop (mkF m 167 #[.val (.int p1)] [])) (s₁.setFrames fs) := by
    intro hv
    show Steps p.tables e below (s₁.setTop (mkF m 167 #[.val (.int p1)] [])) _
    refine XS.iloadN X0.here hx rfl (hb hby d1_167) rfl ?_
    show Steps p.tables e below (s₁.setTop (mkF m 168 #[.val (.int p1)] [(.int p1)])) _
    refine X0.ldcI hx hown (mvT hZ (hw _ (List.mem_of_getElem? (i := 14) rfl))) (g := (mkF m 168 #[.val (.int p1)] [(.int p1)])) rfl (hb hby d1_168) ?_
    show Steps p.tables e below (s₁.setTop (mkF m 170 #[.val (.int p1)] [(.int (65008 : Int32)), (.int p1)])) _
    by_cases hc : p1 < (65008 : Int32)
    · refine XS.icmpYes X0.here hx rfl (pc0 := 170) (pc' := 179) rfl (hb hby d1_170) rfl (XT.ii_lt_t hc) (by decide) (by decide) ?_
      show Steps p.tables e below (s₁.setTop (mkF m 179 #[.val (.int p1)] [])) _
      exact j179 (hv.trans (if_pos hc))
    · refine XS.icmpNo X0.here hx rfl (hb hby d1_170) rfl (XT.ii_lt_f hc) ?_
      show Steps p.tables e below (s₁.setTop (mkF m 173 #[.val (.int p1)] [])) _
      exact j173 (hv.trans (if_neg hc))
  have j161 : own_isc_0 p1 = own_isc_161 p1 → Steps p.tables e below (s₁.setTop (mkF m 161 #[.val (.int p1)] [])) (s₁.setFrames fs) := by
    intro hv
    show Steps p.tables e below (s₁.setTop (mkF m 161 #[.val (.int p1)] [])) _
    refine XS.iloadN X0.here hx rfl (hb hby d1_161) rfl ?_
    show Steps p.tables e below (s₁.setTop (mkF m 162 #[.val (.int p1)] [(.int p1)])) _
    refine X0.ldcI hx hown (mvT hZ (hw _ (List.mem_of_getElem? (i := 24) rfl))) (g := (mkF m 162 #[.val (.int p1)] [(.int p1)])) rfl (hb hby d1_162) ?_
    show Steps p.tables e below (s₁.setTop (mkF m 164 #[.val (.int p1)] [(.int (64975 : Int32)), (.int p1)])) _
    by_cases hc : (64975 : Int32) < p1
    · refine XS.icmpNo X0.here hx rfl (hb hby d1_164) rfl (XT.ii_le_f hc) ?_
      show Steps p.tables e below (s₁.setTop (mkF m 167 #[.val (.int p1)] [])) _
      exact j167 (hv.trans (if_pos hc))
    · refine XS.icmpYes X0.here hx rfl (pc0 := 164) (pc' := 191) rfl (hb hby d1_164) rfl (XT.ii_le_t hc) (by decide) (by decide) ?_
      show Steps p.tables e below (s₁.setTop (mkF m 191 #[.val (.int p1)] [])) _
      exact j191 (hv.trans (if_neg hc))
  have j155 : own_isc_0 p1 = own_isc_155 p1 → Steps p.tables e below (s₁.setTop (mkF m 155 #[.val (.int p1)] [])) (s₁.setFrames fs) := by
    intro hv
    show Steps p.tables e below (s₁.setTop (mkF m 155 #[.val (.int p1)] [])) _
    refine XS.iloadN X0.here hx rfl (hb hby d1_155) rfl ?_
    show Steps p.tables e below (s₁.setTop (mkF m 156 #[.val (.int p1)] [(.int p1)])) _
    refine X0.ldcI hx hown (mvT hZ (hw _ (List.mem_of_getElem? (i := 13) rfl))) (g := (mkF m 156 #[.val (.int p1)] [(.int p1)])) rfl (hb hby d1_156) ?_
    show Steps p.tables e below (s₁.setTop (mkF m 158 #[.val (.int p1)] [(.int (63744 : Int32)), (.int p1)])) _
    by_cases hc : p1 < (63744 : Int32)
    · refine XS.icmpYes X0.here hx rfl (pc0 := 158) (pc' := 167) rfl (hb hby d1_158) rfl (XT.ii_lt_t hc) (by decide) (by decide) ?_
      show Steps p.tables e below (s₁.setTop (mkF m 167 #[.val (.int p1)] [])) _
      exact j167 (hv.trans (if_pos hc))
    · refine XS.icmpNo X0.here hx rfl (hb hby d1_158) rfl (XT.ii_lt_f hc) ?_
      show Steps p.tables e below (s₁.setTop (mkF m 161 #[.val (.int p1)] [])) _
      exact j161 (hv.trans (if_neg hc))
  have j149 : own_isc_0 p1 = own_isc_149 p1 → Steps p.tables e below (s₁.setTop (mkF m 149 #[.val (.int p1)] [])) (s₁.setFrames fs) := by
    intro hv
    show Steps p.tables e below (s₁.setTop (mkF m 149 #[.val (.int p1)] [])) _
    refine XS.iloadN X0.here hx rfl (hb hby d1_149) rfl ?_
    show Steps p.tables e below (s₁.setTop (mkF m 150 #[.val (.int p1)] [(.int p1)])) _
    refine X0.ldcI hx hown (mvT hZ (hw _ (List.mem_of_getElem? (i := 23) rfl))) (g := (mkF m 150 #[.val (.int p1)] [(.int p1)])) rfl (hb hby d1_150) ?_
    show Steps p.tables e below (s₁.setTop (mkF m 152 #[.val (.int p1)] [(.int (55295 : Int32)), (.int p1)])) _
    by_cases hc : (55295 : Int32) < p1
    · refine XS.icmpNo X0.here hx rfl (hb hby d1_152) rfl (XT.ii_le_f hc) ?_
      show Steps p.tables e below (s₁.setTop (mkF m 155 #[.val (.int p1)] [])) _
      exact j155 (hv.trans (if_pos hc))
    · refine XS.icmpYes X0.here hx rfl (pc0 := 152) (pc' := 191) rfl (hb hby d1_152) rfl (XT.ii_le_t hc) (by decide) (by decide) ?_
      show Steps p.tables e below (s₁.setTop (mkF m 191 #[.val (.int p1)] [])) _
      exact j191 (hv.trans (if_neg hc))
  have j142 : own_isc_0 p1 = own_isc_142 p1 → Steps p.tables e below (s₁.setTop (mkF m 142 #[.val (.int p1)] [])) (s₁.setFrames fs) := by
    intro hv
    show Steps p.tables e below (s₁.setTop (mkF m 142 #[.val (.int p1)] [])) _
    refine XS.iloadN X0.here hx rfl (hb hby d1_142) rfl ?_
    show Steps p.tables e below (s₁.setTop (mkF m 143 #[.val (.int p1)] [(.int p1)])) _
    refine XS.sipush X0.here hx rfl (hb hby d1_143) ?_
    show Steps p.tables e below (s₁.setTop (mkF m 146 #[.val (.int p1)] [(.int (12289 : Int32)), (.int p1)])) _
    by_cases hc : p1 < (12289 : Int32)
    · refine XS.icmpYes X0.here hx rfl (pc0 := 146) (pc' := 155) rfl (hb hby d1_146) rfl (XT.ii_lt_t hc) (by decide) (by decide) ?_
      show Steps p.tables e below (s₁.setTop (mkF m 155 #[.val (.int p1)] [])) _
      exact j155 (hv.trans (if_pos hc))
    · refine XS.icmpNo X0.here hx rfl (hb hby d1_146) rfl (XT.ii_lt_f hc) ?_
      show Steps p.tables e below (s₁.setTop (mkF m 149 #[.val (.int p1)] [])) _
      exact j149 (hv.trans (if_neg hc))
  have j135 : own_isc_0 p1 = own_isc_135 p1 → Steps p.tables e below (s₁.setTop (mkF m 135 #[.val (.int p1)] [])) (s₁.setFrames fs) := by
    intro hv
    show Steps p.tables e below (s₁.setTop (mkF m 135 #[.val (.int p1)] [])) _
    refine XS.iloadN X0.here hx rfl (hb hby d1_135) rfl ?_
    show Steps p.tables e below (s₁.setTop (mkF m 136 #[.val (.int p1)] [(.int p1)])) _
    refine XS.sipush X0.here hx rfl (hb hby d1_136) ?_
    show Steps p.tables e below (s₁.setTop (mkF m 139 #[.val (.int p1)] [(.int (12271 : Int32)), (.int p1)])) _
    by_cases hc : (12271 : Int32) < p1
    · refine XS.icmpNo X0.here hx rfl (hb hby d1_139) rfl (XT.ii_le_f hc) ?_
      show Steps p.tables e below (s₁.setTop (mkF m 142 #[.val (.int p1)] [])) _
      exact j142 (hv.trans (if_pos hc))
    · refine XS.icmpYes X0.here hx rfl (pc0 := 139) (pc' := 191) rfl (hb hby d1_139) rfl (XT.ii_le_t hc) (by decide) (by decide) ?_
      show Steps p.tables e below (s₁.setTop (mkF m 191 #[.val (.int p1)] [])) _
      exact j191 (hv.trans (if_neg hc))
  have j128 : own_isc_0 p1 = own_isc_128 p1 → Steps p.tables e below (s₁.setTop (mkF m 128 #[.val (.int p1)] [])) (s₁.setFrames fs) := by
    intro hv
    show Steps p.tables e below (s₁.setTop (mkF m 128 #[.val (.int p1)] [])) _
    refine XS.iloadN X0.here hx rfl (hb hby d1_128) rfl ?_
    show Steps p.tables e below (s₁.setTop (mkF m 129 #[.val (.int p1)] [(.int p1)])) _
    refine XS.sipush X0.here hx rfl (hb hby d1_129) ?_
    show Steps p.tables e below (s₁.setTop (mkF m 132 #[.val (.int p1)] [(.int (11264 : Int32)), (.int p1)])) _
    by_cases hc : p1 < (11264 : Int32)
    · refine XS.icmpYes X0.here hx rfl (pc0 := 132) (pc' := 142) rfl (hb hby d1_132) rfl (XT.ii_lt_t hc) (by decide) (by decide) ?_
      show Steps p.tables e below (s₁.setTop (mkF m 142 #[.val (.int p1)] [])) _
      exact j142 (hv.trans (if_pos hc))
    · refine XS.icmpNo X0.here hx rfl (hb hby d1_132) rfl (XT.ii_lt_f hc) ?_
      show Steps p.tables e below (s₁.setTop (mkF m 135 #[.val (.int p1)] [])) _
      exact j135 (hv.trans (if_neg hc))
  have j121 : own_isc_0 p1 = own_isc_121 p1 → Steps p.tables e below (s₁.setTop (mkF m 121 #[.val (.int p1)] [])) (s₁.setFrames fs) := by
    intro hv
    show Steps p.tables e below (s₁.setTop (mkF m 121 #[.val (.int p1)] [])) _
    refine XS.iloadN X0.here hx rfl (hb hby d1_121) rfl ?_
    show Steps p.tables e below (s₁.setTop (mkF m 122 #[.val (.int p1)] [(.int p1)])) _
    refine XS.sipush X0.here hx rfl (hb hby d1_122) ?_
    show Steps p.tables e below (s₁.setTop (mkF m 125 #[.val (.int p1)] [(.int (8591 : Int32)), (.int p1)])) _
    by_cases hc : (8591 : Int32) < p1
    · refine XS.icmpNo X0.here hx rfl (hb hby d1_125) rfl (XT.ii_le_f hc) ?_
      show Steps p.tables e below (s₁.setTop (mkF m 128 #[.val (.int p1)] [])) _
      exact j128 (hv.trans (if_pos hc))
    · refine XS.icmpYes X0.here hx rfl (pc0 := 125) (pc' := 191) rfl (hb hby d1_125) rfl (XT.ii_le_t hc) (by decide) (by decide) ?_
      show Steps p.tables e below (s₁.setTop (mkF m 191 #[.val (.int p1)] [])) _
      exact j191 (hv.trans (if_neg hc))
  have j114 : own_isc_0 p1 = own_isc_114 p1 → Steps p.tables e below (s₁.setTop (mkF m 114 #[.val (.int p1)] [])) (s₁.setFrames fs) := by
    intro hv
    show Steps p.tables e below (s₁.setTop (mkF m 114 #[.val (.int p1)] [])) _
    refine XS.iloadN X0.here hx rfl (hb hby d1_114) rfl ?_
    show Steps p.tables e below (s₁.setTop (mkF m 115 #[.val (.int p1)] [(.int p1)])) _
    refine XS.sipush X0.here hx rfl (hb hby d1_115) ?_
    show Steps p.tables e below (s₁.setTop (mkF m 118 #[.val (.int p1)] [(.int (8304 : Int32)), (.int p1)])) _
    by_cases hc : p1 < (8304 : Int32)
    · refine XS.icmpYes X0.here hx rfl (pc0 := 118) (pc' := 128) rfl (hb hby d1_118) rfl (XT.ii_lt_t hc) (by decide) (by decide) ?_
      show Steps p.tables e below (s₁.setTop (mkF m 128 #[.val (.int p1)] [])) _
      exact j128 (hv.trans (if_pos hc))
    · refine XS.icmpNo X0.here hx rfl (hb hby d1_118) rfl (XT.ii_lt_f hc) ?_
      show Steps p.tables e below (s₁.setTop (mkF m 121 #[.val (.int p1)] [])) _
      exact j121 (hv.trans (if_neg hc))
  have j107 : own_isc_0 p1 = own_isc_107 p1 → Steps p.tables e below (s₁.setTop (mkF m 107 #[.val (.int p1)] [])) (s₁.setFrames fs) := by
    intro hv
    show Steps p.tables e below (s₁.setTop (mkF m 107 #[.val (.int p1)] [])) _
    refine XS.iloadN X0.here hx rfl (hb hby d1_107) rfl ?_
    show Steps p.tables e below (s₁.setTop (mkF m 108 #[.val (.int p1)] [(.int p1)])) _
    refine XS.sipush X0.here hx rfl (hb hby d1_108) ?_
    show Steps p.tables e below (s₁.setTop (mkF m 111 #[.val (.int p1)] [(.int (8205 : Int32)), (.int p1)])) _
    by_cases hc : (8205 : Int32) < p1
    · refine XS.icmpNo X0.here hx rfl (hb hby d1_111) rfl (XT.ii_le_f hc) ?_
      show Steps p.tables e below (s₁.setTop (mkF m 114 #[.val (.int p1)] [])) _
      exact j114 (hv.trans (if_pos hc))
    · refine XS.icmpYes X0.here hx rfl (pc0 := 111) (pc' := 191) rfl (hb hby d1_111) rfl (XT.ii_le_t hc) (by decide) (by decide) ?_
      show Steps p.tables e below (s₁.setTop (mkF m 191 #[.val (.int p1)] [])) _
      exact j191 (hv.trans (if_neg hc))
  have j100 : own_isc_0 p1 = own_isc_100 p1 → Steps p.tables e below (s₁.setTop (mkF m 100 #[.val (.int p1)] [])) (s₁.setFrames fs) := by
    intro hv
    show Steps p.tables e below (s₁.setTop (mkF m 100 #[.val (.int p1)] [])) _
    refine XS.iloadN X0.here hx rfl (hb hby d1_100) rfl ?_
    show Steps p.tables e below (s₁.setTop (mkF m 101 #[.val (.int p1)] [(.int p1)])) _
    refine XS.sipush X0.here hx rfl (hb hby d1_101) ?_
    show Steps p.tables e below (s₁.setTop (mkF m 104 #[.val (.int p1)] [(.int (8204 : Int32)), (.int p1)])) _
    by_cases hc : p1 < (8204 : Int32)
    · refine XS.icmpYes X0.here hx rfl (pc0 := 104) (pc' := 114) rfl (hb hby d1_104) rfl (XT.ii_lt_t hc) (by decide) (by decide) ?_
      show Steps p.tables e below (s₁.setTop (mkF m 114 #[.val (.int p1)] [])) _
      exact j114 (hv.trans (if_pos hc))
    · refine XS.icmpNo X0.here hx rfl (hb hby d1_104) rfl (XT.ii_lt_f hc) ?_
      show Steps p.tables e below (s₁.setTop (mkF m 107 #[.val (.int p1)] [])) _
      exact j107 (hv.trans (if_neg hc))
  have j93 : own_isc_0 p1 = own_isc_93 p1 → Steps p.tables e below (s₁.setTop (mkF m 93 #[.val (.int p1)] [])) (s₁.setFrames fs) := by
    intro hv
    show Steps p.tables e below (s₁.setTop (mkF m 93 #[.val (.int p1)] [])) _
    refine XS.iloadN X0.here hx rfl (hb hby d1_93) rfl ?_
    show Steps p.tables e below (s₁.setTop (mkF m 94 #[.val (.int p1)] [(.int p1)])) _
    refine XS.sipush X0.here hx rfl (hb hby d1_94) ?_
    show Steps p.tables e below (s₁.setTop (mkF m 97 #[.val (.int p1)] [(.int (8191 : Int32)), (.int p1)])) _
    by_cases hc : (8191 : Int32) < p1
    · refine XS.icmpNo X0.here hx rfl (hb hby d1_97) rfl (XT.ii_le_f hc) ?_
      show Steps p.tables e below (s₁.setTop (mkF m 100 #[.val (.int p1)] [])) _
      exact j100 (hv.trans (if_pos hc))
    · refine XS.icmpYes X0.here hx rfl (pc0 := 97) (pc' := 191) rfl (hb hby d1_97) rfl (XT.ii_le_t hc) (by decide) (by decide) ?_
      show Steps p.tables e below (s₁.setTop (mkF m 191 #[.val (.int p1)] [])) _
      exact j191 (hv.trans (if_neg hc))
  have j86 : own_isc_0 p1 = own_isc_86 p1 → Steps p.tables e below (s₁.setTop (mkF m 86 #[.val (.int p1)] [])) (s₁.setFrames fs) := by
    intro hv
    show Steps p.tables e below (s₁.setTop (mkF m 86 #[.val (.int p1)] [])) _
    refine XS.iloadN X0.here hx rfl (hb hby d1_86) rfl ?_
    show Steps p.tables e below (s₁.setTop (mkF m 87 #[.val (.int p1)] [(.int p1)])) _
    refine XS.sipush X0.here hx rfl (hb hby d1_87) ?_
    show Steps p.tables e below (s₁.setTop (mkF m 90 #[.val (.int p1)] [(.int (895 : Int32)), (.int p1)])) _
    by_cases hc : p1 < (895 : Int32)
    · refine XS.icmpYes X0.here hx rfl (pc0 := 90) (pc' := 100) rfl (hb hby d1_90) rfl (XT.ii_lt_t hc) (by decide) (by decide) ?_
      show Steps p.tables e below (s₁.setTop (mkF m 100 #[.val (.int p1)] [])) _
      exact j100 (hv.trans (if_pos hc))
    · refine XS.icmpNo X0.here hx rfl (hb hby d1_90) rfl (XT.ii_lt_f hc) ?_
      show Steps p.tables e below (s₁.setTop (mkF m 93 #[.val (.int p1)] [])) _
      exact j93 (hv.trans (if_neg hc))
  have j79 : own_isc_0 p1 = own_isc_79 p1 → Steps p.tables e below (s₁.setTop (mkF m 79 #[.val (.int p1)] [])) (s₁.setFrames fs) := by
    intro hv
    show Steps p.tables e below (s₁.setTop (mkF m 79 #[.val (.int p1)] [])) _
    refine XS.iloadN X0.here hx rfl (hb hby d1_79) rfl ?_
    show Steps p.tables e below (s₁.setTop (mkF m 80 #[.val (.int p1)] [(.int p1)])) _
    refine XS.sipush X0.here hx rfl (hb hby d1_80) ?_
    show Steps p.tables e below (s₁.setTop (mkF m 83 #[.val (.int p1)] [(.int (893 : Int32)), (.int p1)])) _
    by_cases hc : (893 : Int32) < p1
    · refine XS.icmpNo X0.here hx rfl (hb hby d1_83) rfl (XT.ii_le_f hc) ?_
      show Steps p.tables e below (s₁.setTop (mkF m 86 #[.val (.int p1)] [])) _
      exact j86 (hv.trans (if_pos hc))
    · refine XS.icmpYes X0.here hx rfl (pc0 := 83) (pc' := 191) rfl (hb hby d1_83) rfl (XT.ii_le_t hc) (by decide) (by decide) ?_
      show Steps p.tables e below (s₁.setTop (mkF m 191 #[.val (.int p1)] [])) _
      exact j191 (hv.trans (if_neg hc))
  have j72 : own_isc_0 p1 = own_isc_72 p1 → Steps p.tables e below (s₁.setTop (mkF m 72 #[.val (.int p1)] [])) (s₁.setFrames fs) := by
    intro hv
    show Steps p.tables e below (s₁.setTop (mkF m 72 #[.val (.int p1)] [])) _
    refine XS.iloadN X0.here hx rfl (hb hby d1_72) rfl ?_
    show Steps p.tables e below (s₁.setTop (mkF m 73 #[.val (.int p1)] [(.int p1)])) _
    refine XS.sipush X0.here hx rfl (hb hby d1_73) ?_
    show Steps p.tables e below (s₁.setTop (mkF m 76 #[.val (.int p1)] [(.int (880 : Int32)), (.int p1)])) _
    by_cases hc : p1 < (880 : Int32)
    · refine XS.icmpYes X0.here hx rfl (pc0 := 76) (pc' := 86) rfl (hb hby d1_76) rfl (XT.ii_lt_t hc) (by decide) (by decide) ?_
      show Steps p.tables e below (s₁.setTop (mkF m 86 #[.val (.int p1)] [])) _
      exact j86 (hv.trans (if_pos hc))
    · refine XS.icmpNo X0.here hx rfl (hb hby d1_76) rfl (XT.ii_lt_f hc) ?_
      show Steps p.tables e below (s₁.setTop (mkF m 79 #[.val (.int p1)] [])) _
      exact j79 (hv.trans (if_neg hc))
  have j65 : own_isc_0 p1 = own_isc_65 p1 → Steps p.tables e below (s₁.setTop (mkF m 65 #[.val (.int p1)] [])) (s₁.setFrames fs) := by
    intro hv
    show Steps p.tables e below (s₁.setTop (mkF m 65 #[.val (.int p1)] [])) _
    refine XS.iloadN X0.here hx rfl (hb hby d1_65) rfl ?_
    show Steps p.tables e below (s₁.setTop (mkF m 66 #[.val (.int p1)] [(.int p1)])) _
    refine XS.sipush X0.here hx rfl (hb hby d1_66) ?_
    show Steps p.tables e below (s₁.setTop (mkF m 69 #[.val (.int p1)] [(.int (767 : Int32)), (.int p1)])) _
    by_cases hc : (767 : Int32) < p1
    · refine XS.icmpNo X0.here hx rfl (hb hby d1_69) rfl (XT.ii_le_f hc) ?_
      show Steps p.tables e below (s₁.setTop (mkF m 72 #[.val (.int p1)] [])) _
      exact j72 (hv.trans (if_pos hc))
    · refine XS.icmpYes X0.here hx rfl (pc0 := 69) (pc' := 191) rfl (hb hby d1_69) rfl (XT.ii_le_t hc) (by decide) (by decide) ?_
      show Steps p.tables e below (s₁.setTop (mkF m 191 #[.val (.int p1)] [])) _
      exact j191 (hv.trans (if_neg hc))
  have j58 : own_isc_0 p1 = own_isc_58 p1 → Steps p.tables e below (s₁.setTop (mkF m 58 #[.val (.int p1)] [])) (s₁.setFrames fs) := by
    intro hv
    show Steps p.tables e below (s₁.setTop (mkF m 58 #[.val (.int p1)] [])) _
    refine XS.iloadN X0.here hx rfl (hb hby d1_58) rfl ?_
    show Steps p.tables e below (s₁.setTop (mkF m 59 #[.val (.int p1)] [(.int p1)])) _
    refine XS.sipush X0.here hx rfl (hb hby d1_59) ?_
    show Steps p.tables e below (s₁.setTop (mkF m 62 #[.val (.int p1)] [(.int (248 : Int32)), (.int p1)])) _
    by_cases hc : p1 < (248 : Int32)
    · refine XS.icmpYes X0.here hx rfl (pc0 := 62) (pc' := 72) rfl (hb hby d1_62) rfl (XT.ii_lt_t hc) (by decide) (by decide) ?_
      show Steps p.tables e below (s₁.setTop (mkF m 72 #[.val (.int p1)] [])) _
      exact j72 (hv.trans (if_pos hc))
    · refine XS.icmpNo X0.here hx rfl (hb hby d1_62) rfl (XT.ii_lt_f hc) ?_
      show Steps p.tables e below (s₁.setTop (mkF m 65 #[.val (.int p1)] [])) _
      exact j65 (hv.trans (if_neg hc))
  have j51 : own_isc_0 p1 = own_isc_51 p1 → Steps p.tables e below (s₁.setTop (mkF m 51 #[.val (.int p1)] [])) (s₁.setFrames fs) := by
    intro hv
    show Steps p.tables e below (s₁.setTop (mkF m 51 #[.val (.int p1)] [])) _
    refine XS.iloadN X0.here hx rfl (hb hby d1_51) rfl ?_
    show Steps p.tables e below (s₁.setTop (mkF m 52 #[.val (.int p1)] [(.int p1)])) _
    refine XS.sipush X0.here hx rfl (hb hby d1_52) ?_
    show Steps p.tables e below (s₁.setTop (mkF m 55 #[.val (.int p1)] [(.int (246 : Int32)), (.int p1)])) _
    by_cases hc : (246 : Int32) < p1
    · refine XS.icmpNo X0.here hx rfl (hb hby d1_55) rfl (XT.ii_le_f hc) ?_
      show Steps p.tables e below (s₁.setTop (mkF m 58 #[.val (.int p1)] [])) _
      exact j58 (hv.trans (if_pos hc))
    · refine XS.icmpYes X0.here hx rfl (pc0 := 55) (pc' := 191) rfl (hb hby d1_55) rfl (XT.ii_le_t hc) (by decide) (by decide) ?_
      show Steps p.tables e below (s₁.setTop (mkF m 191 #[.val (.int p1)] [])) _
      exact j191 (hv.trans (if_neg hc))
  have j44 : own_isc_0 p1 = own_isc_44 p1 → Steps p.tables e below (s₁.setTop (mkF m 44 #[.val (.int p1)] [])) (s₁.setFrames fs) := by
    intro hv
    show Steps p.tables e below (s₁.setTop (mkF m 44 #[.val (.int p1)] [])) _
    refine XS.iloadN X0.here hx rfl (hb hby d1_44) rfl ?_
    show Steps p.tables e below (s₁.setTop (mkF m 45 #[.val (.int p1)] [(.int p1)])) _
    refine XS.sipush X0.here hx rfl (hb hby d1_45) ?_
    show Steps p.tables e below (s₁.setTop (mkF m 48 #[.val (.int p1)] [(.int (216 : Int32)), (.int p1)])) _
    by_cases hc : p1 < (216 : Int32)
    · refine XS.icmpYes X0.here hx rfl (pc0 := 48) (pc' := 58) rfl (hb hby d1_48) rfl (XT.ii_lt_t hc) (by decide) (by decide) ?_
      show Steps p.tables e below (s₁.setTop (mkF m 58 #[.val (.int p1)] [])) _
      exact j58 (hv.trans (if_pos hc))
    · refine XS.icmpNo X0.here hx rfl (hb hby d1_48) rfl (XT.ii_lt_f hc) ?_
      show Steps p.tables e below (s₁.setTop (mkF m 51 #[.val (.int p1)] [])) _
      exact j51 (hv.trans (if_neg hc))
  have j37 : own_isc_0 p1 = own_isc_37 p1 → Steps p.tables e below (s₁.setTop (mkF m 37 #[.val (.int p1)] [])) (s₁.setFrames fs) := by
    intro hv
    show Steps p.tables e below (s₁.setTop (mkF m 37 #[.val (.int p1)] [])) _
    refine XS.iloadN X0.here hx rfl (hb hby d1_37) rfl ?_
    show Steps p.tables e below (s₁.setTop (mkF m 38 #[.val (.int p1)] [(.int p1)])) _
    refine XS.sipush X0.here hx rfl (hb hby d1_38) ?_
    show Steps p.tables e below (s₁.setTop (mkF m 41 #[.val (.int p1)] [(.int (214 : Int32)), (.int p1)])) _
    by_cases hc : (214 : Int32) < p1
    · refine XS.icmpNo X0.here hx rfl (hb hby d1_41) rfl (XT.ii_le_f hc) ?_
      show Steps p.tables e below (s₁.setTop (mkF m 44 #[.val (.int p1)] [])) _
      exact j44 (hv.trans (if_pos hc))
    · refine XS.icmpYes X0.here hx rfl (pc0 := 41) (pc' := 191) rfl (hb hby d1_41) rfl (XT.ii_le_t hc) (by decide) (by decide) ?_
      show Steps p.tables e below (s₁.setTop (mkF m 191 #[.val (.int p1)] [])) _
      exact j191 (hv.trans (if_neg hc))
  have j30 : own_isc_0 p1 = own_isc_30 p1 → Steps p.tables e below (s₁.setTop (mkF m 30 #[.val (.int p1)] [])) (s₁.setFrames fs) := by
    intro hv
    show Steps p.tables e below (s₁.setTop (mkF m 30 #[.val (.int p1)] [])) _
    refine XS.iloadN X0.here hx rfl (hb hby d1_30) rfl ?_
    show Steps p.tables e below (s₁.setTop (mkF m 31 #[.val (.int p1)] [(.int p1)])) _
    refine XS.sipush X0.here hx rfl (hb hby d1_31) ?_
    show Steps p.tables e below (s₁.setTop (mkF m 34 #[.val (.int p1)] [(.int (192 : Int32)), (.int p1)])) _
    by_cases hc : p1 < (192 : Int32)
    · refine XS.icmpYes X0.here hx rfl (pc0 := 34) (pc' := 44) rfl (hb hby d1_34) rfl (XT.ii_lt_t hc) (by decide) (by decide) ?_
      show Steps p.tables e below (s₁.setTop (mkF m 44 #[.val (.int p1)] [])) _
      exact j44 (hv.trans (if_pos hc))
    · refine XS.icmpNo X0.here hx rfl (hb hby d1_34) rfl (XT.ii_lt_f hc) ?_
      show Steps p.tables e below (s₁.setTop (mkF m 37 #[.val (.int p1)] [])) _
      exact j37 (hv.trans (if_neg hc))
  have j24 : own_isc_0 p1 = own_isc_24 p1 → Steps p.tables e below (s₁.setTop (mkF m 24 #[.val (.int p1)] [])) (s₁.setFrames fs) := by
    intro hv
    show Steps p.tables e below (s₁.setTop (mkF m 24 #[.val (.int p1)] [])) _
    refine XS.iloadN X0.here hx rfl (hb hby d1_24) rfl ?_
    show Steps p.tables e below (s₁.setTop (mkF m 25 #[.val (.int p1)] [(.int p1)])) _
    refine XS.bipush X0.here hx rfl (hb hby d1_25) ?_
    show Steps p.tables e below (s₁.setTop (mkF m 27 #[.val (.int p1)] [(.int (122 : Int32)), (.int p1)])) _
    by_cases hc : (122 : Int32) < p1
    · refine XS.icmpNo X0.here hx rfl (hb hby d1_27) rfl (XT.ii_le_f hc) ?_
      show Steps p.tables e below (s₁.setTop (mkF m 30 #[.val (.int p1)] [])) _
      exact j30 (hv.trans (if_pos hc))
    · refine XS.icmpYes X0.here hx rfl (pc0 := 27) (pc' := 191) rfl (hb hby d1_27) rfl (XT.ii_le_t hc) (by decide) (by decide) ?_
      show Steps p.tables e below (s₁.setTop (mkF m 191 #[.val (.int p1)] [])) _
      exact j191 (hv.trans (if_neg hc))
  have j18 : own_isc_0 p1 = own_isc_18 p1 → Steps p.tables e below (s₁.setTop (mkF m 18 #[.val (.int p1)] [])) (s₁.setFrames fs) := by
    intro hv
    show Steps p.tables e below (s₁.setTop (mkF m 18 #[.val (.int p1)] [])) _
    refine XS.iloadN X0.here hx rfl (hb hby d1_18) rfl ?_
    show Steps p.tables e below (s₁.setTop (mkF m 19 #[.val (.int p1)] [(.int p1)])) _
    refine XS.bipush X0.here hx rfl (hb hby d1_19) ?_
    show Steps p.tables e below (s₁.setTop (mkF m 21 #[.val (.int p1)] [(.int (97 : Int32)), (.int p1)])) _
    by_cases hc : p1 < (97 : Int32)
    · refine XS.icmpYes X0.here hx rfl (pc0 := 21) (pc' := 30) rfl (hb hby d1_21) rfl (XT.ii_lt_t hc) (by decide) (by decide) ?_
      show Steps p.tables e below (s₁.setTop (mkF m 30 #[.val (.int p1)] [])) _
      exact j30 (hv.trans (if_pos hc))
    · refine XS.icmpNo X0.here hx rfl (hb hby d1_21) rfl (XT.ii_lt_f hc) ?_
      show Steps p.tables e below (s₁.setTop (mkF m 24 #[.val (.int p1)] [])) _
      exact j24 (hv.trans (if_neg hc))
  have j12 : own_isc_0 p1 = own_isc_12 p1 → Steps p.tables e below (s₁.setTop (mkF m 12 #[.val (.int p1)] [])) (s₁.setFrames fs) := by
    intro hv
    show Steps p.tables e below (s₁.setTop (mkF m 12 #[.val (.int p1)] [])) _
    refine XS.iloadN X0.here hx rfl (hb hby d1_12) rfl ?_
    show Steps p.tables e below (s₁.setTop (mkF m 13 #[.val (.int p1)] [(.int p1)])) _
    refine XS.bipush X0.here hx rfl (hb hby d1_13) ?_
    show Steps p.tables e below (s₁.setTop (mkF m 15 #[.val (.int p1)] [(.int (95 : Int32)), (.int p1)])) _
    by_cases hc : p1 = (95 : Int32)
    · refine XS.icmpYes X0.here hx rfl (pc0 := 15) (pc' := 191) rfl (hb hby d1_15) rfl (XT.ii_eq_t hc) (by decide) (by decide) ?_
      show Steps p.tables e below (s₁.setTop (mkF m 191 #[.val (.int p1)] [])) _
      exact j191 (hv.trans (if_pos hc))
    · refine XS.icmpNo X0.here hx rfl (hb hby d1_15) rfl (XT.ii_eq_f hc) ?_
      show Steps p.tables e below (s₁.setTop (mkF m 18 #[.val (.int p1)] [])) _
      exact j18 (hv.trans (if_neg hc))
  have j6 : own_isc_0 p1 = own_isc_6 p1 → Steps p.tables e below (s₁.setTop (mkF m 6 #[.val (.int p1)] [])) (s₁.setFrames fs) := by
    intro hv
    show Steps p.tables e below (s₁.setTop (mkF m 6 #[.val (.int p1)] [])) _
    refine XS.iloadN X0.here hx rfl (hb hby d1_6) rfl ?_
    show Steps p.tables e below (s₁.setTop (mkF m 7 #[.val (.int p1)] [(.int p1)])) _
    refine XS.bipush X0.here hx rfl (hb hby d1_7) ?_
    show Steps p.tables e below (s₁.setTop (mkF m 9 #[.val (.int p1)] [(.int (90 : Int32)), (.int p1)])) _
    by_cases hc : (90 : Int32) < p1
    · refine XS.icmpNo X0.here hx rfl (hb hby d1_9) rfl (XT.ii_le_f hc) ?_
      show Steps p.tables e below (s₁.setTop (mkF m 12 #[.val (.int p1)] [])) _
      exact j12 (hv.trans (if_pos hc))
    · refine XS.icmpYes X0.here hx rfl (pc0 := 9) (pc' := 191) rfl (hb hby d1_9) rfl (XT.ii_le_t hc) (by decide) (by decide) ?_
      show Steps p.tables e below (s₁.setTop (mkF m 191 #[.val (.int p1)] [])) _
      exact j191 (hv.trans (if_neg hc))
  have j0 : own_isc_0 p1 = own_isc_0 p1 → Steps p.tables e below (s₁.setTop (mkF m 0 #[.val (.int p1)] [])) (s₁.setFrames fs) := by
    intro hv
    show Steps p.tables e below (s₁.setTop (mkF m 0 #[.val (.int p1)] [])) _
    refine XS.iloadN X0.here hx rfl (hb hby d1_0) rfl ?_
    show Steps p.tables e below (s₁.setTop (mkF m 1 #[.val (.int p1)] [(.int p1)])) _
    refine XS.bipush X0.here hx rfl (hb hby d1_1) ?_
    show Steps p.tables e below (s₁.setTop (mkF m 3 #[.val (.int p1)] [(.int (65 : Int32)), (.int p1)])) _
    by_cases hc : p1 < (65 : Int32)
    · refine XS.icmpYes X0.here hx rfl (pc0 := 3) (pc' := 12) rfl (hb hby d1_3) rfl (XT.ii_lt_t hc) (by decide) (by decide) ?_
      show Steps p.tables e below (s₁.setTop (mkF m 12 #[.val (.int p1)] [])) _
      exact j12 (hv.trans (if_pos hc))
    · refine XS.icmpNo X0.here hx rfl (hb hby d1_3) rfl (XT.ii_lt_f hc) ?_
      show Steps p.tables e below (s₁.setTop (mkF m 6 #[.val (.int p1)] [])) _
      exact j6 (hv.trans (if_neg hc))
  refine ⟨_, _, pre0 _ (j0 rfl), hrun, hended, _, _, rfl, ?_, ⟨_, rfl⟩, hW, hsame.mono (by decide) (by decide)⟩
  show Q1 Z p1 h0 n0 _ s₁.heap _
  rw [e0]
  exact ⟨rfl, N0, rfl⟩
def own_ref_200 (p1 : Int32) : Int32 := (1 : Int32)
def own_ref_198 (p1 : Int32) : Int32 := (0 : Int32)
def own_ref_192 (p1 : Int32) : Int32 := if (65535 : Int32) < p1 then own_ref_200 p1 else own_ref_198 p1
def own_ref_186 (p1 : Int32) : Int32 := if p1 < (65534 : Int32) then own_ref_200 p1 else own_ref_192 p1
def own_ref_184 (p1 : Int32) : Int32 := (0 : Int32)
def own_ref_178 (p1 : Int32) : Int32 := if (65007 : Int32) < p1 then own_ref_186 p1 else own_ref_184 p1
def own_ref_172 (p1 : Int32) : Int32 := if p1 < (64976 : Int32) then own_ref_186 p1 else own_ref_178 p1
def own_ref_170 (p1 : Int32) : Int32 := (0 : Int32)
def own_ref_164 (p1 : Int32) : Int32 := if (63743 : Int32) < p1 then own_ref_172 p1 else own_ref_170 p1
def own_ref_158 (p1 : Int32) : Int32 := if p1 < (55296 : Int32) then own_ref_172 p1 else own_ref_164 p1
def own_ref_156 (p1 : Int32) : Int32 := (0 : Int32)
def own_ref_149 (p1 : Int32) : Int32 := if (12288 : Int32) < p1 then own_ref_158 p1 else own_ref_156 p1
def own_ref_142 (p1 : Int32) : Int32 := if p1 < (12272 : Int32) then own_ref_158 p1 else own_ref_149 p1
def own_ref_140 (p1 : Int32) : Int32 := (0 : Int32)
def own_ref_133 (p1 : Int32) : Int32 := if (11263 : Int32) < p1 then own_ref_142 p1 else own_ref_140 p1
def own_ref_126 (p1 : Int32) : Int32 := if p1 < (8592 : Int32) then own_ref_142 p1 else own_ref_133 p1
def own_ref_124 (p1 : Int32) : Int32 := (0 : Int32)
def own_ref_117 (p1 : Int32) : Int32 := if (8303 : Int32) < p1 then own_ref_126 p1 else own_ref_124 p1
def own_ref_110 (p1 : Int32) : Int32 := if p1 < (8206 : Int32) then own_ref_126 p1 else own_ref_117 p1
def own_ref_108 (p1 : Int32) : Int32 := (0 : Int32)
def own_ref_101 (p1 : Int32) : Int32 := if (8203 : Int32) < p1 then own_ref_110 p1 else own_ref_108 p1
def own_ref_94 (p1 : Int32) : Int32 := if p1 < (8192 : Int32) then own_ref_110 p1 else own_ref_101 p1
def own_ref_92 (p1 : Int32) : Int32 := (0 : Int32)
def own_ref_85 (p1 : Int32) : Int32 := if p1 = (894 : Int32) then own_ref_92 p1 else own_ref_94 p1
def own_ref_83 (p1 : Int32) : Int32 := (0 : Int32)
def own_ref_76 (p1 : Int32) : Int32 := if (879 : Int32) < p1 then own_ref_85 p1 else own_ref_83 p1
def own_ref_69 (p1 : Int32) : Int32 := if p1 < (768 : Int32) then own_ref_85 p1 else own_ref_76 p1
def own_ref_67 (p1 : Int32) : Int32 := (0 : Int32)
def own_ref_60 (p1 : Int32) : Int32 := if p1 = (247 : Int32) then own_ref_67 p1 else own_ref_69 p1
def own_ref_58 (p1 : Int32) : Int32 := (0 : Int32)
def own_ref_51 (p1 : Int32) : Int32 := if p1 = (215 : Int32) then own_ref_58 p1 else own_ref_60 p1
def own_ref_49 (p1 : Int32) : Int32 := (0 : Int32)
def own_ref_42 (p1 : Int32) : Int32 := if (191 : Int32) < p1 then own_ref_51 p1 else own_ref_49 p1
def own_ref_36 (p1 : Int32) : Int32 := if p1 < (123 : Int32) then own_ref_51 p1 else own_ref_42 p1
def own_ref_34 (p1 : Int32) : Int32 := (0 : Int32)
def own_ref_28 (p1 : Int32) : Int32 := if p1 = (96 : Int32) then own_ref_34 p1 else own_ref_36 p1
def own_ref_26 (p1 : Int32) : Int32 := (0 : Int32)
def own_ref_20 (p1 : Int32) : Int32 := if (94 : Int32) < p1 then own_ref_28 p1 else own_ref_26 p1
def own_ref_14 (p1 : Int32) : Int32 := if p1 < (91 : Int32) then own_ref_28 p1 else own_ref_20 p1
def own_ref_12 (p1 : Int32) : Int32 := (0 : Int32)
def own_ref_6 (p1 : Int32) : Int32 := if (983039 : Int32) < p1 then own_ref_12 p1 else own_ref_14 p1
def own_ref_0 (p1 : Int32) : Int32 := if p1 < (65 : Int32) then own_ref_12 p1 else own_ref_6 p1
theorem d2_0 : decode method_2_code 0 = .ok (.iload_n 0, 1) := by decide +kernel
theorem d2_1 : decode method_2_code 1 = .ok (.bipush 65, 2) := by decide +kernel
theorem d2_3 : decode method_2_code 3 = .ok (.if_icmp .lt 9, 3) := by decide +kernel
theorem d2_6 : decode method_2_code 6 = .ok (.iload_n 0, 1) := by decide +kernel
theorem d2_7 : decode method_2_code 7 = .ok (.ldc 7, 2) := by decide +kernel
theorem d2_9 : decode method_2_code 9 = .ok (.if_icmp .le 5, 3) := by decide +kernel
theorem d2_12 : decode method_2_code 12 = .ok (.iconst 0, 1) := by decide +kernel
theorem d2_13 : decode method_2_code 13 = .ok (.ireturn, 1) := by decide +kernel
theorem d2_14 : decode method_2_code 14 = .ok (.iload_n 0, 1) := by decide +kernel
theorem d2_15 : decode method_2_code 15 = .ok (.bipush 91, 2) := by decide +kernel
theorem d2_17 : decode method_2_code 17 = .ok (.if_icmp .lt 11, 3) := by decide +kernel
theorem d2_20 : decode method_2_code 20 = .ok (.iload_n 0, 1) := by decide +kernel
theorem d2_21 : decode method_2_code 21 = .ok (.bipush 94, 2) := by decide +kernel
theorem d2_23 : decode method_2_code 23 = .ok (.if_icmp .gt 5, 3) := by decide +kernel
theorem d2_26 : decode method_2_code 26 = .ok (.iconst 0, 1) := by decide +kernel
theorem d2_27 : decode method_2_code 27 = .ok (.ireturn, 1) := by decide +kernel
theorem d2_28 : decode method_2_code 28 = .ok (.iload_n 0, 1) := by decide +kernel
theorem d2_29 : decode method_2_code 29 = .ok (.bipush 96, 2) := by decide +kernel
theorem d2_31 : decode method_2_code 31 = .ok (.if_icmp .ne 5, 3) := by decide +kernel
theorem d2_34 : decode method_2_code 34 = .ok (.iconst 0, 1) := by decide +kernel
theorem d2_35 : decode method_2_code 35 = .ok (.ireturn, 1) := by decide +kernel
theorem d2_36 : decode method_2_code 36 = .ok (.iload_n 0, 1) := by decide +kernel
theorem d2_37 : decode method_2_code 37 = .ok (.bipush 123, 2) := by decide +kernel
theorem d2_39 : decode method_2_code 39 = .ok (.if_icmp .lt 12, 3) := by decide +kernel
theorem d2_42 : decode method_2_code 42 = .ok (.iload_n 0, 1) := by decide +kernel
theorem d2_43 : decode method_2_code 43 = .ok (.sipush 191, 3) := by decide +kernel
theorem d2_46 : decode method_2_code 46 = .ok (.if_icmp .gt 5, 3) := by decide +kernel
theorem d2_49 : decode method_2_code 49 = .ok (.iconst 0, 1) := by decide +kernel
theorem d2_50 : decode method_2_code 50 = .ok (.ireturn, 1) := by decide +kernel
theorem d2_51 : decode method_2_code 51 = .ok (.iload_n 0, 1) := by decide +kernel
theorem d2_52 : decode method_2_code 52 = .ok (.sipush 215, 3) := by decide +kernel
theorem d2_55 : decode method_2_code 55 = .ok (.if_icmp .ne 5, 3) := by decide +kernel
theorem d2_58 : decode method_2_code 58 = .ok (.iconst 0, 1) := by decide +kernel
theorem d2_59 : decode method_2_code 59 = .ok (.ireturn, 1) := by decide +kernel
theorem d2_60 : decode method_2_code 60 = .ok (.iload_n 0, 1) := by decide +kernel
theorem d2_61 : decode method_2_code 61 = .ok (.sipush 247, 3) := by decide +kernel
theorem d2_64 : decode method_2_code 64 = .ok (.if_icmp .ne 5, 3) := by decide +kernel
theorem d2_67 : decode method_2_code 67 = .ok (.iconst 0, 1) := by decide +kernel
theorem d2_68 : decode method_2_code 68 = .ok (.ireturn, 1) := by decide +kernel
theorem d2_69 : decode method_2_code 69 = .ok (.iload_n 0, 1) := by decide +kernel
theorem d2_70 : decode method_2_code 70 = .ok (.sipush 768, 3) := by decide +kernel
theorem d2_73 : decode method_2_code 73 = .ok (.if_icmp .lt 12, 3) := by decide +kernel
theorem d2_76 : decode method_2_code 76 = .ok (.iload_n 0, 1) := by decide +kernel
theorem d2_77 : decode method_2_code 77 = .ok (.sipush 879, 3) := by decide +kernel
theorem d2_80 : decode method_2_code 80 = .ok (.if_icmp .gt 5, 3) := by decide +kernel
theorem d2_83 : decode method_2_code 83 = .ok (.iconst 0, 1) := by decide +kernel
theorem d2_84 : decode method_2_code 84 = .ok (.ireturn, 1) := by decide +kernel
theorem d2_85 : decode method_2_code 85 = .ok (.iload_n 0, 1) := by decide +kernel
theorem d2_86 : decode method_2_code 86 = .ok (.sipush 894, 3) := by decide +kernel
theorem d2_89 : decode method_2_code 89 = .ok (.if_icmp .ne 5, 3) := by decide +kernel
theorem d2_92 : decode method_2_code 92 = .ok (.iconst 0, 1) := by decide +kernel
theorem d2_93 : decode method_2_code 93 = .ok (.ireturn, 1) := by decide +kernel
theorem d2_94 : decode method_2_code 94 = .ok (.iload_n 0, 1) := by decide +kernel
theorem d2_95 : decode method_2_code 95 = .ok (.sipush 8192, 3) := by decide +kernel
theorem d2_98 : decode method_2_code 98 = .ok (.if_icmp .lt 12, 3) := by decide +kernel
theorem d2_101 : decode method_2_code 101 = .ok (.iload_n 0, 1) := by decide +kernel
theorem d2_102 : decode method_2_code 102 = .ok (.sipush 8203, 3) := by decide +kernel
theorem d2_105 : decode method_2_code 105 = .ok (.if_icmp .gt 5, 3) := by decide +kernel
theorem d2_108 : decode method_2_code 108 = .ok (.iconst 0, 1) := by decide +kernel
theorem d2_109 : decode method_2_code 109 = .ok (.ireturn, 1) := by decide +kernel
theorem d2_110 : decode method_2_code 110 = .ok (.iload_n 0, 1) := by decide +kernel
theorem d2_111 : decode method_2_code 111 = .ok (.sipush 8206, 3) := by decide +kernel
theorem d2_114 : decode method_2_code 114 = .ok (.if_icmp .lt 12, 3) := by decide +kernel
theorem d2_117 : decode method_2_code 117 = .ok (.iload_n 0, 1) := by decide +kernel
theorem d2_118 : decode method_2_code 118 = .ok (.sipush 8303, 3) := by decide +kernel
theorem d2_121 : decode method_2_code 121 = .ok (.if_icmp .gt 5, 3) := by decide +kernel
theorem d2_124 : decode method_2_code 124 = .ok (.iconst 0, 1) := by decide +kernel
theorem d2_125 : decode method_2_code 125 = .ok (.ireturn, 1) := by decide +kernel
theorem d2_126 : decode method_2_code 126 = .ok (.iload_n 0, 1) := by decide +kernel
theorem d2_127 : decode method_2_code 127 = .ok (.sipush 8592, 3) := by decide +kernel
theorem d2_130 : decode method_2_code 130 = .ok (.if_icmp .lt 12, 3) := by decide +kernel
theorem d2_133 : decode method_2_code 133 = .ok (.iload_n 0, 1) := by decide +kernel
theorem d2_134 : decode method_2_code 134 = .ok (.sipush 11263, 3) := by decide +kernel
theorem d2_137 : decode method_2_code 137 = .ok (.if_icmp .gt 5, 3) := by decide +kernel
theorem d2_140 : decode method_2_code 140 = .ok (.iconst 0, 1) := by decide +kernel
theorem d2_141 : decode method_2_code 141 = .ok (.ireturn, 1) := by decide +kernel
theorem d2_142 : decode method_2_code 142 = .ok (.iload_n 0, 1) := by decide +kernel
theorem d2_143 : decode method_2_code 143 = .ok (.sipush 12272, 3) := by decide +kernel
theorem d2_146 : decode method_2_code 146 = .ok (.if_icmp .lt 12, 3) := by decide +kernel
theorem d2_149 : decode method_2_code 149 = .ok (.iload_n 0, 1) := by decide +kernel
theorem d2_150 : decode method_2_code 150 = .ok (.sipush 12288, 3) := by decide +kernel
theorem d2_153 : decode method_2_code 153 = .ok (.if_icmp .gt 5, 3) := by decide +kernel
theorem d2_156 : decode method_2_code 156 = .ok (.iconst 0, 1) := by decide +kernel
theorem d2_157 : decode method_2_code 157 = .ok (.ireturn, 1) := by decide +kernel
theorem d2_158 : decode method_2_code 158 = .ok (.iload_n 0, 1) := by decide +kernel
theorem d2_159 : decode method_2_code 159 = .ok (.ldc 8, 2) := by decide +kernel
theorem d2_161 : decode method_2_code 161 = .ok (.if_icmp .lt 11, 3) := by decide +kernel
theorem d2_164 : decode method_2_code 164 = .ok (.iload_n 0, 1) := by decide +kernel
theorem d2_165 : decode method_2_code 165 = .ok (.ldc 9, 2) := by decide +kernel
theorem d2_167 : decode method_2_code 167 = .ok (.if_icmp .gt 5, 3) := by decide +kernel
theorem d2_170 : decode method_2_code 170 = .ok (.iconst 0, 1) := by decide +kernel
theorem d2_171 : decode method_2_code 171 = .ok (.ireturn, 1) := by decide +kernel
theorem d2_172 : decode method_2_code 172 = .ok (.iload_n 0, 1) := by decide +kernel
theorem d2_173 : decode method_2_code 173 = .ok (.ldc 10, 2) := by decide +kernel
theorem d2_175 : decode method_2_code 175 = .ok (.if_icmp .lt 11, 3) := by decide +kernel
theorem d2_178 : decode method_2_code 178 = .ok (.iload_n 0, 1) := by decide +kernel
theorem d2_179 : decode method_2_code 179 = .ok (.ldc 11, 2) := by decide +kernel
theorem d2_181 : decode method_2_code 181 = .ok (.if_icmp .gt 5, 3) := by decide +kernel
theorem d2_184 : decode method_2_code 184 = .ok (.iconst 0, 1) := by decide +kernel
theorem d2_185 : decode method_2_code 185 = .ok (.ireturn, 1) := by decide +kernel
theorem d2_186 : decode method_2_code 186 = .ok (.iload_n 0, 1) := by decide +kernel
theorem d2_187 : decode method_2_code 187 = .ok (.ldc 12, 2) := by decide +kernel
theorem d2_189 : decode method_2_code 189 = .ok (.if_icmp .lt 11, 3) := by decide +kernel
theorem d2_192 : decode method_2_code 192 = .ok (.iload_n 0, 1) := by decide +kernel
theorem d2_193 : decode method_2_code 193 = .ok (.ldc 13, 2) := by decide +kernel
theorem d2_195 : decode method_2_code 195 = .ok (.if_icmp .gt 5, 3) := by decide +kernel
theorem d2_198 : decode method_2_code 198 = .ok (.iconst 0, 1) := by decide +kernel
theorem d2_199 : decode method_2_code 199 = .ok (.ireturn, 1) := by decide +kernel
theorem d2_200 : decode method_2_code 200 = .ok (.iconst 1, 1) := by decide +kernel
theorem d2_201 : decode method_2_code 201 = .ok (.ireturn, 1) := by decide +kernel
theorem pn_2 : plainName "com/example/kellar/kellar/XmlCharsIsNameStartCharPinLaw" = true := by first | (simp [plainName, overriddenIn]; done) | decide +kernel
theorem ef_2 (m : MethodId) (x0 : Int32) : entryFrame m #[(.int x0)] 1 = mkF m 0 #[.val (.int x0)] [] := by first | (simp [entryFrame, mkF, argsToLocals, Value.category]; done) | rfl
def Q2 (Z : State) (p1 : Int32) (h0 : Heap) (n0 : Nat) (v : Option Value) (h : Heap) (L : List Loc) : Prop := v = some (.int (own_ref_0 p1)) ∧ Fr n0 L ∧ h = h0
set_option maxRecDepth 65536 in
set_option maxHeartbeats 40000000 in
theorem rm2 (l : Launch) (Z : State) (a0 : Array Value) (hw : ∀ d ∈ tables_1, d.before a0 Z = true) (ws : List Jvm.Cond) (p1 : Int32) (h0 : Heap) (n0 : Nat) (Z0 : n0 ≤ h0.size)  :
    MetFree l (⟨"com/example/kellar/kellar/XmlCharsIsNameStartCharPinLaw", "ref", "(I)Z"⟩ : MethodName) (head1 (Jvm.Cond.code (⟨"com/example/kellar/kellar/XmlCharsIsNameStartCharPinLaw", "ref", "(I)Z"⟩ : MethodName) method_2_code 1 (some .boolean) :: ws) ({ frames := 0, cells := 0, slots := 0, locals := 0 } : Room)) (fun aa U => aa = #[(.int p1)] ∧ Z.Warmed39 U.vm ∧ U.heap = h0) (fun _ _ _ _ _ => True) (fun _ U o U' => ∃ v L, o = .returned v ∧ Q2 Z p1 h0 n0 v U'.heap L ∧ FrameEnd U o U' L ({ frames := 0, cells := 0, slots := 0, locals := 0 } : Room).cells ({ frames := 0, cells := 0, slots := 0, locals := 0 } : Room).slots) := by
  refine MetFree.of_bodySF (plainFor_of_name pn_2) hisR ?_
  intro p e s m args below meth c s₁ Bd hml0 hP hK
  obtain ⟨rfl, hZ, hh⟩ := hP
  have hx := Bd.exec
  have hby := Bd.bytes
  have hml : c.maxLocals = 1 := hml0
  have hown : s.vm.findClass "com/example/kellar/kellar/XmlCharsIsNameStartCharPinLaw" = some m.cls := findClass_of_methodNamed Bd.named
  have hnm := (name_of_methodNamed Bd.named Bd.method).1
  have X0 : Stand p l e ({ frames := 0, cells := 0, slots := 0, locals := 0 } : Room) s m #[(.int p1)] below meth c s₁ [] 0 0 := Stand.of_body Bd
  have e0 : s₁.heap = h0 := by rw [← hh, Bd.state]; rfl
  have N0 := Fr.nil n0
  have pre0 : ∀ t, Steps p.tables e below (s₁.setTop (mkF m 0 #[.val (.int p1)] [])) t → Steps p.tables e below (s₁.setTop (entryFrame m #[(.int p1)] 1)) t := fun t k => castTop (ef_2 m p1) k
  obtain ⟨fs, hr, hrun, hended, hW, hsame⟩ := X0.leave (v := some (.int (own_ref_0 p1))) (fun h => by rw [Bd.returns] at h; cases h)
  have j200 : own_ref_0 p1 = own_ref_200 p1 → Steps p.tables e below (s₁.setTop (mkF m 200 #[.val (.int p1)] [])) (s₁.setFrames fs) := by
    intro hv
    rw [show own_ref_0 p1 = (1 : Int32) from hv] at hr
    show Steps p.tables e below (s₁.setTop (mkF m 200 #[.val (.int p1)] [])) _
    refine XS.iconst X0.here hx rfl (hb hby d2_200) ?_
    show Steps p.tables e below (s₁.setTop (mkF m 201 #[.val (.int p1)] [(.int (1 : Int32))])) _
    exact retN X0 hx (t := .boolean) Bd.returns (by simp) (hb hby d2_201) hr
  have j198 : own_ref_0 p1 = own_ref_198 p1 → Steps p.tables e below (s₁.setTop (mkF m 198 #[.val (.int p1)] [])) (s₁.setFrames fs) := by
    intro hv
    rw [show own_ref_0 p1 = (0 : Int32) from hv] at hr
    show Steps p.tables e below (s₁.setTop (mkF m 198 #[.val (.int p1)] [])) _
    refine XS.iconst X0.here hx rfl (hb hby d2_198) ?_
    show Steps p.tables e below (s₁.setTop (mkF m 199 #[.val (.int p1)] [(.int (0 : Int32))])) _
    exact retN X0 hx (t := .boolean) Bd.returns (by simp) (hb hby d2_199) hr
  have j192 : own_ref_0 p1 = own_ref_192 p1 → Steps p.tables e below (s₁.setTop (mkF m 192 #[.val (.int p1)] [])) (s₁.setFrames fs) := by
    intro hv
    show Steps p.tables e below (s₁.setTop (mkF m 192 #[.val (.int p1)] [])) _
    refine XS.iloadN X0.here hx rfl (hb hby d2_192) rfl ?_
    show Steps p.tables e below (s₁.setTop (mkF m 193 #[.val (.int p1)] [(.int p1)])) _
    refine X0.ldcI hx hown (mvT hZ (hw _ (List.mem_of_getElem? (i := 29) rfl))) (g := (mkF m 193 #[.val (.int p1)] [(.int p1)])) rfl (hb hby d2_193) ?_
    show Steps p.tables e below (s₁.setTop (mkF m 195 #[.val (.int p1)] [(.int (65535 : Int32)), (.int p1)])) _
    by_cases hc : (65535 : Int32) < p1
    · refine XS.icmpYes X0.here hx rfl (pc0 := 195) (pc' := 200) rfl (hb hby d2_195) rfl (XT.ii_gt_t hc) (by decide) (by decide) ?_
      show Steps p.tables e below (s₁.setTop (mkF m 200 #[.val (.int p1)] [])) _
      exact j200 (hv.trans (if_pos hc))
    · refine XS.icmpNo X0.here hx rfl (hb hby d2_195) rfl (XT.ii_gt_f hc) ?_
      show Steps p.tables e below (s₁.setTop (mkF m 198 #[.val (.int p1)] [])) _
      exact j198 (hv.trans (if_neg hc))
  have j186 : own_ref_0 p1 = own_ref_186 p1 → Steps p.tables e below (s₁.setTop (mkF m 186 #[.val (.int p1)] [])) (s₁.setFrames fs) := by
    intro hv
    show Steps p.tables e below (s₁.setTop (mkF m 186 #[.val (.int p1)] [])) _
    refine XS.iloadN X0.here hx rfl (hb hby d2_186) rfl ?_
    show Steps p.tables e below (s₁.setTop (mkF m 187 #[.val (.int p1)] [(.int p1)])) _
    refine X0.ldcI hx hown (mvT hZ (hw _ (List.mem_of_getElem? (i := 22) rfl))) (g := (mkF m 187 #[.val (.int p1)] [(.int p1)])) rfl (hb hby d2_187) ?_
    show Steps p.tables e below (s₁.setTop (mkF m 189 #[.val (.int p1)] [(.int (65534 : Int32)), (.int p1)])) _
    by_cases hc : p1 < (65534 : Int32)
    · refine XS.icmpYes X0.here hx rfl (pc0 := 189) (pc' := 200) rfl (hb hby d2_189) rfl (XT.ii_lt_t hc) (by decide) (by decide) ?_
      show Steps p.tables e below (s₁.setTop (mkF m 200 #[.val (.int p1)] [])) _
      exact j200 (hv.trans (if_pos hc))
    · refine XS.icmpNo X0.here hx rfl (hb hby d2_189) rfl (XT.ii_lt_f hc) ?_
      show Steps p.tables e below (s₁.setTop (mkF m 192 #[.val (.int p1)] [])) _
      exact j192 (hv.trans (if_neg hc))
  have j184 : own_ref_0 p1 = own_ref_184 p1 → Steps p.tables e below (s₁.setTop (mkF m 184 #[.val (.int p1)] [])) (s₁.setFrames fs) := by
    intro hv
    rw [show own_ref_0 p1 = (0 : Int32) from hv] at hr
    show Steps p.tables e below (s₁.setTop (mkF m 184 #[.val (.int p1)] [])) _
    refine XS.iconst X0.here hx rfl (hb hby d2_184) ?_
    show Steps p.tables e below (s₁.setTop (mkF m 185 #[.val (.int p1)] [(.int (0 : Int32))])) _
    exact retN X0 hx (t := .boolean) Bd.returns (by simp) (hb hby d2_185) hr
  have j178 : own_ref_0 p1 = own_ref_178 p1 → Steps p.tables e below (s₁.setTop (mkF m 178 #[.val (.int p1)] [])) (s₁.setFrames fs) := by
    intro hv
    show Steps p.tables e below (s₁.setTop (mkF m 178 #[.val (.int p1)] [])) _
    refine XS.iloadN X0.here hx rfl (hb hby d2_178) rfl ?_
    show Steps p.tables e below (s₁.setTop (mkF m 179 #[.val (.int p1)] [(.int p1)])) _
    refine X0.ldcI hx hown (mvT hZ (hw _ (List.mem_of_getElem? (i := 28) rfl))) (g := (mkF m 179 #[.val (.int p1)] [(.int p1)])) rfl (hb hby d2_179) ?_
    show Steps p.tables e below (s₁.setTop (mkF m 181 #[.val (.int p1)] [(.int (65007 : Int32)), (.int p1)])) _
    by_cases hc : (65007 : Int32) < p1
    · refine XS.icmpYes X0.here hx rfl (pc0 := 181) (pc' := 186) rfl (hb hby d2_181) rfl (XT.ii_gt_t hc) (by decide) (by decide) ?_
      show Steps p.tables e below (s₁.setTop (mkF m 186 #[.val (.int p1)] [])) _
      exact j186 (hv.trans (if_pos hc))
    · refine XS.icmpNo X0.here hx rfl (hb hby d2_181) rfl (XT.ii_gt_f hc) ?_
      show Steps p.tables e below (s₁.setTop (mkF m 184 #[.val (.int p1)] [])) _
      exact j184 (hv.trans (if_neg hc))
  have j172 : own_ref_0 p1 = own_ref_172 p1 → Steps p.tables e below (s₁.setTop (mkF m 172 #[.val (.int p1)] [])) (s₁.setFrames fs) := by
    intro hv
    show Steps p.tables e below (s₁.setTop (mkF m 172 #[.val (.int p1)] [])) _
    refine XS.iloadN X0.here hx rfl (hb hby d2_172) rfl ?_
    show Steps p.tables e below (s₁.setTop (mkF m 173 #[.val (.int p1)] [(.int p1)])) _
    refine X0.ldcI hx hown (mvT hZ (hw _ (List.mem_of_getElem? (i := 21) rfl))) (g := (mkF m 173 #[.val (.int p1)] [(.int p1)])) rfl (hb hby d2_173) ?_
    show Steps p.tables e below (s₁.setTop (mkF m 175 #[.val (.int p1)] [(.int (64976 : Int32)), (.int p1)])) _
    by_cases hc : p1 < (64976 : Int32)
    · refine XS.icmpYes X0.here hx rfl (pc0 := 175) (pc' := 186) rfl (hb hby d2_175) rfl (XT.ii_lt_t hc) (by decide) (by decide) ?_
      show Steps p.tables e below (s₁.setTop (mkF m 186 #[.val (.int p1)] [])) _
      exact j186 (hv.trans (if_pos hc))
    · refine XS.icmpNo X0.here hx rfl (hb hby d2_175) rfl (XT.ii_lt_f hc) ?_
      show Steps p.tables e below (s₁.setTop (mkF m 178 #[.val (.int p1)] [])) _
      exact j178 (hv.trans (if_neg hc))
  have j170 : own_ref_0 p1 = own_ref_170 p1 → Steps p.tables e below (s₁.setTop (mkF m 170 #[.val (.int p1)] [])) (s₁.setFrames fs) := by
    intro hv
    rw [show own_ref_0 p1 = (0 : Int32) from hv] at hr
    show Steps p.tables e below (s₁.setTop (mkF m 170 #[.val (.int p1)] [])) _
    refine XS.iconst X0.here hx rfl (hb hby d2_170) ?_
    show Steps p.tables e below (s₁.setTop (mkF m 171 #[.val (.int p1)] [(.int (0 : Int32))])) _
    exact retN X0 hx (t := .boolean) Bd.returns (by simp) (hb hby d2_171) hr
  have j164 : own_ref_0 p1 = own_ref_164 p1 → Steps p.tables e below (s₁.setTop (mkF m 164 #[.val (.int p1)] [])) (s₁.setFrames fs) := by
    intro hv
    show Steps p.tables e below (s₁.setTop (mkF m 164 #[.val (.int p1)] [])) _
    refine XS.iloadN X0.here hx rfl (hb hby d2_164) rfl ?_
    show Steps p.tables e below (s₁.setTop (mkF m 165 #[.val (.int p1)] [(.int p1)])) _
    refine X0.ldcI hx hown (mvT hZ (hw _ (List.mem_of_getElem? (i := 27) rfl))) (g := (mkF m 165 #[.val (.int p1)] [(.int p1)])) rfl (hb hby d2_165) ?_
    show Steps p.tables e below (s₁.setTop (mkF m 167 #[.val (.int p1)] [(.int (63743 : Int32)), (.int p1)])) _
    by_cases hc : (63743 : Int32) < p1
    · refine XS.icmpYes X0.here hx rfl (pc0 := 167) (pc' := 172) rfl (hb hby d2_167) rfl (XT.ii_gt_t hc) (by decide) (by decide) ?_
      show Steps p.tables e below (s₁.setTop (mkF m 172 #[.val (.int p1)] [])) _
      exact j172 (hv.trans (if_pos hc))
    · refine XS.icmpNo X0.here hx rfl (hb hby d2_167) rfl (XT.ii_gt_f hc) ?_
      show Steps p.tables e below (s₁.setTop (mkF m 170 #[.val (.int p1)] [])) _
      exact j170 (hv.trans (if_neg hc))
  have j158 : own_ref_0 p1 = own_ref_158 p1 → Steps p.tables e below (s₁.setTop (mkF m 158 #[.val (.int p1)] [])) (s₁.setFrames fs) := by
    intro hv
    show Steps p.tables e below (s₁.setTop (mkF m 158 #[.val (.int p1)] [])) _
    refine XS.iloadN X0.here hx rfl (hb hby d2_158) rfl ?_
    show Steps p.tables e below (s₁.setTop (mkF m 159 #[.val (.int p1)] [(.int p1)])) _
    refine X0.ldcI hx hown (mvT hZ (hw _ (List.mem_of_getElem? (i := 20) rfl))) (g := (mkF m 159 #[.val (.int p1)] [(.int p1)])) rfl (hb hby d2_159) ?_
    show Steps p.tables e below (s₁.setTop (mkF m 161 #[.val (.int p1)] [(.int (55296 : Int32)), (.int p1)])) _
    by_cases hc : p1 < (55296 : Int32)
    · refine XS.icmpYes X0.here hx rfl (pc0 := 161) (pc' := 172) rfl (hb hby d2_161) rfl (XT.ii_lt_t hc) (by decide) (by decide) ?_
      show Steps p.tables e below (s₁.setTop (mkF m 172 #[.val (.int p1)] [])) _
      exact j172 (hv.trans (if_pos hc))
    · refine XS.icmpNo X0.here hx rfl (hb hby d2_161) rfl (XT.ii_lt_f hc) ?_
      show Steps p.tables e below (s₁.setTop (mkF m 164 #[.val (.int p1)] [])) _
      exact j164 (hv.trans (if_neg hc))
  have j156 : own_ref_0 p1 = own_ref_156 p1 → Steps p.tables e below (s₁.setTop (mkF m 156 #[.val (.int p1)] [])) (s₁.setFrames fs) := by
    intro hv
    rw [show own_ref_0 p1 = (0 : Int32) from hv] at hr
    show Steps p.tables e below (s₁.setTop (mkF m 156 #[.val (.int p1)] [])) _
    refine XS.iconst X0.here hx rfl (hb hby d2_156) ?_
    show Steps p.tables e below (s₁.setTop (mkF m 157 #[.val (.int p1)] [(.int (0 : Int32))])) _
    exact retN X0 hx (t := .boolean) Bd.returns (by simp) (hb hby d2_157) hr
  have j149 : own_ref_0 p1 = own_ref_149 p1 → Steps p.tables e below (s₁.setTop (mkF m 149 #[.val (.int p1)] [])) (s₁.setFrames fs) := by
    intro hv
    show Steps p.tables e below (s₁.setTop (mkF m 149 #[.val (.int p1)] [])) _
    refine XS.iloadN X0.here hx rfl (hb hby d2_149) rfl ?_
    show Steps p.tables e below (s₁.setTop (mkF m 150 #[.val (.int p1)] [(.int p1)])) _
    refine XS.sipush X0.here hx rfl (hb hby d2_150) ?_
    show Steps p.tables e below (s₁.setTop (mkF m 153 #[.val (.int p1)] [(.int (12288 : Int32)), (.int p1)])) _
    by_cases hc : (12288 : Int32) < p1
    · refine XS.icmpYes X0.here hx rfl (pc0 := 153) (pc' := 158) rfl (hb hby d2_153) rfl (XT.ii_gt_t hc) (by decide) (by decide) ?_
      show Steps p.tables e below (s₁.setTop (mkF m 158 #[.val (.int p1)] [])) _
      exact j158 (hv.trans (if_pos hc))
    · refine XS.icmpNo X0.here hx rfl (hb hby d2_153) rfl (XT.ii_gt_f hc) ?_
      show Steps p.tables e below (s₁.setTop (mkF m 156 #[.val (.int p1)] [])) _
      exact j156 (hv.trans (if_neg hc))
  have j142 : own_ref_0 p1 = own_ref_142 p1 → Steps p.tables e below (s₁.setTop (mkF m 142 #[.val (.int p1)] [])) (s₁.setFrames fs) := by
    intro hv
    show Steps p.tables e below (s₁.setTop (mkF m 142 #[.val (.int p1)] [])) _
    refine XS.iloadN X0.here hx rfl (hb hby d2_142) rfl ?_
    show Steps p.tables e below (s₁.setTop (mkF m 143 #[.val (.int p1)] [(.int p1)])) _
    refine XS.sipush X0.here hx rfl (hb hby d2_143) ?_
    show Steps p.tables e below (s₁.setTop (mkF m 146 #[.val (.int p1)] [(.int (12272 : Int32)), (.int p1)])) _
    by_cases hc : p1 < (12272 : Int32)
    · refine XS.icmpYes X0.here hx rfl (pc0 := 146) (pc' := 158) rfl (hb hby d2_146) rfl (XT.ii_lt_t hc) (by decide) (by decide) ?_
      show Steps p.tables e below (s₁.setTop (mkF m 158 #[.val (.int p1)] [])) _
      exact j158 (hv.trans (if_pos hc))
    · refine XS.icmpNo X0.here hx rfl (hb hby d2_146) rfl (XT.ii_lt_f hc) ?_
      show Steps p.tables e below (s₁.setTop (mkF m 149 #[.val (.int p1)] [])) _
      exact j149 (hv.trans (if_neg hc))
  have j140 : own_ref_0 p1 = own_ref_140 p1 → Steps p.tables e below (s₁.setTop (mkF m 140 #[.val (.int p1)] [])) (s₁.setFrames fs) := by
    intro hv
    rw [show own_ref_0 p1 = (0 : Int32) from hv] at hr
    show Steps p.tables e below (s₁.setTop (mkF m 140 #[.val (.int p1)] [])) _
    refine XS.iconst X0.here hx rfl (hb hby d2_140) ?_
    show Steps p.tables e below (s₁.setTop (mkF m 141 #[.val (.int p1)] [(.int (0 : Int32))])) _
    exact retN X0 hx (t := .boolean) Bd.returns (by simp) (hb hby d2_141) hr
  have j133 : own_ref_0 p1 = own_ref_133 p1 → Steps p.tables e below (s₁.setTop (mkF m 133 #[.val (.int p1)] [])) (s₁.setFrames fs) := by
    intro hv
    show Steps p.tables e below (s₁.setTop (mkF m 133 #[.val (.int p1)] [])) _
    refine XS.iloadN X0.here hx rfl (hb hby d2_133) rfl ?_
    show Steps p.tables e below (s₁.setTop (mkF m 134 #[.val (.int p1)] [(.int p1)])) _
    refine XS.sipush X0.here hx rfl (hb hby d2_134) ?_
    show Steps p.tables e below (s₁.setTop (mkF m 137 #[.val (.int p1)] [(.int (11263 : Int32)), (.int p1)])) _
    by_cases hc : (11263 : Int32) < p1
    · refine XS.icmpYes X0.here hx rfl (pc0 := 137) (pc' := 142) rfl (hb hby d2_137) rfl (XT.ii_gt_t hc) (by decide) (by decide) ?_
      show Steps p.tables e below (s₁.setTop (mkF m 142 #[.val (.int p1)] [])) _
      exact j142 (hv.trans (if_pos hc))
    · refine XS.icmpNo X0.here hx rfl (hb hby d2_137) rfl (XT.ii_gt_f hc) ?_
      show Steps p.tables e below (s₁.setTop (mkF m 140 #[.val (.int p1)] [])) _
      exact j140 (hv.trans (if_neg hc))
  have j126 : own_ref_0 p1 = own_ref_126 p1 → Steps p.tables e below (s₁.setTop (mkF m 126 #[.val (.int p1)] [])) (s₁.setFrames fs) := by
    intro hv
    show Steps p.tables e below (s₁.setTop (mkF m 126 #[.val (.int p1)] [])) _
    refine XS.iloadN X0.here hx rfl (hb hby d2_126) rfl ?_
    show Steps p.tables e below (s₁.setTop (mkF m 127 #[.val (.int p1)] [(.int p1)])) _
    refine XS.sipush X0.here hx rfl (hb hby d2_127) ?_
    show Steps p.tables e below (s₁.setTop (mkF m 130 #[.val (.int p1)] [(.int (8592 : Int32)), (.int p1)])) _
    by_cases hc : p1 < (8592 : Int32)
    · refine XS.icmpYes X0.here hx rfl (pc0 := 130) (pc' := 142) rfl (hb hby d2_130) rfl (XT.ii_lt_t hc) (by decide) (by decide) ?_
      show Steps p.tables e below (s₁.setTop (mkF m 142 #[.val (.int p1)] [])) _
      exact j142 (hv.trans (if_pos hc))
    · refine XS.icmpNo X0.here hx rfl (hb hby d2_130) rfl (XT.ii_lt_f hc) ?_
      show Steps p.tables e below (s₁.setTop (mkF m 133 #[.val (.int p1)] [])) _
      exact j133 (hv.trans (if_neg hc))
  have j124 : own_ref_0 p1 = own_ref_124 p1 → Steps p.tables e below (s₁.setTop (mkF m 124 #[.val (.int p1)] [])) (s₁.setFrames fs) := by
    intro hv
    rw [show own_ref_0 p1 = (0 : Int32) from hv] at hr
    show Steps p.tables e below (s₁.setTop (mkF m 124 #[.val (.int p1)] [])) _
    refine XS.iconst X0.here hx rfl (hb hby d2_124) ?_
    show Steps p.tables e below (s₁.setTop (mkF m 125 #[.val (.int p1)] [(.int (0 : Int32))])) _
    exact retN X0 hx (t := .boolean) Bd.returns (by simp) (hb hby d2_125) hr
  have j117 : own_ref_0 p1 = own_ref_117 p1 → Steps p.tables e below (s₁.setTop (mkF m 117 #[.val (.int p1)] [])) (s₁.setFrames fs) := by
    intro hv
    show Steps p.tables e below (s₁.setTop (mkF m 117 #[.val (.int p1)] [])) _
    refine XS.iloadN X0.here hx rfl (hb hby d2_117) rfl ?_
    show Steps p.tables e below (s₁.setTop (mkF m 118 #[.val (.int p1)] [(.int p1)])) _
    refine XS.sipush X0.here hx rfl (hb hby d2_118) ?_
    show Steps p.tables e below (s₁.setTop (mkF m 121 #[.val (.int p1)] [(.int (8303 : Int32)), (.int p1)])) _
    by_cases hc : (8303 : Int32) < p1
    · refine XS.icmpYes X0.here hx rfl (pc0 := 121) (pc' := 126) rfl (hb hby d2_121) rfl (XT.ii_gt_t hc) (by decide) (by decide) ?_
      show Steps p.tables e below (s₁.setTop (mkF m 126 #[.val (.int p1)] [])) _
      exact j126 (hv.trans (if_pos hc))
    · refine XS.icmpNo X0.here hx rfl (hb hby d2_121) rfl (XT.ii_gt_f hc) ?_
      show Steps p.tables e below (s₁.setTop (mkF m 124 #[.val (.int p1)] [])) _
      exact j124 (hv.trans (if_neg hc))
  have j110 : own_ref_0 p1 = own_ref_110 p1 → Steps p.tables e below (s₁.setTop (mkF m 110 #[.val (.int p1)] [])) (s₁.setFrames fs) := by
    intro hv
    show Steps p.tables e below (s₁.setTop (mkF m 110 #[.val (.int p1)] [])) _
    refine XS.iloadN X0.here hx rfl (hb hby d2_110) rfl ?_
    show Steps p.tables e below (s₁.setTop (mkF m 111 #[.val (.int p1)] [(.int p1)])) _
    refine XS.sipush X0.here hx rfl (hb hby d2_111) ?_
    show Steps p.tables e below (s₁.setTop (mkF m 114 #[.val (.int p1)] [(.int (8206 : Int32)), (.int p1)])) _
    by_cases hc : p1 < (8206 : Int32)
    · refine XS.icmpYes X0.here hx rfl (pc0 := 114) (pc' := 126) rfl (hb hby d2_114) rfl (XT.ii_lt_t hc) (by decide) (by decide) ?_
      show Steps p.tables e below (s₁.setTop (mkF m 126 #[.val (.int p1)] [])) _
      exact j126 (hv.trans (if_pos hc))
    · refine XS.icmpNo X0.here hx rfl (hb hby d2_114) rfl (XT.ii_lt_f hc) ?_
      show Steps p.tables e below (s₁.setTop (mkF m 117 #[.val (.int p1)] [])) _
      exact j117 (hv.trans (if_neg hc))
  have j108 : own_ref_0 p1 = own_ref_108 p1 → Steps p.tables e below (s₁.setTop (mkF m 108 #[.val (.int p1)] [])) (s₁.setFrames fs) := by
    intro hv
    rw [show own_ref_0 p1 = (0 : Int32) from hv] at hr
    show Steps p.tables e below (s₁.setTop (mkF m 108 #[.val (.int p1)] [])) _
    refine XS.iconst X0.here hx rfl (hb hby d2_108) ?_
    show Steps p.tables e below (s₁.setTop (mkF m 109 #[.val (.int p1)] [(.int (0 : Int32))])) _
    exact retN X0 hx (t := .boolean) Bd.returns (by simp) (hb hby d2_109) hr
  have j101 : own_ref_0 p1 = own_ref_101 p1 → Steps p.tables e below (s₁.setTop (mkF m 101 #[.val (.int p1)] [])) (s₁.setFrames fs) := by
    intro hv
    show Steps p.tables e below (s₁.setTop (mkF m 101 #[.val (.int p1)] [])) _
    refine XS.iloadN X0.here hx rfl (hb hby d2_101) rfl ?_
    show Steps p.tables e below (s₁.setTop (mkF m 102 #[.val (.int p1)] [(.int p1)])) _
    refine XS.sipush X0.here hx rfl (hb hby d2_102) ?_
    show Steps p.tables e below (s₁.setTop (mkF m 105 #[.val (.int p1)] [(.int (8203 : Int32)), (.int p1)])) _
    by_cases hc : (8203 : Int32) < p1
    · refine XS.icmpYes X0.here hx rfl (pc0 := 105) (pc' := 110) rfl (hb hby d2_105) rfl (XT.ii_gt_t hc) (by decide) (by decide) ?_
      show Steps p.tables e below (s₁.setTop (mkF m 110 #[.val (.int p1)] [])) _
      exact j110 (hv.trans (if_pos hc))
    · refine XS.icmpNo X0.here hx rfl (hb hby d2_105) rfl (XT.ii_gt_f hc) ?_
      show Steps p.tables e below (s₁.setTop (mkF m 108 #[.val (.int p1)] [])) _
      exact j108 (hv.trans (if_neg hc))
  have j94 : own_ref_0 p1 = own_ref_94 p1 → Steps p.tables e below (s₁.setTop (mkF m 94 #[.val (.int p1)] [])) (s₁.setFrames fs) := by
    intro hv
    show Steps p.tables e below (s₁.setTop (mkF m 94 #[.val (.int p1)] [])) _
    refine XS.iloadN X0.here hx rfl (hb hby d2_94) rfl ?_
    show Steps p.tables e below (s₁.setTop (mkF m 95 #[.val (.int p1)] [(.int p1)])) _
    refine XS.sipush X0.here hx rfl (hb hby d2_95) ?_
    show Steps p.tables e below (s₁.setTop (mkF m 98 #[.val (.int p1)] [(.int (8192 : Int32)), (.int p1)])) _
    by_cases hc : p1 < (8192 : Int32)
    · refine XS.icmpYes X0.here hx rfl (pc0 := 98) (pc' := 110) rfl (hb hby d2_98) rfl (XT.ii_lt_t hc) (by decide) (by decide) ?_
      show Steps p.tables e below (s₁.setTop (mkF m 110 #[.val (.int p1)] [])) _
      exact j110 (hv.trans (if_pos hc))
    · refine XS.icmpNo X0.here hx rfl (hb hby d2_98) rfl (XT.ii_lt_f hc) ?_
      show Steps p.tables e below (s₁.setTop (mkF m 101 #[.val (.int p1)] [])) _
      exact j101 (hv.trans (if_neg hc))
  have j92 : own_ref_0 p1 = own_ref_92 p1 → Steps p.tables e below (s₁.setTop (mkF m 92 #[.val (.int p1)] [])) (s₁.setFrames fs) := by
    intro hv
    rw [show own_ref_0 p1 = (0 : Int32) from hv] at hr
    show Steps p.tables e below (s₁.setTop (mkF m 92 #[.val (.int p1)] [])) _
    refine XS.iconst X0.here hx rfl (hb hby d2_92) ?_
    show Steps p.tables e below (s₁.setTop (mkF m 93 #[.val (.int p1)] [(.int (0 : Int32))])) _
    exact retN X0 hx (t := .boolean) Bd.returns (by simp) (hb hby d2_93) hr
  have j85 : own_ref_0 p1 = own_ref_85 p1 → Steps p.tables e below (s₁.setTop (mkF m 85 #[.val (.int p1)] [])) (s₁.setFrames fs) := by
    intro hv
    show Steps p.tables e below (s₁.setTop (mkF m 85 #[.val (.int p1)] [])) _
    refine XS.iloadN X0.here hx rfl (hb hby d2_85) rfl ?_
    show Steps p.tables e below (s₁.setTop (mkF m 86 #[.val (.int p1)] [(.int p1)])) _
    refine XS.sipush X0.here hx rfl (hb hby d2_86) ?_
    show Steps p.tables e below (s₁.setTop (mkF m 89 #[.val (.int p1)] [(.int (894 : Int32)), (.int p1)])) _
    by_cases hc : p1 = (894 : Int32)
    · refine XS.icmpNo X0.here hx rfl (hb hby d2_89) rfl (XT.ii_ne_f hc) ?_
      show Steps p.tables e below (s₁.setTop (mkF m 92 #[.val (.int p1)] [])) _
      exact j92 (hv.trans (if_pos hc))
    · refine XS.icmpYes X0.here hx rfl (pc0 := 89) (pc' := 94) rfl (hb hby d2_89) rfl (XT.ii_ne_t hc) (by decide) (by decide) ?_
      show Steps p.tables e below (s₁.setTop (mkF m 94 #[.val (.int p1)] [])) _
      exact j94 (hv.trans (if_neg hc))
  have j83 : own_ref_0 p1 = own_ref_83 p1 → Steps p.tables e below (s₁.setTop (mkF m 83 #[.val (.int p1)] [])) (s₁.setFrames fs) := by
    intro hv
    rw [show own_ref_0 p1 = (0 : Int32) from hv] at hr
    show Steps p.tables e below (s₁.setTop (mkF m 83 #[.val (.int p1)] [])) _
    refine XS.iconst X0.here hx rfl (hb hby d2_83) ?_
    show Steps p.tables e below (s₁.setTop (mkF m 84 #[.val (.int p1)] [(.int (0 : Int32))])) _
    exact retN X0 hx (t := .boolean) Bd.returns (by simp) (hb hby d2_84) hr
  have j76 : own_ref_0 p1 = own_ref_76 p1 → Steps p.tables e below (s₁.setTop (mkF m 76 #[.val (.int p1)] [])) (s₁.setFrames fs) := by
    intro hv
    show Steps p.tables e below (s₁.setTop (mkF m 76 #[.val (.int p1)] [])) _
    refine XS.iloadN X0.here hx rfl (hb hby d2_76) rfl ?_
    show Steps p.tables e below (s₁.setTop (mkF m 77 #[.val (.int p1)] [(.int p1)])) _
    refine XS.sipush X0.here hx rfl (hb hby d2_77) ?_
    show Steps p.tables e below (s₁.setTop (mkF m 80 #[.val (.int p1)] [(.int (879 : Int32)), (.int p1)])) _
    by_cases hc : (879 : Int32) < p1
    · refine XS.icmpYes X0.here hx rfl (pc0 := 80) (pc' := 85) rfl (hb hby d2_80) rfl (XT.ii_gt_t hc) (by decide) (by decide) ?_
      show Steps p.tables e below (s₁.setTop (mkF m 85 #[.val (.int p1)] [])) _
      exact j85 (hv.trans (if_pos hc))
    · refine XS.icmpNo X0.here hx rfl (hb hby d2_80) rfl (XT.ii_gt_f hc) ?_
      show Steps p.tables e below (s₁.setTop (mkF m 83 #[.val (.int p1)] [])) _
      exact j83 (hv.trans (if_neg hc))
  have j69 : own_ref_0 p1 = own_ref_69 p1 → Steps p.tables e below (s₁.setTop (mkF m 69 #[.val (.int p1)] [])) (s₁.setFrames fs) := by
    intro hv
    show Steps p.tables e below (s₁.setTop (mkF m 69 #[.val (.int p1)] [])) _
    refine XS.iloadN X0.here hx rfl (hb hby d2_69) rfl ?_
    show Steps p.tables e below (s₁.setTop (mkF m 70 #[.val (.int p1)] [(.int p1)])) _
    refine XS.sipush X0.here hx rfl (hb hby d2_70) ?_
    show Steps p.tables e below (s₁.setTop (mkF m 73 #[.val (.int p1)] [(.int (768 : Int32)), (.int p1)])) _
    by_cases hc : p1 < (768 : Int32)
    · refine XS.icmpYes X0.here hx rfl (pc0 := 73) (pc' := 85) rfl (hb hby d2_73) rfl (XT.ii_lt_t hc) (by decide) (by decide) ?_
      show Steps p.tables e below (s₁.setTop (mkF m 85 #[.val (.int p1)] [])) _
      exact j85 (hv.trans (if_pos hc))
    · refine XS.icmpNo X0.here hx rfl (hb hby d2_73) rfl (XT.ii_lt_f hc) ?_
      show Steps p.tables e below (s₁.setTop (mkF m 76 #[.val (.int p1)] [])) _
      exact j76 (hv.trans (if_neg hc))
  have j67 : own_ref_0 p1 = own_ref_67 p1 → Steps p.tables e below (s₁.setTop (mkF m 67 #[.val (.int p1)] [])) (s₁.setFrames fs) := by
    intro hv
    rw [show own_ref_0 p1 = (0 : Int32) from hv] at hr
    show Steps p.tables e below (s₁.setTop (mkF m 67 #[.val (.int p1)] [])) _
    refine XS.iconst X0.here hx rfl (hb hby d2_67) ?_
    show Steps p.tables e below (s₁.setTop (mkF m 68 #[.val (.int p1)] [(.int (0 : Int32))])) _
    exact retN X0 hx (t := .boolean) Bd.returns (by simp) (hb hby d2_68) hr
  have j60 : own_ref_0 p1 = own_ref_60 p1 → Steps p.tables e below (s₁.setTop (mkF m 60 #[.val (.int p1)] [])) (s₁.setFrames fs) := by
    intro hv
    show Steps p.tables e below (s₁.setTop (mkF m 60 #[.val (.int p1)] [])) _
    refine XS.iloadN X0.here hx rfl (hb hby d2_60) rfl ?_
    show Steps p.tables e below (s₁.setTop (mkF m 61 #[.val (.int p1)] [(.int p1)])) _
    refine XS.sipush X0.here hx rfl (hb hby d2_61) ?_
    show Steps p.tables e below (s₁.setTop (mkF m 64 #[.val (.int p1)] [(.int (247 : Int32)), (.int p1)])) _
    by_cases hc : p1 = (247 : Int32)
    · refine XS.icmpNo X0.here hx rfl (hb hby d2_64) rfl (XT.ii_ne_f hc) ?_
      show Steps p.tables e below (s₁.setTop (mkF m 67 #[.val (.int p1)] [])) _
      exact j67 (hv.trans (if_pos hc))
    · refine XS.icmpYes X0.here hx rfl (pc0 := 64) (pc' := 69) rfl (hb hby d2_64) rfl (XT.ii_ne_t hc) (by decide) (by decide) ?_
      show Steps p.tables e below (s₁.setTop (mkF m 69 #[.val (.int p1)] [])) _
      exact j69 (hv.trans (if_neg hc))
  have j58 : own_ref_0 p1 = own_ref_58 p1 → Steps p.tables e below (s₁.setTop (mkF m 58 #[.val (.int p1)] [])) (s₁.setFrames fs) := by
    intro hv
    rw [show own_ref_0 p1 = (0 : Int32) from hv] at hr
    show Steps p.tables e below (s₁.setTop (mkF m 58 #[.val (.int p1)] [])) _
    refine XS.iconst X0.here hx rfl (hb hby d2_58) ?_
    show Steps p.tables e below (s₁.setTop (mkF m 59 #[.val (.int p1)] [(.int (0 : Int32))])) _
    exact retN X0 hx (t := .boolean) Bd.returns (by simp) (hb hby d2_59) hr
  have j51 : own_ref_0 p1 = own_ref_51 p1 → Steps p.tables e below (s₁.setTop (mkF m 51 #[.val (.int p1)] [])) (s₁.setFrames fs) := by
    intro hv
    show Steps p.tables e below (s₁.setTop (mkF m 51 #[.val (.int p1)] [])) _
    refine XS.iloadN X0.here hx rfl (hb hby d2_51) rfl ?_
    show Steps p.tables e below (s₁.setTop (mkF m 52 #[.val (.int p1)] [(.int p1)])) _
    refine XS.sipush X0.here hx rfl (hb hby d2_52) ?_
    show Steps p.tables e below (s₁.setTop (mkF m 55 #[.val (.int p1)] [(.int (215 : Int32)), (.int p1)])) _
    by_cases hc : p1 = (215 : Int32)
    · refine XS.icmpNo X0.here hx rfl (hb hby d2_55) rfl (XT.ii_ne_f hc) ?_
      show Steps p.tables e below (s₁.setTop (mkF m 58 #[.val (.int p1)] [])) _
      exact j58 (hv.trans (if_pos hc))
    · refine XS.icmpYes X0.here hx rfl (pc0 := 55) (pc' := 60) rfl (hb hby d2_55) rfl (XT.ii_ne_t hc) (by decide) (by decide) ?_
      show Steps p.tables e below (s₁.setTop (mkF m 60 #[.val (.int p1)] [])) _
      exact j60 (hv.trans (if_neg hc))
  have j49 : own_ref_0 p1 = own_ref_49 p1 → Steps p.tables e below (s₁.setTop (mkF m 49 #[.val (.int p1)] [])) (s₁.setFrames fs) := by
    intro hv
    rw [show own_ref_0 p1 = (0 : Int32) from hv] at hr
    show Steps p.tables e below (s₁.setTop (mkF m 49 #[.val (.int p1)] [])) _
    refine XS.iconst X0.here hx rfl (hb hby d2_49) ?_
    show Steps p.tables e below (s₁.setTop (mkF m 50 #[.val (.int p1)] [(.int (0 : Int32))])) _
    exact retN X0 hx (t := .boolean) Bd.returns (by simp) (hb hby d2_50) hr
  have j42 : own_ref_0 p1 = own_ref_42 p1 → Steps p.tables e below (s₁.setTop (mkF m 42 #[.val (.int p1)] [])) (s₁.setFrames fs) := by
    intro hv
    show Steps p.tables e below (s₁.setTop (mkF m 42 #[.val (.int p1)] [])) _
    refine XS.iloadN X0.here hx rfl (hb hby d2_42) rfl ?_
    show Steps p.tables e below (s₁.setTop (mkF m 43 #[.val (.int p1)] [(.int p1)])) _
    refine XS.sipush X0.here hx rfl (hb hby d2_43) ?_
    show Steps p.tables e below (s₁.setTop (mkF m 46 #[.val (.int p1)] [(.int (191 : Int32)), (.int p1)])) _
    by_cases hc : (191 : Int32) < p1
    · refine XS.icmpYes X0.here hx rfl (pc0 := 46) (pc' := 51) rfl (hb hby d2_46) rfl (XT.ii_gt_t hc) (by decide) (by decide) ?_
      show Steps p.tables e below (s₁.setTop (mkF m 51 #[.val (.int p1)] [])) _
      exact j51 (hv.trans (if_pos hc))
    · refine XS.icmpNo X0.here hx rfl (hb hby d2_46) rfl (XT.ii_gt_f hc) ?_
      show Steps p.tables e below (s₁.setTop (mkF m 49 #[.val (.int p1)] [])) _
      exact j49 (hv.trans (if_neg hc))
  have j36 : own_ref_0 p1 = own_ref_36 p1 → Steps p.tables e below (s₁.setTop (mkF m 36 #[.val (.int p1)] [])) (s₁.setFrames fs) := by
    intro hv
    show Steps p.tables e below (s₁.setTop (mkF m 36 #[.val (.int p1)] [])) _
    refine XS.iloadN X0.here hx rfl (hb hby d2_36) rfl ?_
    show Steps p.tables e below (s₁.setTop (mkF m 37 #[.val (.int p1)] [(.int p1)])) _
    refine XS.bipush X0.here hx rfl (hb hby d2_37) ?_
    show Steps p.tables e below (s₁.setTop (mkF m 39 #[.val (.int p1)] [(.int (123 : Int32)), (.int p1)])) _
    by_cases hc : p1 < (123 : Int32)
    · refine XS.icmpYes X0.here hx rfl (pc0 := 39) (pc' := 51) rfl (hb hby d2_39) rfl (XT.ii_lt_t hc) (by decide) (by decide) ?_
      show Steps p.tables e below (s₁.setTop (mkF m 51 #[.val (.int p1)] [])) _
      exact j51 (hv.trans (if_pos hc))
    · refine XS.icmpNo X0.here hx rfl (hb hby d2_39) rfl (XT.ii_lt_f hc) ?_
      show Steps p.tables e below (s₁.setTop (mkF m 42 #[.val (.int p1)] [])) _
      exact j42 (hv.trans (if_neg hc))
  have j34 : own_ref_0 p1 = own_ref_34 p1 → Steps p.tables e below (s₁.setTop (mkF m 34 #[.val (.int p1)] [])) (s₁.setFrames fs) := by
    intro hv
    rw [show own_ref_0 p1 = (0 : Int32) from hv] at hr
    show Steps p.tables e below (s₁.setTop (mkF m 34 #[.val (.int p1)] [])) _
    refine XS.iconst X0.here hx rfl (hb hby d2_34) ?_
    show Steps p.tables e below (s₁.setTop (mkF m 35 #[.val (.int p1)] [(.int (0 : Int32))])) _
    exact retN X0 hx (t := .boolean) Bd.returns (by simp) (hb hby d2_35) hr
  have j28 : own_ref_0 p1 = own_ref_28 p1 → Steps p.tables e below (s₁.setTop (mkF m 28 #[.val (.int p1)] [])) (s₁.setFrames fs) := by
    intro hv
    show Steps p.tables e below (s₁.setTop (mkF m 28 #[.val (.int p1)] [])) _
    refine XS.iloadN X0.here hx rfl (hb hby d2_28) rfl ?_
    show Steps p.tables e below (s₁.setTop (mkF m 29 #[.val (.int p1)] [(.int p1)])) _
    refine XS.bipush X0.here hx rfl (hb hby d2_29) ?_
    show Steps p.tables e below (s₁.setTop (mkF m 31 #[.val (.int p1)] [(.int (96 : Int32)), (.int p1)])) _
    by_cases hc : p1 = (96 : Int32)
    · refine XS.icmpNo X0.here hx rfl (hb hby d2_31) rfl (XT.ii_ne_f hc) ?_
      show Steps p.tables e below (s₁.setTop (mkF m 34 #[.val (.int p1)] [])) _
      exact j34 (hv.trans (if_pos hc))
    · refine XS.icmpYes X0.here hx rfl (pc0 := 31) (pc' := 36) rfl (hb hby d2_31) rfl (XT.ii_ne_t hc) (by decide) (by decide) ?_
      show Steps p.tables e below (s₁.setTop (mkF m 36 #[.val (.int p1)] [])) _
      exact j36 (hv.trans (if_neg hc))
  have j26 : own_ref_0 p1 = own_ref_26 p1 → Steps p.tables e below (s₁.setTop (mkF m 26 #[.val (.int p1)] [])) (s₁.setFrames fs) := by
    intro hv
    rw [show own_ref_0 p1 = (0 : Int32) from hv] at hr
    show Steps p.tables e below (s₁.setTop (mkF m 26 #[.val (.int p1)] [])) _
    refine XS.iconst X0.here hx rfl (hb hby d2_26) ?_
    show Steps p.tables e below (s₁.setTop (mkF m 27 #[.val (.int p1)] [(.int (0 : Int32))])) _
    exact retN X0 hx (t := .boolean) Bd.returns (by simp) (hb hby d2_27) hr
  have j20 : own_ref_0 p1 = own_ref_20 p1 → Steps p.tables e below (s₁.setTop (mkF m 20 #[.val (.int p1)] [])) (s₁.setFrames fs) := by
    intro hv
    show Steps p.tables e below (s₁.setTop (mkF m 20 #[.val (.int p1)] [])) _
    refine XS.iloadN X0.here hx rfl (hb hby d2_20) rfl ?_
    show Steps p.tables e below (s₁.setTop (mkF m 21 #[.val (.int p1)] [(.int p1)])) _
    refine XS.bipush X0.here hx rfl (hb hby d2_21) ?_
    show Steps p.tables e below (s₁.setTop (mkF m 23 #[.val (.int p1)] [(.int (94 : Int32)), (.int p1)])) _
    by_cases hc : (94 : Int32) < p1
    · refine XS.icmpYes X0.here hx rfl (pc0 := 23) (pc' := 28) rfl (hb hby d2_23) rfl (XT.ii_gt_t hc) (by decide) (by decide) ?_
      show Steps p.tables e below (s₁.setTop (mkF m 28 #[.val (.int p1)] [])) _
      exact j28 (hv.trans (if_pos hc))
    · refine XS.icmpNo X0.here hx rfl (hb hby d2_23) rfl (XT.ii_gt_f hc) ?_
      show Steps p.tables e below (s₁.setTop (mkF m 26 #[.val (.int p1)] [])) _
      exact j26 (hv.trans (if_neg hc))
  have j14 : own_ref_0 p1 = own_ref_14 p1 → Steps p.tables e below (s₁.setTop (mkF m 14 #[.val (.int p1)] [])) (s₁.setFrames fs) := by
    intro hv
    show Steps p.tables e below (s₁.setTop (mkF m 14 #[.val (.int p1)] [])) _
    refine XS.iloadN X0.here hx rfl (hb hby d2_14) rfl ?_
    show Steps p.tables e below (s₁.setTop (mkF m 15 #[.val (.int p1)] [(.int p1)])) _
    refine XS.bipush X0.here hx rfl (hb hby d2_15) ?_
    show Steps p.tables e below (s₁.setTop (mkF m 17 #[.val (.int p1)] [(.int (91 : Int32)), (.int p1)])) _
    by_cases hc : p1 < (91 : Int32)
    · refine XS.icmpYes X0.here hx rfl (pc0 := 17) (pc' := 28) rfl (hb hby d2_17) rfl (XT.ii_lt_t hc) (by decide) (by decide) ?_
      show Steps p.tables e below (s₁.setTop (mkF m 28 #[.val (.int p1)] [])) _
      exact j28 (hv.trans (if_pos hc))
    · refine XS.icmpNo X0.here hx rfl (hb hby d2_17) rfl (XT.ii_lt_f hc) ?_
      show Steps p.tables e below (s₁.setTop (mkF m 20 #[.val (.int p1)] [])) _
      exact j20 (hv.trans (if_neg hc))
  have j12 : own_ref_0 p1 = own_ref_12 p1 → Steps p.tables e below (s₁.setTop (mkF m 12 #[.val (.int p1)] [])) (s₁.setFrames fs) := by
    intro hv
    rw [show own_ref_0 p1 = (0 : Int32) from hv] at hr
    show Steps p.tables e below (s₁.setTop (mkF m 12 #[.val (.int p1)] [])) _
    refine XS.iconst X0.here hx rfl (hb hby d2_12) ?_
    show Steps p.tables e below (s₁.setTop (mkF m 13 #[.val (.int p1)] [(.int (0 : Int32))])) _
    exact retN X0 hx (t := .boolean) Bd.returns (by simp) (hb hby d2_13) hr
  have j6 : own_ref_0 p1 = own_ref_6 p1 → Steps p.tables e below (s₁.setTop (mkF m 6 #[.val (.int p1)] [])) (s₁.setFrames fs) := by
    intro hv
    show Steps p.tables e below (s₁.setTop (mkF m 6 #[.val (.int p1)] [])) _
    refine XS.iloadN X0.here hx rfl (hb hby d2_6) rfl ?_
    show Steps p.tables e below (s₁.setTop (mkF m 7 #[.val (.int p1)] [(.int p1)])) _
    refine X0.ldcI hx hown (mvT hZ (hw _ (List.mem_of_getElem? (i := 7) rfl))) (g := (mkF m 7 #[.val (.int p1)] [(.int p1)])) rfl (hb hby d2_7) ?_
    show Steps p.tables e below (s₁.setTop (mkF m 9 #[.val (.int p1)] [(.int (983039 : Int32)), (.int p1)])) _
    by_cases hc : (983039 : Int32) < p1
    · refine XS.icmpNo X0.here hx rfl (hb hby d2_9) rfl (XT.ii_le_f hc) ?_
      show Steps p.tables e below (s₁.setTop (mkF m 12 #[.val (.int p1)] [])) _
      exact j12 (hv.trans (if_pos hc))
    · refine XS.icmpYes X0.here hx rfl (pc0 := 9) (pc' := 14) rfl (hb hby d2_9) rfl (XT.ii_le_t hc) (by decide) (by decide) ?_
      show Steps p.tables e below (s₁.setTop (mkF m 14 #[.val (.int p1)] [])) _
      exact j14 (hv.trans (if_neg hc))
  have j0 : own_ref_0 p1 = own_ref_0 p1 → Steps p.tables e below (s₁.setTop (mkF m 0 #[.val (.int p1)] [])) (s₁.setFrames fs) := by
    intro hv
    show Steps p.tables e below (s₁.setTop (mkF m 0 #[.val (.int p1)] [])) _
    refine XS.iloadN X0.here hx rfl (hb hby d2_0) rfl ?_
    show Steps p.tables e below (s₁.setTop (mkF m 1 #[.val (.int p1)] [(.int p1)])) _
    refine XS.bipush X0.here hx rfl (hb hby d2_1) ?_
    show Steps p.tables e below (s₁.setTop (mkF m 3 #[.val (.int p1)] [(.int (65 : Int32)), (.int p1)])) _
    by_cases hc : p1 < (65 : Int32)
    · refine XS.icmpYes X0.here hx rfl (pc0 := 3) (pc' := 12) rfl (hb hby d2_3) rfl (XT.ii_lt_t hc) (by decide) (by decide) ?_
      show Steps p.tables e below (s₁.setTop (mkF m 12 #[.val (.int p1)] [])) _
      exact j12 (hv.trans (if_pos hc))
    · refine XS.icmpNo X0.here hx rfl (hb hby d2_3) rfl (XT.ii_lt_f hc) ?_
      show Steps p.tables e below (s₁.setTop (mkF m 6 #[.val (.int p1)] [])) _
      exact j6 (hv.trans (if_neg hc))
  refine ⟨_, _, pre0 _ (j0 rfl), hrun, hended, _, _, rfl, ?_, ⟨_, rfl⟩, hW, hsame.mono (by decide) (by decide)⟩
  show Q2 Z p1 h0 n0 _ s₁.heap _
  rw [e0]
  exact ⟨rfl, N0, rfl⟩
theorem own_l65 : (65 : Int32).toInt = 65 := by decide
theorem own_l90 : (90 : Int32).toInt = 90 := by decide
theorem own_l91 : (91 : Int32).toInt = 91 := by decide
theorem own_l94 : (94 : Int32).toInt = 94 := by decide
theorem own_l95 : (95 : Int32).toInt = 95 := by decide
theorem own_l96 : (96 : Int32).toInt = 96 := by decide
theorem own_l97 : (97 : Int32).toInt = 97 := by decide
theorem own_l122 : (122 : Int32).toInt = 122 := by decide
theorem own_l123 : (123 : Int32).toInt = 123 := by decide
theorem own_l191 : (191 : Int32).toInt = 191 := by decide
theorem own_l192 : (192 : Int32).toInt = 192 := by decide
theorem own_l214 : (214 : Int32).toInt = 214 := by decide
theorem own_l215 : (215 : Int32).toInt = 215 := by decide
theorem own_l216 : (216 : Int32).toInt = 216 := by decide
theorem own_l246 : (246 : Int32).toInt = 246 := by decide
theorem own_l247 : (247 : Int32).toInt = 247 := by decide
theorem own_l248 : (248 : Int32).toInt = 248 := by decide
theorem own_l767 : (767 : Int32).toInt = 767 := by decide
theorem own_l768 : (768 : Int32).toInt = 768 := by decide
theorem own_l879 : (879 : Int32).toInt = 879 := by decide
theorem own_l880 : (880 : Int32).toInt = 880 := by decide
theorem own_l893 : (893 : Int32).toInt = 893 := by decide
theorem own_l894 : (894 : Int32).toInt = 894 := by decide
theorem own_l895 : (895 : Int32).toInt = 895 := by decide
theorem own_l8191 : (8191 : Int32).toInt = 8191 := by decide
theorem own_l8192 : (8192 : Int32).toInt = 8192 := by decide
theorem own_l8203 : (8203 : Int32).toInt = 8203 := by decide
theorem own_l8204 : (8204 : Int32).toInt = 8204 := by decide
theorem own_l8205 : (8205 : Int32).toInt = 8205 := by decide
theorem own_l8206 : (8206 : Int32).toInt = 8206 := by decide
theorem own_l8303 : (8303 : Int32).toInt = 8303 := by decide
theorem own_l8304 : (8304 : Int32).toInt = 8304 := by decide
theorem own_l8591 : (8591 : Int32).toInt = 8591 := by decide
theorem own_l8592 : (8592 : Int32).toInt = 8592 := by decide
theorem own_l11263 : (11263 : Int32).toInt = 11263 := by decide
theorem own_l11264 : (11264 : Int32).toInt = 11264 := by decide
theorem own_l12271 : (12271 : Int32).toInt = 12271 := by decide
theorem own_l12272 : (12272 : Int32).toInt = 12272 := by decide
theorem own_l12288 : (12288 : Int32).toInt = 12288 := by decide
theorem own_l12289 : (12289 : Int32).toInt = 12289 := by decide
theorem own_l55295 : (55295 : Int32).toInt = 55295 := by decide
theorem own_l55296 : (55296 : Int32).toInt = 55296 := by decide
theorem own_l63743 : (63743 : Int32).toInt = 63743 := by decide
theorem own_l63744 : (63744 : Int32).toInt = 63744 := by decide
theorem own_l64975 : (64975 : Int32).toInt = 64975 := by decide
theorem own_l64976 : (64976 : Int32).toInt = 64976 := by decide
theorem own_l65007 : (65007 : Int32).toInt = 65007 := by decide
theorem own_l65008 : (65008 : Int32).toInt = 65008 := by decide
theorem own_l65533 : (65533 : Int32).toInt = 65533 := by decide
theorem own_l65534 : (65534 : Int32).toInt = 65534 := by decide
theorem own_l65535 : (65535 : Int32).toInt = 65535 := by decide
theorem own_l65536 : (65536 : Int32).toInt = 65536 := by decide
theorem own_l983039 : (983039 : Int32).toInt = 983039 := by decide
theorem own_isc_0_t {x : Int32} (h : x.toInt < 65) : own_isc_0 x = own_isc_12 x := if_pos (Int32.lt_iff_toInt_lt.mpr (by rw [own_l65]; exact h))
theorem own_isc_0_f {x : Int32} (h : ¬ (x.toInt < 65)) : own_isc_0 x = own_isc_6 x := if_neg (fun q => h (by have q2 := Int32.lt_iff_toInt_lt.mp q; rw [own_l65] at q2; exact q2))
theorem own_isc_6_t {x : Int32} (h : 90 < x.toInt) : own_isc_6 x = own_isc_12 x := if_pos (Int32.lt_iff_toInt_lt.mpr (by rw [own_l90]; exact h))
theorem own_isc_6_f {x : Int32} (h : ¬ (90 < x.toInt)) : own_isc_6 x = own_isc_191 x := if_neg (fun q => h (by have q2 := Int32.lt_iff_toInt_lt.mp q; rw [own_l90] at q2; exact q2))
theorem own_isc_12_t {x : Int32} (h : x.toInt = 95) : own_isc_12 x = own_isc_191 x := if_pos (Int32.toInt_inj.mp (h.trans own_l95.symm))
theorem own_isc_12_f {x : Int32} (h : ¬ x.toInt = 95) : own_isc_12 x = own_isc_18 x := if_neg (fun q => h ((congrArg Int32.toInt q).trans own_l95))
theorem own_isc_18_t {x : Int32} (h : x.toInt < 97) : own_isc_18 x = own_isc_30 x := if_pos (Int32.lt_iff_toInt_lt.mpr (by rw [own_l97]; exact h))
theorem own_isc_18_f {x : Int32} (h : ¬ (x.toInt < 97)) : own_isc_18 x = own_isc_24 x := if_neg (fun q => h (by have q2 := Int32.lt_iff_toInt_lt.mp q; rw [own_l97] at q2; exact q2))
theorem own_isc_24_t {x : Int32} (h : 122 < x.toInt) : own_isc_24 x = own_isc_30 x := if_pos (Int32.lt_iff_toInt_lt.mpr (by rw [own_l122]; exact h))
theorem own_isc_24_f {x : Int32} (h : ¬ (122 < x.toInt)) : own_isc_24 x = own_isc_191 x := if_neg (fun q => h (by have q2 := Int32.lt_iff_toInt_lt.mp q; rw [own_l122] at q2; exact q2))
theorem own_isc_30_t {x : Int32} (h : x.toInt < 192) : own_isc_30 x = own_isc_44 x := if_pos (Int32.lt_iff_toInt_lt.mpr (by rw [own_l192]; exact h))
theorem own_isc_30_f {x : Int32} (h : ¬ (x.toInt < 192)) : own_isc_30 x = own_isc_37 x := if_neg (fun q => h (by have q2 := Int32.lt_iff_toInt_lt.mp q; rw [own_l192] at q2; exact q2))
theorem own_isc_37_t {x : Int32} (h : 214 < x.toInt) : own_isc_37 x = own_isc_44 x := if_pos (Int32.lt_iff_toInt_lt.mpr (by rw [own_l214]; exact h))
theorem own_isc_37_f {x : Int32} (h : ¬ (214 < x.toInt)) : own_isc_37 x = own_isc_191 x := if_neg (fun q => h (by have q2 := Int32.lt_iff_toInt_lt.mp q; rw [own_l214] at q2; exact q2))
theorem own_isc_44_t {x : Int32} (h : x.toInt < 216) : own_isc_44 x = own_isc_58 x := if_pos (Int32.lt_iff_toInt_lt.mpr (by rw [own_l216]; exact h))
theorem own_isc_44_f {x : Int32} (h : ¬ (x.toInt < 216)) : own_isc_44 x = own_isc_51 x := if_neg (fun q => h (by have q2 := Int32.lt_iff_toInt_lt.mp q; rw [own_l216] at q2; exact q2))
theorem own_isc_51_t {x : Int32} (h : 246 < x.toInt) : own_isc_51 x = own_isc_58 x := if_pos (Int32.lt_iff_toInt_lt.mpr (by rw [own_l246]; exact h))
theorem own_isc_51_f {x : Int32} (h : ¬ (246 < x.toInt)) : own_isc_51 x = own_isc_191 x := if_neg (fun q => h (by have q2 := Int32.lt_iff_toInt_lt.mp q; rw [own_l246] at q2; exact q2))
theorem own_isc_58_t {x : Int32} (h : x.toInt < 248) : own_isc_58 x = own_isc_72 x := if_pos (Int32.lt_iff_toInt_lt.mpr (by rw [own_l248]; exact h))
theorem own_isc_58_f {x : Int32} (h : ¬ (x.toInt < 248)) : own_isc_58 x = own_isc_65 x := if_neg (fun q => h (by have q2 := Int32.lt_iff_toInt_lt.mp q; rw [own_l248] at q2; exact q2))
theorem own_isc_65_t {x : Int32} (h : 767 < x.toInt) : own_isc_65 x = own_isc_72 x := if_pos (Int32.lt_iff_toInt_lt.mpr (by rw [own_l767]; exact h))
theorem own_isc_65_f {x : Int32} (h : ¬ (767 < x.toInt)) : own_isc_65 x = own_isc_191 x := if_neg (fun q => h (by have q2 := Int32.lt_iff_toInt_lt.mp q; rw [own_l767] at q2; exact q2))
theorem own_isc_72_t {x : Int32} (h : x.toInt < 880) : own_isc_72 x = own_isc_86 x := if_pos (Int32.lt_iff_toInt_lt.mpr (by rw [own_l880]; exact h))
theorem own_isc_72_f {x : Int32} (h : ¬ (x.toInt < 880)) : own_isc_72 x = own_isc_79 x := if_neg (fun q => h (by have q2 := Int32.lt_iff_toInt_lt.mp q; rw [own_l880] at q2; exact q2))
theorem own_isc_79_t {x : Int32} (h : 893 < x.toInt) : own_isc_79 x = own_isc_86 x := if_pos (Int32.lt_iff_toInt_lt.mpr (by rw [own_l893]; exact h))
theorem own_isc_79_f {x : Int32} (h : ¬ (893 < x.toInt)) : own_isc_79 x = own_isc_191 x := if_neg (fun q => h (by have q2 := Int32.lt_iff_toInt_lt.mp q; rw [own_l893] at q2; exact q2))
theorem own_isc_86_t {x : Int32} (h : x.toInt < 895) : own_isc_86 x = own_isc_100 x := if_pos (Int32.lt_iff_toInt_lt.mpr (by rw [own_l895]; exact h))
theorem own_isc_86_f {x : Int32} (h : ¬ (x.toInt < 895)) : own_isc_86 x = own_isc_93 x := if_neg (fun q => h (by have q2 := Int32.lt_iff_toInt_lt.mp q; rw [own_l895] at q2; exact q2))
theorem own_isc_93_t {x : Int32} (h : 8191 < x.toInt) : own_isc_93 x = own_isc_100 x := if_pos (Int32.lt_iff_toInt_lt.mpr (by rw [own_l8191]; exact h))
theorem own_isc_93_f {x : Int32} (h : ¬ (8191 < x.toInt)) : own_isc_93 x = own_isc_191 x := if_neg (fun q => h (by have q2 := Int32.lt_iff_toInt_lt.mp q; rw [own_l8191] at q2; exact q2))
theorem own_isc_100_t {x : Int32} (h : x.toInt < 8204) : own_isc_100 x = own_isc_114 x := if_pos (Int32.lt_iff_toInt_lt.mpr (by rw [own_l8204]; exact h))
theorem own_isc_100_f {x : Int32} (h : ¬ (x.toInt < 8204)) : own_isc_100 x = own_isc_107 x := if_neg (fun q => h (by have q2 := Int32.lt_iff_toInt_lt.mp q; rw [own_l8204] at q2; exact q2))
theorem own_isc_107_t {x : Int32} (h : 8205 < x.toInt) : own_isc_107 x = own_isc_114 x := if_pos (Int32.lt_iff_toInt_lt.mpr (by rw [own_l8205]; exact h))
theorem own_isc_107_f {x : Int32} (h : ¬ (8205 < x.toInt)) : own_isc_107 x = own_isc_191 x := if_neg (fun q => h (by have q2 := Int32.lt_iff_toInt_lt.mp q; rw [own_l8205] at q2; exact q2))
theorem own_isc_114_t {x : Int32} (h : x.toInt < 8304) : own_isc_114 x = own_isc_128 x := if_pos (Int32.lt_iff_toInt_lt.mpr (by rw [own_l8304]; exact h))
theorem own_isc_114_f {x : Int32} (h : ¬ (x.toInt < 8304)) : own_isc_114 x = own_isc_121 x := if_neg (fun q => h (by have q2 := Int32.lt_iff_toInt_lt.mp q; rw [own_l8304] at q2; exact q2))
theorem own_isc_121_t {x : Int32} (h : 8591 < x.toInt) : own_isc_121 x = own_isc_128 x := if_pos (Int32.lt_iff_toInt_lt.mpr (by rw [own_l8591]; exact h))
theorem own_isc_121_f {x : Int32} (h : ¬ (8591 < x.toInt)) : own_isc_121 x = own_isc_191 x := if_neg (fun q => h (by have q2 := Int32.lt_iff_toInt_lt.mp q; rw [own_l8591] at q2; exact q2))
theorem own_isc_128_t {x : Int32} (h : x.toInt < 11264) : own_isc_128 x = own_isc_142 x := if_pos (Int32.lt_iff_toInt_lt.mpr (by rw [own_l11264]; exact h))
theorem own_isc_128_f {x : Int32} (h : ¬ (x.toInt < 11264)) : own_isc_128 x = own_isc_135 x := if_neg (fun q => h (by have q2 := Int32.lt_iff_toInt_lt.mp q; rw [own_l11264] at q2; exact q2))
theorem own_isc_135_t {x : Int32} (h : 12271 < x.toInt) : own_isc_135 x = own_isc_142 x := if_pos (Int32.lt_iff_toInt_lt.mpr (by rw [own_l12271]; exact h))
theorem own_isc_135_f {x : Int32} (h : ¬ (12271 < x.toInt)) : own_isc_135 x = own_isc_191 x := if_neg (fun q => h (by have q2 := Int32.lt_iff_toInt_lt.mp q; rw [own_l12271] at q2; exact q2))
theorem own_isc_142_t {x : Int32} (h : x.toInt < 12289) : own_isc_142 x = own_isc_155 x := if_pos (Int32.lt_iff_toInt_lt.mpr (by rw [own_l12289]; exact h))
theorem own_isc_142_f {x : Int32} (h : ¬ (x.toInt < 12289)) : own_isc_142 x = own_isc_149 x := if_neg (fun q => h (by have q2 := Int32.lt_iff_toInt_lt.mp q; rw [own_l12289] at q2; exact q2))
theorem own_isc_149_t {x : Int32} (h : 55295 < x.toInt) : own_isc_149 x = own_isc_155 x := if_pos (Int32.lt_iff_toInt_lt.mpr (by rw [own_l55295]; exact h))
theorem own_isc_149_f {x : Int32} (h : ¬ (55295 < x.toInt)) : own_isc_149 x = own_isc_191 x := if_neg (fun q => h (by have q2 := Int32.lt_iff_toInt_lt.mp q; rw [own_l55295] at q2; exact q2))
theorem own_isc_155_t {x : Int32} (h : x.toInt < 63744) : own_isc_155 x = own_isc_167 x := if_pos (Int32.lt_iff_toInt_lt.mpr (by rw [own_l63744]; exact h))
theorem own_isc_155_f {x : Int32} (h : ¬ (x.toInt < 63744)) : own_isc_155 x = own_isc_161 x := if_neg (fun q => h (by have q2 := Int32.lt_iff_toInt_lt.mp q; rw [own_l63744] at q2; exact q2))
theorem own_isc_161_t {x : Int32} (h : 64975 < x.toInt) : own_isc_161 x = own_isc_167 x := if_pos (Int32.lt_iff_toInt_lt.mpr (by rw [own_l64975]; exact h))
theorem own_isc_161_f {x : Int32} (h : ¬ (64975 < x.toInt)) : own_isc_161 x = own_isc_191 x := if_neg (fun q => h (by have q2 := Int32.lt_iff_toInt_lt.mp q; rw [own_l64975] at q2; exact q2))
theorem own_isc_167_t {x : Int32} (h : x.toInt < 65008) : own_isc_167 x = own_isc_179 x := if_pos (Int32.lt_iff_toInt_lt.mpr (by rw [own_l65008]; exact h))
theorem own_isc_167_f {x : Int32} (h : ¬ (x.toInt < 65008)) : own_isc_167 x = own_isc_173 x := if_neg (fun q => h (by have q2 := Int32.lt_iff_toInt_lt.mp q; rw [own_l65008] at q2; exact q2))
theorem own_isc_173_t {x : Int32} (h : 65533 < x.toInt) : own_isc_173 x = own_isc_179 x := if_pos (Int32.lt_iff_toInt_lt.mpr (by rw [own_l65533]; exact h))
theorem own_isc_173_f {x : Int32} (h : ¬ (65533 < x.toInt)) : own_isc_173 x = own_isc_191 x := if_neg (fun q => h (by have q2 := Int32.lt_iff_toInt_lt.mp q; rw [own_l65533] at q2; exact q2))
theorem own_isc_179_t {x : Int32} (h : x.toInt < 65536) : own_isc_179 x = own_isc_195 x := if_pos (Int32.lt_iff_toInt_lt.mpr (by rw [own_l65536]; exact h))
theorem own_isc_179_f {x : Int32} (h : ¬ (x.toInt < 65536)) : own_isc_179 x = own_isc_185 x := if_neg (fun q => h (by have q2 := Int32.lt_iff_toInt_lt.mp q; rw [own_l65536] at q2; exact q2))
theorem own_isc_185_t {x : Int32} (h : 983039 < x.toInt) : own_isc_185 x = own_isc_195 x := if_pos (Int32.lt_iff_toInt_lt.mpr (by rw [own_l983039]; exact h))
theorem own_isc_185_f {x : Int32} (h : ¬ (983039 < x.toInt)) : own_isc_185 x = own_isc_191 x := if_neg (fun q => h (by have q2 := Int32.lt_iff_toInt_lt.mp q; rw [own_l983039] at q2; exact q2))
theorem own_ref_0_t {x : Int32} (h : x.toInt < 65) : own_ref_0 x = own_ref_12 x := if_pos (Int32.lt_iff_toInt_lt.mpr (by rw [own_l65]; exact h))
theorem own_ref_0_f {x : Int32} (h : ¬ (x.toInt < 65)) : own_ref_0 x = own_ref_6 x := if_neg (fun q => h (by have q2 := Int32.lt_iff_toInt_lt.mp q; rw [own_l65] at q2; exact q2))
theorem own_ref_6_t {x : Int32} (h : 983039 < x.toInt) : own_ref_6 x = own_ref_12 x := if_pos (Int32.lt_iff_toInt_lt.mpr (by rw [own_l983039]; exact h))
theorem own_ref_6_f {x : Int32} (h : ¬ (983039 < x.toInt)) : own_ref_6 x = own_ref_14 x := if_neg (fun q => h (by have q2 := Int32.lt_iff_toInt_lt.mp q; rw [own_l983039] at q2; exact q2))
theorem own_ref_14_t {x : Int32} (h : x.toInt < 91) : own_ref_14 x = own_ref_28 x := if_pos (Int32.lt_iff_toInt_lt.mpr (by rw [own_l91]; exact h))
theorem own_ref_14_f {x : Int32} (h : ¬ (x.toInt < 91)) : own_ref_14 x = own_ref_20 x := if_neg (fun q => h (by have q2 := Int32.lt_iff_toInt_lt.mp q; rw [own_l91] at q2; exact q2))
theorem own_ref_20_t {x : Int32} (h : 94 < x.toInt) : own_ref_20 x = own_ref_28 x := if_pos (Int32.lt_iff_toInt_lt.mpr (by rw [own_l94]; exact h))
theorem own_ref_20_f {x : Int32} (h : ¬ (94 < x.toInt)) : own_ref_20 x = own_ref_26 x := if_neg (fun q => h (by have q2 := Int32.lt_iff_toInt_lt.mp q; rw [own_l94] at q2; exact q2))
theorem own_ref_28_t {x : Int32} (h : x.toInt = 96) : own_ref_28 x = own_ref_34 x := if_pos (Int32.toInt_inj.mp (h.trans own_l96.symm))
theorem own_ref_28_f {x : Int32} (h : ¬ x.toInt = 96) : own_ref_28 x = own_ref_36 x := if_neg (fun q => h ((congrArg Int32.toInt q).trans own_l96))
theorem own_ref_36_t {x : Int32} (h : x.toInt < 123) : own_ref_36 x = own_ref_51 x := if_pos (Int32.lt_iff_toInt_lt.mpr (by rw [own_l123]; exact h))
theorem own_ref_36_f {x : Int32} (h : ¬ (x.toInt < 123)) : own_ref_36 x = own_ref_42 x := if_neg (fun q => h (by have q2 := Int32.lt_iff_toInt_lt.mp q; rw [own_l123] at q2; exact q2))
theorem own_ref_42_t {x : Int32} (h : 191 < x.toInt) : own_ref_42 x = own_ref_51 x := if_pos (Int32.lt_iff_toInt_lt.mpr (by rw [own_l191]; exact h))
theorem own_ref_42_f {x : Int32} (h : ¬ (191 < x.toInt)) : own_ref_42 x = own_ref_49 x := if_neg (fun q => h (by have q2 := Int32.lt_iff_toInt_lt.mp q; rw [own_l191] at q2; exact q2))
theorem own_ref_51_t {x : Int32} (h : x.toInt = 215) : own_ref_51 x = own_ref_58 x := if_pos (Int32.toInt_inj.mp (h.trans own_l215.symm))
theorem own_ref_51_f {x : Int32} (h : ¬ x.toInt = 215) : own_ref_51 x = own_ref_60 x := if_neg (fun q => h ((congrArg Int32.toInt q).trans own_l215))
theorem own_ref_60_t {x : Int32} (h : x.toInt = 247) : own_ref_60 x = own_ref_67 x := if_pos (Int32.toInt_inj.mp (h.trans own_l247.symm))
theorem own_ref_60_f {x : Int32} (h : ¬ x.toInt = 247) : own_ref_60 x = own_ref_69 x := if_neg (fun q => h ((congrArg Int32.toInt q).trans own_l247))
theorem own_ref_69_t {x : Int32} (h : x.toInt < 768) : own_ref_69 x = own_ref_85 x := if_pos (Int32.lt_iff_toInt_lt.mpr (by rw [own_l768]; exact h))
theorem own_ref_69_f {x : Int32} (h : ¬ (x.toInt < 768)) : own_ref_69 x = own_ref_76 x := if_neg (fun q => h (by have q2 := Int32.lt_iff_toInt_lt.mp q; rw [own_l768] at q2; exact q2))
theorem own_ref_76_t {x : Int32} (h : 879 < x.toInt) : own_ref_76 x = own_ref_85 x := if_pos (Int32.lt_iff_toInt_lt.mpr (by rw [own_l879]; exact h))
theorem own_ref_76_f {x : Int32} (h : ¬ (879 < x.toInt)) : own_ref_76 x = own_ref_83 x := if_neg (fun q => h (by have q2 := Int32.lt_iff_toInt_lt.mp q; rw [own_l879] at q2; exact q2))
theorem own_ref_85_t {x : Int32} (h : x.toInt = 894) : own_ref_85 x = own_ref_92 x := if_pos (Int32.toInt_inj.mp (h.trans own_l894.symm))
theorem own_ref_85_f {x : Int32} (h : ¬ x.toInt = 894) : own_ref_85 x = own_ref_94 x := if_neg (fun q => h ((congrArg Int32.toInt q).trans own_l894))
theorem own_ref_94_t {x : Int32} (h : x.toInt < 8192) : own_ref_94 x = own_ref_110 x := if_pos (Int32.lt_iff_toInt_lt.mpr (by rw [own_l8192]; exact h))
theorem own_ref_94_f {x : Int32} (h : ¬ (x.toInt < 8192)) : own_ref_94 x = own_ref_101 x := if_neg (fun q => h (by have q2 := Int32.lt_iff_toInt_lt.mp q; rw [own_l8192] at q2; exact q2))
theorem own_ref_101_t {x : Int32} (h : 8203 < x.toInt) : own_ref_101 x = own_ref_110 x := if_pos (Int32.lt_iff_toInt_lt.mpr (by rw [own_l8203]; exact h))
theorem own_ref_101_f {x : Int32} (h : ¬ (8203 < x.toInt)) : own_ref_101 x = own_ref_108 x := if_neg (fun q => h (by have q2 := Int32.lt_iff_toInt_lt.mp q; rw [own_l8203] at q2; exact q2))
theorem own_ref_110_t {x : Int32} (h : x.toInt < 8206) : own_ref_110 x = own_ref_126 x := if_pos (Int32.lt_iff_toInt_lt.mpr (by rw [own_l8206]; exact h))
theorem own_ref_110_f {x : Int32} (h : ¬ (x.toInt < 8206)) : own_ref_110 x = own_ref_117 x := if_neg (fun q => h (by have q2 := Int32.lt_iff_toInt_lt.mp q; rw [own_l8206] at q2; exact q2))
theorem own_ref_117_t {x : Int32} (h : 8303 < x.toInt) : own_ref_117 x = own_ref_126 x := if_pos (Int32.lt_iff_toInt_lt.mpr (by rw [own_l8303]; exact h))
theorem own_ref_117_f {x : Int32} (h : ¬ (8303 < x.toInt)) : own_ref_117 x = own_ref_124 x := if_neg (fun q => h (by have q2 := Int32.lt_iff_toInt_lt.mp q; rw [own_l8303] at q2; exact q2))
theorem own_ref_126_t {x : Int32} (h : x.toInt < 8592) : own_ref_126 x = own_ref_142 x := if_pos (Int32.lt_iff_toInt_lt.mpr (by rw [own_l8592]; exact h))
theorem own_ref_126_f {x : Int32} (h : ¬ (x.toInt < 8592)) : own_ref_126 x = own_ref_133 x := if_neg (fun q => h (by have q2 := Int32.lt_iff_toInt_lt.mp q; rw [own_l8592] at q2; exact q2))
theorem own_ref_133_t {x : Int32} (h : 11263 < x.toInt) : own_ref_133 x = own_ref_142 x := if_pos (Int32.lt_iff_toInt_lt.mpr (by rw [own_l11263]; exact h))
theorem own_ref_133_f {x : Int32} (h : ¬ (11263 < x.toInt)) : own_ref_133 x = own_ref_140 x := if_neg (fun q => h (by have q2 := Int32.lt_iff_toInt_lt.mp q; rw [own_l11263] at q2; exact q2))
theorem own_ref_142_t {x : Int32} (h : x.toInt < 12272) : own_ref_142 x = own_ref_158 x := if_pos (Int32.lt_iff_toInt_lt.mpr (by rw [own_l12272]; exact h))
theorem own_ref_142_f {x : Int32} (h : ¬ (x.toInt < 12272)) : own_ref_142 x = own_ref_149 x := if_neg (fun q => h (by have q2 := Int32.lt_iff_toInt_lt.mp q; rw [own_l12272] at q2; exact q2))
theorem own_ref_149_t {x : Int32} (h : 12288 < x.toInt) : own_ref_149 x = own_ref_158 x := if_pos (Int32.lt_iff_toInt_lt.mpr (by rw [own_l12288]; exact h))
theorem own_ref_149_f {x : Int32} (h : ¬ (12288 < x.toInt)) : own_ref_149 x = own_ref_156 x := if_neg (fun q => h (by have q2 := Int32.lt_iff_toInt_lt.mp q; rw [own_l12288] at q2; exact q2))
theorem own_ref_158_t {x : Int32} (h : x.toInt < 55296) : own_ref_158 x = own_ref_172 x := if_pos (Int32.lt_iff_toInt_lt.mpr (by rw [own_l55296]; exact h))
theorem own_ref_158_f {x : Int32} (h : ¬ (x.toInt < 55296)) : own_ref_158 x = own_ref_164 x := if_neg (fun q => h (by have q2 := Int32.lt_iff_toInt_lt.mp q; rw [own_l55296] at q2; exact q2))
theorem own_ref_164_t {x : Int32} (h : 63743 < x.toInt) : own_ref_164 x = own_ref_172 x := if_pos (Int32.lt_iff_toInt_lt.mpr (by rw [own_l63743]; exact h))
theorem own_ref_164_f {x : Int32} (h : ¬ (63743 < x.toInt)) : own_ref_164 x = own_ref_170 x := if_neg (fun q => h (by have q2 := Int32.lt_iff_toInt_lt.mp q; rw [own_l63743] at q2; exact q2))
theorem own_ref_172_t {x : Int32} (h : x.toInt < 64976) : own_ref_172 x = own_ref_186 x := if_pos (Int32.lt_iff_toInt_lt.mpr (by rw [own_l64976]; exact h))
theorem own_ref_172_f {x : Int32} (h : ¬ (x.toInt < 64976)) : own_ref_172 x = own_ref_178 x := if_neg (fun q => h (by have q2 := Int32.lt_iff_toInt_lt.mp q; rw [own_l64976] at q2; exact q2))
theorem own_ref_178_t {x : Int32} (h : 65007 < x.toInt) : own_ref_178 x = own_ref_186 x := if_pos (Int32.lt_iff_toInt_lt.mpr (by rw [own_l65007]; exact h))
theorem own_ref_178_f {x : Int32} (h : ¬ (65007 < x.toInt)) : own_ref_178 x = own_ref_184 x := if_neg (fun q => h (by have q2 := Int32.lt_iff_toInt_lt.mp q; rw [own_l65007] at q2; exact q2))
theorem own_ref_186_t {x : Int32} (h : x.toInt < 65534) : own_ref_186 x = own_ref_200 x := if_pos (Int32.lt_iff_toInt_lt.mpr (by rw [own_l65534]; exact h))
theorem own_ref_186_f {x : Int32} (h : ¬ (x.toInt < 65534)) : own_ref_186 x = own_ref_192 x := if_neg (fun q => h (by have q2 := Int32.lt_iff_toInt_lt.mp q; rw [own_l65534] at q2; exact q2))
theorem own_ref_192_t {x : Int32} (h : 65535 < x.toInt) : own_ref_192 x = own_ref_200 x := if_pos (Int32.lt_iff_toInt_lt.mpr (by rw [own_l65535]; exact h))
theorem own_ref_192_f {x : Int32} (h : ¬ (65535 < x.toInt)) : own_ref_192 x = own_ref_198 x := if_neg (fun q => h (by have q2 := Int32.lt_iff_toInt_lt.mp q; rw [own_l65535] at q2; exact q2))
theorem own_same (x : Int32) : own_isc_0 x = own_ref_0 x := by
  rcases Int.lt_or_le x.toInt 65 with h0 | g0
  · exact (show own_isc_0 x = 0 from (own_isc_0_t (by omega)).trans ((own_isc_12_f (by omega)).trans ((own_isc_18_t (by omega)).trans ((own_isc_30_t (by omega)).trans ((own_isc_44_t (by omega)).trans ((own_isc_58_t (by omega)).trans ((own_isc_72_t (by omega)).trans ((own_isc_86_t (by omega)).trans ((own_isc_100_t (by omega)).trans ((own_isc_114_t (by omega)).trans ((own_isc_128_t (by omega)).trans ((own_isc_142_t (by omega)).trans ((own_isc_155_t (by omega)).trans ((own_isc_167_t (by omega)).trans ((own_isc_179_t (by omega)).trans (rfl)))))))))))))))).trans (show own_ref_0 x = 0 from (own_ref_0_t (by omega)).trans (rfl)).symm
  rcases Int.lt_or_le x.toInt 91 with h1 | g1
  · exact (show own_isc_0 x = 1 from (own_isc_0_f (by omega)).trans ((own_isc_6_f (by omega)).trans (rfl))).trans (show own_ref_0 x = 1 from (own_ref_0_f (by omega)).trans ((own_ref_6_f (by omega)).trans ((own_ref_14_t (by omega)).trans ((own_ref_28_f (by omega)).trans ((own_ref_36_t (by omega)).trans ((own_ref_51_f (by omega)).trans ((own_ref_60_f (by omega)).trans ((own_ref_69_t (by omega)).trans ((own_ref_85_f (by omega)).trans ((own_ref_94_t (by omega)).trans ((own_ref_110_t (by omega)).trans ((own_ref_126_t (by omega)).trans ((own_ref_142_t (by omega)).trans ((own_ref_158_t (by omega)).trans ((own_ref_172_t (by omega)).trans ((own_ref_186_t (by omega)).trans (rfl))))))))))))))))).symm
  rcases Int.lt_or_le x.toInt 95 with h2 | g2
  · clear g0
    exact (show own_isc_0 x = 0 from (own_isc_0_f (by omega)).trans ((own_isc_6_t (by omega)).trans ((own_isc_12_f (by omega)).trans ((own_isc_18_t (by omega)).trans ((own_isc_30_t (by omega)).trans ((own_isc_44_t (by omega)).trans ((own_isc_58_t (by omega)).trans ((own_isc_72_t (by omega)).trans ((own_isc_86_t (by omega)).trans ((own_isc_100_t (by omega)).trans ((own_isc_114_t (by omega)).trans ((own_isc_128_t (by omega)).trans ((own_isc_142_t (by omega)).trans ((own_isc_155_t (by omega)).trans ((own_isc_167_t (by omega)).trans ((own_isc_179_t (by omega)).trans (rfl))))))))))))))))).trans (show own_ref_0 x = 0 from (own_ref_0_f (by omega)).trans ((own_ref_6_f (by omega)).trans ((own_ref_14_f (by omega)).trans ((own_ref_20_f (by omega)).trans (rfl))))).symm
  rcases Int.lt_or_le x.toInt 96 with h3 | g3
  · clear g0 g1
    exact (show own_isc_0 x = 1 from (own_isc_0_f (by omega)).trans ((own_isc_6_t (by omega)).trans ((own_isc_12_t (by omega)).trans (rfl)))).trans (show own_ref_0 x = 1 from (own_ref_0_f (by omega)).trans ((own_ref_6_f (by omega)).trans ((own_ref_14_f (by omega)).trans ((own_ref_20_t (by omega)).trans ((own_ref_28_f (by omega)).trans ((own_ref_36_t (by omega)).trans ((own_ref_51_f (by omega)).trans ((own_ref_60_f (by omega)).trans ((own_ref_69_t (by omega)).trans ((own_ref_85_f (by omega)).trans ((own_ref_94_t (by omega)).trans ((own_ref_110_t (by omega)).trans ((own_ref_126_t (by omega)).trans ((own_ref_142_t (by omega)).trans ((own_ref_158_t (by omega)).trans ((own_ref_172_t (by omega)).trans ((own_ref_186_t (by omega)).trans (rfl)))))))))))))))))).symm
  rcases Int.lt_or_le x.toInt 97 with h4 | g4
  · clear g0 g1 g2
    exact (show own_isc_0 x = 0 from (own_isc_0_f (by omega)).trans ((own_isc_6_t (by omega)).trans ((own_isc_12_f (by omega)).trans ((own_isc_18_t (by omega)).trans ((own_isc_30_t (by omega)).trans ((own_isc_44_t (by omega)).trans ((own_isc_58_t (by omega)).trans ((own_isc_72_t (by omega)).trans ((own_isc_86_t (by omega)).trans ((own_isc_100_t (by omega)).trans ((own_isc_114_t (by omega)).trans ((own_isc_128_t (by omega)).trans ((own_isc_142_t (by omega)).trans ((own_isc_155_t (by omega)).trans ((own_isc_167_t (by omega)).trans ((own_isc_179_t (by omega)).trans (rfl))))))))))))))))).trans (show own_ref_0 x = 0 from (own_ref_0_f (by omega)).trans ((own_ref_6_f (by omega)).trans ((own_ref_14_f (by omega)).trans ((own_ref_20_t (by omega)).trans ((own_ref_28_t (by omega)).trans (rfl)))))).symm
  rcases Int.lt_or_le x.toInt 123 with h5 | g5
  · clear g0 g1 g2 g3
    exact (show own_isc_0 x = 1 from (own_isc_0_f (by omega)).trans ((own_isc_6_t (by omega)).trans ((own_isc_12_f (by omega)).trans ((own_isc_18_f (by omega)).trans ((own_isc_24_f (by omega)).trans (rfl)))))).trans (show own_ref_0 x = 1 from (own_ref_0_f (by omega)).trans ((own_ref_6_f (by omega)).trans ((own_ref_14_f (by omega)).trans ((own_ref_20_t (by omega)).trans ((own_ref_28_f (by omega)).trans ((own_ref_36_t (by omega)).trans ((own_ref_51_f (by omega)).trans ((own_ref_60_f (by omega)).trans ((own_ref_69_t (by omega)).trans ((own_ref_85_f (by omega)).trans ((own_ref_94_t (by omega)).trans ((own_ref_110_t (by omega)).trans ((own_ref_126_t (by omega)).trans ((own_ref_142_t (by omega)).trans ((own_ref_158_t (by omega)).trans ((own_ref_172_t (by omega)).trans ((own_ref_186_t (by omega)).trans (rfl)))))))))))))))))).symm
  rcases Int.lt_or_le x.toInt 192 with h6 | g6
  · clear g0 g1 g2 g3 g4
    exact (show own_isc_0 x = 0 from (own_isc_0_f (by omega)).trans ((own_isc_6_t (by omega)).trans ((own_isc_12_f (by omega)).trans ((own_isc_18_f (by omega)).trans ((own_isc_24_t (by omega)).trans ((own_isc_30_t (by omega)).trans ((own_isc_44_t (by omega)).trans ((own_isc_58_t (by omega)).trans ((own_isc_72_t (by omega)).trans ((own_isc_86_t (by omega)).trans ((own_isc_100_t (by omega)).trans ((own_isc_114_t (by omega)).trans ((own_isc_128_t (by omega)).trans ((own_isc_142_t (by omega)).trans ((own_isc_155_t (by omega)).trans ((own_isc_167_t (by omega)).trans ((own_isc_179_t (by omega)).trans (rfl)))))))))))))))))).trans (show own_ref_0 x = 0 from (own_ref_0_f (by omega)).trans ((own_ref_6_f (by omega)).trans ((own_ref_14_f (by omega)).trans ((own_ref_20_t (by omega)).trans ((own_ref_28_f (by omega)).trans ((own_ref_36_f (by omega)).trans ((own_ref_42_f (by omega)).trans (rfl)))))))).symm
  rcases Int.lt_or_le x.toInt 215 with h7 | g7
  · clear g0 g1 g2 g3 g4 g5
    exact (show own_isc_0 x = 1 from (own_isc_0_f (by omega)).trans ((own_isc_6_t (by omega)).trans ((own_isc_12_f (by omega)).trans ((own_isc_18_f (by omega)).trans ((own_isc_24_t (by omega)).trans ((own_isc_30_f (by omega)).trans ((own_isc_37_f (by omega)).trans (rfl)))))))).trans (show own_ref_0 x = 1 from (own_ref_0_f (by omega)).trans ((own_ref_6_f (by omega)).trans ((own_ref_14_f (by omega)).trans ((own_ref_20_t (by omega)).trans ((own_ref_28_f (by omega)).trans ((own_ref_36_f (by omega)).trans ((own_ref_42_t (by omega)).trans ((own_ref_51_f (by omega)).trans ((own_ref_60_f (by omega)).trans ((own_ref_69_t (by omega)).trans ((own_ref_85_f (by omega)).trans ((own_ref_94_t (by omega)).trans ((own_ref_110_t (by omega)).trans ((own_ref_126_t (by omega)).trans ((own_ref_142_t (by omega)).trans ((own_ref_158_t (by omega)).trans ((own_ref_172_t (by omega)).trans ((own_ref_186_t (by omega)).trans (rfl))))))))))))))))))).symm
  rcases Int.lt_or_le x.toInt 216 with h8 | g8
  · clear g0 g1 g2 g3 g4 g5 g6
    exact (show own_isc_0 x = 0 from (own_isc_0_f (by omega)).trans ((own_isc_6_t (by omega)).trans ((own_isc_12_f (by omega)).trans ((own_isc_18_f (by omega)).trans ((own_isc_24_t (by omega)).trans ((own_isc_30_f (by omega)).trans ((own_isc_37_t (by omega)).trans ((own_isc_44_t (by omega)).trans ((own_isc_58_t (by omega)).trans ((own_isc_72_t (by omega)).trans ((own_isc_86_t (by omega)).trans ((own_isc_100_t (by omega)).trans ((own_isc_114_t (by omega)).trans ((own_isc_128_t (by omega)).trans ((own_isc_142_t (by omega)).trans ((own_isc_155_t (by omega)).trans ((own_isc_167_t (by omega)).trans ((own_isc_179_t (by omega)).trans (rfl))))))))))))))))))).trans (show own_ref_0 x = 0 from (own_ref_0_f (by omega)).trans ((own_ref_6_f (by omega)).trans ((own_ref_14_f (by omega)).trans ((own_ref_20_t (by omega)).trans ((own_ref_28_f (by omega)).trans ((own_ref_36_f (by omega)).trans ((own_ref_42_t (by omega)).trans ((own_ref_51_t (by omega)).trans (rfl))))))))).symm
  rcases Int.lt_or_le x.toInt 247 with h9 | g9
  · clear g0 g1 g2 g3 g4 g5 g6 g7
    exact (show own_isc_0 x = 1 from (own_isc_0_f (by omega)).trans ((own_isc_6_t (by omega)).trans ((own_isc_12_f (by omega)).trans ((own_isc_18_f (by omega)).trans ((own_isc_24_t (by omega)).trans ((own_isc_30_f (by omega)).trans ((own_isc_37_t (by omega)).trans ((own_isc_44_f (by omega)).trans ((own_isc_51_f (by omega)).trans (rfl)))))))))).trans (show own_ref_0 x = 1 from (own_ref_0_f (by omega)).trans ((own_ref_6_f (by omega)).trans ((own_ref_14_f (by omega)).trans ((own_ref_20_t (by omega)).trans ((own_ref_28_f (by omega)).trans ((own_ref_36_f (by omega)).trans ((own_ref_42_t (by omega)).trans ((own_ref_51_f (by omega)).trans ((own_ref_60_f (by omega)).trans ((own_ref_69_t (by omega)).trans ((own_ref_85_f (by omega)).trans ((own_ref_94_t (by omega)).trans ((own_ref_110_t (by omega)).trans ((own_ref_126_t (by omega)).trans ((own_ref_142_t (by omega)).trans ((own_ref_158_t (by omega)).trans ((own_ref_172_t (by omega)).trans ((own_ref_186_t (by omega)).trans (rfl))))))))))))))))))).symm
  rcases Int.lt_or_le x.toInt 248 with h10 | g10
  · clear g0 g1 g2 g3 g4 g5 g6 g7 g8
    exact (show own_isc_0 x = 0 from (own_isc_0_f (by omega)).trans ((own_isc_6_t (by omega)).trans ((own_isc_12_f (by omega)).trans ((own_isc_18_f (by omega)).trans ((own_isc_24_t (by omega)).trans ((own_isc_30_f (by omega)).trans ((own_isc_37_t (by omega)).trans ((own_isc_44_f (by omega)).trans ((own_isc_51_t (by omega)).trans ((own_isc_58_t (by omega)).trans ((own_isc_72_t (by omega)).trans ((own_isc_86_t (by omega)).trans ((own_isc_100_t (by omega)).trans ((own_isc_114_t (by omega)).trans ((own_isc_128_t (by omega)).trans ((own_isc_142_t (by omega)).trans ((own_isc_155_t (by omega)).trans ((own_isc_167_t (by omega)).trans ((own_isc_179_t (by omega)).trans (rfl)))))))))))))))))))).trans (show own_ref_0 x = 0 from (own_ref_0_f (by omega)).trans ((own_ref_6_f (by omega)).trans ((own_ref_14_f (by omega)).trans ((own_ref_20_t (by omega)).trans ((own_ref_28_f (by omega)).trans ((own_ref_36_f (by omega)).trans ((own_ref_42_t (by omega)).trans ((own_ref_51_f (by omega)).trans ((own_ref_60_t (by omega)).trans (rfl)))))))))).symm
  rcases Int.lt_or_le x.toInt 768 with h11 | g11
  · clear g0 g1 g2 g3 g4 g5 g6 g7 g8 g9
    exact (show own_isc_0 x = 1 from (own_isc_0_f (by omega)).trans ((own_isc_6_t (by omega)).trans ((own_isc_12_f (by omega)).trans ((own_isc_18_f (by omega)).trans ((own_isc_24_t (by omega)).trans ((own_isc_30_f (by omega)).trans ((own_isc_37_t (by omega)).trans ((own_isc_44_f (by omega)).trans ((own_isc_51_t (by omega)).trans ((own_isc_58_f (by omega)).trans ((own_isc_65_f (by omega)).trans (rfl)))))))))))).trans (show own_ref_0 x = 1 from (own_ref_0_f (by omega)).trans ((own_ref_6_f (by omega)).trans ((own_ref_14_f (by omega)).trans ((own_ref_20_t (by omega)).trans ((own_ref_28_f (by omega)).trans ((own_ref_36_f (by omega)).trans ((own_ref_42_t (by omega)).trans ((own_ref_51_f (by omega)).trans ((own_ref_60_f (by omega)).trans ((own_ref_69_t (by omega)).trans ((own_ref_85_f (by omega)).trans ((own_ref_94_t (by omega)).trans ((own_ref_110_t (by omega)).trans ((own_ref_126_t (by omega)).trans ((own_ref_142_t (by omega)).trans ((own_ref_158_t (by omega)).trans ((own_ref_172_t (by omega)).trans ((own_ref_186_t (by omega)).trans (rfl))))))))))))))))))).symm
  rcases Int.lt_or_le x.toInt 880 with h12 | g12
  · clear g0 g1 g2 g3 g4 g5 g6 g7 g8 g9 g10
    exact (show own_isc_0 x = 0 from (own_isc_0_f (by omega)).trans ((own_isc_6_t (by omega)).trans ((own_isc_12_f (by omega)).trans ((own_isc_18_f (by omega)).trans ((own_isc_24_t (by omega)).trans ((own_isc_30_f (by omega)).trans ((own_isc_37_t (by omega)).trans ((own_isc_44_f (by omega)).trans ((own_isc_51_t (by omega)).trans ((own_isc_58_f (by omega)).trans ((own_isc_65_t (by omega)).trans ((own_isc_72_t (by omega)).trans ((own_isc_86_t (by omega)).trans ((own_isc_100_t (by omega)).trans ((own_isc_114_t (by omega)).trans ((own_isc_128_t (by omega)).trans ((own_isc_142_t (by omega)).trans ((own_isc_155_t (by omega)).trans ((own_isc_167_t (by omega)).trans ((own_isc_179_t (by omega)).trans (rfl))))))))))))))))))))).trans (show own_ref_0 x = 0 from (own_ref_0_f (by omega)).trans ((own_ref_6_f (by omega)).trans ((own_ref_14_f (by omega)).trans ((own_ref_20_t (by omega)).trans ((own_ref_28_f (by omega)).trans ((own_ref_36_f (by omega)).trans ((own_ref_42_t (by omega)).trans ((own_ref_51_f (by omega)).trans ((own_ref_60_f (by omega)).trans ((own_ref_69_f (by omega)).trans ((own_ref_76_f (by omega)).trans (rfl)))))))))))).symm
  rcases Int.lt_or_le x.toInt 894 with h13 | g13
  · clear g0 g1 g2 g3 g4 g5 g6 g7 g8 g9 g10 g11
    exact (show own_isc_0 x = 1 from (own_isc_0_f (by omega)).trans ((own_isc_6_t (by omega)).trans ((own_isc_12_f (by omega)).trans ((own_isc_18_f (by omega)).trans ((own_isc_24_t (by omega)).trans ((own_isc_30_f (by omega)).trans ((own_isc_37_t (by omega)).trans ((own_isc_44_f (by omega)).trans ((own_isc_51_t (by omega)).trans ((own_isc_58_f (by omega)).trans ((own_isc_65_t (by omega)).trans ((own_isc_72_f (by omega)).trans ((own_isc_79_f (by omega)).trans (rfl)))))))))))))).trans (show own_ref_0 x = 1 from (own_ref_0_f (by omega)).trans ((own_ref_6_f (by omega)).trans ((own_ref_14_f (by omega)).trans ((own_ref_20_t (by omega)).trans ((own_ref_28_f (by omega)).trans ((own_ref_36_f (by omega)).trans ((own_ref_42_t (by omega)).trans ((own_ref_51_f (by omega)).trans ((own_ref_60_f (by omega)).trans ((own_ref_69_f (by omega)).trans ((own_ref_76_t (by omega)).trans ((own_ref_85_f (by omega)).trans ((own_ref_94_t (by omega)).trans ((own_ref_110_t (by omega)).trans ((own_ref_126_t (by omega)).trans ((own_ref_142_t (by omega)).trans ((own_ref_158_t (by omega)).trans ((own_ref_172_t (by omega)).trans ((own_ref_186_t (by omega)).trans (rfl)))))))))))))))))))).symm
  rcases Int.lt_or_le x.toInt 895 with h14 | g14
  · clear g0 g1 g2 g3 g4 g5 g6 g7 g8 g9 g10 g11 g12
    exact (show own_isc_0 x = 0 from (own_isc_0_f (by omega)).trans ((own_isc_6_t (by omega)).trans ((own_isc_12_f (by omega)).trans ((own_isc_18_f (by omega)).trans ((own_isc_24_t (by omega)).trans ((own_isc_30_f (by omega)).trans ((own_isc_37_t (by omega)).trans ((own_isc_44_f (by omega)).trans ((own_isc_51_t (by omega)).trans ((own_isc_58_f (by omega)).trans ((own_isc_65_t (by omega)).trans ((own_isc_72_f (by omega)).trans ((own_isc_79_t (by omega)).trans ((own_isc_86_t (by omega)).trans ((own_isc_100_t (by omega)).trans ((own_isc_114_t (by omega)).trans ((own_isc_128_t (by omega)).trans ((own_isc_142_t (by omega)).trans ((own_isc_155_t (by omega)).trans ((own_isc_167_t (by omega)).trans ((own_isc_179_t (by omega)).trans (rfl)))))))))))))))))))))).trans (show own_ref_0 x = 0 from (own_ref_0_f (by omega)).trans ((own_ref_6_f (by omega)).trans ((own_ref_14_f (by omega)).trans ((own_ref_20_t (by omega)).trans ((own_ref_28_f (by omega)).trans ((own_ref_36_f (by omega)).trans ((own_ref_42_t (by omega)).trans ((own_ref_51_f (by omega)).trans ((own_ref_60_f (by omega)).trans ((own_ref_69_f (by omega)).trans ((own_ref_76_t (by omega)).trans ((own_ref_85_t (by omega)).trans (rfl))))))))))))).symm
  rcases Int.lt_or_le x.toInt 8192 with h15 | g15
  · clear g0 g1 g2 g3 g4 g5 g6 g7 g8 g9 g10 g11 g12 g13
    exact (show own_isc_0 x = 1 from (own_isc_0_f (by omega)).trans ((own_isc_6_t (by omega)).trans ((own_isc_12_f (by omega)).trans ((own_isc_18_f (by omega)).trans ((own_isc_24_t (by omega)).trans ((own_isc_30_f (by omega)).trans ((own_isc_37_t (by omega)).trans ((own_isc_44_f (by omega)).trans ((own_isc_51_t (by omega)).trans ((own_isc_58_f (by omega)).trans ((own_isc_65_t (by omega)).trans ((own_isc_72_f (by omega)).trans ((own_isc_79_t (by omega)).trans ((own_isc_86_f (by omega)).trans ((own_isc_93_f (by omega)).trans (rfl)))))))))))))))).trans (show own_ref_0 x = 1 from (own_ref_0_f (by omega)).trans ((own_ref_6_f (by omega)).trans ((own_ref_14_f (by omega)).trans ((own_ref_20_t (by omega)).trans ((own_ref_28_f (by omega)).trans ((own_ref_36_f (by omega)).trans ((own_ref_42_t (by omega)).trans ((own_ref_51_f (by omega)).trans ((own_ref_60_f (by omega)).trans ((own_ref_69_f (by omega)).trans ((own_ref_76_t (by omega)).trans ((own_ref_85_f (by omega)).trans ((own_ref_94_t (by omega)).trans ((own_ref_110_t (by omega)).trans ((own_ref_126_t (by omega)).trans ((own_ref_142_t (by omega)).trans ((own_ref_158_t (by omega)).trans ((own_ref_172_t (by omega)).trans ((own_ref_186_t (by omega)).trans (rfl)))))))))))))))))))).symm
  rcases Int.lt_or_le x.toInt 8204 with h16 | g16
  · clear g0 g1 g2 g3 g4 g5 g6 g7 g8 g9 g10 g11 g12 g13 g14
    exact (show own_isc_0 x = 0 from (own_isc_0_f (by omega)).trans ((own_isc_6_t (by omega)).trans ((own_isc_12_f (by omega)).trans ((own_isc_18_f (by omega)).trans ((own_isc_24_t (by omega)).trans ((own_isc_30_f (by omega)).trans ((own_isc_37_t (by omega)).trans ((own_isc_44_f (by omega)).trans ((own_isc_51_t (by omega)).trans ((own_isc_58_f (by omega)).trans ((own_isc_65_t (by omega)).trans ((own_isc_72_f (by omega)).trans ((own_isc_79_t (by omega)).trans ((own_isc_86_f (by omega)).trans ((own_isc_93_t (by omega)).trans ((own_isc_100_t (by omega)).trans ((own_isc_114_t (by omega)).trans ((own_isc_128_t (by omega)).trans ((own_isc_142_t (by omega)).trans ((own_isc_155_t (by omega)).trans ((own_isc_167_t (by omega)).trans ((own_isc_179_t (by omega)).trans (rfl))))))))))))))))))))))).trans (show own_ref_0 x = 0 from (own_ref_0_f (by omega)).trans ((own_ref_6_f (by omega)).trans ((own_ref_14_f (by omega)).trans ((own_ref_20_t (by omega)).trans ((own_ref_28_f (by omega)).trans ((own_ref_36_f (by omega)).trans ((own_ref_42_t (by omega)).trans ((own_ref_51_f (by omega)).trans ((own_ref_60_f (by omega)).trans ((own_ref_69_f (by omega)).trans ((own_ref_76_t (by omega)).trans ((own_ref_85_f (by omega)).trans ((own_ref_94_f (by omega)).trans ((own_ref_101_f (by omega)).trans (rfl))))))))))))))).symm
  rcases Int.lt_or_le x.toInt 8206 with h17 | g17
  · clear g0 g1 g2 g3 g4 g5 g6 g7 g8 g9 g10 g11 g12 g13 g14 g15
    exact (show own_isc_0 x = 1 from (own_isc_0_f (by omega)).trans ((own_isc_6_t (by omega)).trans ((own_isc_12_f (by omega)).trans ((own_isc_18_f (by omega)).trans ((own_isc_24_t (by omega)).trans ((own_isc_30_f (by omega)).trans ((own_isc_37_t (by omega)).trans ((own_isc_44_f (by omega)).trans ((own_isc_51_t (by omega)).trans ((own_isc_58_f (by omega)).trans ((own_isc_65_t (by omega)).trans ((own_isc_72_f (by omega)).trans ((own_isc_79_t (by omega)).trans ((own_isc_86_f (by omega)).trans ((own_isc_93_t (by omega)).trans ((own_isc_100_f (by omega)).trans ((own_isc_107_f (by omega)).trans (rfl)))))))))))))))))).trans (show own_ref_0 x = 1 from (own_ref_0_f (by omega)).trans ((own_ref_6_f (by omega)).trans ((own_ref_14_f (by omega)).trans ((own_ref_20_t (by omega)).trans ((own_ref_28_f (by omega)).trans ((own_ref_36_f (by omega)).trans ((own_ref_42_t (by omega)).trans ((own_ref_51_f (by omega)).trans ((own_ref_60_f (by omega)).trans ((own_ref_69_f (by omega)).trans ((own_ref_76_t (by omega)).trans ((own_ref_85_f (by omega)).trans ((own_ref_94_f (by omega)).trans ((own_ref_101_t (by omega)).trans ((own_ref_110_t (by omega)).trans ((own_ref_126_t (by omega)).trans ((own_ref_142_t (by omega)).trans ((own_ref_158_t (by omega)).trans ((own_ref_172_t (by omega)).trans ((own_ref_186_t (by omega)).trans (rfl))))))))))))))))))))).symm
  rcases Int.lt_or_le x.toInt 8304 with h18 | g18
  · clear g0 g1 g2 g3 g4 g5 g6 g7 g8 g9 g10 g11 g12 g13 g14 g15 g16
    exact (show own_isc_0 x = 0 from (own_isc_0_f (by omega)).trans ((own_isc_6_t (by omega)).trans ((own_isc_12_f (by omega)).trans ((own_isc_18_f (by omega)).trans ((own_isc_24_t (by omega)).trans ((own_isc_30_f (by omega)).trans ((own_isc_37_t (by omega)).trans ((own_isc_44_f (by omega)).trans ((own_isc_51_t (by omega)).trans ((own_isc_58_f (by omega)).trans ((own_isc_65_t (by omega)).trans ((own_isc_72_f (by omega)).trans ((own_isc_79_t (by omega)).trans ((own_isc_86_f (by omega)).trans ((own_isc_93_t (by omega)).trans ((own_isc_100_f (by omega)).trans ((own_isc_107_t (by omega)).trans ((own_isc_114_t (by omega)).trans ((own_isc_128_t (by omega)).trans ((own_isc_142_t (by omega)).trans ((own_isc_155_t (by omega)).trans ((own_isc_167_t (by omega)).trans ((own_isc_179_t (by omega)).trans (rfl)))))))))))))))))))))))).trans (show own_ref_0 x = 0 from (own_ref_0_f (by omega)).trans ((own_ref_6_f (by omega)).trans ((own_ref_14_f (by omega)).trans ((own_ref_20_t (by omega)).trans ((own_ref_28_f (by omega)).trans ((own_ref_36_f (by omega)).trans ((own_ref_42_t (by omega)).trans ((own_ref_51_f (by omega)).trans ((own_ref_60_f (by omega)).trans ((own_ref_69_f (by omega)).trans ((own_ref_76_t (by omega)).trans ((own_ref_85_f (by omega)).trans ((own_ref_94_f (by omega)).trans ((own_ref_101_t (by omega)).trans ((own_ref_110_f (by omega)).trans ((own_ref_117_f (by omega)).trans (rfl))))))))))))))))).symm
  rcases Int.lt_or_le x.toInt 8592 with h19 | g19
  · clear g0 g1 g2 g3 g4 g5 g6 g7 g8 g9 g10 g11 g12 g13 g14 g15 g16 g17
    exact (show own_isc_0 x = 1 from (own_isc_0_f (by omega)).trans ((own_isc_6_t (by omega)).trans ((own_isc_12_f (by omega)).trans ((own_isc_18_f (by omega)).trans ((own_isc_24_t (by omega)).trans ((own_isc_30_f (by omega)).trans ((own_isc_37_t (by omega)).trans ((own_isc_44_f (by omega)).trans ((own_isc_51_t (by omega)).trans ((own_isc_58_f (by omega)).trans ((own_isc_65_t (by omega)).trans ((own_isc_72_f (by omega)).trans ((own_isc_79_t (by omega)).trans ((own_isc_86_f (by omega)).trans ((own_isc_93_t (by omega)).trans ((own_isc_100_f (by omega)).trans ((own_isc_107_t (by omega)).trans ((own_isc_114_f (by omega)).trans ((own_isc_121_f (by omega)).trans (rfl)))))))))))))))))))).trans (show own_ref_0 x = 1 from (own_ref_0_f (by omega)).trans ((own_ref_6_f (by omega)).trans ((own_ref_14_f (by omega)).trans ((own_ref_20_t (by omega)).trans ((own_ref_28_f (by omega)).trans ((own_ref_36_f (by omega)).trans ((own_ref_42_t (by omega)).trans ((own_ref_51_f (by omega)).trans ((own_ref_60_f (by omega)).trans ((own_ref_69_f (by omega)).trans ((own_ref_76_t (by omega)).trans ((own_ref_85_f (by omega)).trans ((own_ref_94_f (by omega)).trans ((own_ref_101_t (by omega)).trans ((own_ref_110_f (by omega)).trans ((own_ref_117_t (by omega)).trans ((own_ref_126_t (by omega)).trans ((own_ref_142_t (by omega)).trans ((own_ref_158_t (by omega)).trans ((own_ref_172_t (by omega)).trans ((own_ref_186_t (by omega)).trans (rfl)))))))))))))))))))))).symm
  rcases Int.lt_or_le x.toInt 11264 with h20 | g20
  · clear g0 g1 g2 g3 g4 g5 g6 g7 g8 g9 g10 g11 g12 g13 g14 g15 g16 g17 g18
    exact (show own_isc_0 x = 0 from (own_isc_0_f (by omega)).trans ((own_isc_6_t (by omega)).trans ((own_isc_12_f (by omega)).trans ((own_isc_18_f (by omega)).trans ((own_isc_24_t (by omega)).trans ((own_isc_30_f (by omega)).trans ((own_isc_37_t (by omega)).trans ((own_isc_44_f (by omega)).trans ((own_isc_51_t (by omega)).trans ((own_isc_58_f (by omega)).trans ((own_isc_65_t (by omega)).trans ((own_isc_72_f (by omega)).trans ((own_isc_79_t (by omega)).trans ((own_isc_86_f (by omega)).trans ((own_isc_93_t (by omega)).trans ((own_isc_100_f (by omega)).trans ((own_isc_107_t (by omega)).trans ((own_isc_114_f (by omega)).trans ((own_isc_121_t (by omega)).trans ((own_isc_128_t (by omega)).trans ((own_isc_142_t (by omega)).trans ((own_isc_155_t (by omega)).trans ((own_isc_167_t (by omega)).trans ((own_isc_179_t (by omega)).trans (rfl))))))))))))))))))))))))).trans (show own_ref_0 x = 0 from (own_ref_0_f (by omega)).trans ((own_ref_6_f (by omega)).trans ((own_ref_14_f (by omega)).trans ((own_ref_20_t (by omega)).trans ((own_ref_28_f (by omega)).trans ((own_ref_36_f (by omega)).trans ((own_ref_42_t (by omega)).trans ((own_ref_51_f (by omega)).trans ((own_ref_60_f (by omega)).trans ((own_ref_69_f (by omega)).trans ((own_ref_76_t (by omega)).trans ((own_ref_85_f (by omega)).trans ((own_ref_94_f (by omega)).trans ((own_ref_101_t (by omega)).trans ((own_ref_110_f (by omega)).trans ((own_ref_117_t (by omega)).trans ((own_ref_126_f (by omega)).trans ((own_ref_133_f (by omega)).trans (rfl))))))))))))))))))).symm
  rcases Int.lt_or_le x.toInt 12272 with h21 | g21
  · clear g0 g1 g2 g3 g4 g5 g6 g7 g8 g9 g10 g11 g12 g13 g14 g15 g16 g17 g18 g19
    exact (show own_isc_0 x = 1 from (own_isc_0_f (by omega)).trans ((own_isc_6_t (by omega)).trans ((own_isc_12_f (by omega)).trans ((own_isc_18_f (by omega)).trans ((own_isc_24_t (by omega)).trans ((own_isc_30_f (by omega)).trans ((own_isc_37_t (by omega)).trans ((own_isc_44_f (by omega)).trans ((own_isc_51_t (by omega)).trans ((own_isc_58_f (by omega)).trans ((own_isc_65_t (by omega)).trans ((own_isc_72_f (by omega)).trans ((own_isc_79_t (by omega)).trans ((own_isc_86_f (by omega)).trans ((own_isc_93_t (by omega)).trans ((own_isc_100_f (by omega)).trans ((own_isc_107_t (by omega)).trans ((own_isc_114_f (by omega)).trans ((own_isc_121_t (by omega)).trans ((own_isc_128_f (by omega)).trans ((own_isc_135_f (by omega)).trans (rfl)))))))))))))))))))))).trans (show own_ref_0 x = 1 from (own_ref_0_f (by omega)).trans ((own_ref_6_f (by omega)).trans ((own_ref_14_f (by omega)).trans ((own_ref_20_t (by omega)).trans ((own_ref_28_f (by omega)).trans ((own_ref_36_f (by omega)).trans ((own_ref_42_t (by omega)).trans ((own_ref_51_f (by omega)).trans ((own_ref_60_f (by omega)).trans ((own_ref_69_f (by omega)).trans ((own_ref_76_t (by omega)).trans ((own_ref_85_f (by omega)).trans ((own_ref_94_f (by omega)).trans ((own_ref_101_t (by omega)).trans ((own_ref_110_f (by omega)).trans ((own_ref_117_t (by omega)).trans ((own_ref_126_f (by omega)).trans ((own_ref_133_t (by omega)).trans ((own_ref_142_t (by omega)).trans ((own_ref_158_t (by omega)).trans ((own_ref_172_t (by omega)).trans ((own_ref_186_t (by omega)).trans (rfl))))))))))))))))))))))).symm
  rcases Int.lt_or_le x.toInt 12289 with h22 | g22
  · clear g0 g1 g2 g3 g4 g5 g6 g7 g8 g9 g10 g11 g12 g13 g14 g15 g16 g17 g18 g19 g20
    exact (show own_isc_0 x = 0 from (own_isc_0_f (by omega)).trans ((own_isc_6_t (by omega)).trans ((own_isc_12_f (by omega)).trans ((own_isc_18_f (by omega)).trans ((own_isc_24_t (by omega)).trans ((own_isc_30_f (by omega)).trans ((own_isc_37_t (by omega)).trans ((own_isc_44_f (by omega)).trans ((own_isc_51_t (by omega)).trans ((own_isc_58_f (by omega)).trans ((own_isc_65_t (by omega)).trans ((own_isc_72_f (by omega)).trans ((own_isc_79_t (by omega)).trans ((own_isc_86_f (by omega)).trans ((own_isc_93_t (by omega)).trans ((own_isc_100_f (by omega)).trans ((own_isc_107_t (by omega)).trans ((own_isc_114_f (by omega)).trans ((own_isc_121_t (by omega)).trans ((own_isc_128_f (by omega)).trans ((own_isc_135_t (by omega)).trans ((own_isc_142_t (by omega)).trans ((own_isc_155_t (by omega)).trans ((own_isc_167_t (by omega)).trans ((own_isc_179_t (by omega)).trans (rfl)))))))))))))))))))))))))).trans (show own_ref_0 x = 0 from (own_ref_0_f (by omega)).trans ((own_ref_6_f (by omega)).trans ((own_ref_14_f (by omega)).trans ((own_ref_20_t (by omega)).trans ((own_ref_28_f (by omega)).trans ((own_ref_36_f (by omega)).trans ((own_ref_42_t (by omega)).trans ((own_ref_51_f (by omega)).trans ((own_ref_60_f (by omega)).trans ((own_ref_69_f (by omega)).trans ((own_ref_76_t (by omega)).trans ((own_ref_85_f (by omega)).trans ((own_ref_94_f (by omega)).trans ((own_ref_101_t (by omega)).trans ((own_ref_110_f (by omega)).trans ((own_ref_117_t (by omega)).trans ((own_ref_126_f (by omega)).trans ((own_ref_133_t (by omega)).trans ((own_ref_142_f (by omega)).trans ((own_ref_149_f (by omega)).trans (rfl))))))))))))))))))))).symm
  rcases Int.lt_or_le x.toInt 55296 with h23 | g23
  · clear g0 g1 g2 g3 g4 g5 g6 g7 g8 g9 g10 g11 g12 g13 g14 g15 g16 g17 g18 g19 g20 g21
    exact (show own_isc_0 x = 1 from (own_isc_0_f (by omega)).trans ((own_isc_6_t (by omega)).trans ((own_isc_12_f (by omega)).trans ((own_isc_18_f (by omega)).trans ((own_isc_24_t (by omega)).trans ((own_isc_30_f (by omega)).trans ((own_isc_37_t (by omega)).trans ((own_isc_44_f (by omega)).trans ((own_isc_51_t (by omega)).trans ((own_isc_58_f (by omega)).trans ((own_isc_65_t (by omega)).trans ((own_isc_72_f (by omega)).trans ((own_isc_79_t (by omega)).trans ((own_isc_86_f (by omega)).trans ((own_isc_93_t (by omega)).trans ((own_isc_100_f (by omega)).trans ((own_isc_107_t (by omega)).trans ((own_isc_114_f (by omega)).trans ((own_isc_121_t (by omega)).trans ((own_isc_128_f (by omega)).trans ((own_isc_135_t (by omega)).trans ((own_isc_142_f (by omega)).trans ((own_isc_149_f (by omega)).trans (rfl)))))))))))))))))))))))).trans (show own_ref_0 x = 1 from (own_ref_0_f (by omega)).trans ((own_ref_6_f (by omega)).trans ((own_ref_14_f (by omega)).trans ((own_ref_20_t (by omega)).trans ((own_ref_28_f (by omega)).trans ((own_ref_36_f (by omega)).trans ((own_ref_42_t (by omega)).trans ((own_ref_51_f (by omega)).trans ((own_ref_60_f (by omega)).trans ((own_ref_69_f (by omega)).trans ((own_ref_76_t (by omega)).trans ((own_ref_85_f (by omega)).trans ((own_ref_94_f (by omega)).trans ((own_ref_101_t (by omega)).trans ((own_ref_110_f (by omega)).trans ((own_ref_117_t (by omega)).trans ((own_ref_126_f (by omega)).trans ((own_ref_133_t (by omega)).trans ((own_ref_142_f (by omega)).trans ((own_ref_149_t (by omega)).trans ((own_ref_158_t (by omega)).trans ((own_ref_172_t (by omega)).trans ((own_ref_186_t (by omega)).trans (rfl)))))))))))))))))))))))).symm
  rcases Int.lt_or_le x.toInt 63744 with h24 | g24
  · clear g0 g1 g2 g3 g4 g5 g6 g7 g8 g9 g10 g11 g12 g13 g14 g15 g16 g17 g18 g19 g20 g21 g22
    exact (show own_isc_0 x = 0 from (own_isc_0_f (by omega)).trans ((own_isc_6_t (by omega)).trans ((own_isc_12_f (by omega)).trans ((own_isc_18_f (by omega)).trans ((own_isc_24_t (by omega)).trans ((own_isc_30_f (by omega)).trans ((own_isc_37_t (by omega)).trans ((own_isc_44_f (by omega)).trans ((own_isc_51_t (by omega)).trans ((own_isc_58_f (by omega)).trans ((own_isc_65_t (by omega)).trans ((own_isc_72_f (by omega)).trans ((own_isc_79_t (by omega)).trans ((own_isc_86_f (by omega)).trans ((own_isc_93_t (by omega)).trans ((own_isc_100_f (by omega)).trans ((own_isc_107_t (by omega)).trans ((own_isc_114_f (by omega)).trans ((own_isc_121_t (by omega)).trans ((own_isc_128_f (by omega)).trans ((own_isc_135_t (by omega)).trans ((own_isc_142_f (by omega)).trans ((own_isc_149_t (by omega)).trans ((own_isc_155_t (by omega)).trans ((own_isc_167_t (by omega)).trans ((own_isc_179_t (by omega)).trans (rfl))))))))))))))))))))))))))).trans (show own_ref_0 x = 0 from (own_ref_0_f (by omega)).trans ((own_ref_6_f (by omega)).trans ((own_ref_14_f (by omega)).trans ((own_ref_20_t (by omega)).trans ((own_ref_28_f (by omega)).trans ((own_ref_36_f (by omega)).trans ((own_ref_42_t (by omega)).trans ((own_ref_51_f (by omega)).trans ((own_ref_60_f (by omega)).trans ((own_ref_69_f (by omega)).trans ((own_ref_76_t (by omega)).trans ((own_ref_85_f (by omega)).trans ((own_ref_94_f (by omega)).trans ((own_ref_101_t (by omega)).trans ((own_ref_110_f (by omega)).trans ((own_ref_117_t (by omega)).trans ((own_ref_126_f (by omega)).trans ((own_ref_133_t (by omega)).trans ((own_ref_142_f (by omega)).trans ((own_ref_149_t (by omega)).trans ((own_ref_158_f (by omega)).trans ((own_ref_164_f (by omega)).trans (rfl))))))))))))))))))))))).symm
  rcases Int.lt_or_le x.toInt 64976 with h25 | g25
  · clear g0 g1 g2 g3 g4 g5 g6 g7 g8 g9 g10 g11 g12 g13 g14 g15 g16 g17 g18 g19 g20 g21 g22 g23
    exact (show own_isc_0 x = 1 from (own_isc_0_f (by omega)).trans ((own_isc_6_t (by omega)).trans ((own_isc_12_f (by omega)).trans ((own_isc_18_f (by omega)).trans ((own_isc_24_t (by omega)).trans ((own_isc_30_f (by omega)).trans ((own_isc_37_t (by omega)).trans ((own_isc_44_f (by omega)).trans ((own_isc_51_t (by omega)).trans ((own_isc_58_f (by omega)).trans ((own_isc_65_t (by omega)).trans ((own_isc_72_f (by omega)).trans ((own_isc_79_t (by omega)).trans ((own_isc_86_f (by omega)).trans ((own_isc_93_t (by omega)).trans ((own_isc_100_f (by omega)).trans ((own_isc_107_t (by omega)).trans ((own_isc_114_f (by omega)).trans ((own_isc_121_t (by omega)).trans ((own_isc_128_f (by omega)).trans ((own_isc_135_t (by omega)).trans ((own_isc_142_f (by omega)).trans ((own_isc_149_t (by omega)).trans ((own_isc_155_f (by omega)).trans ((own_isc_161_f (by omega)).trans (rfl)))))))))))))))))))))))))).trans (show own_ref_0 x = 1 from (own_ref_0_f (by omega)).trans ((own_ref_6_f (by omega)).trans ((own_ref_14_f (by omega)).trans ((own_ref_20_t (by omega)).trans ((own_ref_28_f (by omega)).trans ((own_ref_36_f (by omega)).trans ((own_ref_42_t (by omega)).trans ((own_ref_51_f (by omega)).trans ((own_ref_60_f (by omega)).trans ((own_ref_69_f (by omega)).trans ((own_ref_76_t (by omega)).trans ((own_ref_85_f (by omega)).trans ((own_ref_94_f (by omega)).trans ((own_ref_101_t (by omega)).trans ((own_ref_110_f (by omega)).trans ((own_ref_117_t (by omega)).trans ((own_ref_126_f (by omega)).trans ((own_ref_133_t (by omega)).trans ((own_ref_142_f (by omega)).trans ((own_ref_149_t (by omega)).trans ((own_ref_158_f (by omega)).trans ((own_ref_164_t (by omega)).trans ((own_ref_172_t (by omega)).trans ((own_ref_186_t (by omega)).trans (rfl))))))))))))))))))))))))).symm
  rcases Int.lt_or_le x.toInt 65008 with h26 | g26
  · clear g0 g1 g2 g3 g4 g5 g6 g7 g8 g9 g10 g11 g12 g13 g14 g15 g16 g17 g18 g19 g20 g21 g22 g23 g24
    exact (show own_isc_0 x = 0 from (own_isc_0_f (by omega)).trans ((own_isc_6_t (by omega)).trans ((own_isc_12_f (by omega)).trans ((own_isc_18_f (by omega)).trans ((own_isc_24_t (by omega)).trans ((own_isc_30_f (by omega)).trans ((own_isc_37_t (by omega)).trans ((own_isc_44_f (by omega)).trans ((own_isc_51_t (by omega)).trans ((own_isc_58_f (by omega)).trans ((own_isc_65_t (by omega)).trans ((own_isc_72_f (by omega)).trans ((own_isc_79_t (by omega)).trans ((own_isc_86_f (by omega)).trans ((own_isc_93_t (by omega)).trans ((own_isc_100_f (by omega)).trans ((own_isc_107_t (by omega)).trans ((own_isc_114_f (by omega)).trans ((own_isc_121_t (by omega)).trans ((own_isc_128_f (by omega)).trans ((own_isc_135_t (by omega)).trans ((own_isc_142_f (by omega)).trans ((own_isc_149_t (by omega)).trans ((own_isc_155_f (by omega)).trans ((own_isc_161_t (by omega)).trans ((own_isc_167_t (by omega)).trans ((own_isc_179_t (by omega)).trans (rfl)))))))))))))))))))))))))))).trans (show own_ref_0 x = 0 from (own_ref_0_f (by omega)).trans ((own_ref_6_f (by omega)).trans ((own_ref_14_f (by omega)).trans ((own_ref_20_t (by omega)).trans ((own_ref_28_f (by omega)).trans ((own_ref_36_f (by omega)).trans ((own_ref_42_t (by omega)).trans ((own_ref_51_f (by omega)).trans ((own_ref_60_f (by omega)).trans ((own_ref_69_f (by omega)).trans ((own_ref_76_t (by omega)).trans ((own_ref_85_f (by omega)).trans ((own_ref_94_f (by omega)).trans ((own_ref_101_t (by omega)).trans ((own_ref_110_f (by omega)).trans ((own_ref_117_t (by omega)).trans ((own_ref_126_f (by omega)).trans ((own_ref_133_t (by omega)).trans ((own_ref_142_f (by omega)).trans ((own_ref_149_t (by omega)).trans ((own_ref_158_f (by omega)).trans ((own_ref_164_t (by omega)).trans ((own_ref_172_f (by omega)).trans ((own_ref_178_f (by omega)).trans (rfl))))))))))))))))))))))))).symm
  rcases Int.lt_or_le x.toInt 65534 with h27 | g27
  · clear g0 g1 g2 g3 g4 g5 g6 g7 g8 g9 g10 g11 g12 g13 g14 g15 g16 g17 g18 g19 g20 g21 g22 g23 g24 g25
    exact (show own_isc_0 x = 1 from (own_isc_0_f (by omega)).trans ((own_isc_6_t (by omega)).trans ((own_isc_12_f (by omega)).trans ((own_isc_18_f (by omega)).trans ((own_isc_24_t (by omega)).trans ((own_isc_30_f (by omega)).trans ((own_isc_37_t (by omega)).trans ((own_isc_44_f (by omega)).trans ((own_isc_51_t (by omega)).trans ((own_isc_58_f (by omega)).trans ((own_isc_65_t (by omega)).trans ((own_isc_72_f (by omega)).trans ((own_isc_79_t (by omega)).trans ((own_isc_86_f (by omega)).trans ((own_isc_93_t (by omega)).trans ((own_isc_100_f (by omega)).trans ((own_isc_107_t (by omega)).trans ((own_isc_114_f (by omega)).trans ((own_isc_121_t (by omega)).trans ((own_isc_128_f (by omega)).trans ((own_isc_135_t (by omega)).trans ((own_isc_142_f (by omega)).trans ((own_isc_149_t (by omega)).trans ((own_isc_155_f (by omega)).trans ((own_isc_161_t (by omega)).trans ((own_isc_167_f (by omega)).trans ((own_isc_173_f (by omega)).trans (rfl)))))))))))))))))))))))))))).trans (show own_ref_0 x = 1 from (own_ref_0_f (by omega)).trans ((own_ref_6_f (by omega)).trans ((own_ref_14_f (by omega)).trans ((own_ref_20_t (by omega)).trans ((own_ref_28_f (by omega)).trans ((own_ref_36_f (by omega)).trans ((own_ref_42_t (by omega)).trans ((own_ref_51_f (by omega)).trans ((own_ref_60_f (by omega)).trans ((own_ref_69_f (by omega)).trans ((own_ref_76_t (by omega)).trans ((own_ref_85_f (by omega)).trans ((own_ref_94_f (by omega)).trans ((own_ref_101_t (by omega)).trans ((own_ref_110_f (by omega)).trans ((own_ref_117_t (by omega)).trans ((own_ref_126_f (by omega)).trans ((own_ref_133_t (by omega)).trans ((own_ref_142_f (by omega)).trans ((own_ref_149_t (by omega)).trans ((own_ref_158_f (by omega)).trans ((own_ref_164_t (by omega)).trans ((own_ref_172_f (by omega)).trans ((own_ref_178_t (by omega)).trans ((own_ref_186_t (by omega)).trans (rfl)))))))))))))))))))))))))).symm
  rcases Int.lt_or_le x.toInt 65536 with h28 | g28
  · clear g0 g1 g2 g3 g4 g5 g6 g7 g8 g9 g10 g11 g12 g13 g14 g15 g16 g17 g18 g19 g20 g21 g22 g23 g24 g25 g26
    exact (show own_isc_0 x = 0 from (own_isc_0_f (by omega)).trans ((own_isc_6_t (by omega)).trans ((own_isc_12_f (by omega)).trans ((own_isc_18_f (by omega)).trans ((own_isc_24_t (by omega)).trans ((own_isc_30_f (by omega)).trans ((own_isc_37_t (by omega)).trans ((own_isc_44_f (by omega)).trans ((own_isc_51_t (by omega)).trans ((own_isc_58_f (by omega)).trans ((own_isc_65_t (by omega)).trans ((own_isc_72_f (by omega)).trans ((own_isc_79_t (by omega)).trans ((own_isc_86_f (by omega)).trans ((own_isc_93_t (by omega)).trans ((own_isc_100_f (by omega)).trans ((own_isc_107_t (by omega)).trans ((own_isc_114_f (by omega)).trans ((own_isc_121_t (by omega)).trans ((own_isc_128_f (by omega)).trans ((own_isc_135_t (by omega)).trans ((own_isc_142_f (by omega)).trans ((own_isc_149_t (by omega)).trans ((own_isc_155_f (by omega)).trans ((own_isc_161_t (by omega)).trans ((own_isc_167_f (by omega)).trans ((own_isc_173_t (by omega)).trans ((own_isc_179_t (by omega)).trans (rfl))))))))))))))))))))))))))))).trans (show own_ref_0 x = 0 from (own_ref_0_f (by omega)).trans ((own_ref_6_f (by omega)).trans ((own_ref_14_f (by omega)).trans ((own_ref_20_t (by omega)).trans ((own_ref_28_f (by omega)).trans ((own_ref_36_f (by omega)).trans ((own_ref_42_t (by omega)).trans ((own_ref_51_f (by omega)).trans ((own_ref_60_f (by omega)).trans ((own_ref_69_f (by omega)).trans ((own_ref_76_t (by omega)).trans ((own_ref_85_f (by omega)).trans ((own_ref_94_f (by omega)).trans ((own_ref_101_t (by omega)).trans ((own_ref_110_f (by omega)).trans ((own_ref_117_t (by omega)).trans ((own_ref_126_f (by omega)).trans ((own_ref_133_t (by omega)).trans ((own_ref_142_f (by omega)).trans ((own_ref_149_t (by omega)).trans ((own_ref_158_f (by omega)).trans ((own_ref_164_t (by omega)).trans ((own_ref_172_f (by omega)).trans ((own_ref_178_t (by omega)).trans ((own_ref_186_f (by omega)).trans ((own_ref_192_f (by omega)).trans (rfl))))))))))))))))))))))))))).symm
  rcases Int.lt_or_le x.toInt 983040 with h29 | g29
  · clear g0 g1 g2 g3 g4 g5 g6 g7 g8 g9 g10 g11 g12 g13 g14 g15 g16 g17 g18 g19 g20 g21 g22 g23 g24 g25 g26 g27
    exact (show own_isc_0 x = 1 from (own_isc_0_f (by omega)).trans ((own_isc_6_t (by omega)).trans ((own_isc_12_f (by omega)).trans ((own_isc_18_f (by omega)).trans ((own_isc_24_t (by omega)).trans ((own_isc_30_f (by omega)).trans ((own_isc_37_t (by omega)).trans ((own_isc_44_f (by omega)).trans ((own_isc_51_t (by omega)).trans ((own_isc_58_f (by omega)).trans ((own_isc_65_t (by omega)).trans ((own_isc_72_f (by omega)).trans ((own_isc_79_t (by omega)).trans ((own_isc_86_f (by omega)).trans ((own_isc_93_t (by omega)).trans ((own_isc_100_f (by omega)).trans ((own_isc_107_t (by omega)).trans ((own_isc_114_f (by omega)).trans ((own_isc_121_t (by omega)).trans ((own_isc_128_f (by omega)).trans ((own_isc_135_t (by omega)).trans ((own_isc_142_f (by omega)).trans ((own_isc_149_t (by omega)).trans ((own_isc_155_f (by omega)).trans ((own_isc_161_t (by omega)).trans ((own_isc_167_f (by omega)).trans ((own_isc_173_t (by omega)).trans ((own_isc_179_f (by omega)).trans ((own_isc_185_f (by omega)).trans (rfl)))))))))))))))))))))))))))))).trans (show own_ref_0 x = 1 from (own_ref_0_f (by omega)).trans ((own_ref_6_f (by omega)).trans ((own_ref_14_f (by omega)).trans ((own_ref_20_t (by omega)).trans ((own_ref_28_f (by omega)).trans ((own_ref_36_f (by omega)).trans ((own_ref_42_t (by omega)).trans ((own_ref_51_f (by omega)).trans ((own_ref_60_f (by omega)).trans ((own_ref_69_f (by omega)).trans ((own_ref_76_t (by omega)).trans ((own_ref_85_f (by omega)).trans ((own_ref_94_f (by omega)).trans ((own_ref_101_t (by omega)).trans ((own_ref_110_f (by omega)).trans ((own_ref_117_t (by omega)).trans ((own_ref_126_f (by omega)).trans ((own_ref_133_t (by omega)).trans ((own_ref_142_f (by omega)).trans ((own_ref_149_t (by omega)).trans ((own_ref_158_f (by omega)).trans ((own_ref_164_t (by omega)).trans ((own_ref_172_f (by omega)).trans ((own_ref_178_t (by omega)).trans ((own_ref_186_f (by omega)).trans ((own_ref_192_t (by omega)).trans (rfl))))))))))))))))))))))))))).symm
  exact (show own_isc_0 x = 0 from (own_isc_0_f (by omega)).trans ((own_isc_6_t (by omega)).trans ((own_isc_12_f (by omega)).trans ((own_isc_18_f (by omega)).trans ((own_isc_24_t (by omega)).trans ((own_isc_30_f (by omega)).trans ((own_isc_37_t (by omega)).trans ((own_isc_44_f (by omega)).trans ((own_isc_51_t (by omega)).trans ((own_isc_58_f (by omega)).trans ((own_isc_65_t (by omega)).trans ((own_isc_72_f (by omega)).trans ((own_isc_79_t (by omega)).trans ((own_isc_86_f (by omega)).trans ((own_isc_93_t (by omega)).trans ((own_isc_100_f (by omega)).trans ((own_isc_107_t (by omega)).trans ((own_isc_114_f (by omega)).trans ((own_isc_121_t (by omega)).trans ((own_isc_128_f (by omega)).trans ((own_isc_135_t (by omega)).trans ((own_isc_142_f (by omega)).trans ((own_isc_149_t (by omega)).trans ((own_isc_155_f (by omega)).trans ((own_isc_161_t (by omega)).trans ((own_isc_167_f (by omega)).trans ((own_isc_173_t (by omega)).trans ((own_isc_179_f (by omega)).trans ((own_isc_185_t (by omega)).trans (rfl)))))))))))))))))))))))))))))).trans (show own_ref_0 x = 0 from (own_ref_0_f (by omega)).trans ((own_ref_6_t (by omega)).trans (rfl))).symm
theorem own_idx (x : Int32) : ¬ (x &&& (31 : Int32)) < 0 ∧ (x &&& (31 : Int32)).toNatClampNeg < 32 := by
  have h : (x &&& (31 : Int32)).toBitVec.toNat ≤ 31 := by
    rw [Int32.toBitVec_and, BitVec.toNat_and]
    exact Nat.and_le_right
  have e : (x &&& (31 : Int32)).toInt = ((x &&& (31 : Int32)).toBitVec.toNat : Int) := BitVec.toInt_eq_toNat_of_lt (by omega)
  have z : (0 : Int32).toInt = 0 := by decide
  constructor
  · rw [Int32.lt_iff_toInt_lt, e, z]
    omega
  · show (x &&& (31 : Int32)).toInt.toNat < 32
    rw [e]
    omega
theorem own_setSlot (c : Cell) (j : Nat) (v : Value) : (c.setSlot j v).slots = c.slots.setIfInBounds j v := rfl
def own_Ints (Z : State) (h : Heap) (b : Addr) (N : Nat) : Prop := ∃ cl : Cell, Arr Z h b cl .int ∧ cl.slots.size = N ∧ ∀ k, k < N → ∃ w : Int32, cl.slots[k]? = some (.int w)
theorem own_store {p : Program} {l : Launch} {e : Env} {R : Room} {s : State} {m : MethodId} {args : Array Value} {below : List Frame} {meth : Method} {c : Code} {T : State} {locs : List Loc} {cells slots : Nat} {Z : State} {n0 : Nat} {b : Addr} {N : Nat} (X : Stand p l e R s m args below meth c T locs cells slots) (hx : p.tables.exec = Jvm.exec) (hZ : Z.Warmed39 s.vm) (F : Fr n0 locs) (gb : n0 ≤ b) (G : own_Ints Z T.heap b N) (pc : Nat) (Ls : Array Slot) (rest : List Value) (j v : Int32) (hj : ¬ j < 0) (hj2 : j.toNatClampNeg < N) (hd : decode c.code pc = .ok (.iastore, 1)) :
    ∃ (T' : State) (locs' : List Loc), Stand p l e R s m args below meth c T' locs' cells slots ∧ Fr n0 locs' ∧ own_Ints Z T'.heap b N ∧ ∀ target, Steps p.tables e below (T'.setTop (mkF m (pc + 1) Ls rest)) target → Steps p.tables e below (T.setTop (mkF m pc Ls (.int v :: .int j :: .ref b :: rest))) target := by
  obtain ⟨cl, Ar, S, H⟩ := G
  have hin : ¬ (j < 0 ∨ cl.slots.size ≤ j.toNatClampNeg) := fun q => q.elim hj (fun q => by omega)
  obtain ⟨T', h', X', e', W', st'⟩ := stI X hx hZ rfl Ar (j := j) (x := v) hin (g := mkF m pc Ls (.int v :: .int j :: .ref b :: rest)) rfl rfl hd
  refine ⟨T', _, X', Fr.snoc X' F gb, ?_, st'⟩
  rw [e']
  refine ⟨_, Ar.same W', by rw [sz_set]; exact S, fun k hk => ?_⟩
  rw [own_setSlot, Array.getElem?_setIfInBounds]
  by_cases q : j.toNatClampNeg = k
  · rw [if_pos q, if_pos (by omega)]
    exact ⟨v, rfl⟩
  · rw [if_neg q]
    exact H k hk
theorem own_fresh {Z : State} {h : Heap} {b : Addr} {cA : ClassId} {n : Int32} {N : Nat} (A : Arr Z h b (newA cA .int n) .int) (hn : n.toNatClampNeg = N) : own_Ints Z h b N := by
  refine ⟨_, A, by rw [sz_new]; exact hn, fun k hk => ⟨0, ?_⟩⟩
  show (Array.replicate n.toNatClampNeg (defaultValue .int))[k]? = some (.int 0)
  rw [Array.getElem?_replicate, if_pos (by omega)]
  rfl
theorem pn_0 : plainName "com/example/kellar/kellar/XmlCharsIsNameStartCharPinLaw" = true := by first | (simp [plainName, overriddenIn]; done) | decide +kernel
theorem ef_0 (m : MethodId) (x0 : Int32) (x1 : Int32) (x2 : Int32) : entryFrame m #[(.int x0), (.int x1), (.int x2)] maxLocals = mkF m 0 #[.val (.int x0), .val (.int x1), .val (.int x2), .unset, .unset, .unset, .unset] [] := by first | (simp [entryFrame, mkF, argsToLocals, Value.category, maxLocals]; done) | rfl
def Q0 (Z : State) (p1 p2 p3 : Int32) (h0 : Heap) (n0 : Nat) (v : Option Value) (h : Heap) (L : List Loc) : Prop := v = some (.int 1) ∧ Fr n0 L
set_option maxRecDepth 65536 in
set_option maxHeartbeats 40000000 in
theorem rm0 (l : Launch) (Z : State) (a0 : Array Value) (hw : ∀ d ∈ tables_1, d.before a0 Z = true) (ws : List Jvm.Cond) (p1 p2 p3 : Int32) (h0 : Heap) (n0 : Nat) (Z0 : n0 ≤ h0.size)  :
    MetFree l x (head1 (Jvm.Cond.code x code maxLocals ret :: ws) room_1) (fun aa U => aa = #[(.int p1), (.int p2), (.int p3)] ∧ Z.Warmed39 U.vm ∧ U.heap = h0) (fun _ _ _ _ _ => True) (fun _ U o U' => ∃ v L, o = .returned v ∧ Q0 Z p1 p2 p3 h0 n0 v U'.heap L ∧ FrameEnd U o U' L room_1.cells room_1.slots) := by
  refine MetFree.of_bodySF (plainFor_of_name pn_0) hisR ?_
  intro p e s m args below meth c s₁ Bd hml0 hP hK
  obtain ⟨rfl, hZ, hh⟩ := hP
  have hx := Bd.exec
  have hby := Bd.bytes
  have hml : c.maxLocals = 7 := hml0
  have hown : s.vm.findClass "com/example/kellar/kellar/XmlCharsIsNameStartCharPinLaw" = some m.cls := findClass_of_methodNamed Bd.named
  have hnm := (name_of_methodNamed Bd.named Bd.method).1
  have X0 : Stand p l e room_1 s m #[(.int p1), (.int p2), (.int p3)] below meth c s₁ [] 0 0 := Stand.of_body Bd
  have e0 : s₁.heap = h0 := by rw [← hh, Bd.state]; rfl
  have N0 := Fr.nil n0
  have pre0 : ∀ t, Steps p.tables e below (s₁.setTop (mkF m 0 #[.val (.int p1), .val (.int p2), .val (.int p3), .unset, .unset, .unset, .unset] [])) t → Steps p.tables e below (s₁.setTop (entryFrame m #[(.int p1), (.int p2), (.int p3)] maxLocals)) t := fun t k => castTop (ef_0 m p1 p2 p3) k
  have s1 : ∀ t, Steps p.tables e below (s₁.setTop (mkF m 2 #[.val (.int p1), .val (.int p2), .val (.int p3), .unset, .unset, .unset, .unset] [(.int (32 : Int32))])) t → Steps p.tables e below (s₁.setTop (mkF m 0 #[.val (.int p1), .val (.int p2), .val (.int p3), .unset, .unset, .unset, .unset] [])) t := by
    intro t k
    show Steps p.tables e below (s₁.setTop (mkF m 0 #[.val (.int p1), .val (.int p2), .val (.int p3), .unset, .unset, .unset, .unset] [])) _
    refine XS.bipush X0.here hx rfl (hb hby at_0) ?_
    show Steps p.tables e below (s₁.setTop (mkF m 2 #[.val (.int p1), .val (.int p2), .val (.int p3), .unset, .unset, .unset, .unset] [(.int (32 : Int32))])) _
    exact k
  obtain ⟨T2, h2, k2, X2, e2, E2, A2, st2⟩ := newP X0 hx hZ (hw _ (List.mem_of_getElem? (i := 0) rfl)) e0 (g := (mkF m 2 #[.val (.int p1), .val (.int p2), .val (.int p3), .unset, .unset, .unset, .unset] [(.int (32 : Int32))])) rfl (hb hby at_2) rfl (by decide) (cap := 32) (by decide) (by decide) (by decide) (by decide)
  obtain ⟨b2, g2⟩ : ∃ z, z = h0.size := ⟨_, rfl⟩
  rw [← g2] at A2 st2
  have gb : n0 ≤ b2 := Nat.le_trans Z0 (Nat.le_of_eq g2.symm)
  have G2 : own_Ints Z T2.heap b2 32 := by rw [e2]; exact own_fresh A2 (by decide)
  have N2 := N0
  have r2 : ∀ t, Steps p.tables e below (T2.setTop (mkF m 4 #[.val (.int p1), .val (.int p2), .val (.int p3), .unset, .unset, .unset, .unset] [(.ref b2)])) t → Steps p.tables e below (s₁.setTop (mkF m 0 #[.val (.int p1), .val (.int p2), .val (.int p3), .unset, .unset, .unset, .unset] [])) t := fun t k => s1 t (st2 t k)
  have s2 : ∀ t, Steps p.tables e below (T2.setTop (mkF m 8 #[.val (.int p1), .val (.int p2), .val (.int p3), .unset, .unset, .unset, .unset] [(.int (65 : Int32)), (.int (0 : Int32)), (.ref b2), (.ref b2)])) t → Steps p.tables e below (T2.setTop (mkF m 4 #[.val (.int p1), .val (.int p2), .val (.int p3), .unset, .unset, .unset, .unset] [(.ref b2)])) t := by
    intro t k
    show Steps p.tables e below (T2.setTop (mkF m 4 #[.val (.int p1), .val (.int p2), .val (.int p3), .unset, .unset, .unset, .unset] [(.ref b2)])) _
    refine XS.dup X2.here hx rfl (hb hby at_4) rfl rfl ?_
    show Steps p.tables e below (T2.setTop (mkF m 5 #[.val (.int p1), .val (.int p2), .val (.int p3), .unset, .unset, .unset, .unset] [(.ref b2), (.ref b2)])) _
    refine XS.iconst X2.here hx rfl (hb hby at_5) ?_
    show Steps p.tables e below (T2.setTop (mkF m 6 #[.val (.int p1), .val (.int p2), .val (.int p3), .unset, .unset, .unset, .unset] [(.int (0 : Int32)), (.ref b2), (.ref b2)])) _
    refine XS.bipush X2.here hx rfl (hb hby at_6) ?_
    show Steps p.tables e below (T2.setTop (mkF m 8 #[.val (.int p1), .val (.int p2), .val (.int p3), .unset, .unset, .unset, .unset] [(.int (65 : Int32)), (.int (0 : Int32)), (.ref b2), (.ref b2)])) _
    exact k
  obtain ⟨T3, L3, X3, N3, G3, st3⟩ := own_store X2 hx hZ N2 gb G2 8 #[.val (.int p1), .val (.int p2), .val (.int p3), .unset, .unset, .unset, .unset] [(.ref b2)] (0 : Int32) (65 : Int32) (by decide) (by decide) (hb hby at_8)
  have r3 : ∀ t, Steps p.tables e below (T3.setTop (mkF m 9 #[.val (.int p1), .val (.int p2), .val (.int p3), .unset, .unset, .unset, .unset] [(.ref b2)])) t → Steps p.tables e below (s₁.setTop (mkF m 0 #[.val (.int p1), .val (.int p2), .val (.int p3), .unset, .unset, .unset, .unset] [])) t := fun t k => r2 t (s2 t (st3 t k))
  clear r2 s2 st3
  have s3 : ∀ t, Steps p.tables e below (T3.setTop (mkF m 13 #[.val (.int p1), .val (.int p2), .val (.int p3), .unset, .unset, .unset, .unset] [(.int (90 : Int32)), (.int (1 : Int32)), (.ref b2), (.ref b2)])) t → Steps p.tables e below (T3.setTop (mkF m 9 #[.val (.int p1), .val (.int p2), .val (.int p3), .unset, .unset, .unset, .unset] [(.ref b2)])) t := by
    intro t k
    show Steps p.tables e below (T3.setTop (mkF m 9 #[.val (.int p1), .val (.int p2), .val (.int p3), .unset, .unset, .unset, .unset] [(.ref b2)])) _
    refine XS.dup X3.here hx rfl (hb hby at_9) rfl rfl ?_
    show Steps p.tables e below (T3.setTop (mkF m 10 #[.val (.int p1), .val (.int p2), .val (.int p3), .unset, .unset, .unset, .unset] [(.ref b2), (.ref b2)])) _
    refine XS.iconst X3.here hx rfl (hb hby at_10) ?_
    show Steps p.tables e below (T3.setTop (mkF m 11 #[.val (.int p1), .val (.int p2), .val (.int p3), .unset, .unset, .unset, .unset] [(.int (1 : Int32)), (.ref b2), (.ref b2)])) _
    refine XS.bipush X3.here hx rfl (hb hby at_11) ?_
    show Steps p.tables e below (T3.setTop (mkF m 13 #[.val (.int p1), .val (.int p2), .val (.int p3), .unset, .unset, .unset, .unset] [(.int (90 : Int32)), (.int (1 : Int32)), (.ref b2), (.ref b2)])) _
    exact k
  obtain ⟨T4, L4, X4, N4, G4, st4⟩ := own_store X3 hx hZ N3 gb G3 13 #[.val (.int p1), .val (.int p2), .val (.int p3), .unset, .unset, .unset, .unset] [(.ref b2)] (1 : Int32) (90 : Int32) (by decide) (by decide) (hb hby at_13)
  have r4 : ∀ t, Steps p.tables e below (T4.setTop (mkF m 14 #[.val (.int p1), .val (.int p2), .val (.int p3), .unset, .unset, .unset, .unset] [(.ref b2)])) t → Steps p.tables e below (s₁.setTop (mkF m 0 #[.val (.int p1), .val (.int p2), .val (.int p3), .unset, .unset, .unset, .unset] [])) t := fun t k => r3 t (s3 t (st4 t k))
  clear r3 s3 st4
  clear G3 X3
  have s4 : ∀ t, Steps p.tables e below (T4.setTop (mkF m 18 #[.val (.int p1), .val (.int p2), .val (.int p3), .unset, .unset, .unset, .unset] [(.int (95 : Int32)), (.int (2 : Int32)), (.ref b2), (.ref b2)])) t → Steps p.tables e below (T4.setTop (mkF m 14 #[.val (.int p1), .val (.int p2), .val (.int p3), .unset, .unset, .unset, .unset] [(.ref b2)])) t := by
    intro t k
    show Steps p.tables e below (T4.setTop (mkF m 14 #[.val (.int p1), .val (.int p2), .val (.int p3), .unset, .unset, .unset, .unset] [(.ref b2)])) _
    refine XS.dup X4.here hx rfl (hb hby at_14) rfl rfl ?_
    show Steps p.tables e below (T4.setTop (mkF m 15 #[.val (.int p1), .val (.int p2), .val (.int p3), .unset, .unset, .unset, .unset] [(.ref b2), (.ref b2)])) _
    refine XS.iconst X4.here hx rfl (hb hby at_15) ?_
    show Steps p.tables e below (T4.setTop (mkF m 16 #[.val (.int p1), .val (.int p2), .val (.int p3), .unset, .unset, .unset, .unset] [(.int (2 : Int32)), (.ref b2), (.ref b2)])) _
    refine XS.bipush X4.here hx rfl (hb hby at_16) ?_
    show Steps p.tables e below (T4.setTop (mkF m 18 #[.val (.int p1), .val (.int p2), .val (.int p3), .unset, .unset, .unset, .unset] [(.int (95 : Int32)), (.int (2 : Int32)), (.ref b2), (.ref b2)])) _
    exact k
  obtain ⟨T5, L5, X5, N5, G5, st5⟩ := own_store X4 hx hZ N4 gb G4 18 #[.val (.int p1), .val (.int p2), .val (.int p3), .unset, .unset, .unset, .unset] [(.ref b2)] (2 : Int32) (95 : Int32) (by decide) (by decide) (hb hby at_18)
  have r5 : ∀ t, Steps p.tables e below (T5.setTop (mkF m 19 #[.val (.int p1), .val (.int p2), .val (.int p3), .unset, .unset, .unset, .unset] [(.ref b2)])) t → Steps p.tables e below (s₁.setTop (mkF m 0 #[.val (.int p1), .val (.int p2), .val (.int p3), .unset, .unset, .unset, .unset] [])) t := fun t k => r4 t (s4 t (st5 t k))
  clear r4 s4 st5
  clear G4 X4
  have s5 : ∀ t, Steps p.tables e below (T5.setTop (mkF m 23 #[.val (.int p1), .val (.int p2), .val (.int p3), .unset, .unset, .unset, .unset] [(.int (97 : Int32)), (.int (3 : Int32)), (.ref b2), (.ref b2)])) t → Steps p.tables e below (T5.setTop (mkF m 19 #[.val (.int p1), .val (.int p2), .val (.int p3), .unset, .unset, .unset, .unset] [(.ref b2)])) t := by
    intro t k
    show Steps p.tables e below (T5.setTop (mkF m 19 #[.val (.int p1), .val (.int p2), .val (.int p3), .unset, .unset, .unset, .unset] [(.ref b2)])) _
    refine XS.dup X5.here hx rfl (hb hby at_19) rfl rfl ?_
    show Steps p.tables e below (T5.setTop (mkF m 20 #[.val (.int p1), .val (.int p2), .val (.int p3), .unset, .unset, .unset, .unset] [(.ref b2), (.ref b2)])) _
    refine XS.iconst X5.here hx rfl (hb hby at_20) ?_
    show Steps p.tables e below (T5.setTop (mkF m 21 #[.val (.int p1), .val (.int p2), .val (.int p3), .unset, .unset, .unset, .unset] [(.int (3 : Int32)), (.ref b2), (.ref b2)])) _
    refine XS.bipush X5.here hx rfl (hb hby at_21) ?_
    show Steps p.tables e below (T5.setTop (mkF m 23 #[.val (.int p1), .val (.int p2), .val (.int p3), .unset, .unset, .unset, .unset] [(.int (97 : Int32)), (.int (3 : Int32)), (.ref b2), (.ref b2)])) _
    exact k
  obtain ⟨T6, L6, X6, N6, G6, st6⟩ := own_store X5 hx hZ N5 gb G5 23 #[.val (.int p1), .val (.int p2), .val (.int p3), .unset, .unset, .unset, .unset] [(.ref b2)] (3 : Int32) (97 : Int32) (by decide) (by decide) (hb hby at_23)
  have r6 : ∀ t, Steps p.tables e below (T6.setTop (mkF m 24 #[.val (.int p1), .val (.int p2), .val (.int p3), .unset, .unset, .unset, .unset] [(.ref b2)])) t → Steps p.tables e below (s₁.setTop (mkF m 0 #[.val (.int p1), .val (.int p2), .val (.int p3), .unset, .unset, .unset, .unset] [])) t := fun t k => r5 t (s5 t (st6 t k))
  clear r5 s5 st6
  clear G5 X5
  have s6 : ∀ t, Steps p.tables e below (T6.setTop (mkF m 28 #[.val (.int p1), .val (.int p2), .val (.int p3), .unset, .unset, .unset, .unset] [(.int (122 : Int32)), (.int (4 : Int32)), (.ref b2), (.ref b2)])) t → Steps p.tables e below (T6.setTop (mkF m 24 #[.val (.int p1), .val (.int p2), .val (.int p3), .unset, .unset, .unset, .unset] [(.ref b2)])) t := by
    intro t k
    show Steps p.tables e below (T6.setTop (mkF m 24 #[.val (.int p1), .val (.int p2), .val (.int p3), .unset, .unset, .unset, .unset] [(.ref b2)])) _
    refine XS.dup X6.here hx rfl (hb hby at_24) rfl rfl ?_
    show Steps p.tables e below (T6.setTop (mkF m 25 #[.val (.int p1), .val (.int p2), .val (.int p3), .unset, .unset, .unset, .unset] [(.ref b2), (.ref b2)])) _
    refine XS.iconst X6.here hx rfl (hb hby at_25) ?_
    show Steps p.tables e below (T6.setTop (mkF m 26 #[.val (.int p1), .val (.int p2), .val (.int p3), .unset, .unset, .unset, .unset] [(.int (4 : Int32)), (.ref b2), (.ref b2)])) _
    refine XS.bipush X6.here hx rfl (hb hby at_26) ?_
    show Steps p.tables e below (T6.setTop (mkF m 28 #[.val (.int p1), .val (.int p2), .val (.int p3), .unset, .unset, .unset, .unset] [(.int (122 : Int32)), (.int (4 : Int32)), (.ref b2), (.ref b2)])) _
    exact k
  obtain ⟨T7, L7, X7, N7, G7, st7⟩ := own_store X6 hx hZ N6 gb G6 28 #[.val (.int p1), .val (.int p2), .val (.int p3), .unset, .unset, .unset, .unset] [(.ref b2)] (4 : Int32) (122 : Int32) (by decide) (by decide) (hb hby at_28)
  have r7 : ∀ t, Steps p.tables e below (T7.setTop (mkF m 29 #[.val (.int p1), .val (.int p2), .val (.int p3), .unset, .unset, .unset, .unset] [(.ref b2)])) t → Steps p.tables e below (s₁.setTop (mkF m 0 #[.val (.int p1), .val (.int p2), .val (.int p3), .unset, .unset, .unset, .unset] [])) t := fun t k => r6 t (s6 t (st7 t k))
  clear r6 s6 st7
  clear G6 X6
  have s7 : ∀ t, Steps p.tables e below (T7.setTop (mkF m 34 #[.val (.int p1), .val (.int p2), .val (.int p3), .unset, .unset, .unset, .unset] [(.int (192 : Int32)), (.int (5 : Int32)), (.ref b2), (.ref b2)])) t → Steps p.tables e below (T7.setTop (mkF m 29 #[.val (.int p1), .val (.int p2), .val (.int p3), .unset, .unset, .unset, .unset] [(.ref b2)])) t := by
    intro t k
    show Steps p.tables e below (T7.setTop (mkF m 29 #[.val (.int p1), .val (.int p2), .val (.int p3), .unset, .unset, .unset, .unset] [(.ref b2)])) _
    refine XS.dup X7.here hx rfl (hb hby at_29) rfl rfl ?_
    show Steps p.tables e below (T7.setTop (mkF m 30 #[.val (.int p1), .val (.int p2), .val (.int p3), .unset, .unset, .unset, .unset] [(.ref b2), (.ref b2)])) _
    refine XS.iconst X7.here hx rfl (hb hby at_30) ?_
    show Steps p.tables e below (T7.setTop (mkF m 31 #[.val (.int p1), .val (.int p2), .val (.int p3), .unset, .unset, .unset, .unset] [(.int (5 : Int32)), (.ref b2), (.ref b2)])) _
    refine XS.sipush X7.here hx rfl (hb hby at_31) ?_
    show Steps p.tables e below (T7.setTop (mkF m 34 #[.val (.int p1), .val (.int p2), .val (.int p3), .unset, .unset, .unset, .unset] [(.int (192 : Int32)), (.int (5 : Int32)), (.ref b2), (.ref b2)])) _
    exact k
  obtain ⟨T8, L8, X8, N8, G8, st8⟩ := own_store X7 hx hZ N7 gb G7 34 #[.val (.int p1), .val (.int p2), .val (.int p3), .unset, .unset, .unset, .unset] [(.ref b2)] (5 : Int32) (192 : Int32) (by decide) (by decide) (hb hby at_34)
  have r8 : ∀ t, Steps p.tables e below (T8.setTop (mkF m 35 #[.val (.int p1), .val (.int p2), .val (.int p3), .unset, .unset, .unset, .unset] [(.ref b2)])) t → Steps p.tables e below (s₁.setTop (mkF m 0 #[.val (.int p1), .val (.int p2), .val (.int p3), .unset, .unset, .unset, .unset] [])) t := fun t k => r7 t (s7 t (st8 t k))
  clear r7 s7 st8
  clear G7 X7
  have s8 : ∀ t, Steps p.tables e below (T8.setTop (mkF m 41 #[.val (.int p1), .val (.int p2), .val (.int p3), .unset, .unset, .unset, .unset] [(.int (214 : Int32)), (.int (6 : Int32)), (.ref b2), (.ref b2)])) t → Steps p.tables e below (T8.setTop (mkF m 35 #[.val (.int p1), .val (.int p2), .val (.int p3), .unset, .unset, .unset, .unset] [(.ref b2)])) t := by
    intro t k
    show Steps p.tables e below (T8.setTop (mkF m 35 #[.val (.int p1), .val (.int p2), .val (.int p3), .unset, .unset, .unset, .unset] [(.ref b2)])) _
    refine XS.dup X8.here hx rfl (hb hby at_35) rfl rfl ?_
    show Steps p.tables e below (T8.setTop (mkF m 36 #[.val (.int p1), .val (.int p2), .val (.int p3), .unset, .unset, .unset, .unset] [(.ref b2), (.ref b2)])) _
    refine XS.bipush X8.here hx rfl (hb hby at_36) ?_
    show Steps p.tables e below (T8.setTop (mkF m 38 #[.val (.int p1), .val (.int p2), .val (.int p3), .unset, .unset, .unset, .unset] [(.int (6 : Int32)), (.ref b2), (.ref b2)])) _
    refine XS.sipush X8.here hx rfl (hb hby at_38) ?_
    show Steps p.tables e below (T8.setTop (mkF m 41 #[.val (.int p1), .val (.int p2), .val (.int p3), .unset, .unset, .unset, .unset] [(.int (214 : Int32)), (.int (6 : Int32)), (.ref b2), (.ref b2)])) _
    exact k
  obtain ⟨T9, L9, X9, N9, G9, st9⟩ := own_store X8 hx hZ N8 gb G8 41 #[.val (.int p1), .val (.int p2), .val (.int p3), .unset, .unset, .unset, .unset] [(.ref b2)] (6 : Int32) (214 : Int32) (by decide) (by decide) (hb hby at_41)
  have r9 : ∀ t, Steps p.tables e below (T9.setTop (mkF m 42 #[.val (.int p1), .val (.int p2), .val (.int p3), .unset, .unset, .unset, .unset] [(.ref b2)])) t → Steps p.tables e below (s₁.setTop (mkF m 0 #[.val (.int p1), .val (.int p2), .val (.int p3), .unset, .unset, .unset, .unset] [])) t := fun t k => r8 t (s8 t (st9 t k))
  clear r8 s8 st9
  clear G8 X8
  have s9 : ∀ t, Steps p.tables e below (T9.setTop (mkF m 48 #[.val (.int p1), .val (.int p2), .val (.int p3), .unset, .unset, .unset, .unset] [(.int (216 : Int32)), (.int (7 : Int32)), (.ref b2), (.ref b2)])) t → Steps p.tables e below (T9.setTop (mkF m 42 #[.val (.int p1), .val (.int p2), .val (.int p3), .unset, .unset, .unset, .unset] [(.ref b2)])) t := by
    intro t k
    show Steps p.tables e below (T9.setTop (mkF m 42 #[.val (.int p1), .val (.int p2), .val (.int p3), .unset, .unset, .unset, .unset] [(.ref b2)])) _
    refine XS.dup X9.here hx rfl (hb hby at_42) rfl rfl ?_
    show Steps p.tables e below (T9.setTop (mkF m 43 #[.val (.int p1), .val (.int p2), .val (.int p3), .unset, .unset, .unset, .unset] [(.ref b2), (.ref b2)])) _
    refine XS.bipush X9.here hx rfl (hb hby at_43) ?_
    show Steps p.tables e below (T9.setTop (mkF m 45 #[.val (.int p1), .val (.int p2), .val (.int p3), .unset, .unset, .unset, .unset] [(.int (7 : Int32)), (.ref b2), (.ref b2)])) _
    refine XS.sipush X9.here hx rfl (hb hby at_45) ?_
    show Steps p.tables e below (T9.setTop (mkF m 48 #[.val (.int p1), .val (.int p2), .val (.int p3), .unset, .unset, .unset, .unset] [(.int (216 : Int32)), (.int (7 : Int32)), (.ref b2), (.ref b2)])) _
    exact k
  obtain ⟨T10, L10, X10, N10, G10, st10⟩ := own_store X9 hx hZ N9 gb G9 48 #[.val (.int p1), .val (.int p2), .val (.int p3), .unset, .unset, .unset, .unset] [(.ref b2)] (7 : Int32) (216 : Int32) (by decide) (by decide) (hb hby at_48)
  have r10 : ∀ t, Steps p.tables e below (T10.setTop (mkF m 49 #[.val (.int p1), .val (.int p2), .val (.int p3), .unset, .unset, .unset, .unset] [(.ref b2)])) t → Steps p.tables e below (s₁.setTop (mkF m 0 #[.val (.int p1), .val (.int p2), .val (.int p3), .unset, .unset, .unset, .unset] [])) t := fun t k => r9 t (s9 t (st10 t k))
  clear r9 s9 st10
  clear G9 X9
  have s10 : ∀ t, Steps p.tables e below (T10.setTop (mkF m 55 #[.val (.int p1), .val (.int p2), .val (.int p3), .unset, .unset, .unset, .unset] [(.int (246 : Int32)), (.int (8 : Int32)), (.ref b2), (.ref b2)])) t → Steps p.tables e below (T10.setTop (mkF m 49 #[.val (.int p1), .val (.int p2), .val (.int p3), .unset, .unset, .unset, .unset] [(.ref b2)])) t := by
    intro t k
    show Steps p.tables e below (T10.setTop (mkF m 49 #[.val (.int p1), .val (.int p2), .val (.int p3), .unset, .unset, .unset, .unset] [(.ref b2)])) _
    refine XS.dup X10.here hx rfl (hb hby at_49) rfl rfl ?_
    show Steps p.tables e below (T10.setTop (mkF m 50 #[.val (.int p1), .val (.int p2), .val (.int p3), .unset, .unset, .unset, .unset] [(.ref b2), (.ref b2)])) _
    refine XS.bipush X10.here hx rfl (hb hby at_50) ?_
    show Steps p.tables e below (T10.setTop (mkF m 52 #[.val (.int p1), .val (.int p2), .val (.int p3), .unset, .unset, .unset, .unset] [(.int (8 : Int32)), (.ref b2), (.ref b2)])) _
    refine XS.sipush X10.here hx rfl (hb hby at_52) ?_
    show Steps p.tables e below (T10.setTop (mkF m 55 #[.val (.int p1), .val (.int p2), .val (.int p3), .unset, .unset, .unset, .unset] [(.int (246 : Int32)), (.int (8 : Int32)), (.ref b2), (.ref b2)])) _
    exact k
  obtain ⟨T11, L11, X11, N11, G11, st11⟩ := own_store X10 hx hZ N10 gb G10 55 #[.val (.int p1), .val (.int p2), .val (.int p3), .unset, .unset, .unset, .unset] [(.ref b2)] (8 : Int32) (246 : Int32) (by decide) (by decide) (hb hby at_55)
  have r11 : ∀ t, Steps p.tables e below (T11.setTop (mkF m 56 #[.val (.int p1), .val (.int p2), .val (.int p3), .unset, .unset, .unset, .unset] [(.ref b2)])) t → Steps p.tables e below (s₁.setTop (mkF m 0 #[.val (.int p1), .val (.int p2), .val (.int p3), .unset, .unset, .unset, .unset] [])) t := fun t k => r10 t (s10 t (st11 t k))
  clear r10 s10 st11
  clear G10 X10
  have s11 : ∀ t, Steps p.tables e below (T11.setTop (mkF m 62 #[.val (.int p1), .val (.int p2), .val (.int p3), .unset, .unset, .unset, .unset] [(.int (248 : Int32)), (.int (9 : Int32)), (.ref b2), (.ref b2)])) t → Steps p.tables e below (T11.setTop (mkF m 56 #[.val (.int p1), .val (.int p2), .val (.int p3), .unset, .unset, .unset, .unset] [(.ref b2)])) t := by
    intro t k
    show Steps p.tables e below (T11.setTop (mkF m 56 #[.val (.int p1), .val (.int p2), .val (.int p3), .unset, .unset, .unset, .unset] [(.ref b2)])) _
    refine XS.dup X11.here hx rfl (hb hby at_56) rfl rfl ?_
    show Steps p.tables e below (T11.setTop (mkF m 57 #[.val (.int p1), .val (.int p2), .val (.int p3), .unset, .unset, .unset, .unset] [(.ref b2), (.ref b2)])) _
    refine XS.bipush X11.here hx rfl (hb hby at_57) ?_
    show Steps p.tables e below (T11.setTop (mkF m 59 #[.val (.int p1), .val (.int p2), .val (.int p3), .unset, .unset, .unset, .unset] [(.int (9 : Int32)), (.ref b2), (.ref b2)])) _
    refine XS.sipush X11.here hx rfl (hb hby at_59) ?_
    show Steps p.tables e below (T11.setTop (mkF m 62 #[.val (.int p1), .val (.int p2), .val (.int p3), .unset, .unset, .unset, .unset] [(.int (248 : Int32)), (.int (9 : Int32)), (.ref b2), (.ref b2)])) _
    exact k
  obtain ⟨T12, L12, X12, N12, G12, st12⟩ := own_store X11 hx hZ N11 gb G11 62 #[.val (.int p1), .val (.int p2), .val (.int p3), .unset, .unset, .unset, .unset] [(.ref b2)] (9 : Int32) (248 : Int32) (by decide) (by decide) (hb hby at_62)
  have r12 : ∀ t, Steps p.tables e below (T12.setTop (mkF m 63 #[.val (.int p1), .val (.int p2), .val (.int p3), .unset, .unset, .unset, .unset] [(.ref b2)])) t → Steps p.tables e below (s₁.setTop (mkF m 0 #[.val (.int p1), .val (.int p2), .val (.int p3), .unset, .unset, .unset, .unset] [])) t := fun t k => r11 t (s11 t (st12 t k))
  clear r11 s11 st12
  clear G11 X11
  have s12 : ∀ t, Steps p.tables e below (T12.setTop (mkF m 69 #[.val (.int p1), .val (.int p2), .val (.int p3), .unset, .unset, .unset, .unset] [(.int (767 : Int32)), (.int (10 : Int32)), (.ref b2), (.ref b2)])) t → Steps p.tables e below (T12.setTop (mkF m 63 #[.val (.int p1), .val (.int p2), .val (.int p3), .unset, .unset, .unset, .unset] [(.ref b2)])) t := by
    intro t k
    show Steps p.tables e below (T12.setTop (mkF m 63 #[.val (.int p1), .val (.int p2), .val (.int p3), .unset, .unset, .unset, .unset] [(.ref b2)])) _
    refine XS.dup X12.here hx rfl (hb hby at_63) rfl rfl ?_
    show Steps p.tables e below (T12.setTop (mkF m 64 #[.val (.int p1), .val (.int p2), .val (.int p3), .unset, .unset, .unset, .unset] [(.ref b2), (.ref b2)])) _
    refine XS.bipush X12.here hx rfl (hb hby at_64) ?_
    show Steps p.tables e below (T12.setTop (mkF m 66 #[.val (.int p1), .val (.int p2), .val (.int p3), .unset, .unset, .unset, .unset] [(.int (10 : Int32)), (.ref b2), (.ref b2)])) _
    refine XS.sipush X12.here hx rfl (hb hby at_66) ?_
    show Steps p.tables e below (T12.setTop (mkF m 69 #[.val (.int p1), .val (.int p2), .val (.int p3), .unset, .unset, .unset, .unset] [(.int (767 : Int32)), (.int (10 : Int32)), (.ref b2), (.ref b2)])) _
    exact k
  obtain ⟨T13, L13, X13, N13, G13, st13⟩ := own_store X12 hx hZ N12 gb G12 69 #[.val (.int p1), .val (.int p2), .val (.int p3), .unset, .unset, .unset, .unset] [(.ref b2)] (10 : Int32) (767 : Int32) (by decide) (by decide) (hb hby at_69)
  have r13 : ∀ t, Steps p.tables e below (T13.setTop (mkF m 70 #[.val (.int p1), .val (.int p2), .val (.int p3), .unset, .unset, .unset, .unset] [(.ref b2)])) t → Steps p.tables e below (s₁.setTop (mkF m 0 #[.val (.int p1), .val (.int p2), .val (.int p3), .unset, .unset, .unset, .unset] [])) t := fun t k => r12 t (s12 t (st13 t k))
  clear r12 s12 st13
  clear G12 X12
  have s13 : ∀ t, Steps p.tables e below (T13.setTop (mkF m 76 #[.val (.int p1), .val (.int p2), .val (.int p3), .unset, .unset, .unset, .unset] [(.int (880 : Int32)), (.int (11 : Int32)), (.ref b2), (.ref b2)])) t → Steps p.tables e below (T13.setTop (mkF m 70 #[.val (.int p1), .val (.int p2), .val (.int p3), .unset, .unset, .unset, .unset] [(.ref b2)])) t := by
    intro t k
    show Steps p.tables e below (T13.setTop (mkF m 70 #[.val (.int p1), .val (.int p2), .val (.int p3), .unset, .unset, .unset, .unset] [(.ref b2)])) _
    refine XS.dup X13.here hx rfl (hb hby at_70) rfl rfl ?_
    show Steps p.tables e below (T13.setTop (mkF m 71 #[.val (.int p1), .val (.int p2), .val (.int p3), .unset, .unset, .unset, .unset] [(.ref b2), (.ref b2)])) _
    refine XS.bipush X13.here hx rfl (hb hby at_71) ?_
    show Steps p.tables e below (T13.setTop (mkF m 73 #[.val (.int p1), .val (.int p2), .val (.int p3), .unset, .unset, .unset, .unset] [(.int (11 : Int32)), (.ref b2), (.ref b2)])) _
    refine XS.sipush X13.here hx rfl (hb hby at_73) ?_
    show Steps p.tables e below (T13.setTop (mkF m 76 #[.val (.int p1), .val (.int p2), .val (.int p3), .unset, .unset, .unset, .unset] [(.int (880 : Int32)), (.int (11 : Int32)), (.ref b2), (.ref b2)])) _
    exact k
  obtain ⟨T14, L14, X14, N14, G14, st14⟩ := own_store X13 hx hZ N13 gb G13 76 #[.val (.int p1), .val (.int p2), .val (.int p3), .unset, .unset, .unset, .unset] [(.ref b2)] (11 : Int32) (880 : Int32) (by decide) (by decide) (hb hby at_76)
  have r14 : ∀ t, Steps p.tables e below (T14.setTop (mkF m 77 #[.val (.int p1), .val (.int p2), .val (.int p3), .unset, .unset, .unset, .unset] [(.ref b2)])) t → Steps p.tables e below (s₁.setTop (mkF m 0 #[.val (.int p1), .val (.int p2), .val (.int p3), .unset, .unset, .unset, .unset] [])) t := fun t k => r13 t (s13 t (st14 t k))
  clear r13 s13 st14
  clear G13 X13
  have s14 : ∀ t, Steps p.tables e below (T14.setTop (mkF m 83 #[.val (.int p1), .val (.int p2), .val (.int p3), .unset, .unset, .unset, .unset] [(.int (893 : Int32)), (.int (12 : Int32)), (.ref b2), (.ref b2)])) t → Steps p.tables e below (T14.setTop (mkF m 77 #[.val (.int p1), .val (.int p2), .val (.int p3), .unset, .unset, .unset, .unset] [(.ref b2)])) t := by
    intro t k
    show Steps p.tables e below (T14.setTop (mkF m 77 #[.val (.int p1), .val (.int p2), .val (.int p3), .unset, .unset, .unset, .unset] [(.ref b2)])) _
    refine XS.dup X14.here hx rfl (hb hby at_77) rfl rfl ?_
    show Steps p.tables e below (T14.setTop (mkF m 78 #[.val (.int p1), .val (.int p2), .val (.int p3), .unset, .unset, .unset, .unset] [(.ref b2), (.ref b2)])) _
    refine XS.bipush X14.here hx rfl (hb hby at_78) ?_
    show Steps p.tables e below (T14.setTop (mkF m 80 #[.val (.int p1), .val (.int p2), .val (.int p3), .unset, .unset, .unset, .unset] [(.int (12 : Int32)), (.ref b2), (.ref b2)])) _
    refine XS.sipush X14.here hx rfl (hb hby at_80) ?_
    show Steps p.tables e below (T14.setTop (mkF m 83 #[.val (.int p1), .val (.int p2), .val (.int p3), .unset, .unset, .unset, .unset] [(.int (893 : Int32)), (.int (12 : Int32)), (.ref b2), (.ref b2)])) _
    exact k
  obtain ⟨T15, L15, X15, N15, G15, st15⟩ := own_store X14 hx hZ N14 gb G14 83 #[.val (.int p1), .val (.int p2), .val (.int p3), .unset, .unset, .unset, .unset] [(.ref b2)] (12 : Int32) (893 : Int32) (by decide) (by decide) (hb hby at_83)
  have r15 : ∀ t, Steps p.tables e below (T15.setTop (mkF m 84 #[.val (.int p1), .val (.int p2), .val (.int p3), .unset, .unset, .unset, .unset] [(.ref b2)])) t → Steps p.tables e below (s₁.setTop (mkF m 0 #[.val (.int p1), .val (.int p2), .val (.int p3), .unset, .unset, .unset, .unset] [])) t := fun t k => r14 t (s14 t (st15 t k))
  clear r14 s14 st15
  clear G14 X14
  have s15 : ∀ t, Steps p.tables e below (T15.setTop (mkF m 90 #[.val (.int p1), .val (.int p2), .val (.int p3), .unset, .unset, .unset, .unset] [(.int (895 : Int32)), (.int (13 : Int32)), (.ref b2), (.ref b2)])) t → Steps p.tables e below (T15.setTop (mkF m 84 #[.val (.int p1), .val (.int p2), .val (.int p3), .unset, .unset, .unset, .unset] [(.ref b2)])) t := by
    intro t k
    show Steps p.tables e below (T15.setTop (mkF m 84 #[.val (.int p1), .val (.int p2), .val (.int p3), .unset, .unset, .unset, .unset] [(.ref b2)])) _
    refine XS.dup X15.here hx rfl (hb hby at_84) rfl rfl ?_
    show Steps p.tables e below (T15.setTop (mkF m 85 #[.val (.int p1), .val (.int p2), .val (.int p3), .unset, .unset, .unset, .unset] [(.ref b2), (.ref b2)])) _
    refine XS.bipush X15.here hx rfl (hb hby at_85) ?_
    show Steps p.tables e below (T15.setTop (mkF m 87 #[.val (.int p1), .val (.int p2), .val (.int p3), .unset, .unset, .unset, .unset] [(.int (13 : Int32)), (.ref b2), (.ref b2)])) _
    refine XS.sipush X15.here hx rfl (hb hby at_87) ?_
    show Steps p.tables e below (T15.setTop (mkF m 90 #[.val (.int p1), .val (.int p2), .val (.int p3), .unset, .unset, .unset, .unset] [(.int (895 : Int32)), (.int (13 : Int32)), (.ref b2), (.ref b2)])) _
    exact k
  obtain ⟨T16, L16, X16, N16, G16, st16⟩ := own_store X15 hx hZ N15 gb G15 90 #[.val (.int p1), .val (.int p2), .val (.int p3), .unset, .unset, .unset, .unset] [(.ref b2)] (13 : Int32) (895 : Int32) (by decide) (by decide) (hb hby at_90)
  have r16 : ∀ t, Steps p.tables e below (T16.setTop (mkF m 91 #[.val (.int p1), .val (.int p2), .val (.int p3), .unset, .unset, .unset, .unset] [(.ref b2)])) t → Steps p.tables e below (s₁.setTop (mkF m 0 #[.val (.int p1), .val (.int p2), .val (.int p3), .unset, .unset, .unset, .unset] [])) t := fun t k => r15 t (s15 t (st16 t k))
  clear r15 s15 st16
  clear G15 X15
  have s16 : ∀ t, Steps p.tables e below (T16.setTop (mkF m 97 #[.val (.int p1), .val (.int p2), .val (.int p3), .unset, .unset, .unset, .unset] [(.int (8191 : Int32)), (.int (14 : Int32)), (.ref b2), (.ref b2)])) t → Steps p.tables e below (T16.setTop (mkF m 91 #[.val (.int p1), .val (.int p2), .val (.int p3), .unset, .unset, .unset, .unset] [(.ref b2)])) t := by
    intro t k
    show Steps p.tables e below (T16.setTop (mkF m 91 #[.val (.int p1), .val (.int p2), .val (.int p3), .unset, .unset, .unset, .unset] [(.ref b2)])) _
    refine XS.dup X16.here hx rfl (hb hby at_91) rfl rfl ?_
    show Steps p.tables e below (T16.setTop (mkF m 92 #[.val (.int p1), .val (.int p2), .val (.int p3), .unset, .unset, .unset, .unset] [(.ref b2), (.ref b2)])) _
    refine XS.bipush X16.here hx rfl (hb hby at_92) ?_
    show Steps p.tables e below (T16.setTop (mkF m 94 #[.val (.int p1), .val (.int p2), .val (.int p3), .unset, .unset, .unset, .unset] [(.int (14 : Int32)), (.ref b2), (.ref b2)])) _
    refine XS.sipush X16.here hx rfl (hb hby at_94) ?_
    show Steps p.tables e below (T16.setTop (mkF m 97 #[.val (.int p1), .val (.int p2), .val (.int p3), .unset, .unset, .unset, .unset] [(.int (8191 : Int32)), (.int (14 : Int32)), (.ref b2), (.ref b2)])) _
    exact k
  obtain ⟨T17, L17, X17, N17, G17, st17⟩ := own_store X16 hx hZ N16 gb G16 97 #[.val (.int p1), .val (.int p2), .val (.int p3), .unset, .unset, .unset, .unset] [(.ref b2)] (14 : Int32) (8191 : Int32) (by decide) (by decide) (hb hby at_97)
  have r17 : ∀ t, Steps p.tables e below (T17.setTop (mkF m 98 #[.val (.int p1), .val (.int p2), .val (.int p3), .unset, .unset, .unset, .unset] [(.ref b2)])) t → Steps p.tables e below (s₁.setTop (mkF m 0 #[.val (.int p1), .val (.int p2), .val (.int p3), .unset, .unset, .unset, .unset] [])) t := fun t k => r16 t (s16 t (st17 t k))
  clear r16 s16 st17
  clear G16 X16
  have s17 : ∀ t, Steps p.tables e below (T17.setTop (mkF m 104 #[.val (.int p1), .val (.int p2), .val (.int p3), .unset, .unset, .unset, .unset] [(.int (8204 : Int32)), (.int (15 : Int32)), (.ref b2), (.ref b2)])) t → Steps p.tables e below (T17.setTop (mkF m 98 #[.val (.int p1), .val (.int p2), .val (.int p3), .unset, .unset, .unset, .unset] [(.ref b2)])) t := by
    intro t k
    show Steps p.tables e below (T17.setTop (mkF m 98 #[.val (.int p1), .val (.int p2), .val (.int p3), .unset, .unset, .unset, .unset] [(.ref b2)])) _
    refine XS.dup X17.here hx rfl (hb hby at_98) rfl rfl ?_
    show Steps p.tables e below (T17.setTop (mkF m 99 #[.val (.int p1), .val (.int p2), .val (.int p3), .unset, .unset, .unset, .unset] [(.ref b2), (.ref b2)])) _
    refine XS.bipush X17.here hx rfl (hb hby at_99) ?_
    show Steps p.tables e below (T17.setTop (mkF m 101 #[.val (.int p1), .val (.int p2), .val (.int p3), .unset, .unset, .unset, .unset] [(.int (15 : Int32)), (.ref b2), (.ref b2)])) _
    refine XS.sipush X17.here hx rfl (hb hby at_101) ?_
    show Steps p.tables e below (T17.setTop (mkF m 104 #[.val (.int p1), .val (.int p2), .val (.int p3), .unset, .unset, .unset, .unset] [(.int (8204 : Int32)), (.int (15 : Int32)), (.ref b2), (.ref b2)])) _
    exact k
  obtain ⟨T18, L18, X18, N18, G18, st18⟩ := own_store X17 hx hZ N17 gb G17 104 #[.val (.int p1), .val (.int p2), .val (.int p3), .unset, .unset, .unset, .unset] [(.ref b2)] (15 : Int32) (8204 : Int32) (by decide) (by decide) (hb hby at_104)
  have r18 : ∀ t, Steps p.tables e below (T18.setTop (mkF m 105 #[.val (.int p1), .val (.int p2), .val (.int p3), .unset, .unset, .unset, .unset] [(.ref b2)])) t → Steps p.tables e below (s₁.setTop (mkF m 0 #[.val (.int p1), .val (.int p2), .val (.int p3), .unset, .unset, .unset, .unset] [])) t := fun t k => r17 t (s17 t (st18 t k))
  clear r17 s17 st18
  clear G17 X17
  have s18 : ∀ t, Steps p.tables e below (T18.setTop (mkF m 111 #[.val (.int p1), .val (.int p2), .val (.int p3), .unset, .unset, .unset, .unset] [(.int (8205 : Int32)), (.int (16 : Int32)), (.ref b2), (.ref b2)])) t → Steps p.tables e below (T18.setTop (mkF m 105 #[.val (.int p1), .val (.int p2), .val (.int p3), .unset, .unset, .unset, .unset] [(.ref b2)])) t := by
    intro t k
    show Steps p.tables e below (T18.setTop (mkF m 105 #[.val (.int p1), .val (.int p2), .val (.int p3), .unset, .unset, .unset, .unset] [(.ref b2)])) _
    refine XS.dup X18.here hx rfl (hb hby at_105) rfl rfl ?_
    show Steps p.tables e below (T18.setTop (mkF m 106 #[.val (.int p1), .val (.int p2), .val (.int p3), .unset, .unset, .unset, .unset] [(.ref b2), (.ref b2)])) _
    refine XS.bipush X18.here hx rfl (hb hby at_106) ?_
    show Steps p.tables e below (T18.setTop (mkF m 108 #[.val (.int p1), .val (.int p2), .val (.int p3), .unset, .unset, .unset, .unset] [(.int (16 : Int32)), (.ref b2), (.ref b2)])) _
    refine XS.sipush X18.here hx rfl (hb hby at_108) ?_
    show Steps p.tables e below (T18.setTop (mkF m 111 #[.val (.int p1), .val (.int p2), .val (.int p3), .unset, .unset, .unset, .unset] [(.int (8205 : Int32)), (.int (16 : Int32)), (.ref b2), (.ref b2)])) _
    exact k
  obtain ⟨T19, L19, X19, N19, G19, st19⟩ := own_store X18 hx hZ N18 gb G18 111 #[.val (.int p1), .val (.int p2), .val (.int p3), .unset, .unset, .unset, .unset] [(.ref b2)] (16 : Int32) (8205 : Int32) (by decide) (by decide) (hb hby at_111)
  have r19 : ∀ t, Steps p.tables e below (T19.setTop (mkF m 112 #[.val (.int p1), .val (.int p2), .val (.int p3), .unset, .unset, .unset, .unset] [(.ref b2)])) t → Steps p.tables e below (s₁.setTop (mkF m 0 #[.val (.int p1), .val (.int p2), .val (.int p3), .unset, .unset, .unset, .unset] [])) t := fun t k => r18 t (s18 t (st19 t k))
  clear r18 s18 st19
  clear G18 X18
  have s19 : ∀ t, Steps p.tables e below (T19.setTop (mkF m 118 #[.val (.int p1), .val (.int p2), .val (.int p3), .unset, .unset, .unset, .unset] [(.int (8304 : Int32)), (.int (17 : Int32)), (.ref b2), (.ref b2)])) t → Steps p.tables e below (T19.setTop (mkF m 112 #[.val (.int p1), .val (.int p2), .val (.int p3), .unset, .unset, .unset, .unset] [(.ref b2)])) t := by
    intro t k
    show Steps p.tables e below (T19.setTop (mkF m 112 #[.val (.int p1), .val (.int p2), .val (.int p3), .unset, .unset, .unset, .unset] [(.ref b2)])) _
    refine XS.dup X19.here hx rfl (hb hby at_112) rfl rfl ?_
    show Steps p.tables e below (T19.setTop (mkF m 113 #[.val (.int p1), .val (.int p2), .val (.int p3), .unset, .unset, .unset, .unset] [(.ref b2), (.ref b2)])) _
    refine XS.bipush X19.here hx rfl (hb hby at_113) ?_
    show Steps p.tables e below (T19.setTop (mkF m 115 #[.val (.int p1), .val (.int p2), .val (.int p3), .unset, .unset, .unset, .unset] [(.int (17 : Int32)), (.ref b2), (.ref b2)])) _
    refine XS.sipush X19.here hx rfl (hb hby at_115) ?_
    show Steps p.tables e below (T19.setTop (mkF m 118 #[.val (.int p1), .val (.int p2), .val (.int p3), .unset, .unset, .unset, .unset] [(.int (8304 : Int32)), (.int (17 : Int32)), (.ref b2), (.ref b2)])) _
    exact k
  obtain ⟨T20, L20, X20, N20, G20, st20⟩ := own_store X19 hx hZ N19 gb G19 118 #[.val (.int p1), .val (.int p2), .val (.int p3), .unset, .unset, .unset, .unset] [(.ref b2)] (17 : Int32) (8304 : Int32) (by decide) (by decide) (hb hby at_118)
  have r20 : ∀ t, Steps p.tables e below (T20.setTop (mkF m 119 #[.val (.int p1), .val (.int p2), .val (.int p3), .unset, .unset, .unset, .unset] [(.ref b2)])) t → Steps p.tables e below (s₁.setTop (mkF m 0 #[.val (.int p1), .val (.int p2), .val (.int p3), .unset, .unset, .unset, .unset] [])) t := fun t k => r19 t (s19 t (st20 t k))
  clear r19 s19 st20
  clear G19 X19
  have s20 : ∀ t, Steps p.tables e below (T20.setTop (mkF m 125 #[.val (.int p1), .val (.int p2), .val (.int p3), .unset, .unset, .unset, .unset] [(.int (8591 : Int32)), (.int (18 : Int32)), (.ref b2), (.ref b2)])) t → Steps p.tables e below (T20.setTop (mkF m 119 #[.val (.int p1), .val (.int p2), .val (.int p3), .unset, .unset, .unset, .unset] [(.ref b2)])) t := by
    intro t k
    show Steps p.tables e below (T20.setTop (mkF m 119 #[.val (.int p1), .val (.int p2), .val (.int p3), .unset, .unset, .unset, .unset] [(.ref b2)])) _
    refine XS.dup X20.here hx rfl (hb hby at_119) rfl rfl ?_
    show Steps p.tables e below (T20.setTop (mkF m 120 #[.val (.int p1), .val (.int p2), .val (.int p3), .unset, .unset, .unset, .unset] [(.ref b2), (.ref b2)])) _
    refine XS.bipush X20.here hx rfl (hb hby at_120) ?_
    show Steps p.tables e below (T20.setTop (mkF m 122 #[.val (.int p1), .val (.int p2), .val (.int p3), .unset, .unset, .unset, .unset] [(.int (18 : Int32)), (.ref b2), (.ref b2)])) _
    refine XS.sipush X20.here hx rfl (hb hby at_122) ?_
    show Steps p.tables e below (T20.setTop (mkF m 125 #[.val (.int p1), .val (.int p2), .val (.int p3), .unset, .unset, .unset, .unset] [(.int (8591 : Int32)), (.int (18 : Int32)), (.ref b2), (.ref b2)])) _
    exact k
  obtain ⟨T21, L21, X21, N21, G21, st21⟩ := own_store X20 hx hZ N20 gb G20 125 #[.val (.int p1), .val (.int p2), .val (.int p3), .unset, .unset, .unset, .unset] [(.ref b2)] (18 : Int32) (8591 : Int32) (by decide) (by decide) (hb hby at_125)
  have r21 : ∀ t, Steps p.tables e below (T21.setTop (mkF m 126 #[.val (.int p1), .val (.int p2), .val (.int p3), .unset, .unset, .unset, .unset] [(.ref b2)])) t → Steps p.tables e below (s₁.setTop (mkF m 0 #[.val (.int p1), .val (.int p2), .val (.int p3), .unset, .unset, .unset, .unset] [])) t := fun t k => r20 t (s20 t (st21 t k))
  clear r20 s20 st21
  clear G20 X20
  have s21 : ∀ t, Steps p.tables e below (T21.setTop (mkF m 132 #[.val (.int p1), .val (.int p2), .val (.int p3), .unset, .unset, .unset, .unset] [(.int (11264 : Int32)), (.int (19 : Int32)), (.ref b2), (.ref b2)])) t → Steps p.tables e below (T21.setTop (mkF m 126 #[.val (.int p1), .val (.int p2), .val (.int p3), .unset, .unset, .unset, .unset] [(.ref b2)])) t := by
    intro t k
    show Steps p.tables e below (T21.setTop (mkF m 126 #[.val (.int p1), .val (.int p2), .val (.int p3), .unset, .unset, .unset, .unset] [(.ref b2)])) _
    refine XS.dup X21.here hx rfl (hb hby at_126) rfl rfl ?_
    show Steps p.tables e below (T21.setTop (mkF m 127 #[.val (.int p1), .val (.int p2), .val (.int p3), .unset, .unset, .unset, .unset] [(.ref b2), (.ref b2)])) _
    refine XS.bipush X21.here hx rfl (hb hby at_127) ?_
    show Steps p.tables e below (T21.setTop (mkF m 129 #[.val (.int p1), .val (.int p2), .val (.int p3), .unset, .unset, .unset, .unset] [(.int (19 : Int32)), (.ref b2), (.ref b2)])) _
    refine XS.sipush X21.here hx rfl (hb hby at_129) ?_
    show Steps p.tables e below (T21.setTop (mkF m 132 #[.val (.int p1), .val (.int p2), .val (.int p3), .unset, .unset, .unset, .unset] [(.int (11264 : Int32)), (.int (19 : Int32)), (.ref b2), (.ref b2)])) _
    exact k
  obtain ⟨T22, L22, X22, N22, G22, st22⟩ := own_store X21 hx hZ N21 gb G21 132 #[.val (.int p1), .val (.int p2), .val (.int p3), .unset, .unset, .unset, .unset] [(.ref b2)] (19 : Int32) (11264 : Int32) (by decide) (by decide) (hb hby at_132)
  have r22 : ∀ t, Steps p.tables e below (T22.setTop (mkF m 133 #[.val (.int p1), .val (.int p2), .val (.int p3), .unset, .unset, .unset, .unset] [(.ref b2)])) t → Steps p.tables e below (s₁.setTop (mkF m 0 #[.val (.int p1), .val (.int p2), .val (.int p3), .unset, .unset, .unset, .unset] [])) t := fun t k => r21 t (s21 t (st22 t k))
  clear r21 s21 st22
  clear G21 X21
  have s22 : ∀ t, Steps p.tables e below (T22.setTop (mkF m 139 #[.val (.int p1), .val (.int p2), .val (.int p3), .unset, .unset, .unset, .unset] [(.int (12271 : Int32)), (.int (20 : Int32)), (.ref b2), (.ref b2)])) t → Steps p.tables e below (T22.setTop (mkF m 133 #[.val (.int p1), .val (.int p2), .val (.int p3), .unset, .unset, .unset, .unset] [(.ref b2)])) t := by
    intro t k
    show Steps p.tables e below (T22.setTop (mkF m 133 #[.val (.int p1), .val (.int p2), .val (.int p3), .unset, .unset, .unset, .unset] [(.ref b2)])) _
    refine XS.dup X22.here hx rfl (hb hby at_133) rfl rfl ?_
    show Steps p.tables e below (T22.setTop (mkF m 134 #[.val (.int p1), .val (.int p2), .val (.int p3), .unset, .unset, .unset, .unset] [(.ref b2), (.ref b2)])) _
    refine XS.bipush X22.here hx rfl (hb hby at_134) ?_
    show Steps p.tables e below (T22.setTop (mkF m 136 #[.val (.int p1), .val (.int p2), .val (.int p3), .unset, .unset, .unset, .unset] [(.int (20 : Int32)), (.ref b2), (.ref b2)])) _
    refine XS.sipush X22.here hx rfl (hb hby at_136) ?_
    show Steps p.tables e below (T22.setTop (mkF m 139 #[.val (.int p1), .val (.int p2), .val (.int p3), .unset, .unset, .unset, .unset] [(.int (12271 : Int32)), (.int (20 : Int32)), (.ref b2), (.ref b2)])) _
    exact k
  obtain ⟨T23, L23, X23, N23, G23, st23⟩ := own_store X22 hx hZ N22 gb G22 139 #[.val (.int p1), .val (.int p2), .val (.int p3), .unset, .unset, .unset, .unset] [(.ref b2)] (20 : Int32) (12271 : Int32) (by decide) (by decide) (hb hby at_139)
  have r23 : ∀ t, Steps p.tables e below (T23.setTop (mkF m 140 #[.val (.int p1), .val (.int p2), .val (.int p3), .unset, .unset, .unset, .unset] [(.ref b2)])) t → Steps p.tables e below (s₁.setTop (mkF m 0 #[.val (.int p1), .val (.int p2), .val (.int p3), .unset, .unset, .unset, .unset] [])) t := fun t k => r22 t (s22 t (st23 t k))
  clear r22 s22 st23
  clear G22 X22
  have s23 : ∀ t, Steps p.tables e below (T23.setTop (mkF m 146 #[.val (.int p1), .val (.int p2), .val (.int p3), .unset, .unset, .unset, .unset] [(.int (12289 : Int32)), (.int (21 : Int32)), (.ref b2), (.ref b2)])) t → Steps p.tables e below (T23.setTop (mkF m 140 #[.val (.int p1), .val (.int p2), .val (.int p3), .unset, .unset, .unset, .unset] [(.ref b2)])) t := by
    intro t k
    show Steps p.tables e below (T23.setTop (mkF m 140 #[.val (.int p1), .val (.int p2), .val (.int p3), .unset, .unset, .unset, .unset] [(.ref b2)])) _
    refine XS.dup X23.here hx rfl (hb hby at_140) rfl rfl ?_
    show Steps p.tables e below (T23.setTop (mkF m 141 #[.val (.int p1), .val (.int p2), .val (.int p3), .unset, .unset, .unset, .unset] [(.ref b2), (.ref b2)])) _
    refine XS.bipush X23.here hx rfl (hb hby at_141) ?_
    show Steps p.tables e below (T23.setTop (mkF m 143 #[.val (.int p1), .val (.int p2), .val (.int p3), .unset, .unset, .unset, .unset] [(.int (21 : Int32)), (.ref b2), (.ref b2)])) _
    refine XS.sipush X23.here hx rfl (hb hby at_143) ?_
    show Steps p.tables e below (T23.setTop (mkF m 146 #[.val (.int p1), .val (.int p2), .val (.int p3), .unset, .unset, .unset, .unset] [(.int (12289 : Int32)), (.int (21 : Int32)), (.ref b2), (.ref b2)])) _
    exact k
  obtain ⟨T24, L24, X24, N24, G24, st24⟩ := own_store X23 hx hZ N23 gb G23 146 #[.val (.int p1), .val (.int p2), .val (.int p3), .unset, .unset, .unset, .unset] [(.ref b2)] (21 : Int32) (12289 : Int32) (by decide) (by decide) (hb hby at_146)
  have r24 : ∀ t, Steps p.tables e below (T24.setTop (mkF m 147 #[.val (.int p1), .val (.int p2), .val (.int p3), .unset, .unset, .unset, .unset] [(.ref b2)])) t → Steps p.tables e below (s₁.setTop (mkF m 0 #[.val (.int p1), .val (.int p2), .val (.int p3), .unset, .unset, .unset, .unset] [])) t := fun t k => r23 t (s23 t (st24 t k))
  clear r23 s23 st24
  clear G23 X23
  have s24 : ∀ t, Steps p.tables e below (T24.setTop (mkF m 152 #[.val (.int p1), .val (.int p2), .val (.int p3), .unset, .unset, .unset, .unset] [(.int (55295 : Int32)), (.int (22 : Int32)), (.ref b2), (.ref b2)])) t → Steps p.tables e below (T24.setTop (mkF m 147 #[.val (.int p1), .val (.int p2), .val (.int p3), .unset, .unset, .unset, .unset] [(.ref b2)])) t := by
    intro t k
    show Steps p.tables e below (T24.setTop (mkF m 147 #[.val (.int p1), .val (.int p2), .val (.int p3), .unset, .unset, .unset, .unset] [(.ref b2)])) _
    refine XS.dup X24.here hx rfl (hb hby at_147) rfl rfl ?_
    show Steps p.tables e below (T24.setTop (mkF m 148 #[.val (.int p1), .val (.int p2), .val (.int p3), .unset, .unset, .unset, .unset] [(.ref b2), (.ref b2)])) _
    refine XS.bipush X24.here hx rfl (hb hby at_148) ?_
    show Steps p.tables e below (T24.setTop (mkF m 150 #[.val (.int p1), .val (.int p2), .val (.int p3), .unset, .unset, .unset, .unset] [(.int (22 : Int32)), (.ref b2), (.ref b2)])) _
    refine X24.ldcI hx hown (mvT hZ (hw _ (List.mem_of_getElem? (i := 1) rfl))) (g := (mkF m 150 #[.val (.int p1), .val (.int p2), .val (.int p3), .unset, .unset, .unset, .unset] [(.int (22 : Int32)), (.ref b2), (.ref b2)])) rfl (hb hby at_150) ?_
    show Steps p.tables e below (T24.setTop (mkF m 152 #[.val (.int p1), .val (.int p2), .val (.int p3), .unset, .unset, .unset, .unset] [(.int (55295 : Int32)), (.int (22 : Int32)), (.ref b2), (.ref b2)])) _
    exact k
  obtain ⟨T25, L25, X25, N25, G25, st25⟩ := own_store X24 hx hZ N24 gb G24 152 #[.val (.int p1), .val (.int p2), .val (.int p3), .unset, .unset, .unset, .unset] [(.ref b2)] (22 : Int32) (55295 : Int32) (by decide) (by decide) (hb hby at_152)
  have r25 : ∀ t, Steps p.tables e below (T25.setTop (mkF m 153 #[.val (.int p1), .val (.int p2), .val (.int p3), .unset, .unset, .unset, .unset] [(.ref b2)])) t → Steps p.tables e below (s₁.setTop (mkF m 0 #[.val (.int p1), .val (.int p2), .val (.int p3), .unset, .unset, .unset, .unset] [])) t := fun t k => r24 t (s24 t (st25 t k))
  clear r24 s24 st25
  clear G24 X24
  have s25 : ∀ t, Steps p.tables e below (T25.setTop (mkF m 158 #[.val (.int p1), .val (.int p2), .val (.int p3), .unset, .unset, .unset, .unset] [(.int (63744 : Int32)), (.int (23 : Int32)), (.ref b2), (.ref b2)])) t → Steps p.tables e below (T25.setTop (mkF m 153 #[.val (.int p1), .val (.int p2), .val (.int p3), .unset, .unset, .unset, .unset] [(.ref b2)])) t := by
    intro t k
    show Steps p.tables e below (T25.setTop (mkF m 153 #[.val (.int p1), .val (.int p2), .val (.int p3), .unset, .unset, .unset, .unset] [(.ref b2)])) _
    refine XS.dup X25.here hx rfl (hb hby at_153) rfl rfl ?_
    show Steps p.tables e below (T25.setTop (mkF m 154 #[.val (.int p1), .val (.int p2), .val (.int p3), .unset, .unset, .unset, .unset] [(.ref b2), (.ref b2)])) _
    refine XS.bipush X25.here hx rfl (hb hby at_154) ?_
    show Steps p.tables e below (T25.setTop (mkF m 156 #[.val (.int p1), .val (.int p2), .val (.int p3), .unset, .unset, .unset, .unset] [(.int (23 : Int32)), (.ref b2), (.ref b2)])) _
    refine X25.ldcI hx hown (mvT hZ (hw _ (List.mem_of_getElem? (i := 2) rfl))) (g := (mkF m 156 #[.val (.int p1), .val (.int p2), .val (.int p3), .unset, .unset, .unset, .unset] [(.int (23 : Int32)), (.ref b2), (.ref b2)])) rfl (hb hby at_156) ?_
    show Steps p.tables e below (T25.setTop (mkF m 158 #[.val (.int p1), .val (.int p2), .val (.int p3), .unset, .unset, .unset, .unset] [(.int (63744 : Int32)), (.int (23 : Int32)), (.ref b2), (.ref b2)])) _
    exact k
  obtain ⟨T26, L26, X26, N26, G26, st26⟩ := own_store X25 hx hZ N25 gb G25 158 #[.val (.int p1), .val (.int p2), .val (.int p3), .unset, .unset, .unset, .unset] [(.ref b2)] (23 : Int32) (63744 : Int32) (by decide) (by decide) (hb hby at_158)
  have r26 : ∀ t, Steps p.tables e below (T26.setTop (mkF m 159 #[.val (.int p1), .val (.int p2), .val (.int p3), .unset, .unset, .unset, .unset] [(.ref b2)])) t → Steps p.tables e below (s₁.setTop (mkF m 0 #[.val (.int p1), .val (.int p2), .val (.int p3), .unset, .unset, .unset, .unset] [])) t := fun t k => r25 t (s25 t (st26 t k))
  clear r25 s25 st26
  clear G25 X25
  have s26 : ∀ t, Steps p.tables e below (T26.setTop (mkF m 164 #[.val (.int p1), .val (.int p2), .val (.int p3), .unset, .unset, .unset, .unset] [(.int (64975 : Int32)), (.int (24 : Int32)), (.ref b2), (.ref b2)])) t → Steps p.tables e below (T26.setTop (mkF m 159 #[.val (.int p1), .val (.int p2), .val (.int p3), .unset, .unset, .unset, .unset] [(.ref b2)])) t := by
    intro t k
    show Steps p.tables e below (T26.setTop (mkF m 159 #[.val (.int p1), .val (.int p2), .val (.int p3), .unset, .unset, .unset, .unset] [(.ref b2)])) _
    refine XS.dup X26.here hx rfl (hb hby at_159) rfl rfl ?_
    show Steps p.tables e below (T26.setTop (mkF m 160 #[.val (.int p1), .val (.int p2), .val (.int p3), .unset, .unset, .unset, .unset] [(.ref b2), (.ref b2)])) _
    refine XS.bipush X26.here hx rfl (hb hby at_160) ?_
    show Steps p.tables e below (T26.setTop (mkF m 162 #[.val (.int p1), .val (.int p2), .val (.int p3), .unset, .unset, .unset, .unset] [(.int (24 : Int32)), (.ref b2), (.ref b2)])) _
    refine X26.ldcI hx hown (mvT hZ (hw _ (List.mem_of_getElem? (i := 3) rfl))) (g := (mkF m 162 #[.val (.int p1), .val (.int p2), .val (.int p3), .unset, .unset, .unset, .unset] [(.int (24 : Int32)), (.ref b2), (.ref b2)])) rfl (hb hby at_162) ?_
    show Steps p.tables e below (T26.setTop (mkF m 164 #[.val (.int p1), .val (.int p2), .val (.int p3), .unset, .unset, .unset, .unset] [(.int (64975 : Int32)), (.int (24 : Int32)), (.ref b2), (.ref b2)])) _
    exact k
  obtain ⟨T27, L27, X27, N27, G27, st27⟩ := own_store X26 hx hZ N26 gb G26 164 #[.val (.int p1), .val (.int p2), .val (.int p3), .unset, .unset, .unset, .unset] [(.ref b2)] (24 : Int32) (64975 : Int32) (by decide) (by decide) (hb hby at_164)
  have r27 : ∀ t, Steps p.tables e below (T27.setTop (mkF m 165 #[.val (.int p1), .val (.int p2), .val (.int p3), .unset, .unset, .unset, .unset] [(.ref b2)])) t → Steps p.tables e below (s₁.setTop (mkF m 0 #[.val (.int p1), .val (.int p2), .val (.int p3), .unset, .unset, .unset, .unset] [])) t := fun t k => r26 t (s26 t (st27 t k))
  clear r26 s26 st27
  clear G26 X26
  have s27 : ∀ t, Steps p.tables e below (T27.setTop (mkF m 170 #[.val (.int p1), .val (.int p2), .val (.int p3), .unset, .unset, .unset, .unset] [(.int (65008 : Int32)), (.int (25 : Int32)), (.ref b2), (.ref b2)])) t → Steps p.tables e below (T27.setTop (mkF m 165 #[.val (.int p1), .val (.int p2), .val (.int p3), .unset, .unset, .unset, .unset] [(.ref b2)])) t := by
    intro t k
    show Steps p.tables e below (T27.setTop (mkF m 165 #[.val (.int p1), .val (.int p2), .val (.int p3), .unset, .unset, .unset, .unset] [(.ref b2)])) _
    refine XS.dup X27.here hx rfl (hb hby at_165) rfl rfl ?_
    show Steps p.tables e below (T27.setTop (mkF m 166 #[.val (.int p1), .val (.int p2), .val (.int p3), .unset, .unset, .unset, .unset] [(.ref b2), (.ref b2)])) _
    refine XS.bipush X27.here hx rfl (hb hby at_166) ?_
    show Steps p.tables e below (T27.setTop (mkF m 168 #[.val (.int p1), .val (.int p2), .val (.int p3), .unset, .unset, .unset, .unset] [(.int (25 : Int32)), (.ref b2), (.ref b2)])) _
    refine X27.ldcI hx hown (mvT hZ (hw _ (List.mem_of_getElem? (i := 4) rfl))) (g := (mkF m 168 #[.val (.int p1), .val (.int p2), .val (.int p3), .unset, .unset, .unset, .unset] [(.int (25 : Int32)), (.ref b2), (.ref b2)])) rfl (hb hby at_168) ?_
    show Steps p.tables e below (T27.setTop (mkF m 170 #[.val (.int p1), .val (.int p2), .val (.int p3), .unset, .unset, .unset, .unset] [(.int (65008 : Int32)), (.int (25 : Int32)), (.ref b2), (.ref b2)])) _
    exact k
  obtain ⟨T28, L28, X28, N28, G28, st28⟩ := own_store X27 hx hZ N27 gb G27 170 #[.val (.int p1), .val (.int p2), .val (.int p3), .unset, .unset, .unset, .unset] [(.ref b2)] (25 : Int32) (65008 : Int32) (by decide) (by decide) (hb hby at_170)
  have r28 : ∀ t, Steps p.tables e below (T28.setTop (mkF m 171 #[.val (.int p1), .val (.int p2), .val (.int p3), .unset, .unset, .unset, .unset] [(.ref b2)])) t → Steps p.tables e below (s₁.setTop (mkF m 0 #[.val (.int p1), .val (.int p2), .val (.int p3), .unset, .unset, .unset, .unset] [])) t := fun t k => r27 t (s27 t (st28 t k))
  clear r27 s27 st28
  clear G27 X27
  have s28 : ∀ t, Steps p.tables e below (T28.setTop (mkF m 176 #[.val (.int p1), .val (.int p2), .val (.int p3), .unset, .unset, .unset, .unset] [(.int (65533 : Int32)), (.int (26 : Int32)), (.ref b2), (.ref b2)])) t → Steps p.tables e below (T28.setTop (mkF m 171 #[.val (.int p1), .val (.int p2), .val (.int p3), .unset, .unset, .unset, .unset] [(.ref b2)])) t := by
    intro t k
    show Steps p.tables e below (T28.setTop (mkF m 171 #[.val (.int p1), .val (.int p2), .val (.int p3), .unset, .unset, .unset, .unset] [(.ref b2)])) _
    refine XS.dup X28.here hx rfl (hb hby at_171) rfl rfl ?_
    show Steps p.tables e below (T28.setTop (mkF m 172 #[.val (.int p1), .val (.int p2), .val (.int p3), .unset, .unset, .unset, .unset] [(.ref b2), (.ref b2)])) _
    refine XS.bipush X28.here hx rfl (hb hby at_172) ?_
    show Steps p.tables e below (T28.setTop (mkF m 174 #[.val (.int p1), .val (.int p2), .val (.int p3), .unset, .unset, .unset, .unset] [(.int (26 : Int32)), (.ref b2), (.ref b2)])) _
    refine X28.ldcI hx hown (mvT hZ (hw _ (List.mem_of_getElem? (i := 5) rfl))) (g := (mkF m 174 #[.val (.int p1), .val (.int p2), .val (.int p3), .unset, .unset, .unset, .unset] [(.int (26 : Int32)), (.ref b2), (.ref b2)])) rfl (hb hby at_174) ?_
    show Steps p.tables e below (T28.setTop (mkF m 176 #[.val (.int p1), .val (.int p2), .val (.int p3), .unset, .unset, .unset, .unset] [(.int (65533 : Int32)), (.int (26 : Int32)), (.ref b2), (.ref b2)])) _
    exact k
  obtain ⟨T29, L29, X29, N29, G29, st29⟩ := own_store X28 hx hZ N28 gb G28 176 #[.val (.int p1), .val (.int p2), .val (.int p3), .unset, .unset, .unset, .unset] [(.ref b2)] (26 : Int32) (65533 : Int32) (by decide) (by decide) (hb hby at_176)
  have r29 : ∀ t, Steps p.tables e below (T29.setTop (mkF m 177 #[.val (.int p1), .val (.int p2), .val (.int p3), .unset, .unset, .unset, .unset] [(.ref b2)])) t → Steps p.tables e below (s₁.setTop (mkF m 0 #[.val (.int p1), .val (.int p2), .val (.int p3), .unset, .unset, .unset, .unset] [])) t := fun t k => r28 t (s28 t (st29 t k))
  clear r28 s28 st29
  clear G28 X28
  have s29 : ∀ t, Steps p.tables e below (T29.setTop (mkF m 182 #[.val (.int p1), .val (.int p2), .val (.int p3), .unset, .unset, .unset, .unset] [(.int (65536 : Int32)), (.int (27 : Int32)), (.ref b2), (.ref b2)])) t → Steps p.tables e below (T29.setTop (mkF m 177 #[.val (.int p1), .val (.int p2), .val (.int p3), .unset, .unset, .unset, .unset] [(.ref b2)])) t := by
    intro t k
    show Steps p.tables e below (T29.setTop (mkF m 177 #[.val (.int p1), .val (.int p2), .val (.int p3), .unset, .unset, .unset, .unset] [(.ref b2)])) _
    refine XS.dup X29.here hx rfl (hb hby at_177) rfl rfl ?_
    show Steps p.tables e below (T29.setTop (mkF m 178 #[.val (.int p1), .val (.int p2), .val (.int p3), .unset, .unset, .unset, .unset] [(.ref b2), (.ref b2)])) _
    refine XS.bipush X29.here hx rfl (hb hby at_178) ?_
    show Steps p.tables e below (T29.setTop (mkF m 180 #[.val (.int p1), .val (.int p2), .val (.int p3), .unset, .unset, .unset, .unset] [(.int (27 : Int32)), (.ref b2), (.ref b2)])) _
    refine X29.ldcI hx hown (mvT hZ (hw _ (List.mem_of_getElem? (i := 6) rfl))) (g := (mkF m 180 #[.val (.int p1), .val (.int p2), .val (.int p3), .unset, .unset, .unset, .unset] [(.int (27 : Int32)), (.ref b2), (.ref b2)])) rfl (hb hby at_180) ?_
    show Steps p.tables e below (T29.setTop (mkF m 182 #[.val (.int p1), .val (.int p2), .val (.int p3), .unset, .unset, .unset, .unset] [(.int (65536 : Int32)), (.int (27 : Int32)), (.ref b2), (.ref b2)])) _
    exact k
  obtain ⟨T30, L30, X30, N30, G30, st30⟩ := own_store X29 hx hZ N29 gb G29 182 #[.val (.int p1), .val (.int p2), .val (.int p3), .unset, .unset, .unset, .unset] [(.ref b2)] (27 : Int32) (65536 : Int32) (by decide) (by decide) (hb hby at_182)
  have r30 : ∀ t, Steps p.tables e below (T30.setTop (mkF m 183 #[.val (.int p1), .val (.int p2), .val (.int p3), .unset, .unset, .unset, .unset] [(.ref b2)])) t → Steps p.tables e below (s₁.setTop (mkF m 0 #[.val (.int p1), .val (.int p2), .val (.int p3), .unset, .unset, .unset, .unset] [])) t := fun t k => r29 t (s29 t (st30 t k))
  clear r29 s29 st30
  clear G29 X29
  have s30 : ∀ t, Steps p.tables e below (T30.setTop (mkF m 188 #[.val (.int p1), .val (.int p2), .val (.int p3), .unset, .unset, .unset, .unset] [(.int (983039 : Int32)), (.int (28 : Int32)), (.ref b2), (.ref b2)])) t → Steps p.tables e below (T30.setTop (mkF m 183 #[.val (.int p1), .val (.int p2), .val (.int p3), .unset, .unset, .unset, .unset] [(.ref b2)])) t := by
    intro t k
    show Steps p.tables e below (T30.setTop (mkF m 183 #[.val (.int p1), .val (.int p2), .val (.int p3), .unset, .unset, .unset, .unset] [(.ref b2)])) _
    refine XS.dup X30.here hx rfl (hb hby at_183) rfl rfl ?_
    show Steps p.tables e below (T30.setTop (mkF m 184 #[.val (.int p1), .val (.int p2), .val (.int p3), .unset, .unset, .unset, .unset] [(.ref b2), (.ref b2)])) _
    refine XS.bipush X30.here hx rfl (hb hby at_184) ?_
    show Steps p.tables e below (T30.setTop (mkF m 186 #[.val (.int p1), .val (.int p2), .val (.int p3), .unset, .unset, .unset, .unset] [(.int (28 : Int32)), (.ref b2), (.ref b2)])) _
    refine X30.ldcI hx hown (mvT hZ (hw _ (List.mem_of_getElem? (i := 7) rfl))) (g := (mkF m 186 #[.val (.int p1), .val (.int p2), .val (.int p3), .unset, .unset, .unset, .unset] [(.int (28 : Int32)), (.ref b2), (.ref b2)])) rfl (hb hby at_186) ?_
    show Steps p.tables e below (T30.setTop (mkF m 188 #[.val (.int p1), .val (.int p2), .val (.int p3), .unset, .unset, .unset, .unset] [(.int (983039 : Int32)), (.int (28 : Int32)), (.ref b2), (.ref b2)])) _
    exact k
  obtain ⟨T31, L31, X31, N31, G31, st31⟩ := own_store X30 hx hZ N30 gb G30 188 #[.val (.int p1), .val (.int p2), .val (.int p3), .unset, .unset, .unset, .unset] [(.ref b2)] (28 : Int32) (983039 : Int32) (by decide) (by decide) (hb hby at_188)
  have r31 : ∀ t, Steps p.tables e below (T31.setTop (mkF m 189 #[.val (.int p1), .val (.int p2), .val (.int p3), .unset, .unset, .unset, .unset] [(.ref b2)])) t → Steps p.tables e below (s₁.setTop (mkF m 0 #[.val (.int p1), .val (.int p2), .val (.int p3), .unset, .unset, .unset, .unset] [])) t := fun t k => r30 t (s30 t (st31 t k))
  clear r30 s30 st31
  clear G30 X30
  have s31 : ∀ t, Steps p.tables e below (T31.setTop (mkF m 194 #[.val (.int p1), .val (.int p2), .val (.int p3), .unset, .unset, .unset, .unset] [(.int (58 : Int32)), (.int (29 : Int32)), (.ref b2), (.ref b2)])) t → Steps p.tables e below (T31.setTop (mkF m 189 #[.val (.int p1), .val (.int p2), .val (.int p3), .unset, .unset, .unset, .unset] [(.ref b2)])) t := by
    intro t k
    show Steps p.tables e below (T31.setTop (mkF m 189 #[.val (.int p1), .val (.int p2), .val (.int p3), .unset, .unset, .unset, .unset] [(.ref b2)])) _
    refine XS.dup X31.here hx rfl (hb hby at_189) rfl rfl ?_
    show Steps p.tables e below (T31.setTop (mkF m 190 #[.val (.int p1), .val (.int p2), .val (.int p3), .unset, .unset, .unset, .unset] [(.ref b2), (.ref b2)])) _
    refine XS.bipush X31.here hx rfl (hb hby at_190) ?_
    show Steps p.tables e below (T31.setTop (mkF m 192 #[.val (.int p1), .val (.int p2), .val (.int p3), .unset, .unset, .unset, .unset] [(.int (29 : Int32)), (.ref b2), (.ref b2)])) _
    refine XS.bipush X31.here hx rfl (hb hby at_192) ?_
    show Steps p.tables e below (T31.setTop (mkF m 194 #[.val (.int p1), .val (.int p2), .val (.int p3), .unset, .unset, .unset, .unset] [(.int (58 : Int32)), (.int (29 : Int32)), (.ref b2), (.ref b2)])) _
    exact k
  obtain ⟨T32, L32, X32, N32, G32, st32⟩ := own_store X31 hx hZ N31 gb G31 194 #[.val (.int p1), .val (.int p2), .val (.int p3), .unset, .unset, .unset, .unset] [(.ref b2)] (29 : Int32) (58 : Int32) (by decide) (by decide) (hb hby at_194)
  have r32 : ∀ t, Steps p.tables e below (T32.setTop (mkF m 195 #[.val (.int p1), .val (.int p2), .val (.int p3), .unset, .unset, .unset, .unset] [(.ref b2)])) t → Steps p.tables e below (s₁.setTop (mkF m 0 #[.val (.int p1), .val (.int p2), .val (.int p3), .unset, .unset, .unset, .unset] [])) t := fun t k => r31 t (s31 t (st32 t k))
  clear r31 s31 st32
  clear G31 X31
  have s32 : ∀ t, Steps p.tables e below (T32.setTop (mkF m 200 #[.val (.int p1), .val (.int p2), .val (.int p3), .unset, .unset, .unset, .unset] [(.int (45 : Int32)), (.int (30 : Int32)), (.ref b2), (.ref b2)])) t → Steps p.tables e below (T32.setTop (mkF m 195 #[.val (.int p1), .val (.int p2), .val (.int p3), .unset, .unset, .unset, .unset] [(.ref b2)])) t := by
    intro t k
    show Steps p.tables e below (T32.setTop (mkF m 195 #[.val (.int p1), .val (.int p2), .val (.int p3), .unset, .unset, .unset, .unset] [(.ref b2)])) _
    refine XS.dup X32.here hx rfl (hb hby at_195) rfl rfl ?_
    show Steps p.tables e below (T32.setTop (mkF m 196 #[.val (.int p1), .val (.int p2), .val (.int p3), .unset, .unset, .unset, .unset] [(.ref b2), (.ref b2)])) _
    refine XS.bipush X32.here hx rfl (hb hby at_196) ?_
    show Steps p.tables e below (T32.setTop (mkF m 198 #[.val (.int p1), .val (.int p2), .val (.int p3), .unset, .unset, .unset, .unset] [(.int (30 : Int32)), (.ref b2), (.ref b2)])) _
    refine XS.bipush X32.here hx rfl (hb hby at_198) ?_
    show Steps p.tables e below (T32.setTop (mkF m 200 #[.val (.int p1), .val (.int p2), .val (.int p3), .unset, .unset, .unset, .unset] [(.int (45 : Int32)), (.int (30 : Int32)), (.ref b2), (.ref b2)])) _
    exact k
  obtain ⟨T33, L33, X33, N33, G33, st33⟩ := own_store X32 hx hZ N32 gb G32 200 #[.val (.int p1), .val (.int p2), .val (.int p3), .unset, .unset, .unset, .unset] [(.ref b2)] (30 : Int32) (45 : Int32) (by decide) (by decide) (hb hby at_200)
  have r33 : ∀ t, Steps p.tables e below (T33.setTop (mkF m 201 #[.val (.int p1), .val (.int p2), .val (.int p3), .unset, .unset, .unset, .unset] [(.ref b2)])) t → Steps p.tables e below (s₁.setTop (mkF m 0 #[.val (.int p1), .val (.int p2), .val (.int p3), .unset, .unset, .unset, .unset] [])) t := fun t k => r32 t (s32 t (st33 t k))
  clear r32 s32 st33
  clear G32 X32
  have s33 : ∀ t, Steps p.tables e below (T33.setTop (mkF m 206 #[.val (.int p1), .val (.int p2), .val (.int p3), .unset, .unset, .unset, .unset] [(.int (1114112 : Int32)), (.int (31 : Int32)), (.ref b2), (.ref b2)])) t → Steps p.tables e below (T33.setTop (mkF m 201 #[.val (.int p1), .val (.int p2), .val (.int p3), .unset, .unset, .unset, .unset] [(.ref b2)])) t := by
    intro t k
    show Steps p.tables e below (T33.setTop (mkF m 201 #[.val (.int p1), .val (.int p2), .val (.int p3), .unset, .unset, .unset, .unset] [(.ref b2)])) _
    refine XS.dup X33.here hx rfl (hb hby at_201) rfl rfl ?_
    show Steps p.tables e below (T33.setTop (mkF m 202 #[.val (.int p1), .val (.int p2), .val (.int p3), .unset, .unset, .unset, .unset] [(.ref b2), (.ref b2)])) _
    refine XS.bipush X33.here hx rfl (hb hby at_202) ?_
    show Steps p.tables e below (T33.setTop (mkF m 204 #[.val (.int p1), .val (.int p2), .val (.int p3), .unset, .unset, .unset, .unset] [(.int (31 : Int32)), (.ref b2), (.ref b2)])) _
    refine X33.ldcI hx hown (mvT hZ (hw _ (List.mem_of_getElem? (i := 8) rfl))) (g := (mkF m 204 #[.val (.int p1), .val (.int p2), .val (.int p3), .unset, .unset, .unset, .unset] [(.int (31 : Int32)), (.ref b2), (.ref b2)])) rfl (hb hby at_204) ?_
    show Steps p.tables e below (T33.setTop (mkF m 206 #[.val (.int p1), .val (.int p2), .val (.int p3), .unset, .unset, .unset, .unset] [(.int (1114112 : Int32)), (.int (31 : Int32)), (.ref b2), (.ref b2)])) _
    exact k
  obtain ⟨T34, L34, X34, N34, G34, st34⟩ := own_store X33 hx hZ N33 gb G33 206 #[.val (.int p1), .val (.int p2), .val (.int p3), .unset, .unset, .unset, .unset] [(.ref b2)] (31 : Int32) (1114112 : Int32) (by decide) (by decide) (hb hby at_206)
  have r34 : ∀ t, Steps p.tables e below (T34.setTop (mkF m 207 #[.val (.int p1), .val (.int p2), .val (.int p3), .unset, .unset, .unset, .unset] [(.ref b2)])) t → Steps p.tables e below (s₁.setTop (mkF m 0 #[.val (.int p1), .val (.int p2), .val (.int p3), .unset, .unset, .unset, .unset] [])) t := fun t k => r33 t (s33 t (st34 t k))
  clear r33 s33 st34
  clear G33 X33
  have s34 : ∀ t, Steps p.tables e below (T34.setTop (mkF m 213 #[.val (.int p1), .val (.int p2), .val (.int p3), .val (.ref b2), .unset, .unset, .unset] [(.int (p2 &&& (31 : Int32))), (.ref b2)])) t → Steps p.tables e below (T34.setTop (mkF m 207 #[.val (.int p1), .val (.int p2), .val (.int p3), .unset, .unset, .unset, .unset] [(.ref b2)])) t := by
    intro t k
    show Steps p.tables e below (T34.setTop (mkF m 207 #[.val (.int p1), .val (.int p2), .val (.int p3), .unset, .unset, .unset, .unset] [(.ref b2)])) _
    refine XS.astoreN X34.here hx rfl (hb hby at_207) rfl rfl (l' := #[.val (.int p1), .val (.int p2), .val (.int p3), .val (.ref b2), .unset, .unset, .unset]) rfl ?_
    show Steps p.tables e below (T34.setTop (mkF m 208 #[.val (.int p1), .val (.int p2), .val (.int p3), .val (.ref b2), .unset, .unset, .unset] [])) _
    refine XS.aloadN X34.here hx rfl (hb hby at_208) rfl rfl ?_
    show Steps p.tables e below (T34.setTop (mkF m 209 #[.val (.int p1), .val (.int p2), .val (.int p3), .val (.ref b2), .unset, .unset, .unset] [(.ref b2)])) _
    refine XS.iloadN X34.here hx rfl (hb hby at_209) rfl ?_
    show Steps p.tables e below (T34.setTop (mkF m 210 #[.val (.int p1), .val (.int p2), .val (.int p3), .val (.ref b2), .unset, .unset, .unset] [(.int p2), (.ref b2)])) _
    refine XS.bipush X34.here hx rfl (hb hby at_210) ?_
    show Steps p.tables e below (T34.setTop (mkF m 212 #[.val (.int p1), .val (.int p2), .val (.int p3), .val (.ref b2), .unset, .unset, .unset] [(.int (31 : Int32)), (.int p2), (.ref b2)])) _
    refine XS.iand X34.here hx rfl (hb hby at_212) rfl ?_
    show Steps p.tables e below (T34.setTop (mkF m 213 #[.val (.int p1), .val (.int p2), .val (.int p3), .val (.ref b2), .unset, .unset, .unset] [(.int (p2 &&& (31 : Int32))), (.ref b2)])) _
    exact k
  obtain ⟨cl, Ar, Sz, Hs⟩ := G34
  have hidx := own_idx p2
  obtain ⟨wv, hwv⟩ := Hs ((p2 &&& (31 : Int32))).toNatClampNeg hidx.2
  have hin : ¬ ((p2 &&& (31 : Int32)) < 0 ∨ cl.slots.size ≤ ((p2 &&& (31 : Int32))).toNatClampNeg) := fun q => q.elim hidx.1 (fun q => by have := hidx.2; omega)
  have s34a : ∀ t, Steps p.tables e below (T34.setTop (mkF m 214 #[.val (.int p1), .val (.int p2), .val (.int p3), .val (.ref b2), .unset, .unset, .unset] [(.int wv)])) t → Steps p.tables e below (T34.setTop (mkF m 213 #[.val (.int p1), .val (.int p2), .val (.int p3), .val (.ref b2), .unset, .unset, .unset] [(.int (p2 &&& (31 : Int32))), (.ref b2)])) t := fun t k => X34.iaload hx (j := (p2 &&& (31 : Int32))) (v := (.int wv)) Ar.1 (State.isArrayOf_alike hZ.alike Ar.2.1) Ar.2.2 hin hwv (g := (mkF m 213 #[.val (.int p1), .val (.int p2), .val (.int p3), .val (.ref b2), .unset, .unset, .unset] [(.int (p2 &&& (31 : Int32))), (.ref b2)])) rfl rfl (hb hby at_213) _ k
  have s34b : ∀ t, Steps p.tables e below (T34.setTop (mkF m 223 #[.val (.int p1), .val (.int p2), .val (.int p3), .val (.ref b2), .val (.int (wv + ((p3 &&& (3 : Int32)) - (1 : Int32)))), .unset, .unset] [(.int p1)])) t → Steps p.tables e below (T34.setTop (mkF m 214 #[.val (.int p1), .val (.int p2), .val (.int p3), .val (.ref b2), .unset, .unset, .unset] [(.int wv)])) t := by
    intro t k
    show Steps p.tables e below (T34.setTop (mkF m 214 #[.val (.int p1), .val (.int p2), .val (.int p3), .val (.ref b2), .unset, .unset, .unset] [(.int wv)])) _
    refine XS.iloadN X34.here hx rfl (hb hby at_214) rfl ?_
    show Steps p.tables e below (T34.setTop (mkF m 215 #[.val (.int p1), .val (.int p2), .val (.int p3), .val (.ref b2), .unset, .unset, .unset] [(.int p3), (.int wv)])) _
    refine XS.iconst X34.here hx rfl (hb hby at_215) ?_
    show Steps p.tables e below (T34.setTop (mkF m 216 #[.val (.int p1), .val (.int p2), .val (.int p3), .val (.ref b2), .unset, .unset, .unset] [(.int (3 : Int32)), (.int p3), (.int wv)])) _
    refine XS.iand X34.here hx rfl (hb hby at_216) rfl ?_
    show Steps p.tables e below (T34.setTop (mkF m 217 #[.val (.int p1), .val (.int p2), .val (.int p3), .val (.ref b2), .unset, .unset, .unset] [(.int (p3 &&& (3 : Int32))), (.int wv)])) _
    refine XS.iconst X34.here hx rfl (hb hby at_217) ?_
    show Steps p.tables e below (T34.setTop (mkF m 218 #[.val (.int p1), .val (.int p2), .val (.int p3), .val (.ref b2), .unset, .unset, .unset] [(.int (1 : Int32)), (.int (p3 &&& (3 : Int32))), (.int wv)])) _
    refine XS.isub X34.here hx rfl (hb hby at_218) rfl ?_
    show Steps p.tables e below (T34.setTop (mkF m 219 #[.val (.int p1), .val (.int p2), .val (.int p3), .val (.ref b2), .unset, .unset, .unset] [(.int ((p3 &&& (3 : Int32)) - (1 : Int32))), (.int wv)])) _
    refine XS.iadd X34.here hx rfl (hb hby at_219) rfl ?_
    show Steps p.tables e below (T34.setTop (mkF m 220 #[.val (.int p1), .val (.int p2), .val (.int p3), .val (.ref b2), .unset, .unset, .unset] [(.int (wv + ((p3 &&& (3 : Int32)) - (1 : Int32))))])) _
    refine XS.istore X34.here hx rfl (hb hby at_220) rfl (l' := #[.val (.int p1), .val (.int p2), .val (.int p3), .val (.ref b2), .val (.int (wv + ((p3 &&& (3 : Int32)) - (1 : Int32)))), .unset, .unset]) rfl ?_
    show Steps p.tables e below (T34.setTop (mkF m 222 #[.val (.int p1), .val (.int p2), .val (.int p3), .val (.ref b2), .val (.int (wv + ((p3 &&& (3 : Int32)) - (1 : Int32)))), .unset, .unset] [])) _
    refine XS.iloadN X34.here hx rfl (hb hby at_222) rfl ?_
    show Steps p.tables e below (T34.setTop (mkF m 223 #[.val (.int p1), .val (.int p2), .val (.int p3), .val (.ref b2), .val (.int (wv + ((p3 &&& (3 : Int32)) - (1 : Int32)))), .unset, .unset] [(.int p1)])) _
    exact k
  have Zq : n0 ≤ T34.heap.size := Nat.le_trans gb (Nat.le_of_lt Ar.lt)
  have rq : ∀ t, Steps p.tables e below (T34.setTop (mkF m 223 #[.val (.int p1), .val (.int p2), .val (.int p3), .val (.ref b2), .val (.int (wv + ((p3 &&& (3 : Int32)) - (1 : Int32)))), .unset, .unset] [(.int p1)])) t → Steps p.tables e below (s₁.setTop (mkF m 0 #[.val (.int p1), .val (.int p2), .val (.int p3), .unset, .unset, .unset, .unset] [])) t := fun t k => r34 t (s34 t (s34a t (s34b t k)))
  obtain ⟨_, _, ⟨T35, L35, k35, n35⟩, -, X35, ⟨Lc35, hQ35, l35, y35, z35⟩, st35⟩ := Jvm.LawKit.callS X34 hx (y := (⟨"com/example/kellar/kellar/XmlChars", "isNameStartChar", "(I)Z"⟩ : MethodName)) hown (mvT hZ (hw _ (List.mem_of_getElem? (i := 9) rfl))) (mvT hZ (hw _ (List.mem_of_getElem? (i := 10) rfl))) (mvT hZ (hw _ (List.mem_of_getElem? (i := 11) rfl))) (mvT hZ (hw _ (List.mem_of_getElem? (i := 12) rfl))) (by decide) (backOf (W := 0) (rm1 l Z a0 hw [] p1 T34.heap n0 Zq) hZ (hw _ (List.mem_of_getElem? (i := 12) rfl)) (hw _ (List.mem_of_getElem? (i := 11) rfl)) (by decide) (by decide)) (g := (mkF m 223 #[.val (.int p1), .val (.int p2), .val (.int p3), .val (.ref b2), .val (.int (wv + ((p3 &&& (3 : Int32)) - (1 : Int32)))), .unset, .unset] [(.int p1)])) rfl (by rw [hml]; rfl) (argsL := [(.int p1)]) (rest := []) (lenOf pd__I_Z rfl) rfl (by show 2 * 0 + _ ≤ _; exact Nat.le_of_eq rfl) (hb hby at_223) (fun _ _ => ⟨rfl, rfl, (by decide : 1 + 0 ≤ _), (by decide : 32 + 0 ≤ _)⟩)
  dsimp only [Pt.U, Pt.locs, Pt.cells, Pt.slots] at X35 l35 y35 z35 st35 hQ35
  subst l35 y35 z35
  obtain ⟨rfl, N35q, e35⟩ := hQ35
  have N35 := Fr.app N34 N35q
  rw [← e35] at Zq
  have r35 : ∀ t, Steps p.tables e below (T35.setTop (mkF m 226 #[.val (.int p1), .val (.int p2), .val (.int p3), .val (.ref b2), .val (.int (wv + ((p3 &&& (3 : Int32)) - (1 : Int32)))), .unset, .unset] [(.int (own_isc_0 p1))])) t → Steps p.tables e below (s₁.setTop (mkF m 0 #[.val (.int p1), .val (.int p2), .val (.int p3), .unset, .unset, .unset, .unset] [])) t := fun t k => rq t (st35 _  k)
  have s35 : ∀ t, Steps p.tables e below (T35.setTop (mkF m 227 #[.val (.int p1), .val (.int p2), .val (.int p3), .val (.ref b2), .val (.int (wv + ((p3 &&& (3 : Int32)) - (1 : Int32)))), .unset, .unset] [(.int p1), (.int (own_isc_0 p1))])) t → Steps p.tables e below (T35.setTop (mkF m 226 #[.val (.int p1), .val (.int p2), .val (.int p3), .val (.ref b2), .val (.int (wv + ((p3 &&& (3 : Int32)) - (1 : Int32)))), .unset, .unset] [(.int (own_isc_0 p1))])) t := by
    intro t k
    show Steps p.tables e below (T35.setTop (mkF m 226 #[.val (.int p1), .val (.int p2), .val (.int p3), .val (.ref b2), .val (.int (wv + ((p3 &&& (3 : Int32)) - (1 : Int32)))), .unset, .unset] [(.int (own_isc_0 p1))])) _
    refine XS.iloadN X35.here hx rfl (hb hby at_226) rfl ?_
    show Steps p.tables e below (T35.setTop (mkF m 227 #[.val (.int p1), .val (.int p2), .val (.int p3), .val (.ref b2), .val (.int (wv + ((p3 &&& (3 : Int32)) - (1 : Int32)))), .unset, .unset] [(.int p1), (.int (own_isc_0 p1))])) _
    exact k
  have r35_ : ∀ t, Steps p.tables e below (T35.setTop (mkF m 227 #[.val (.int p1), .val (.int p2), .val (.int p3), .val (.ref b2), .val (.int (wv + ((p3 &&& (3 : Int32)) - (1 : Int32)))), .unset, .unset] [(.int p1), (.int (own_isc_0 p1))])) t → Steps p.tables e below (s₁.setTop (mkF m 0 #[.val (.int p1), .val (.int p2), .val (.int p3), .unset, .unset, .unset, .unset] [])) t := fun t k => r35 t (s35 t k)
  obtain ⟨_, _, ⟨T36, L36, k36, n36⟩, -, X36, ⟨Lc36, hQ36, l36, y36, z36⟩, st36⟩ := Jvm.LawKit.callS X35 hx (y := (⟨"com/example/kellar/kellar/XmlCharsIsNameStartCharPinLaw", "ref", "(I)Z"⟩ : MethodName)) hown (mvT hZ (hw _ (List.mem_of_getElem? (i := 16) rfl))) (mvT hZ (hw _ (List.mem_of_getElem? (i := 17) rfl))) (mvT hZ (hw _ (List.mem_of_getElem? (i := 18) rfl))) (mvT hZ (hw _ (List.mem_of_getElem? (i := 19) rfl))) (by decide) (backOf (W := 1) (rm2 l Z a0 hw [] p1 T35.heap n0 Zq) hZ (hw _ (List.mem_of_getElem? (i := 19) rfl)) (hw _ (List.mem_of_getElem? (i := 18) rfl)) (by decide) (by decide)) (g := (mkF m 227 #[.val (.int p1), .val (.int p2), .val (.int p3), .val (.ref b2), .val (.int (wv + ((p3 &&& (3 : Int32)) - (1 : Int32)))), .unset, .unset] [(.int p1), (.int (own_isc_0 p1))])) rfl (by rw [hml]; rfl) (argsL := [(.int p1)]) (rest := [(.int (own_isc_0 p1))]) (lenOf pd__I_Z rfl) rfl (by show 2 * 0 + _ ≤ _; exact Nat.le_of_eq rfl) (hb hby at_227) (fun _ _ => ⟨rfl, rfl, (by decide : 1 + 0 ≤ _), (by decide : 32 + 0 ≤ _)⟩)
  dsimp only [Pt.U, Pt.locs, Pt.cells, Pt.slots] at X36 l36 y36 z36 st36 hQ36
  subst l36 y36 z36
  obtain ⟨rfl, N36q, e36⟩ := hQ36
  have N36 := Fr.app N35 N36q
  rw [← e36] at Zq
  have r36 : ∀ t, Steps p.tables e below (T36.setTop (mkF m 230 #[.val (.int p1), .val (.int p2), .val (.int p3), .val (.ref b2), .val (.int (wv + ((p3 &&& (3 : Int32)) - (1 : Int32)))), .unset, .unset] [(.int (own_ref_0 p1)), (.int (own_isc_0 p1))])) t → Steps p.tables e below (s₁.setTop (mkF m 0 #[.val (.int p1), .val (.int p2), .val (.int p3), .unset, .unset, .unset, .unset] [])) t := fun t k => r35_ t (st36 _  k)
  have s36 : ∀ t, Steps p.tables e below (T36.setTop (mkF m 242 #[.val (.int p1), .val (.int p2), .val (.int p3), .val (.ref b2), .val (.int (wv + ((p3 &&& (3 : Int32)) - (1 : Int32)))), .val (.int (1 : Int32)), .unset] [(.int (wv + ((p3 &&& (3 : Int32)) - (1 : Int32))))])) t → Steps p.tables e below (T36.setTop (mkF m 230 #[.val (.int p1), .val (.int p2), .val (.int p3), .val (.ref b2), .val (.int (wv + ((p3 &&& (3 : Int32)) - (1 : Int32)))), .unset, .unset] [(.int (own_ref_0 p1)), (.int (own_isc_0 p1))])) t := by
    intro t k
    show Steps p.tables e below (T36.setTop (mkF m 230 #[.val (.int p1), .val (.int p2), .val (.int p3), .val (.ref b2), .val (.int (wv + ((p3 &&& (3 : Int32)) - (1 : Int32)))), .unset, .unset] [(.int (own_ref_0 p1)), (.int (own_isc_0 p1))])) _
    refine XS.icmpNo X36.here hx rfl (hb hby at_230) rfl (XT.ii_ne_f (own_same p1)) ?_
    show Steps p.tables e below (T36.setTop (mkF m 233 #[.val (.int p1), .val (.int p2), .val (.int p3), .val (.ref b2), .val (.int (wv + ((p3 &&& (3 : Int32)) - (1 : Int32)))), .unset, .unset] [])) _
    refine XS.iconst X36.here hx rfl (hb hby at_233) ?_
    show Steps p.tables e below (T36.setTop (mkF m 234 #[.val (.int p1), .val (.int p2), .val (.int p3), .val (.ref b2), .val (.int (wv + ((p3 &&& (3 : Int32)) - (1 : Int32)))), .unset, .unset] [(.int (1 : Int32))])) _
    refine XS.goto X36.here hx rfl (pc0 := 234) (pc' := 238) rfl (hb hby at_234) (by decide) (by decide) ?_
    show Steps p.tables e below (T36.setTop (mkF m 238 #[.val (.int p1), .val (.int p2), .val (.int p3), .val (.ref b2), .val (.int (wv + ((p3 &&& (3 : Int32)) - (1 : Int32)))), .unset, .unset] [(.int (1 : Int32))])) _
    refine XS.istore X36.here hx rfl (hb hby at_238) rfl (l' := #[.val (.int p1), .val (.int p2), .val (.int p3), .val (.ref b2), .val (.int (wv + ((p3 &&& (3 : Int32)) - (1 : Int32)))), .val (.int (1 : Int32)), .unset]) rfl ?_
    show Steps p.tables e below (T36.setTop (mkF m 240 #[.val (.int p1), .val (.int p2), .val (.int p3), .val (.ref b2), .val (.int (wv + ((p3 &&& (3 : Int32)) - (1 : Int32)))), .val (.int (1 : Int32)), .unset] [])) _
    refine XS.iload X36.here hx rfl (hb hby at_240) rfl ?_
    show Steps p.tables e below (T36.setTop (mkF m 242 #[.val (.int p1), .val (.int p2), .val (.int p3), .val (.ref b2), .val (.int (wv + ((p3 &&& (3 : Int32)) - (1 : Int32)))), .val (.int (1 : Int32)), .unset] [(.int (wv + ((p3 &&& (3 : Int32)) - (1 : Int32))))])) _
    exact k
  have r36_ : ∀ t, Steps p.tables e below (T36.setTop (mkF m 242 #[.val (.int p1), .val (.int p2), .val (.int p3), .val (.ref b2), .val (.int (wv + ((p3 &&& (3 : Int32)) - (1 : Int32)))), .val (.int (1 : Int32)), .unset] [(.int (wv + ((p3 &&& (3 : Int32)) - (1 : Int32))))])) t → Steps p.tables e below (s₁.setTop (mkF m 0 #[.val (.int p1), .val (.int p2), .val (.int p3), .unset, .unset, .unset, .unset] [])) t := fun t k => r36 t (s36 t k)
  obtain ⟨_, _, ⟨T37, L37, k37, n37⟩, -, X37, ⟨Lc37, hQ37, l37, y37, z37⟩, st37⟩ := Jvm.LawKit.callS X36 hx (y := (⟨"com/example/kellar/kellar/XmlChars", "isNameStartChar", "(I)Z"⟩ : MethodName)) hown (mvT hZ (hw _ (List.mem_of_getElem? (i := 9) rfl))) (mvT hZ (hw _ (List.mem_of_getElem? (i := 10) rfl))) (mvT hZ (hw _ (List.mem_of_getElem? (i := 11) rfl))) (mvT hZ (hw _ (List.mem_of_getElem? (i := 12) rfl))) (by decide) (backOf (W := 0) (rm1 l Z a0 hw [] (wv + ((p3 &&& (3 : Int32)) - (1 : Int32))) T36.heap n0 Zq) hZ (hw _ (List.mem_of_getElem? (i := 12) rfl)) (hw _ (List.mem_of_getElem? (i := 11) rfl)) (by decide) (by decide)) (g := (mkF m 242 #[.val (.int p1), .val (.int p2), .val (.int p3), .val (.ref b2), .val (.int (wv + ((p3 &&& (3 : Int32)) - (1 : Int32)))), .val (.int (1 : Int32)), .unset] [(.int (wv + ((p3 &&& (3 : Int32)) - (1 : Int32))))])) rfl (by rw [hml]; rfl) (argsL := [(.int (wv + ((p3 &&& (3 : Int32)) - (1 : Int32))))]) (rest := []) (lenOf pd__I_Z rfl) rfl (by show 2 * 0 + _ ≤ _; exact Nat.le_of_eq rfl) (hb hby at_242) (fun _ _ => ⟨rfl, rfl, (by decide : 1 + 0 ≤ _), (by decide : 32 + 0 ≤ _)⟩)
  dsimp only [Pt.U, Pt.locs, Pt.cells, Pt.slots] at X37 l37 y37 z37 st37 hQ37
  subst l37 y37 z37
  obtain ⟨rfl, N37q, e37⟩ := hQ37
  have N37 := Fr.app N36 N37q
  rw [← e37] at Zq
  have r37 : ∀ t, Steps p.tables e below (T37.setTop (mkF m 245 #[.val (.int p1), .val (.int p2), .val (.int p3), .val (.ref b2), .val (.int (wv + ((p3 &&& (3 : Int32)) - (1 : Int32)))), .val (.int (1 : Int32)), .unset] [(.int (own_isc_0 (wv + ((p3 &&& (3 : Int32)) - (1 : Int32)))))])) t → Steps p.tables e below (s₁.setTop (mkF m 0 #[.val (.int p1), .val (.int p2), .val (.int p3), .unset, .unset, .unset, .unset] [])) t := fun t k => r36_ t (st37 _  k)
  have s37 : ∀ t, Steps p.tables e below (T37.setTop (mkF m 247 #[.val (.int p1), .val (.int p2), .val (.int p3), .val (.ref b2), .val (.int (wv + ((p3 &&& (3 : Int32)) - (1 : Int32)))), .val (.int (1 : Int32)), .unset] [(.int (wv + ((p3 &&& (3 : Int32)) - (1 : Int32)))), (.int (own_isc_0 (wv + ((p3 &&& (3 : Int32)) - (1 : Int32)))))])) t → Steps p.tables e below (T37.setTop (mkF m 245 #[.val (.int p1), .val (.int p2), .val (.int p3), .val (.ref b2), .val (.int (wv + ((p3 &&& (3 : Int32)) - (1 : Int32)))), .val (.int (1 : Int32)), .unset] [(.int (own_isc_0 (wv + ((p3 &&& (3 : Int32)) - (1 : Int32)))))])) t := by
    intro t k
    show Steps p.tables e below (T37.setTop (mkF m 245 #[.val (.int p1), .val (.int p2), .val (.int p3), .val (.ref b2), .val (.int (wv + ((p3 &&& (3 : Int32)) - (1 : Int32)))), .val (.int (1 : Int32)), .unset] [(.int (own_isc_0 (wv + ((p3 &&& (3 : Int32)) - (1 : Int32)))))])) _
    refine XS.iload X37.here hx rfl (hb hby at_245) rfl ?_
    show Steps p.tables e below (T37.setTop (mkF m 247 #[.val (.int p1), .val (.int p2), .val (.int p3), .val (.ref b2), .val (.int (wv + ((p3 &&& (3 : Int32)) - (1 : Int32)))), .val (.int (1 : Int32)), .unset] [(.int (wv + ((p3 &&& (3 : Int32)) - (1 : Int32)))), (.int (own_isc_0 (wv + ((p3 &&& (3 : Int32)) - (1 : Int32)))))])) _
    exact k
  have r37_ : ∀ t, Steps p.tables e below (T37.setTop (mkF m 247 #[.val (.int p1), .val (.int p2), .val (.int p3), .val (.ref b2), .val (.int (wv + ((p3 &&& (3 : Int32)) - (1 : Int32)))), .val (.int (1 : Int32)), .unset] [(.int (wv + ((p3 &&& (3 : Int32)) - (1 : Int32)))), (.int (own_isc_0 (wv + ((p3 &&& (3 : Int32)) - (1 : Int32)))))])) t → Steps p.tables e below (s₁.setTop (mkF m 0 #[.val (.int p1), .val (.int p2), .val (.int p3), .unset, .unset, .unset, .unset] [])) t := fun t k => r37 t (s37 t k)
  obtain ⟨_, _, ⟨T38, L38, k38, n38⟩, -, X38, ⟨Lc38, hQ38, l38, y38, z38⟩, st38⟩ := Jvm.LawKit.callS X37 hx (y := (⟨"com/example/kellar/kellar/XmlCharsIsNameStartCharPinLaw", "ref", "(I)Z"⟩ : MethodName)) hown (mvT hZ (hw _ (List.mem_of_getElem? (i := 16) rfl))) (mvT hZ (hw _ (List.mem_of_getElem? (i := 17) rfl))) (mvT hZ (hw _ (List.mem_of_getElem? (i := 18) rfl))) (mvT hZ (hw _ (List.mem_of_getElem? (i := 19) rfl))) (by decide) (backOf (W := 1) (rm2 l Z a0 hw [] (wv + ((p3 &&& (3 : Int32)) - (1 : Int32))) T37.heap n0 Zq) hZ (hw _ (List.mem_of_getElem? (i := 19) rfl)) (hw _ (List.mem_of_getElem? (i := 18) rfl)) (by decide) (by decide)) (g := (mkF m 247 #[.val (.int p1), .val (.int p2), .val (.int p3), .val (.ref b2), .val (.int (wv + ((p3 &&& (3 : Int32)) - (1 : Int32)))), .val (.int (1 : Int32)), .unset] [(.int (wv + ((p3 &&& (3 : Int32)) - (1 : Int32)))), (.int (own_isc_0 (wv + ((p3 &&& (3 : Int32)) - (1 : Int32)))))])) rfl (by rw [hml]; rfl) (argsL := [(.int (wv + ((p3 &&& (3 : Int32)) - (1 : Int32))))]) (rest := [(.int (own_isc_0 (wv + ((p3 &&& (3 : Int32)) - (1 : Int32)))))]) (lenOf pd__I_Z rfl) rfl (by show 2 * 0 + _ ≤ _; exact Nat.le_of_eq rfl) (hb hby at_247) (fun _ _ => ⟨rfl, rfl, (by decide : 1 + 0 ≤ _), (by decide : 32 + 0 ≤ _)⟩)
  dsimp only [Pt.U, Pt.locs, Pt.cells, Pt.slots] at X38 l38 y38 z38 st38 hQ38
  subst l38 y38 z38
  obtain ⟨rfl, N38q, e38⟩ := hQ38
  have N38 := Fr.app N37 N38q
  rw [← e38] at Zq
  have r38 : ∀ t, Steps p.tables e below (T38.setTop (mkF m 250 #[.val (.int p1), .val (.int p2), .val (.int p3), .val (.ref b2), .val (.int (wv + ((p3 &&& (3 : Int32)) - (1 : Int32)))), .val (.int (1 : Int32)), .unset] [(.int (own_ref_0 (wv + ((p3 &&& (3 : Int32)) - (1 : Int32))))), (.int (own_isc_0 (wv + ((p3 &&& (3 : Int32)) - (1 : Int32)))))])) t → Steps p.tables e below (s₁.setTop (mkF m 0 #[.val (.int p1), .val (.int p2), .val (.int p3), .unset, .unset, .unset, .unset] [])) t := fun t k => r37_ t (st38 _  k)
  have s38 : ∀ t, Steps p.tables e below (T38.setTop (mkF m 275 #[.val (.int p1), .val (.int p2), .val (.int p3), .val (.ref b2), .val (.int (wv + ((p3 &&& (3 : Int32)) - (1 : Int32)))), .val (.int (1 : Int32)), .val (.int (1 : Int32))] [(.int (1 : Int32))])) t → Steps p.tables e below (T38.setTop (mkF m 250 #[.val (.int p1), .val (.int p2), .val (.int p3), .val (.ref b2), .val (.int (wv + ((p3 &&& (3 : Int32)) - (1 : Int32)))), .val (.int (1 : Int32)), .unset] [(.int (own_ref_0 (wv + ((p3 &&& (3 : Int32)) - (1 : Int32))))), (.int (own_isc_0 (wv + ((p3 &&& (3 : Int32)) - (1 : Int32)))))])) t := by
    intro t k
    show Steps p.tables e below (T38.setTop (mkF m 250 #[.val (.int p1), .val (.int p2), .val (.int p3), .val (.ref b2), .val (.int (wv + ((p3 &&& (3 : Int32)) - (1 : Int32)))), .val (.int (1 : Int32)), .unset] [(.int (own_ref_0 (wv + ((p3 &&& (3 : Int32)) - (1 : Int32))))), (.int (own_isc_0 (wv + ((p3 &&& (3 : Int32)) - (1 : Int32)))))])) _
    refine XS.icmpNo X38.here hx rfl (hb hby at_250) rfl (XT.ii_ne_f (own_same (wv + ((p3 &&& (3 : Int32)) - (1 : Int32))))) ?_
    show Steps p.tables e below (T38.setTop (mkF m 253 #[.val (.int p1), .val (.int p2), .val (.int p3), .val (.ref b2), .val (.int (wv + ((p3 &&& (3 : Int32)) - (1 : Int32)))), .val (.int (1 : Int32)), .unset] [])) _
    refine XS.iconst X38.here hx rfl (hb hby at_253) ?_
    show Steps p.tables e below (T38.setTop (mkF m 254 #[.val (.int p1), .val (.int p2), .val (.int p3), .val (.ref b2), .val (.int (wv + ((p3 &&& (3 : Int32)) - (1 : Int32)))), .val (.int (1 : Int32)), .unset] [(.int (1 : Int32))])) _
    refine XS.goto X38.here hx rfl (pc0 := 254) (pc' := 258) rfl (hb hby at_254) (by decide) (by decide) ?_
    show Steps p.tables e below (T38.setTop (mkF m 258 #[.val (.int p1), .val (.int p2), .val (.int p3), .val (.ref b2), .val (.int (wv + ((p3 &&& (3 : Int32)) - (1 : Int32)))), .val (.int (1 : Int32)), .unset] [(.int (1 : Int32))])) _
    refine XS.istore X38.here hx rfl (hb hby at_258) rfl (l' := #[.val (.int p1), .val (.int p2), .val (.int p3), .val (.ref b2), .val (.int (wv + ((p3 &&& (3 : Int32)) - (1 : Int32)))), .val (.int (1 : Int32)), .val (.int (1 : Int32))]) rfl ?_
    show Steps p.tables e below (T38.setTop (mkF m 260 #[.val (.int p1), .val (.int p2), .val (.int p3), .val (.ref b2), .val (.int (wv + ((p3 &&& (3 : Int32)) - (1 : Int32)))), .val (.int (1 : Int32)), .val (.int (1 : Int32))] [])) _
    refine XS.iload X38.here hx rfl (hb hby at_260) rfl ?_
    show Steps p.tables e below (T38.setTop (mkF m 262 #[.val (.int p1), .val (.int p2), .val (.int p3), .val (.ref b2), .val (.int (wv + ((p3 &&& (3 : Int32)) - (1 : Int32)))), .val (.int (1 : Int32)), .val (.int (1 : Int32))] [(.int (1 : Int32))])) _
    refine XS.ifNo X38.here hx rfl (hb hby at_262) rfl (XT.i0_eq_f (by decide)) ?_
    show Steps p.tables e below (T38.setTop (mkF m 265 #[.val (.int p1), .val (.int p2), .val (.int p3), .val (.ref b2), .val (.int (wv + ((p3 &&& (3 : Int32)) - (1 : Int32)))), .val (.int (1 : Int32)), .val (.int (1 : Int32))] [])) _
    refine XS.iload X38.here hx rfl (hb hby at_265) rfl ?_
    show Steps p.tables e below (T38.setTop (mkF m 267 #[.val (.int p1), .val (.int p2), .val (.int p3), .val (.ref b2), .val (.int (wv + ((p3 &&& (3 : Int32)) - (1 : Int32)))), .val (.int (1 : Int32)), .val (.int (1 : Int32))] [(.int (1 : Int32))])) _
    refine XS.ifNo X38.here hx rfl (hb hby at_267) rfl (XT.i0_eq_f (by decide)) ?_
    show Steps p.tables e below (T38.setTop (mkF m 270 #[.val (.int p1), .val (.int p2), .val (.int p3), .val (.ref b2), .val (.int (wv + ((p3 &&& (3 : Int32)) - (1 : Int32)))), .val (.int (1 : Int32)), .val (.int (1 : Int32))] [])) _
    refine XS.iconst X38.here hx rfl (hb hby at_270) ?_
    show Steps p.tables e below (T38.setTop (mkF m 271 #[.val (.int p1), .val (.int p2), .val (.int p3), .val (.ref b2), .val (.int (wv + ((p3 &&& (3 : Int32)) - (1 : Int32)))), .val (.int (1 : Int32)), .val (.int (1 : Int32))] [(.int (1 : Int32))])) _
    refine XS.goto X38.here hx rfl (pc0 := 271) (pc' := 275) rfl (hb hby at_271) (by decide) (by decide) ?_
    show Steps p.tables e below (T38.setTop (mkF m 275 #[.val (.int p1), .val (.int p2), .val (.int p3), .val (.ref b2), .val (.int (wv + ((p3 &&& (3 : Int32)) - (1 : Int32)))), .val (.int (1 : Int32)), .val (.int (1 : Int32))] [(.int (1 : Int32))])) _
    exact k
  have r38_ : ∀ t, Steps p.tables e below (T38.setTop (mkF m 275 #[.val (.int p1), .val (.int p2), .val (.int p3), .val (.ref b2), .val (.int (wv + ((p3 &&& (3 : Int32)) - (1 : Int32)))), .val (.int (1 : Int32)), .val (.int (1 : Int32))] [(.int (1 : Int32))])) t → Steps p.tables e below (s₁.setTop (mkF m 0 #[.val (.int p1), .val (.int p2), .val (.int p3), .unset, .unset, .unset, .unset] [])) t := fun t k => r38 t (s38 t k)
  obtain ⟨fs, hr, hrun, hended, hW, hsame⟩ := X38.leave (v := some (.int (1 : Int32))) (fun h => by rw [Bd.returns] at h; cases h)
  refine ⟨_, _, pre0 _ (r38_ _ ?_), hrun, hended, _, _, rfl, ?_, ⟨_, rfl⟩, hW, hsame.mono (by decide) (by decide)⟩
  · exact retN X38 hx (t := .boolean) Bd.returns (by simp) (hb hby at_275) hr
  · exact ⟨rfl, N38⟩
set_option maxRecDepth 65536 in
set_option maxHeartbeats 40000000 in
theorem comes_1 {Post : Tables → Env → Array Value → State → Outcome → State → Prop} (hpost : ∀ tb e args s v u, (limb_1_1.after args s (.returned v) u = true ∧ limb_1_2.after args s (.returned v) u = true ∧ True) → FrameEnd s (.returned v) u (Jvm.fieldLocs frame_1_writes args s ++ Jvm.arrayLocs frame_1_arrays args s ++ Jvm.staticLocs frame_1_statics s) 16 128 → Post tb e args s (.returned v) u) :
    ArmFor flags0 classFile x code maxLocals ret World_1 tables_1 room_1 Calls_1 rest_1 Pre_1 Post := by
  intro l hfl _ _ p e ha hc hk s m args below hf hA hF happ hP
  obtain ⟨hcalls, hrest, hpre⟩ := hP
  obtain ⟨-, -, -, hnamed, -, -, -, hat⟩ := (Spec.applies_iff hf).mp happ
  obtain ⟨hg, hn⟩ := and_e (Cond.before_iff.mp (show (Jvm.Cond.and given_1 narrow_1).before args s = true from hpre))
  obtain ⟨gc, q0⟩ := and_e hg
  obtain ⟨gi0, q1⟩ := and_e q0
  obtain ⟨gi1, q2⟩ := and_e q1
  obtain ⟨w0, w1, w2, rfl⟩ : ∃ w0 w1 w2 : Value, args = #[w0, w1, w2] := by
    have hs : args.size = 3 := by simpa [Cond.value, given_1] using gc
    obtain ⟨L⟩ := args
    match L, hs with
    | [w0, w1, w2], _ => exact ⟨w0, w1, w2, rfl⟩
  have hw := fun d (hd : d ∈ tables_1) => atoms_spec (ws := Jvm.Cond.code x code maxLocals ret :: tables_1) hat d (List.mem_cons_of_mem _ hd)
  obtain ⟨i0, ei0⟩ := is_v gi0
  obtain rfl : w0 = (.int i0) := Option.some.inj ei0
  obtain ⟨i1, ei1⟩ := is_v gi1
  obtain rfl : w1 = (.int i1) := Option.some.inj ei1
  obtain ⟨i2, ei2⟩ := is_v q2
  obtain rfl : w2 = (.int i2) := Option.some.inj ei2
  obtain ⟨n, o, h1, h2, h3, _, L, rfl, ⟨rfl, N⟩, hq⟩ := rm0 l s _ hw tables_1 i0 i1 i2 s.heap s.heap.size (Nat.le_refl _) p e ha hc hk s m _ below hf ((Spec.applies_iff_loose hf).mp happ).1 ⟨rfl, State.Warmed39.refl s, rfl⟩ trivial
  refine ⟨n, _, h1, h2, h3, hpost _ _ _ _ _ _ ⟨Cond.after_iff.mpr rfl, Cond.after_iff.mpr (eq_i res_at (Term.int_eval (1)) rfl), trivial⟩ ⟨hq.1, hq.2.1, (hq.2.2.sift fun y hy => Or.inr (N y hy)).mono (by decide) (by decide)⟩⟩
theorem main_1_1 : Claimed_1_1 := comes_1 fun _ _ _ _ _ _ h hF => ⟨h.1, hF⟩
theorem main_1_2 : Claimed_1_2 := comes_1 fun _ _ _ _ _ _ h hF => ⟨h.2.1, hF⟩
end Jvm.Pilot.@@N@@
namespace Jvm.Pilot.@@N@@
open Jvm Jvm.ClassFile Sem Op Lib Jvm.Free Jvm.Stand Jvm.Pilot.@@N@@.Jvm.D
/-! MADE BY PROGRAM (witnessworld.py) out of the Statement's table words and the real class files: 9 classes; the members and pool entries that the words name. The judged class is class 1, her method 2. -/
namespace start1
open Jvm.ClassFile
def u (s : String) : CpInfo := .utf8 (stringToUtf16 s)
/-- a pool by its gaps: so many unusable entries, then the entry; so many at the end -/
def gap : Nat → List CpInfo → List CpInfo
  | 0, r => r
  | n + 1, r => .unusable :: gap n r
def poolList (es : List (Nat × CpInfo)) (last : Nat) : List CpInfo := es.foldr (fun e r => gap e.1 (e.2 :: r)) (gap last [])
def pool (es : List (Nat × CpInfo)) (last : Nat) : Array CpInfo := ⟨poolList es last⟩
def fileOf (pool : Array CpInfo) (this : Nat) (attrs : Array Attribute := #[]) (ms : Array MethodInfo := #[]) (fl : Nat := 33) (sup : Nat := 0) (ifs : Array Nat := #[]) (fds : Array FieldInfo := #[]) : ClassFile where
  minorVersion := 0
  majorVersion := 65
  constantPool := pool
  accessFlags := fl
  thisClass := this
  superClass := sup
  interfaces := ifs
  fields := fds
  methods := ms
  attributes := attrs
def plain (name : String) (sup : Option ClassId) : Class where
  name := name
  kind := .ordinary
  loader := none
  accessFlags := 33
  super := sup
  interfaces := #[]
  cf := none
  fields := #[]
  methods := #[]
  instanceTypes := #[]
  staticTypes := #[]
  resolved := #[]
  callSites := []
  init := .initialized
  statics := none
  mirror := none

def pool0 : Array CpInfo := pool [(5, u "<init>"), (0, u "()V"), (1, .class_ 10), (1, u "java/lang/Object")] 113

def k0m0 : Method := { name := "<init>", desc := "()V", sig := { parameters := [], returnType := none }, accessFlags := 1, code := none }
/-- java/lang/Object -/
def k0 : Class := { plain "java/lang/Object" none with
  accessFlags := 33
  interfaces := #[]
  cf := some (fileOf pool0 8 #[] #[{ accessFlags := 1, nameIndex := 5, descriptorIndex := 6, attributes := #[] }] 33 0 #[] #[])
  fields := #[]
  methods := #[k0m0]
  instanceTypes := #[]
  staticTypes := #[]
  resolved := Array.replicate 124 none
  statics := none }

def pool1 : Array CpInfo := pool [(2, .class_ 4), (1, u "java/lang/Object"), (0, u "<init>"), (0, u "()V"), (0, .integer 983039), (0, .integer 55296), (0, .integer 63743), (0, .integer 64976), (0, .integer 65007), (0, .integer 65534), (0, .integer 65535), (0, .integer 55295), (0, .integer 63744), (0, .integer 64975), (0, .integer 65008), (0, .integer 65533), (0, .integer 65536), (0, .integer 1114112), (0, .methodref 22 23), (0, .class_ 24), (0, .nameAndType 25 26), (0, u "com/example/kellar/kellar/XmlChars"), (0, u "isNameStartChar"), (0, u "(I)Z"), (0, .methodref 28 29), (0, .class_ 30), (0, .nameAndType 31 26), (0, u "com/example/kellar/kellar/XmlCharsIsNameStartCharPinLaw"), (0, u "ref"), (3, u "law"), (0, u "(III)Z")] 4

def k1m0 : Method := { name := "<init>", desc := "()V", sig := { parameters := [], returnType := none }, accessFlags := 2, code := none }
def k1c1 : Code := { maxStack := 2, maxLocals := 1, code := method_2_code, exceptionTable := #[], attributes := #[] }
def k1m1 : Method := { name := "ref", desc := "(I)Z", sig := { parameters := [.int], returnType := some .boolean }, accessFlags := 10, code := some k1c1 }
def k1c2 : Code := { maxStack := 4, maxLocals := 7, code := code, exceptionTable := #[], attributes := #[] }
def k1m2 : Method := { name := "law", desc := "(III)Z", sig := { parameters := [.int, .int, .int], returnType := some .boolean }, accessFlags := 9, code := some k1c2 }
/-- com/example/kellar/kellar/XmlCharsIsNameStartCharPinLaw -/
def k1 : Class := { plain "com/example/kellar/kellar/XmlCharsIsNameStartCharPinLaw" (some 0) with
  accessFlags := 49
  interfaces := #[]
  cf := some (fileOf pool1 28 #[] #[{ accessFlags := 2, nameIndex := 5, descriptorIndex := 6, attributes := #[] }, { accessFlags := 10, nameIndex := 31, descriptorIndex := 26, attributes := #[] }, { accessFlags := 9, nameIndex := 35, descriptorIndex := 36, attributes := #[] }] 49 2 #[] #[])
  fields := #[]
  methods := #[k1m0, k1m1, k1m2]
  instanceTypes := #[]
  staticTypes := #[]
  resolved := Array.replicate 41 none
  statics := none }

def pool2 : Array CpInfo := pool [(2, .class_ 4), (1, u "java/lang/Object"), (0, u "<init>"), (0, u "()V"), (0, .integer 55295), (1, .integer 65533), (0, .integer 65536), (1, .integer 63744), (0, .integer 64975), (0, .integer 65008), (0, .integer 983039), (11, .class_ 29), (1, u "com/example/kellar/kellar/XmlChars"), (0, u "isNameStartChar"), (0, u "(I)Z")] 20

def k2m0 : Method := { name := "<init>", desc := "()V", sig := { parameters := [], returnType := none }, accessFlags := 2, code := none }
def k2c1 : Code := { maxStack := 2, maxLocals := 1, code := prog_19_method_3_code, exceptionTable := #[], attributes := #[] }
def k2m1 : Method := { name := "isNameStartChar", desc := "(I)Z", sig := { parameters := [.int], returnType := some .boolean }, accessFlags := 9, code := some k2c1 }
/-- com/example/kellar/kellar/XmlChars -/
def k2 : Class := { plain "com/example/kellar/kellar/XmlChars" (some 0) with
  accessFlags := 49
  interfaces := #[]
  cf := some (fileOf pool2 27 #[] #[{ accessFlags := 2, nameIndex := 5, descriptorIndex := 6, attributes := #[] }, { accessFlags := 9, nameIndex := 30, descriptorIndex := 31, attributes := #[] }] 49 2 #[] #[])
  fields := #[]
  methods := #[k2m0, k2m1]
  instanceTypes := #[]
  staticTypes := #[]
  resolved := Array.replicate 52 none
  statics := none }

def pool3 : Array CpInfo := pool [(1, u "java/lang/Cloneable"), (0, .class_ 1), (0, u "java/lang/Object"), (0, .class_ 3)] 3

/-- java/lang/Cloneable -/
def k3 : Class := { plain "java/lang/Cloneable" (some 0) with
  accessFlags := 1537
  interfaces := #[]
  cf := some (fileOf pool3 2 #[] #[] 1537 4 #[] #[])
  fields := #[]
  methods := #[]
  instanceTypes := #[]
  staticTypes := #[]
  resolved := Array.replicate 8 none
  statics := none }

def pool4 : Array CpInfo := pool [(1, u "java/io/Serializable"), (0, .class_ 1), (0, u "java/lang/Object"), (0, .class_ 3)] 3

/-- java/io/Serializable -/
def k4 : Class := { plain "java/io/Serializable" (some 0) with
  accessFlags := 1537
  interfaces := #[]
  cf := some (fileOf pool4 2 #[] #[] 1537 4 #[] #[])
  fields := #[]
  methods := #[]
  instanceTypes := #[]
  staticTypes := #[]
  resolved := Array.replicate 8 none
  statics := none }

/-- the primitive byte -/
def k5 : Class := { plain "byte" none with kind := .primitive 'B', accessFlags := 0x411 }
/-- [B -/
def k6 : Class := { plain "[B" (some 0) with kind := .array 5 .byte, interfaces := #[3, 4], accessFlags := 1041 }

/-- the primitive int -/
def k7 : Class := { plain "int" none with kind := .primitive 'I', accessFlags := 0x411 }
/-- [I -/
def k8 : Class := { plain "[I" (some 0) with kind := .array 7 .int, interfaces := #[3, 4], accessFlags := 1041 }

def heap : Heap := #[]
def classes : Array Class := #[k0, k1, k2, k3, k4, k5, k6, k7, k8]
def interned : List (Array UInt16 × Addr) := []
def slotsUsed : Nat := 0
def theMethod : MethodId := ⟨1, 2⟩
def args0 : Array Value := #[.int 5, .int 6, .int 7]
def aboutOver (below : List Frame) : State where
  vm := { classes := classes, interned := interned.toArray }
  heap := heap
  slotsUsed := slotsUsed
  threads := #[{ frames := .invoking theMethod args0 :: below }]
def below0 : List Frame := [.native { method := ⟨0, 0⟩, args := #[] }]
def about1 : State := aboutOver below0
def p0 : Program := .bare "" "" ""
def e0 : Env := launch0.env 0 0 0
theorem w_frames : about1.frames = Frame.invoking theMethod args0 :: below0 := rfl
set_option maxRecDepth 65536 in
theorem w_args : argsFit about1.vm theMethod args0 = true := by decide +kernel
set_option maxRecDepth 65536 in
theorem w_heap : heapFits about1 = true := by decide +kernel
set_option maxRecDepth 65536 in
theorem w_runnable : about1.curStatus? = some .runnable := by decide +kernel
set_option maxRecDepth 65536 in
theorem w_alone : about1.alone = true := by decide +kernel
set_option maxRecDepth 65536 in
theorem w_named : about1.methodNamed? x = some theMethod := by decide +kernel
set_option maxRecDepth 65536 in
theorem w_hears : about1.hears theMethod below0 = true := by decide +kernel
set_option maxRecDepth 65536 in
theorem w_ripe : about1.ripe theMethod args0 below0 = true := by decide +kernel
theorem w_running : about1.status = .running := rfl
set_option maxRecDepth 65536 in
theorem w_room : about1.hasRoom e0.platform room_1 = true :=
  launch0.hasRoom_least _ room_1 (by decide +kernel) (by decide +kernel) (by decide +kernel) (by decide +kernel) (by decide +kernel) (by decide +kernel)
theorem allAtoms_all (ts : List Jvm.Cond) (a : Array Jvm.Value) (st : Jvm.State) : (allAtoms ts).before a st = ts.all (fun c => c.before a st) := by
  induction ts with
  | nil => rfl
  | cons c t ih =>
    show (Jvm.Cond.and c (allAtoms t)).before a st = _
    rw [Jvm.Cond.before_and, ih, List.all_cons]
def words1 : List Jvm.Cond := Jvm.Cond.code x code maxLocals ret :: tables_1
/-- a 'code' word, met by the world's own term for the bytes: nothing is compared byte by byte -/
theorem code_word {y : MethodName} {bytes : ByteArray} {mx : Nat} {rt : Option FieldType} {a : Array Value} {s : State} {m : MethodId} {meth : Method} {c : Code} (h1 : s.methodNamed? y = some m) (h2 : s.vm.method? m = some meth) (h3 : meth.code = some c) (h4 : c.code = bytes)
    (h5 : (c.maxLocals == mx && c.exceptionTable.isEmpty && decide (c.maxStack ≤ mostOperands) && decide (meth.sig.returnType = rt) && !meth.locks && decide (parseMethodDescriptor y.desc = some meth.sig)) = true) : (Jvm.Cond.code y bytes mx rt).before a s = true := by
  simp only [Bool.and_eq_true, beq_iff_eq, Bool.not_eq_true', decide_eq_true_eq] at h5
  obtain ⟨⟨⟨⟨⟨g1, g2⟩, g3⟩, g4⟩, g5⟩, g6⟩ := h5
  simp [Cond.before, Cond.holds, Cond.value, h1, h2, h3, h4, g1, g2, g3, g4, g5, g6]
def isCode : Jvm.Cond → Bool
  | .code _ _ _ _ => true
  | _ => false
theorem all_split {L : List Jvm.Cond} {P : Jvm.Cond → Bool} (h1 : L.all (fun c => isCode c || P c) = true) (h2 : ∀ c ∈ L.filter isCode, P c = true) : L.all P = true := by
  refine List.all_eq_true.mpr fun c hc => ?_
  have h := List.all_eq_true.mp h1 c hc
  rcases Bool.eq_false_or_eq_true (isCode c) with hi | hi
  · exact h2 c (List.mem_filter.mpr ⟨hc, hi⟩)
  · simpa [hi] using h
set_option maxRecDepth 65536 in
theorem w_c0 : (Jvm.Cond.code x code maxLocals ret).before args0 about1 = true := code_word (m := ⟨1, 2⟩) (meth := k1m2) (c := k1c2) (by decide +kernel) rfl rfl rfl (by decide +kernel)
set_option maxRecDepth 65536 in
theorem w_c1 : (Jvm.Cond.code ({ cls := "com/example/kellar/kellar/XmlChars", name := "isNameStartChar", desc := "(I)Z" } : Jvm.MethodName) prog_19_method_3_code (1 : Nat) (Option.some Jvm.ClassFile.FieldType.boolean)).before args0 about1 = true := code_word (m := ⟨2, 1⟩) (meth := k2m1) (c := k2c1) (by decide +kernel) rfl rfl rfl (by decide +kernel)
set_option maxRecDepth 65536 in
theorem w_c2 : (Jvm.Cond.code ({ cls := "com/example/kellar/kellar/XmlCharsIsNameStartCharPinLaw", name := "ref", desc := "(I)Z" } : Jvm.MethodName) method_2_code (1 : Nat) (Option.some Jvm.ClassFile.FieldType.boolean)).before args0 about1 = true := code_word (m := ⟨1, 1⟩) (meth := k1m1) (c := k1c1) (by decide +kernel) rfl rfl rfl (by decide +kernel)
def codes1 : List Jvm.Cond := [Jvm.Cond.code x code maxLocals ret, Jvm.Cond.code ({ cls := "com/example/kellar/kellar/XmlChars", name := "isNameStartChar", desc := "(I)Z" } : Jvm.MethodName) prog_19_method_3_code (1 : Nat) (Option.some Jvm.ClassFile.FieldType.boolean), Jvm.Cond.code ({ cls := "com/example/kellar/kellar/XmlCharsIsNameStartCharPinLaw", name := "ref", desc := "(I)Z" } : Jvm.MethodName) method_2_code (1 : Nat) (Option.some Jvm.ClassFile.FieldType.boolean)]
set_option maxRecDepth 65536 in
theorem codes_eq : words1.filter isCode = codes1 := rfl
theorem w_codes : ∀ c ∈ words1.filter isCode, c.before args0 about1 = true := by
  rw [codes_eq]
  intro c hc
  simp only [codes1, List.mem_cons, List.not_mem_nil, or_false] at hc
  rcases hc with rfl | rfl | rfl
  · exact w_c0
  · exact w_c1
  · exact w_c2
set_option maxRecDepth 65536 in
theorem w_t1 : (words1.take 24).all (fun c => isCode c || c.before args0 about1) = true := by decide +kernel
set_option maxRecDepth 65536 in
theorem w_t2 : (words1.drop 24).all (fun c => isCode c || c.before args0 about1) = true := by decide +kernel
theorem w_tables : (allAtoms (Jvm.Cond.code x code maxLocals ret :: tables_1)).before args0 about1 = true := by
  rw [allAtoms_all]
  show words1.all (fun c => c.before args0 about1) = true
  refine all_split ?_ w_codes
  rw [← List.take_append_drop 24 words1, List.all_append, w_t1, w_t2]
  rfl
set_option maxRecDepth 65536 in
theorem w_case : (Jvm.Cond.and given_1 narrow_1).before args0 about1 = true := by decide +kernel
theorem w_applies : (headSpec (Jvm.Cond.code x code maxLocals ret :: tables_1) room_1).applies x e0.platform about1 = true :=
  (Spec.applies_iff w_frames).mpr ⟨w_running, w_runnable, w_alone, w_named, w_hears, w_ripe, w_room, w_tables⟩
theorem atStart : AtStart classFile x code maxLocals ret World_1 tables_1 room_1 Calls_1 rest_1 Pre_1 launch0 p0 e0 about1 theMethod args0 below0 :=
  ⟨lists_1, trivial, launch0.admits_env _ _ _, launch0.least_env, fairChoices_fair.cas, fairChoices_fair.clock, w_frames, w_args, w_heap, w_applies, trivial, trivial, w_case⟩
end start1
theorem witness_1 : WitnessClaimed_1 := ⟨start1.p0, start1.e0, start1.about1, start1.theMethod, start1.args0, start1.below0, start1.atStart⟩
end Jvm.Pilot.@@N@@
