import JvmDerived
import JvmDerived.Pilot.@@N@@Statement
import JvmDerived.Pilot.@@N@@Code
set_option linter.unusedVariables false
set_option linter.unusedSimpArgs false
namespace Jvm.RoadKit
open Sem ClassFile Op Lib Jvm.Stand Jvm.Free Jvm.LawKit
section New
variable {p : Program} {l : Launch} {e : Env} {R : Room} {s : State} {m : MethodId} {args : Array Value} {below : List Frame} {meth : Method} {c : Code} {T : State} {locs : List Loc} {cells slots : Nat}
theorem retI (X : Stand p l e R s m args below meth c T locs cells slots) (hx : p.tables.exec = Jvm.exec) {pc : Nat} {Ls : Array Slot} {z : Int32} {rest : List Value} (hret : meth.sig.returnType = some .int) (hd : decode c.code pc = .ok (.ireturn, 1)) {fs : List Frame}
    (hl : ∀ (f : JFrame) (acts : List Action), f.method = m → f.locked = none → f.entered = [] → (doReturn e (T.setTop f) acts (some (.int z))).1 = T.setFrames fs) : Steps p.tables e below (T.setTop (mkF m pc Ls (.int z :: rest))) (T.setFrames fs) := by
  have hm' : T.vm.method? m = some meth := X.method'
  have hn : narrow .int (.int z) = .int z := rfl
  show Steps p.tables e below (T.setTop { method := m, pc := pc, locals := Ls, stack := _ :: rest, locked := none }) _
  jvm_step X.here [X.here.top, hx, hd, hm', hret, hn]
  first | (intro acts; rw [hl _ acts rfl rfl rfl]) | rw [hl _ _ rfl rfl rfl]
  exact Steps.refl _
end New
end Jvm.RoadKit
namespace Jvm.Pilot.@@N@@
open Jvm Jvm.ClassFile Sem Op Lib Jvm.Free Jvm.Stand Jvm.LawKit Jvm.RoadKit Bundle Jvm.Pilot.@@N@@.Jvm.D
theorem pd__I_Z : parseMethodDescriptor "(I)Z" = some ⟨[.int], some .boolean⟩ := by decide +kernel
def own_isc_58 (p1 : Int32) : Int32 := (0 : Int32)
def own_isc_54 (p1 : Int32) : Int32 := (1 : Int32)
def own_isc_48 (p1 : Int32) : Int32 := if (1114111 : Int32) < p1 then own_isc_58 p1 else own_isc_54 p1
def own_isc_42 (p1 : Int32) : Int32 := if p1 < (65536 : Int32) then own_isc_58 p1 else own_isc_48 p1
def own_isc_36 (p1 : Int32) : Int32 := if (65533 : Int32) < p1 then own_isc_42 p1 else own_isc_54 p1
def own_isc_30 (p1 : Int32) : Int32 := if p1 < (57344 : Int32) then own_isc_42 p1 else own_isc_36 p1
def own_isc_24 (p1 : Int32) : Int32 := if (55295 : Int32) < p1 then own_isc_30 p1 else own_isc_54 p1
def own_isc_18 (p1 : Int32) : Int32 := if p1 < (32 : Int32) then own_isc_30 p1 else own_isc_24 p1
def own_isc_12 (p1 : Int32) : Int32 := if p1 = (13 : Int32) then own_isc_54 p1 else own_isc_18 p1
def own_isc_6 (p1 : Int32) : Int32 := if p1 = (10 : Int32) then own_isc_54 p1 else own_isc_12 p1
def own_isc_0 (p1 : Int32) : Int32 := if p1 = (9 : Int32) then own_isc_54 p1 else own_isc_6 p1
theorem d1_0 : decode prog_19_method_2_code 0 = .ok (.iload_n 0, 1) := by decide +kernel
theorem d1_1 : decode prog_19_method_2_code 1 = .ok (.bipush 9, 2) := by decide +kernel
theorem d1_3 : decode prog_19_method_2_code 3 = .ok (.if_icmp .eq 51, 3) := by decide +kernel
theorem d1_6 : decode prog_19_method_2_code 6 = .ok (.iload_n 0, 1) := by decide +kernel
theorem d1_7 : decode prog_19_method_2_code 7 = .ok (.bipush 10, 2) := by decide +kernel
theorem d1_9 : decode prog_19_method_2_code 9 = .ok (.if_icmp .eq 45, 3) := by decide +kernel
theorem d1_12 : decode prog_19_method_2_code 12 = .ok (.iload_n 0, 1) := by decide +kernel
theorem d1_13 : decode prog_19_method_2_code 13 = .ok (.bipush 13, 2) := by decide +kernel
theorem d1_15 : decode prog_19_method_2_code 15 = .ok (.if_icmp .eq 39, 3) := by decide +kernel
theorem d1_18 : decode prog_19_method_2_code 18 = .ok (.iload_n 0, 1) := by decide +kernel
theorem d1_19 : decode prog_19_method_2_code 19 = .ok (.bipush 32, 2) := by decide +kernel
theorem d1_21 : decode prog_19_method_2_code 21 = .ok (.if_icmp .lt 9, 3) := by decide +kernel
theorem d1_24 : decode prog_19_method_2_code 24 = .ok (.iload_n 0, 1) := by decide +kernel
theorem d1_25 : decode prog_19_method_2_code 25 = .ok (.ldc 7, 2) := by decide +kernel
theorem d1_27 : decode prog_19_method_2_code 27 = .ok (.if_icmp .le 27, 3) := by decide +kernel
theorem d1_30 : decode prog_19_method_2_code 30 = .ok (.iload_n 0, 1) := by decide +kernel
theorem d1_31 : decode prog_19_method_2_code 31 = .ok (.ldc 8, 2) := by decide +kernel
theorem d1_33 : decode prog_19_method_2_code 33 = .ok (.if_icmp .lt 9, 3) := by decide +kernel
theorem d1_36 : decode prog_19_method_2_code 36 = .ok (.iload_n 0, 1) := by decide +kernel
theorem d1_37 : decode prog_19_method_2_code 37 = .ok (.ldc 9, 2) := by decide +kernel
theorem d1_39 : decode prog_19_method_2_code 39 = .ok (.if_icmp .le 15, 3) := by decide +kernel
theorem d1_42 : decode prog_19_method_2_code 42 = .ok (.iload_n 0, 1) := by decide +kernel
theorem d1_43 : decode prog_19_method_2_code 43 = .ok (.ldc 10, 2) := by decide +kernel
theorem d1_45 : decode prog_19_method_2_code 45 = .ok (.if_icmp .lt 13, 3) := by decide +kernel
theorem d1_48 : decode prog_19_method_2_code 48 = .ok (.iload_n 0, 1) := by decide +kernel
theorem d1_49 : decode prog_19_method_2_code 49 = .ok (.ldc 11, 2) := by decide +kernel
theorem d1_51 : decode prog_19_method_2_code 51 = .ok (.if_icmp .gt 7, 3) := by decide +kernel
theorem d1_54 : decode prog_19_method_2_code 54 = .ok (.iconst 1, 1) := by decide +kernel
theorem d1_55 : decode prog_19_method_2_code 55 = .ok (.goto 4, 3) := by decide +kernel
theorem d1_58 : decode prog_19_method_2_code 58 = .ok (.iconst 0, 1) := by decide +kernel
theorem d1_59 : decode prog_19_method_2_code 59 = .ok (.ireturn, 1) := by decide +kernel
theorem pn_1 : plainName "com/example/kellar/kellar/XmlChars" = true := by first | (simp [plainName, overriddenIn]; done) | decide +kernel
theorem ef_1 (m : MethodId) (x0 : Int32) : entryFrame m #[(.int x0)] 1 = mkF m 0 #[.val (.int x0)] [] := by first | (simp [entryFrame, mkF, argsToLocals, Value.category]; done) | rfl
def Q1 (Z : State) (p1 : Int32) (h0 : Heap) (n0 : Nat) (v : Option Value) (h : Heap) (L : List Loc) : Prop := v = some (.int (own_isc_0 p1)) ∧ Fr n0 L ∧ h = h0
set_option maxRecDepth 65536 in
set_option maxHeartbeats 40000000 in
theorem rm1 (l : Launch) (Z : State) (a0 : Array Value) (hw : ∀ d ∈ tables_1, d.before a0 Z = true) (ws : List Jvm.Cond) (p1 : Int32) (h0 : Heap) (n0 : Nat) (Z0 : n0 ≤ h0.size)  :
    MetFree l (⟨"com/example/kellar/kellar/XmlChars", "isChar", "(I)Z"⟩ : MethodName) (head1 (Jvm.Cond.code (⟨"com/example/kellar/kellar/XmlChars", "isChar", "(I)Z"⟩ : MethodName) prog_19_method_2_code 1 (some .boolean) :: ws) ({ frames := 0, cells := 0, slots := 0, locals := 0 } : Room)) (fun aa U => aa = #[(.int p1)] ∧ Z.Warmed39 U.vm ∧ U.heap = h0) (fun _ _ _ _ _ => True) (fun _ U o U' => ∃ v L, o = .returned v ∧ Q1 Z p1 h0 n0 v U'.heap L ∧ FrameEnd U o U' L ({ frames := 0, cells := 0, slots := 0, locals := 0 } : Room).cells ({ frames := 0, cells := 0, slots := 0, locals := 0 } : Room).slots) := by
  refine MetFree.of_bodySF (plainFor_of_name pn_1) hisR ?_
  intro p e s m args below meth c s₁ Bd hml0 hP hK
  obtain ⟨rfl, hZ, hh⟩ := hP
  have hx := Bd.exec
  have hby := Bd.bytes
  have hml : c.maxLocals = 1 := hml0
  have hown : s.vm.findClass "com/example/kellar/kellar/XmlChars" = some m.cls := findClass_of_methodNamed Bd.named
  have hnm := (name_of_methodNamed Bd.named Bd.method).1
  have X0 : Stand p l e ({ frames := 0, cells := 0, slots := 0, locals := 0 } : Room) s m #[(.int p1)] below meth c s₁ [] 0 0 := Stand.of_body Bd
  have e0 : s₁.heap = h0 := by rw [← hh, Bd.state]; rfl
  have N0 := Fr.nil n0
  have pre0 : ∀ t, Steps p.tables e below (s₁.setTop (mkF m 0 #[.val (.int p1)] [])) t → Steps p.tables e below (s₁.setTop (entryFrame m #[(.int p1)] 1)) t := fun t k => castTop (ef_1 m p1) k
  obtain ⟨fs, hr, hrun, hended, hW, hsame⟩ := X0.leave (v := some (.int (own_isc_0 p1))) (fun h => by rw [Bd.returns] at h; cases h)
  have j58 : own_isc_0 p1 = own_isc_58 p1 → Steps p.tables e below (s₁.setTop (mkF m 58 #[.val (.int p1)] [])) (s₁.setFrames fs) := by
    intro hv
    rw [show own_isc_0 p1 = (0 : Int32) from hv] at hr
    show Steps p.tables e below (s₁.setTop (mkF m 58 #[.val (.int p1)] [])) _
    refine XS.iconst X0.here hx rfl (hb hby d1_58) ?_
    show Steps p.tables e below (s₁.setTop (mkF m 59 #[.val (.int p1)] [(.int (0 : Int32))])) _
    exact retN X0 hx (t := .boolean) Bd.returns (by simp) (hb hby d1_59) hr
  have j54 : own_isc_0 p1 = own_isc_54 p1 → Steps p.tables e below (s₁.setTop (mkF m 54 #[.val (.int p1)] [])) (s₁.setFrames fs) := by
    intro hv
    rw [show own_isc_0 p1 = (1 : Int32) from hv] at hr
    show Steps p.tables e below (s₁.setTop (mkF m 54 #[.val (.int p1)] [])) _
    refine XS.iconst X0.here hx rfl (hb hby d1_54) ?_
    show Steps p.tables e below (s₁.setTop (mkF m 55 #[.val (.int p1)] [(.int (1 : Int32))])) _
    refine XS.goto X0.here hx rfl (pc0 := 55) (pc' := 59) rfl (hb hby d1_55) (by decide) (by decide) ?_
    show Steps p.tables e below (s₁.setTop (mkF m 59 #[.val (.int p1)] [(.int (1 : Int32))])) _
    exact retN X0 hx (t := .boolean) Bd.returns (by simp) (hb hby d1_59) hr
  have j48 : own_isc_0 p1 = own_isc_48 p1 → Steps p.tables e below (s₁.setTop (mkF m 48 #[.val (.int p1)] [])) (s₁.setFrames fs) := by
    intro hv
    show Steps p.tables e below (s₁.setTop (mkF m 48 #[.val (.int p1)] [])) _
    refine XS.iloadN X0.here hx rfl (hb hby d1_48) rfl ?_
    show Steps p.tables e below (s₁.setTop (mkF m 49 #[.val (.int p1)] [(.int p1)])) _
    refine X0.ldcI hx hown (mvT hZ (hw _ (List.mem_of_getElem? (i := 25) rfl))) (g := (mkF m 49 #[.val (.int p1)] [(.int p1)])) rfl (hb hby d1_49) ?_
    show Steps p.tables e below (s₁.setTop (mkF m 51 #[.val (.int p1)] [(.int (1114111 : Int32)), (.int p1)])) _
    by_cases hc : (1114111 : Int32) < p1
    · refine XS.icmpYes X0.here hx rfl (pc0 := 51) (pc' := 58) rfl (hb hby d1_51) rfl (XT.ii_gt_t hc) (by decide) (by decide) ?_
      show Steps p.tables e below (s₁.setTop (mkF m 58 #[.val (.int p1)] [])) _
      exact j58 (hv.trans (if_pos hc))
    · refine XS.icmpNo X0.here hx rfl (hb hby d1_51) rfl (XT.ii_gt_f hc) ?_
      show Steps p.tables e below (s₁.setTop (mkF m 54 #[.val (.int p1)] [])) _
      exact j54 (hv.trans (if_neg hc))
  have j42 : own_isc_0 p1 = own_isc_42 p1 → Steps p.tables e below (s₁.setTop (mkF m 42 #[.val (.int p1)] [])) (s₁.setFrames fs) := by
    intro hv
    show Steps p.tables e below (s₁.setTop (mkF m 42 #[.val (.int p1)] [])) _
    refine XS.iloadN X0.here hx rfl (hb hby d1_42) rfl ?_
    show Steps p.tables e below (s₁.setTop (mkF m 43 #[.val (.int p1)] [(.int p1)])) _
    refine X0.ldcI hx hown (mvT hZ (hw _ (List.mem_of_getElem? (i := 18) rfl))) (g := (mkF m 43 #[.val (.int p1)] [(.int p1)])) rfl (hb hby d1_43) ?_
    show Steps p.tables e below (s₁.setTop (mkF m 45 #[.val (.int p1)] [(.int (65536 : Int32)), (.int p1)])) _
    by_cases hc : p1 < (65536 : Int32)
    · refine XS.icmpYes X0.here hx rfl (pc0 := 45) (pc' := 58) rfl (hb hby d1_45) rfl (XT.ii_lt_t hc) (by decide) (by decide) ?_
      show Steps p.tables e below (s₁.setTop (mkF m 58 #[.val (.int p1)] [])) _
      exact j58 (hv.trans (if_pos hc))
    · refine XS.icmpNo X0.here hx rfl (hb hby d1_45) rfl (XT.ii_lt_f hc) ?_
      show Steps p.tables e below (s₁.setTop (mkF m 48 #[.val (.int p1)] [])) _
      exact j48 (hv.trans (if_neg hc))
  have j36 : own_isc_0 p1 = own_isc_36 p1 → Steps p.tables e below (s₁.setTop (mkF m 36 #[.val (.int p1)] [])) (s₁.setFrames fs) := by
    intro hv
    show Steps p.tables e below (s₁.setTop (mkF m 36 #[.val (.int p1)] [])) _
    refine XS.iloadN X0.here hx rfl (hb hby d1_36) rfl ?_
    show Steps p.tables e below (s₁.setTop (mkF m 37 #[.val (.int p1)] [(.int p1)])) _
    refine X0.ldcI hx hown (mvT hZ (hw _ (List.mem_of_getElem? (i := 24) rfl))) (g := (mkF m 37 #[.val (.int p1)] [(.int p1)])) rfl (hb hby d1_37) ?_
    show Steps p.tables e below (s₁.setTop (mkF m 39 #[.val (.int p1)] [(.int (65533 : Int32)), (.int p1)])) _
    by_cases hc : (65533 : Int32) < p1
    · refine XS.icmpNo X0.here hx rfl (hb hby d1_39) rfl (XT.ii_le_f hc) ?_
      show Steps p.tables e below (s₁.setTop (mkF m 42 #[.val (.int p1)] [])) _
      exact j42 (hv.trans (if_pos hc))
    · refine XS.icmpYes X0.here hx rfl (pc0 := 39) (pc' := 54) rfl (hb hby d1_39) rfl (XT.ii_le_t hc) (by decide) (by decide) ?_
      show Steps p.tables e below (s₁.setTop (mkF m 54 #[.val (.int p1)] [])) _
      exact j54 (hv.trans (if_neg hc))
  have j30 : own_isc_0 p1 = own_isc_30 p1 → Steps p.tables e below (s₁.setTop (mkF m 30 #[.val (.int p1)] [])) (s₁.setFrames fs) := by
    intro hv
    show Steps p.tables e below (s₁.setTop (mkF m 30 #[.val (.int p1)] [])) _
    refine XS.iloadN X0.here hx rfl (hb hby d1_30) rfl ?_
    show Steps p.tables e below (s₁.setTop (mkF m 31 #[.val (.int p1)] [(.int p1)])) _
    refine X0.ldcI hx hown (mvT hZ (hw _ (List.mem_of_getElem? (i := 17) rfl))) (g := (mkF m 31 #[.val (.int p1)] [(.int p1)])) rfl (hb hby d1_31) ?_
    show Steps p.tables e below (s₁.setTop (mkF m 33 #[.val (.int p1)] [(.int (57344 : Int32)), (.int p1)])) _
    by_cases hc : p1 < (57344 : Int32)
    · refine XS.icmpYes X0.here hx rfl (pc0 := 33) (pc' := 42) rfl (hb hby d1_33) rfl (XT.ii_lt_t hc) (by decide) (by decide) ?_
      show Steps p.tables e below (s₁.setTop (mkF m 42 #[.val (.int p1)] [])) _
      exact j42 (hv.trans (if_pos hc))
    · refine XS.icmpNo X0.here hx rfl (hb hby d1_33) rfl (XT.ii_lt_f hc) ?_
      show Steps p.tables e below (s₁.setTop (mkF m 36 #[.val (.int p1)] [])) _
      exact j36 (hv.trans (if_neg hc))
  have j24 : own_isc_0 p1 = own_isc_24 p1 → Steps p.tables e below (s₁.setTop (mkF m 24 #[.val (.int p1)] [])) (s₁.setFrames fs) := by
    intro hv
    show Steps p.tables e below (s₁.setTop (mkF m 24 #[.val (.int p1)] [])) _
    refine XS.iloadN X0.here hx rfl (hb hby d1_24) rfl ?_
    show Steps p.tables e below (s₁.setTop (mkF m 25 #[.val (.int p1)] [(.int p1)])) _
    refine X0.ldcI hx hown (mvT hZ (hw _ (List.mem_of_getElem? (i := 23) rfl))) (g := (mkF m 25 #[.val (.int p1)] [(.int p1)])) rfl (hb hby d1_25) ?_
    show Steps p.tables e below (s₁.setTop (mkF m 27 #[.val (.int p1)] [(.int (55295 : Int32)), (.int p1)])) _
    by_cases hc : (55295 : Int32) < p1
    · refine XS.icmpNo X0.here hx rfl (hb hby d1_27) rfl (XT.ii_le_f hc) ?_
      show Steps p.tables e below (s₁.setTop (mkF m 30 #[.val (.int p1)] [])) _
      exact j30 (hv.trans (if_pos hc))
    · refine XS.icmpYes X0.here hx rfl (pc0 := 27) (pc' := 54) rfl (hb hby d1_27) rfl (XT.ii_le_t hc) (by decide) (by decide) ?_
      show Steps p.tables e below (s₁.setTop (mkF m 54 #[.val (.int p1)] [])) _
      exact j54 (hv.trans (if_neg hc))
  have j18 : own_isc_0 p1 = own_isc_18 p1 → Steps p.tables e below (s₁.setTop (mkF m 18 #[.val (.int p1)] [])) (s₁.setFrames fs) := by
    intro hv
    show Steps p.tables e below (s₁.setTop (mkF m 18 #[.val (.int p1)] [])) _
    refine XS.iloadN X0.here hx rfl (hb hby d1_18) rfl ?_
    show Steps p.tables e below (s₁.setTop (mkF m 19 #[.val (.int p1)] [(.int p1)])) _
    refine XS.bipush X0.here hx rfl (hb hby d1_19) ?_
    show Steps p.tables e below (s₁.setTop (mkF m 21 #[.val (.int p1)] [(.int (32 : Int32)), (.int p1)])) _
    by_cases hc : p1 < (32 : Int32)
    · refine XS.icmpYes X0.here hx rfl (pc0 := 21) (pc' := 30) rfl (hb hby d1_21) rfl (XT.ii_lt_t hc) (by decide) (by decide) ?_
      show Steps p.tables e below (s₁.setTop (mkF m 30 #[.val (.int p1)] [])) _
      exact j30 (hv.trans (if_pos hc))
    · refine XS.icmpNo X0.here hx rfl (hb hby d1_21) rfl (XT.ii_lt_f hc) ?_
      show Steps p.tables e below (s₁.setTop (mkF m 24 #[.val (.int p1)] [])) _
      exact j24 (hv.trans (if_neg hc))
  have j12 : own_isc_0 p1 = own_isc_12 p1 → Steps p.tables e below (s₁.setTop (mkF m 12 #[.val (.int p1)] [])) (s₁.setFrames fs) := by
    intro hv
    show Steps p.tables e below (s₁.setTop (mkF m 12 #[.val (.int p1)] [])) _
    refine XS.iloadN X0.here hx rfl (hb hby d1_12) rfl ?_
    show Steps p.tables e below (s₁.setTop (mkF m 13 #[.val (.int p1)] [(.int p1)])) _
    refine XS.bipush X0.here hx rfl (hb hby d1_13) ?_
    show Steps p.tables e below (s₁.setTop (mkF m 15 #[.val (.int p1)] [(.int (13 : Int32)), (.int p1)])) _
    by_cases hc : p1 = (13 : Int32)
    · refine XS.icmpYes X0.here hx rfl (pc0 := 15) (pc' := 54) rfl (hb hby d1_15) rfl (XT.ii_eq_t hc) (by decide) (by decide) ?_
      show Steps p.tables e below (s₁.setTop (mkF m 54 #[.val (.int p1)] [])) _
      exact j54 (hv.trans (if_pos hc))
    · refine XS.icmpNo X0.here hx rfl (hb hby d1_15) rfl (XT.ii_eq_f hc) ?_
      show Steps p.tables e below (s₁.setTop (mkF m 18 #[.val (.int p1)] [])) _
      exact j18 (hv.trans (if_neg hc))
  have j6 : own_isc_0 p1 = own_isc_6 p1 → Steps p.tables e below (s₁.setTop (mkF m 6 #[.val (.int p1)] [])) (s₁.setFrames fs) := by
    intro hv
    show Steps p.tables e below (s₁.setTop (mkF m 6 #[.val (.int p1)] [])) _
    refine XS.iloadN X0.here hx rfl (hb hby d1_6) rfl ?_
    show Steps p.tables e below (s₁.setTop (mkF m 7 #[.val (.int p1)] [(.int p1)])) _
    refine XS.bipush X0.here hx rfl (hb hby d1_7) ?_
    show Steps p.tables e below (s₁.setTop (mkF m 9 #[.val (.int p1)] [(.int (10 : Int32)), (.int p1)])) _
    by_cases hc : p1 = (10 : Int32)
    · refine XS.icmpYes X0.here hx rfl (pc0 := 9) (pc' := 54) rfl (hb hby d1_9) rfl (XT.ii_eq_t hc) (by decide) (by decide) ?_
      show Steps p.tables e below (s₁.setTop (mkF m 54 #[.val (.int p1)] [])) _
      exact j54 (hv.trans (if_pos hc))
    · refine XS.icmpNo X0.here hx rfl (hb hby d1_9) rfl (XT.ii_eq_f hc) ?_
      show Steps p.tables e below (s₁.setTop (mkF m 12 #[.val (.int p1)] [])) _
      exact j12 (hv.trans (if_neg hc))
  have j0 : own_isc_0 p1 = own_isc_0 p1 → Steps p.tables e below (s₁.setTop (mkF m 0 #[.val (.int p1)] [])) (s₁.setFrames fs) := by
    intro hv
    show Steps p.tables e below (s₁.setTop (mkF m 0 #[.val (.int p1)] [])) _
    refine XS.iloadN X0.here hx rfl (hb hby d1_0) rfl ?_
    show Steps p.tables e below (s₁.setTop (mkF m 1 #[.val (.int p1)] [(.int p1)])) _
    refine XS.bipush X0.here hx rfl (hb hby d1_1) ?_
    show Steps p.tables e below (s₁.setTop (mkF m 3 #[.val (.int p1)] [(.int (9 : Int32)), (.int p1)])) _
    by_cases hc : p1 = (9 : Int32)
    · refine XS.icmpYes X0.here hx rfl (pc0 := 3) (pc' := 54) rfl (hb hby d1_3) rfl (XT.ii_eq_t hc) (by decide) (by decide) ?_
      show Steps p.tables e below (s₁.setTop (mkF m 54 #[.val (.int p1)] [])) _
      exact j54 (hv.trans (if_pos hc))
    · refine XS.icmpNo X0.here hx rfl (hb hby d1_3) rfl (XT.ii_eq_f hc) ?_
      show Steps p.tables e below (s₁.setTop (mkF m 6 #[.val (.int p1)] [])) _
      exact j6 (hv.trans (if_neg hc))
  refine ⟨_, _, pre0 _ (j0 rfl), hrun, hended, _, _, rfl, ?_, ⟨_, rfl⟩, hW, hsame.mono (by decide) (by decide)⟩
  show Q1 Z p1 h0 n0 _ s₁.heap _
  rw [e0]
  exact ⟨rfl, N0, rfl⟩
def own_ref_70 (p1 : Int32) : Int32 := (1 : Int32)
def own_ref_68 (p1 : Int32) : Int32 := (0 : Int32)
def own_ref_62 (p1 : Int32) : Int32 := if p1 = (65535 : Int32) then own_ref_68 p1 else own_ref_70 p1
def own_ref_56 (p1 : Int32) : Int32 := if p1 = (65534 : Int32) then own_ref_68 p1 else own_ref_62 p1
def own_ref_54 (p1 : Int32) : Int32 := (0 : Int32)
def own_ref_48 (p1 : Int32) : Int32 := if (57343 : Int32) < p1 then own_ref_56 p1 else own_ref_54 p1
def own_ref_42 (p1 : Int32) : Int32 := if p1 < (55296 : Int32) then own_ref_56 p1 else own_ref_48 p1
def own_ref_40 (p1 : Int32) : Int32 := (0 : Int32)
def own_ref_36 (p1 : Int32) : Int32 := (1 : Int32)
def own_ref_30 (p1 : Int32) : Int32 := if p1 = (13 : Int32) then own_ref_36 p1 else own_ref_40 p1
def own_ref_24 (p1 : Int32) : Int32 := if p1 = (10 : Int32) then own_ref_36 p1 else own_ref_30 p1
def own_ref_18 (p1 : Int32) : Int32 := if p1 = (9 : Int32) then own_ref_36 p1 else own_ref_24 p1
def own_ref_12 (p1 : Int32) : Int32 := if p1 < (32 : Int32) then own_ref_18 p1 else own_ref_42 p1
def own_ref_10 (p1 : Int32) : Int32 := (0 : Int32)
def own_ref_4 (p1 : Int32) : Int32 := if (1114111 : Int32) < p1 then own_ref_10 p1 else own_ref_12 p1
def own_ref_0 (p1 : Int32) : Int32 := if p1 < (0 : Int32) then own_ref_10 p1 else own_ref_4 p1
theorem d2_0 : decode method_2_code 0 = .ok (.iload_n 0, 1) := by decide +kernel
theorem d2_1 : decode method_2_code 1 = .ok (.ifCond .lt 9, 3) := by decide +kernel
theorem d2_4 : decode method_2_code 4 = .ok (.iload_n 0, 1) := by decide +kernel
theorem d2_5 : decode method_2_code 5 = .ok (.ldc 7, 2) := by decide +kernel
theorem d2_7 : decode method_2_code 7 = .ok (.if_icmp .le 5, 3) := by decide +kernel
theorem d2_10 : decode method_2_code 10 = .ok (.iconst 0, 1) := by decide +kernel
theorem d2_11 : decode method_2_code 11 = .ok (.ireturn, 1) := by decide +kernel
theorem d2_12 : decode method_2_code 12 = .ok (.iload_n 0, 1) := by decide +kernel
theorem d2_13 : decode method_2_code 13 = .ok (.bipush 32, 2) := by decide +kernel
theorem d2_15 : decode method_2_code 15 = .ok (.if_icmp .ge 27, 3) := by decide +kernel
theorem d2_18 : decode method_2_code 18 = .ok (.iload_n 0, 1) := by decide +kernel
theorem d2_19 : decode method_2_code 19 = .ok (.bipush 9, 2) := by decide +kernel
theorem d2_21 : decode method_2_code 21 = .ok (.if_icmp .eq 15, 3) := by decide +kernel
theorem d2_24 : decode method_2_code 24 = .ok (.iload_n 0, 1) := by decide +kernel
theorem d2_25 : decode method_2_code 25 = .ok (.bipush 10, 2) := by decide +kernel
theorem d2_27 : decode method_2_code 27 = .ok (.if_icmp .eq 9, 3) := by decide +kernel
theorem d2_30 : decode method_2_code 30 = .ok (.iload_n 0, 1) := by decide +kernel
theorem d2_31 : decode method_2_code 31 = .ok (.bipush 13, 2) := by decide +kernel
theorem d2_33 : decode method_2_code 33 = .ok (.if_icmp .ne 7, 3) := by decide +kernel
theorem d2_36 : decode method_2_code 36 = .ok (.iconst 1, 1) := by decide +kernel
theorem d2_37 : decode method_2_code 37 = .ok (.goto 4, 3) := by decide +kernel
theorem d2_40 : decode method_2_code 40 = .ok (.iconst 0, 1) := by decide +kernel
theorem d2_41 : decode method_2_code 41 = .ok (.ireturn, 1) := by decide +kernel
theorem d2_42 : decode method_2_code 42 = .ok (.iload_n 0, 1) := by decide +kernel
theorem d2_43 : decode method_2_code 43 = .ok (.ldc 8, 2) := by decide +kernel
theorem d2_45 : decode method_2_code 45 = .ok (.if_icmp .lt 11, 3) := by decide +kernel
theorem d2_48 : decode method_2_code 48 = .ok (.iload_n 0, 1) := by decide +kernel
theorem d2_49 : decode method_2_code 49 = .ok (.ldc 9, 2) := by decide +kernel
theorem d2_51 : decode method_2_code 51 = .ok (.if_icmp .gt 5, 3) := by decide +kernel
theorem d2_54 : decode method_2_code 54 = .ok (.iconst 0, 1) := by decide +kernel
theorem d2_55 : decode method_2_code 55 = .ok (.ireturn, 1) := by decide +kernel
theorem d2_56 : decode method_2_code 56 = .ok (.iload_n 0, 1) := by decide +kernel
theorem d2_57 : decode method_2_code 57 = .ok (.ldc 10, 2) := by decide +kernel
theorem d2_59 : decode method_2_code 59 = .ok (.if_icmp .eq 9, 3) := by decide +kernel
theorem d2_62 : decode method_2_code 62 = .ok (.iload_n 0, 1) := by decide +kernel
theorem d2_63 : decode method_2_code 63 = .ok (.ldc 11, 2) := by decide +kernel
theorem d2_65 : decode method_2_code 65 = .ok (.if_icmp .ne 5, 3) := by decide +kernel
theorem d2_68 : decode method_2_code 68 = .ok (.iconst 0, 1) := by decide +kernel
theorem d2_69 : decode method_2_code 69 = .ok (.ireturn, 1) := by decide +kernel
theorem d2_70 : decode method_2_code 70 = .ok (.iconst 1, 1) := by decide +kernel
theorem d2_71 : decode method_2_code 71 = .ok (.ireturn, 1) := by decide +kernel
theorem pn_2 : plainName "com/example/kellar/kellar/XmlCharsIsCharPinLaw" = true := by first | (simp [plainName, overriddenIn]; done) | decide +kernel
theorem ef_2 (m : MethodId) (x0 : Int32) : entryFrame m #[(.int x0)] 1 = mkF m 0 #[.val (.int x0)] [] := by first | (simp [entryFrame, mkF, argsToLocals, Value.category]; done) | rfl
def Q2 (Z : State) (p1 : Int32) (h0 : Heap) (n0 : Nat) (v : Option Value) (h : Heap) (L : List Loc) : Prop := v = some (.int (own_ref_0 p1)) ∧ Fr n0 L ∧ h = h0
set_option maxRecDepth 65536 in
set_option maxHeartbeats 40000000 in
theorem rm2 (l : Launch) (Z : State) (a0 : Array Value) (hw : ∀ d ∈ tables_1, d.before a0 Z = true) (ws : List Jvm.Cond) (p1 : Int32) (h0 : Heap) (n0 : Nat) (Z0 : n0 ≤ h0.size)  :
    MetFree l (⟨"com/example/kellar/kellar/XmlCharsIsCharPinLaw", "ref", "(I)Z"⟩ : MethodName) (head1 (Jvm.Cond.code (⟨"com/example/kellar/kellar/XmlCharsIsCharPinLaw", "ref", "(I)Z"⟩ : MethodName) method_2_code 1 (some .boolean) :: ws) ({ frames := 0, cells := 0, slots := 0, locals := 0 } : Room)) (fun aa U => aa = #[(.int p1)] ∧ Z.Warmed39 U.vm ∧ U.heap = h0) (fun _ _ _ _ _ => True) (fun _ U o U' => ∃ v L, o = .returned v ∧ Q2 Z p1 h0 n0 v U'.heap L ∧ FrameEnd U o U' L ({ frames := 0, cells := 0, slots := 0, locals := 0 } : Room).cells ({ frames := 0, cells := 0, slots := 0, locals := 0 } : Room).slots) := by
  refine MetFree.of_bodySF (plainFor_of_name pn_2) hisR ?_
  intro p e s m args below meth c s₁ Bd hml0 hP hK
  obtain ⟨rfl, hZ, hh⟩ := hP
  have hx := Bd.exec
  have hby := Bd.bytes
  have hml : c.maxLocals = 1 := hml0
  have hown : s.vm.findClass "com/example/kellar/kellar/XmlCharsIsCharPinLaw" = some m.cls := findClass_of_methodNamed Bd.named
  have hnm := (name_of_methodNamed Bd.named Bd.method).1
  have X0 : Stand p l e ({ frames := 0, cells := 0, slots := 0, locals := 0 } : Room) s m #[(.int p1)] below meth c s₁ [] 0 0 := Stand.of_body Bd
  have e0 : s₁.heap = h0 := by rw [← hh, Bd.state]; rfl
  have N0 := Fr.nil n0
  have pre0 : ∀ t, Steps p.tables e below (s₁.setTop (mkF m 0 #[.val (.int p1)] [])) t → Steps p.tables e below (s₁.setTop (entryFrame m #[(.int p1)] 1)) t := fun t k => castTop (ef_2 m p1) k
  obtain ⟨fs, hr, hrun, hended, hW, hsame⟩ := X0.leave (v := some (.int (own_ref_0 p1))) (fun h => by rw [Bd.returns] at h; cases h)
  have j70 : own_ref_0 p1 = own_ref_70 p1 → Steps p.tables e below (s₁.setTop (mkF m 70 #[.val (.int p1)] [])) (s₁.setFrames fs) := by
    intro hv
    rw [show own_ref_0 p1 = (1 : Int32) from hv] at hr
    show Steps p.tables e below (s₁.setTop (mkF m 70 #[.val (.int p1)] [])) _
    refine XS.iconst X0.here hx rfl (hb hby d2_70) ?_
    show Steps p.tables e below (s₁.setTop (mkF m 71 #[.val (.int p1)] [(.int (1 : Int32))])) _
    exact retN X0 hx (t := .boolean) Bd.returns (by simp) (hb hby d2_71) hr
  have j68 : own_ref_0 p1 = own_ref_68 p1 → Steps p.tables e below (s₁.setTop (mkF m 68 #[.val (.int p1)] [])) (s₁.setFrames fs) := by
    intro hv
    rw [show own_ref_0 p1 = (0 : Int32) from hv] at hr
    show Steps p.tables e below (s₁.setTop (mkF m 68 #[.val (.int p1)] [])) _
    refine XS.iconst X0.here hx rfl (hb hby d2_68) ?_
    show Steps p.tables e below (s₁.setTop (mkF m 69 #[.val (.int p1)] [(.int (0 : Int32))])) _
    exact retN X0 hx (t := .boolean) Bd.returns (by simp) (hb hby d2_69) hr
  have j62 : own_ref_0 p1 = own_ref_62 p1 → Steps p.tables e below (s₁.setTop (mkF m 62 #[.val (.int p1)] [])) (s₁.setFrames fs) := by
    intro hv
    show Steps p.tables e below (s₁.setTop (mkF m 62 #[.val (.int p1)] [])) _
    refine XS.iloadN X0.here hx rfl (hb hby d2_62) rfl ?_
    show Steps p.tables e below (s₁.setTop (mkF m 63 #[.val (.int p1)] [(.int p1)])) _
    refine X0.ldcI hx hown (mvT hZ (hw _ (List.mem_of_getElem? (i := 7) rfl))) (g := (mkF m 63 #[.val (.int p1)] [(.int p1)])) rfl (hb hby d2_63) ?_
    show Steps p.tables e below (s₁.setTop (mkF m 65 #[.val (.int p1)] [(.int (65535 : Int32)), (.int p1)])) _
    by_cases hc : p1 = (65535 : Int32)
    · refine XS.icmpNo X0.here hx rfl (hb hby d2_65) rfl (XT.ii_ne_f hc) ?_
      show Steps p.tables e below (s₁.setTop (mkF m 68 #[.val (.int p1)] [])) _
      exact j68 (hv.trans (if_pos hc))
    · refine XS.icmpYes X0.here hx rfl (pc0 := 65) (pc' := 70) rfl (hb hby d2_65) rfl (XT.ii_ne_t hc) (by decide) (by decide) ?_
      show Steps p.tables e below (s₁.setTop (mkF m 70 #[.val (.int p1)] [])) _
      exact j70 (hv.trans (if_neg hc))
  have j56 : own_ref_0 p1 = own_ref_56 p1 → Steps p.tables e below (s₁.setTop (mkF m 56 #[.val (.int p1)] [])) (s₁.setFrames fs) := by
    intro hv
    show Steps p.tables e below (s₁.setTop (mkF m 56 #[.val (.int p1)] [])) _
    refine XS.iloadN X0.here hx rfl (hb hby d2_56) rfl ?_
    show Steps p.tables e below (s₁.setTop (mkF m 57 #[.val (.int p1)] [(.int p1)])) _
    refine X0.ldcI hx hown (mvT hZ (hw _ (List.mem_of_getElem? (i := 6) rfl))) (g := (mkF m 57 #[.val (.int p1)] [(.int p1)])) rfl (hb hby d2_57) ?_
    show Steps p.tables e below (s₁.setTop (mkF m 59 #[.val (.int p1)] [(.int (65534 : Int32)), (.int p1)])) _
    by_cases hc : p1 = (65534 : Int32)
    · refine XS.icmpYes X0.here hx rfl (pc0 := 59) (pc' := 68) rfl (hb hby d2_59) rfl (XT.ii_eq_t hc) (by decide) (by decide) ?_
      show Steps p.tables e below (s₁.setTop (mkF m 68 #[.val (.int p1)] [])) _
      exact j68 (hv.trans (if_pos hc))
    · refine XS.icmpNo X0.here hx rfl (hb hby d2_59) rfl (XT.ii_eq_f hc) ?_
      show Steps p.tables e below (s₁.setTop (mkF m 62 #[.val (.int p1)] [])) _
      exact j62 (hv.trans (if_neg hc))
  have j54 : own_ref_0 p1 = own_ref_54 p1 → Steps p.tables e below (s₁.setTop (mkF m 54 #[.val (.int p1)] [])) (s₁.setFrames fs) := by
    intro hv
    rw [show own_ref_0 p1 = (0 : Int32) from hv] at hr
    show Steps p.tables e below (s₁.setTop (mkF m 54 #[.val (.int p1)] [])) _
    refine XS.iconst X0.here hx rfl (hb hby d2_54) ?_
    show Steps p.tables e below (s₁.setTop (mkF m 55 #[.val (.int p1)] [(.int (0 : Int32))])) _
    exact retN X0 hx (t := .boolean) Bd.returns (by simp) (hb hby d2_55) hr
  have j48 : own_ref_0 p1 = own_ref_48 p1 → Steps p.tables e below (s₁.setTop (mkF m 48 #[.val (.int p1)] [])) (s₁.setFrames fs) := by
    intro hv
    show Steps p.tables e below (s₁.setTop (mkF m 48 #[.val (.int p1)] [])) _
    refine XS.iloadN X0.here hx rfl (hb hby d2_48) rfl ?_
    show Steps p.tables e below (s₁.setTop (mkF m 49 #[.val (.int p1)] [(.int p1)])) _
    refine X0.ldcI hx hown (mvT hZ (hw _ (List.mem_of_getElem? (i := 3) rfl))) (g := (mkF m 49 #[.val (.int p1)] [(.int p1)])) rfl (hb hby d2_49) ?_
    show Steps p.tables e below (s₁.setTop (mkF m 51 #[.val (.int p1)] [(.int (57343 : Int32)), (.int p1)])) _
    by_cases hc : (57343 : Int32) < p1
    · refine XS.icmpYes X0.here hx rfl (pc0 := 51) (pc' := 56) rfl (hb hby d2_51) rfl (XT.ii_gt_t hc) (by decide) (by decide) ?_
      show Steps p.tables e below (s₁.setTop (mkF m 56 #[.val (.int p1)] [])) _
      exact j56 (hv.trans (if_pos hc))
    · refine XS.icmpNo X0.here hx rfl (hb hby d2_51) rfl (XT.ii_gt_f hc) ?_
      show Steps p.tables e below (s₁.setTop (mkF m 54 #[.val (.int p1)] [])) _
      exact j54 (hv.trans (if_neg hc))
  have j42 : own_ref_0 p1 = own_ref_42 p1 → Steps p.tables e below (s₁.setTop (mkF m 42 #[.val (.int p1)] [])) (s₁.setFrames fs) := by
    intro hv
    show Steps p.tables e below (s₁.setTop (mkF m 42 #[.val (.int p1)] [])) _
    refine XS.iloadN X0.here hx rfl (hb hby d2_42) rfl ?_
    show Steps p.tables e below (s₁.setTop (mkF m 43 #[.val (.int p1)] [(.int p1)])) _
    refine X0.ldcI hx hown (mvT hZ (hw _ (List.mem_of_getElem? (i := 2) rfl))) (g := (mkF m 43 #[.val (.int p1)] [(.int p1)])) rfl (hb hby d2_43) ?_
    show Steps p.tables e below (s₁.setTop (mkF m 45 #[.val (.int p1)] [(.int (55296 : Int32)), (.int p1)])) _
    by_cases hc : p1 < (55296 : Int32)
    · refine XS.icmpYes X0.here hx rfl (pc0 := 45) (pc' := 56) rfl (hb hby d2_45) rfl (XT.ii_lt_t hc) (by decide) (by decide) ?_
      show Steps p.tables e below (s₁.setTop (mkF m 56 #[.val (.int p1)] [])) _
      exact j56 (hv.trans (if_pos hc))
    · refine XS.icmpNo X0.here hx rfl (hb hby d2_45) rfl (XT.ii_lt_f hc) ?_
      show Steps p.tables e below (s₁.setTop (mkF m 48 #[.val (.int p1)] [])) _
      exact j48 (hv.trans (if_neg hc))
  have j40 : own_ref_0 p1 = own_ref_40 p1 → Steps p.tables e below (s₁.setTop (mkF m 40 #[.val (.int p1)] [])) (s₁.setFrames fs) := by
    intro hv
    rw [show own_ref_0 p1 = (0 : Int32) from hv] at hr
    show Steps p.tables e below (s₁.setTop (mkF m 40 #[.val (.int p1)] [])) _
    refine XS.iconst X0.here hx rfl (hb hby d2_40) ?_
    show Steps p.tables e below (s₁.setTop (mkF m 41 #[.val (.int p1)] [(.int (0 : Int32))])) _
    exact retN X0 hx (t := .boolean) Bd.returns (by simp) (hb hby d2_41) hr
  have j36 : own_ref_0 p1 = own_ref_36 p1 → Steps p.tables e below (s₁.setTop (mkF m 36 #[.val (.int p1)] [])) (s₁.setFrames fs) := by
    intro hv
    rw [show own_ref_0 p1 = (1 : Int32) from hv] at hr
    show Steps p.tables e below (s₁.setTop (mkF m 36 #[.val (.int p1)] [])) _
    refine XS.iconst X0.here hx rfl (hb hby d2_36) ?_
    show Steps p.tables e below (s₁.setTop (mkF m 37 #[.val (.int p1)] [(.int (1 : Int32))])) _
    refine XS.goto X0.here hx rfl (pc0 := 37) (pc' := 41) rfl (hb hby d2_37) (by decide) (by decide) ?_
    show Steps p.tables e below (s₁.setTop (mkF m 41 #[.val (.int p1)] [(.int (1 : Int32))])) _
    exact retN X0 hx (t := .boolean) Bd.returns (by simp) (hb hby d2_41) hr
  have j30 : own_ref_0 p1 = own_ref_30 p1 → Steps p.tables e below (s₁.setTop (mkF m 30 #[.val (.int p1)] [])) (s₁.setFrames fs) := by
    intro hv
    show Steps p.tables e below (s₁.setTop (mkF m 30 #[.val (.int p1)] [])) _
    refine XS.iloadN X0.here hx rfl (hb hby d2_30) rfl ?_
    show Steps p.tables e below (s₁.setTop (mkF m 31 #[.val (.int p1)] [(.int p1)])) _
    refine XS.bipush X0.here hx rfl (hb hby d2_31) ?_
    show Steps p.tables e below (s₁.setTop (mkF m 33 #[.val (.int p1)] [(.int (13 : Int32)), (.int p1)])) _
    by_cases hc : p1 = (13 : Int32)
    · refine XS.icmpNo X0.here hx rfl (hb hby d2_33) rfl (XT.ii_ne_f hc) ?_
      show Steps p.tables e below (s₁.setTop (mkF m 36 #[.val (.int p1)] [])) _
      exact j36 (hv.trans (if_pos hc))
    · refine XS.icmpYes X0.here hx rfl (pc0 := 33) (pc' := 40) rfl (hb hby d2_33) rfl (XT.ii_ne_t hc) (by decide) (by decide) ?_
      show Steps p.tables e below (s₁.setTop (mkF m 40 #[.val (.int p1)] [])) _
      exact j40 (hv.trans (if_neg hc))
  have j24 : own_ref_0 p1 = own_ref_24 p1 → Steps p.tables e below (s₁.setTop (mkF m 24 #[.val (.int p1)] [])) (s₁.setFrames fs) := by
    intro hv
    show Steps p.tables e below (s₁.setTop (mkF m 24 #[.val (.int p1)] [])) _
    refine XS.iloadN X0.here hx rfl (hb hby d2_24) rfl ?_
    show Steps p.tables e below (s₁.setTop (mkF m 25 #[.val (.int p1)] [(.int p1)])) _
    refine XS.bipush X0.here hx rfl (hb hby d2_25) ?_
    show Steps p.tables e below (s₁.setTop (mkF m 27 #[.val (.int p1)] [(.int (10 : Int32)), (.int p1)])) _
    by_cases hc : p1 = (10 : Int32)
    · refine XS.icmpYes X0.here hx rfl (pc0 := 27) (pc' := 36) rfl (hb hby d2_27) rfl (XT.ii_eq_t hc) (by decide) (by decide) ?_
      show Steps p.tables e below (s₁.setTop (mkF m 36 #[.val (.int p1)] [])) _
      exact j36 (hv.trans (if_pos hc))
    · refine XS.icmpNo X0.here hx rfl (hb hby d2_27) rfl (XT.ii_eq_f hc) ?_
      show Steps p.tables e below (s₁.setTop (mkF m 30 #[.val (.int p1)] [])) _
      exact j30 (hv.trans (if_neg hc))
  have j18 : own_ref_0 p1 = own_ref_18 p1 → Steps p.tables e below (s₁.setTop (mkF m 18 #[.val (.int p1)] [])) (s₁.setFrames fs) := by
    intro hv
    show Steps p.tables e below (s₁.setTop (mkF m 18 #[.val (.int p1)] [])) _
    refine XS.iloadN X0.here hx rfl (hb hby d2_18) rfl ?_
    show Steps p.tables e below (s₁.setTop (mkF m 19 #[.val (.int p1)] [(.int p1)])) _
    refine XS.bipush X0.here hx rfl (hb hby d2_19) ?_
    show Steps p.tables e below (s₁.setTop (mkF m 21 #[.val (.int p1)] [(.int (9 : Int32)), (.int p1)])) _
    by_cases hc : p1 = (9 : Int32)
    · refine XS.icmpYes X0.here hx rfl (pc0 := 21) (pc' := 36) rfl (hb hby d2_21) rfl (XT.ii_eq_t hc) (by decide) (by decide) ?_
      show Steps p.tables e below (s₁.setTop (mkF m 36 #[.val (.int p1)] [])) _
      exact j36 (hv.trans (if_pos hc))
    · refine XS.icmpNo X0.here hx rfl (hb hby d2_21) rfl (XT.ii_eq_f hc) ?_
      show Steps p.tables e below (s₁.setTop (mkF m 24 #[.val (.int p1)] [])) _
      exact j24 (hv.trans (if_neg hc))
  have j12 : own_ref_0 p1 = own_ref_12 p1 → Steps p.tables e below (s₁.setTop (mkF m 12 #[.val (.int p1)] [])) (s₁.setFrames fs) := by
    intro hv
    show Steps p.tables e below (s₁.setTop (mkF m 12 #[.val (.int p1)] [])) _
    refine XS.iloadN X0.here hx rfl (hb hby d2_12) rfl ?_
    show Steps p.tables e below (s₁.setTop (mkF m 13 #[.val (.int p1)] [(.int p1)])) _
    refine XS.bipush X0.here hx rfl (hb hby d2_13) ?_
    show Steps p.tables e below (s₁.setTop (mkF m 15 #[.val (.int p1)] [(.int (32 : Int32)), (.int p1)])) _
    by_cases hc : p1 < (32 : Int32)
    · refine XS.icmpNo X0.here hx rfl (hb hby d2_15) rfl (XT.ii_ge_f hc) ?_
      show Steps p.tables e below (s₁.setTop (mkF m 18 #[.val (.int p1)] [])) _
      exact j18 (hv.trans (if_pos hc))
    · refine XS.icmpYes X0.here hx rfl (pc0 := 15) (pc' := 42) rfl (hb hby d2_15) rfl (XT.ii_ge_t hc) (by decide) (by decide) ?_
      show Steps p.tables e below (s₁.setTop (mkF m 42 #[.val (.int p1)] [])) _
      exact j42 (hv.trans (if_neg hc))
  have j10 : own_ref_0 p1 = own_ref_10 p1 → Steps p.tables e below (s₁.setTop (mkF m 10 #[.val (.int p1)] [])) (s₁.setFrames fs) := by
    intro hv
    rw [show own_ref_0 p1 = (0 : Int32) from hv] at hr
    show Steps p.tables e below (s₁.setTop (mkF m 10 #[.val (.int p1)] [])) _
    refine XS.iconst X0.here hx rfl (hb hby d2_10) ?_
    show Steps p.tables e below (s₁.setTop (mkF m 11 #[.val (.int p1)] [(.int (0 : Int32))])) _
    exact retN X0 hx (t := .boolean) Bd.returns (by simp) (hb hby d2_11) hr
  have j4 : own_ref_0 p1 = own_ref_4 p1 → Steps p.tables e below (s₁.setTop (mkF m 4 #[.val (.int p1)] [])) (s₁.setFrames fs) := by
    intro hv
    show Steps p.tables e below (s₁.setTop (mkF m 4 #[.val (.int p1)] [])) _
    refine XS.iloadN X0.here hx rfl (hb hby d2_4) rfl ?_
    show Steps p.tables e below (s₁.setTop (mkF m 5 #[.val (.int p1)] [(.int p1)])) _
    refine X0.ldcI hx hown (mvT hZ (hw _ (List.mem_of_getElem? (i := 9) rfl))) (g := (mkF m 5 #[.val (.int p1)] [(.int p1)])) rfl (hb hby d2_5) ?_
    show Steps p.tables e below (s₁.setTop (mkF m 7 #[.val (.int p1)] [(.int (1114111 : Int32)), (.int p1)])) _
    by_cases hc : (1114111 : Int32) < p1
    · refine XS.icmpNo X0.here hx rfl (hb hby d2_7) rfl (XT.ii_le_f hc) ?_
      show Steps p.tables e below (s₁.setTop (mkF m 10 #[.val (.int p1)] [])) _
      exact j10 (hv.trans (if_pos hc))
    · refine XS.icmpYes X0.here hx rfl (pc0 := 7) (pc' := 12) rfl (hb hby d2_7) rfl (XT.ii_le_t hc) (by decide) (by decide) ?_
      show Steps p.tables e below (s₁.setTop (mkF m 12 #[.val (.int p1)] [])) _
      exact j12 (hv.trans (if_neg hc))
  have j0 : own_ref_0 p1 = own_ref_0 p1 → Steps p.tables e below (s₁.setTop (mkF m 0 #[.val (.int p1)] [])) (s₁.setFrames fs) := by
    intro hv
    show Steps p.tables e below (s₁.setTop (mkF m 0 #[.val (.int p1)] [])) _
    refine XS.iloadN X0.here hx rfl (hb hby d2_0) rfl ?_
    show Steps p.tables e below (s₁.setTop (mkF m 1 #[.val (.int p1)] [(.int p1)])) _
    by_cases hc : p1 < (0 : Int32)
    · refine XS.ifYes X0.here hx rfl (pc0 := 1) (pc' := 10) rfl (hb hby d2_1) rfl (XT.i0_lt_t hc) (by decide) (by decide) ?_
      show Steps p.tables e below (s₁.setTop (mkF m 10 #[.val (.int p1)] [])) _
      exact j10 (hv.trans (if_pos hc))
    · refine XS.ifNo X0.here hx rfl (hb hby d2_1) rfl (XT.i0_lt_f hc) ?_
      show Steps p.tables e below (s₁.setTop (mkF m 4 #[.val (.int p1)] [])) _
      exact j4 (hv.trans (if_neg hc))
  refine ⟨_, _, pre0 _ (j0 rfl), hrun, hended, _, _, rfl, ?_, ⟨_, rfl⟩, hW, hsame.mono (by decide) (by decide)⟩
  show Q2 Z p1 h0 n0 _ s₁.heap _
  rw [e0]
  exact ⟨rfl, N0, rfl⟩
theorem own_l0 : (0 : Int32).toInt = 0 := by decide
theorem own_l9 : (9 : Int32).toInt = 9 := by decide
theorem own_l10 : (10 : Int32).toInt = 10 := by decide
theorem own_l13 : (13 : Int32).toInt = 13 := by decide
theorem own_l32 : (32 : Int32).toInt = 32 := by decide
theorem own_l55295 : (55295 : Int32).toInt = 55295 := by decide
theorem own_l55296 : (55296 : Int32).toInt = 55296 := by decide
theorem own_l57343 : (57343 : Int32).toInt = 57343 := by decide
theorem own_l57344 : (57344 : Int32).toInt = 57344 := by decide
theorem own_l65533 : (65533 : Int32).toInt = 65533 := by decide
theorem own_l65534 : (65534 : Int32).toInt = 65534 := by decide
theorem own_l65535 : (65535 : Int32).toInt = 65535 := by decide
theorem own_l65536 : (65536 : Int32).toInt = 65536 := by decide
theorem own_l1114111 : (1114111 : Int32).toInt = 1114111 := by decide
theorem own_isc_0_t {x : Int32} (h : x.toInt = 9) : own_isc_0 x = own_isc_54 x := if_pos (Int32.toInt_inj.mp (h.trans own_l9.symm))
theorem own_isc_0_f {x : Int32} (h : ¬ x.toInt = 9) : own_isc_0 x = own_isc_6 x := if_neg (fun q => h ((congrArg Int32.toInt q).trans own_l9))
theorem own_isc_6_t {x : Int32} (h : x.toInt = 10) : own_isc_6 x = own_isc_54 x := if_pos (Int32.toInt_inj.mp (h.trans own_l10.symm))
theorem own_isc_6_f {x : Int32} (h : ¬ x.toInt = 10) : own_isc_6 x = own_isc_12 x := if_neg (fun q => h ((congrArg Int32.toInt q).trans own_l10))
theorem own_isc_12_t {x : Int32} (h : x.toInt = 13) : own_isc_12 x = own_isc_54 x := if_pos (Int32.toInt_inj.mp (h.trans own_l13.symm))
theorem own_isc_12_f {x : Int32} (h : ¬ x.toInt = 13) : own_isc_12 x = own_isc_18 x := if_neg (fun q => h ((congrArg Int32.toInt q).trans own_l13))
theorem own_isc_18_t {x : Int32} (h : x.toInt < 32) : own_isc_18 x = own_isc_30 x := if_pos (Int32.lt_iff_toInt_lt.mpr (by rw [own_l32]; exact h))
theorem own_isc_18_f {x : Int32} (h : ¬ (x.toInt < 32)) : own_isc_18 x = own_isc_24 x := if_neg (fun q => h (by have q2 := Int32.lt_iff_toInt_lt.mp q; rw [own_l32] at q2; exact q2))
theorem own_isc_24_t {x : Int32} (h : 55295 < x.toInt) : own_isc_24 x = own_isc_30 x := if_pos (Int32.lt_iff_toInt_lt.mpr (by rw [own_l55295]; exact h))
theorem own_isc_24_f {x : Int32} (h : ¬ (55295 < x.toInt)) : own_isc_24 x = own_isc_54 x := if_neg (fun q => h (by have q2 := Int32.lt_iff_toInt_lt.mp q; rw [own_l55295] at q2; exact q2))
theorem own_isc_30_t {x : Int32} (h : x.toInt < 57344) : own_isc_30 x = own_isc_42 x := if_pos (Int32.lt_iff_toInt_lt.mpr (by rw [own_l57344]; exact h))
theorem own_isc_30_f {x : Int32} (h : ¬ (x.toInt < 57344)) : own_isc_30 x = own_isc_36 x := if_neg (fun q => h (by have q2 := Int32.lt_iff_toInt_lt.mp q; rw [own_l57344] at q2; exact q2))
theorem own_isc_36_t {x : Int32} (h : 65533 < x.toInt) : own_isc_36 x = own_isc_42 x := if_pos (Int32.lt_iff_toInt_lt.mpr (by rw [own_l65533]; exact h))
theorem own_isc_36_f {x : Int32} (h : ¬ (65533 < x.toInt)) : own_isc_36 x = own_isc_54 x := if_neg (fun q => h (by have q2 := Int32.lt_iff_toInt_lt.mp q; rw [own_l65533] at q2; exact q2))
theorem own_isc_42_t {x : Int32} (h : x.toInt < 65536) : own_isc_42 x = own_isc_58 x := if_pos (Int32.lt_iff_toInt_lt.mpr (by rw [own_l65536]; exact h))
theorem own_isc_42_f {x : Int32} (h : ¬ (x.toInt < 65536)) : own_isc_42 x = own_isc_48 x := if_neg (fun q => h (by have q2 := Int32.lt_iff_toInt_lt.mp q; rw [own_l65536] at q2; exact q2))
theorem own_isc_48_t {x : Int32} (h : 1114111 < x.toInt) : own_isc_48 x = own_isc_58 x := if_pos (Int32.lt_iff_toInt_lt.mpr (by rw [own_l1114111]; exact h))
theorem own_isc_48_f {x : Int32} (h : ¬ (1114111 < x.toInt)) : own_isc_48 x = own_isc_54 x := if_neg (fun q => h (by have q2 := Int32.lt_iff_toInt_lt.mp q; rw [own_l1114111] at q2; exact q2))
theorem own_ref_0_t {x : Int32} (h : x.toInt < 0) : own_ref_0 x = own_ref_10 x := if_pos (Int32.lt_iff_toInt_lt.mpr (by rw [own_l0]; exact h))
theorem own_ref_0_f {x : Int32} (h : ¬ (x.toInt < 0)) : own_ref_0 x = own_ref_4 x := if_neg (fun q => h (by have q2 := Int32.lt_iff_toInt_lt.mp q; rw [own_l0] at q2; exact q2))
theorem own_ref_4_t {x : Int32} (h : 1114111 < x.toInt) : own_ref_4 x = own_ref_10 x := if_pos (Int32.lt_iff_toInt_lt.mpr (by rw [own_l1114111]; exact h))
theorem own_ref_4_f {x : Int32} (h : ¬ (1114111 < x.toInt)) : own_ref_4 x = own_ref_12 x := if_neg (fun q => h (by have q2 := Int32.lt_iff_toInt_lt.mp q; rw [own_l1114111] at q2; exact q2))
theorem own_ref_12_t {x : Int32} (h : x.toInt < 32) : own_ref_12 x = own_ref_18 x := if_pos (Int32.lt_iff_toInt_lt.mpr (by rw [own_l32]; exact h))
theorem own_ref_12_f {x : Int32} (h : ¬ (x.toInt < 32)) : own_ref_12 x = own_ref_42 x := if_neg (fun q => h (by have q2 := Int32.lt_iff_toInt_lt.mp q; rw [own_l32] at q2; exact q2))
theorem own_ref_18_t {x : Int32} (h : x.toInt = 9) : own_ref_18 x = own_ref_36 x := if_pos (Int32.toInt_inj.mp (h.trans own_l9.symm))
theorem own_ref_18_f {x : Int32} (h : ¬ x.toInt = 9) : own_ref_18 x = own_ref_24 x := if_neg (fun q => h ((congrArg Int32.toInt q).trans own_l9))
theorem own_ref_24_t {x : Int32} (h : x.toInt = 10) : own_ref_24 x = own_ref_36 x := if_pos (Int32.toInt_inj.mp (h.trans own_l10.symm))
theorem own_ref_24_f {x : Int32} (h : ¬ x.toInt = 10) : own_ref_24 x = own_ref_30 x := if_neg (fun q => h ((congrArg Int32.toInt q).trans own_l10))
theorem own_ref_30_t {x : Int32} (h : x.toInt = 13) : own_ref_30 x = own_ref_36 x := if_pos (Int32.toInt_inj.mp (h.trans own_l13.symm))
theorem own_ref_30_f {x : Int32} (h : ¬ x.toInt = 13) : own_ref_30 x = own_ref_40 x := if_neg (fun q => h ((congrArg Int32.toInt q).trans own_l13))
theorem own_ref_42_t {x : Int32} (h : x.toInt < 55296) : own_ref_42 x = own_ref_56 x := if_pos (Int32.lt_iff_toInt_lt.mpr (by rw [own_l55296]; exact h))
theorem own_ref_42_f {x : Int32} (h : ¬ (x.toInt < 55296)) : own_ref_42 x = own_ref_48 x := if_neg (fun q => h (by have q2 := Int32.lt_iff_toInt_lt.mp q; rw [own_l55296] at q2; exact q2))
theorem own_ref_48_t {x : Int32} (h : 57343 < x.toInt) : own_ref_48 x = own_ref_56 x := if_pos (Int32.lt_iff_toInt_lt.mpr (by rw [own_l57343]; exact h))
theorem own_ref_48_f {x : Int32} (h : ¬ (57343 < x.toInt)) : own_ref_48 x = own_ref_54 x := if_neg (fun q => h (by have q2 := Int32.lt_iff_toInt_lt.mp q; rw [own_l57343] at q2; exact q2))
theorem own_ref_56_t {x : Int32} (h : x.toInt = 65534) : own_ref_56 x = own_ref_68 x := if_pos (Int32.toInt_inj.mp (h.trans own_l65534.symm))
theorem own_ref_56_f {x : Int32} (h : ¬ x.toInt = 65534) : own_ref_56 x = own_ref_62 x := if_neg (fun q => h ((congrArg Int32.toInt q).trans own_l65534))
theorem own_ref_62_t {x : Int32} (h : x.toInt = 65535) : own_ref_62 x = own_ref_68 x := if_pos (Int32.toInt_inj.mp (h.trans own_l65535.symm))
theorem own_ref_62_f {x : Int32} (h : ¬ x.toInt = 65535) : own_ref_62 x = own_ref_70 x := if_neg (fun q => h ((congrArg Int32.toInt q).trans own_l65535))
theorem own_same (x : Int32) : own_isc_0 x = own_ref_0 x := by
  rcases Int.lt_or_le x.toInt 0 with h0 | g0
  · exact (show own_isc_0 x = 0 from (own_isc_0_f (by omega)).trans ((own_isc_6_f (by omega)).trans ((own_isc_12_f (by omega)).trans ((own_isc_18_t (by omega)).trans ((own_isc_30_t (by omega)).trans ((own_isc_42_t (by omega)).trans (rfl))))))).trans (show own_ref_0 x = 0 from (own_ref_0_t (by omega)).trans (rfl)).symm
  rcases Int.lt_or_le x.toInt 9 with h1 | g1
  · exact (show own_isc_0 x = 0 from (own_isc_0_f (by omega)).trans ((own_isc_6_f (by omega)).trans ((own_isc_12_f (by omega)).trans ((own_isc_18_t (by omega)).trans ((own_isc_30_t (by omega)).trans ((own_isc_42_t (by omega)).trans (rfl))))))).trans (show own_ref_0 x = 0 from (own_ref_0_f (by omega)).trans ((own_ref_4_f (by omega)).trans ((own_ref_12_t (by omega)).trans ((own_ref_18_f (by omega)).trans ((own_ref_24_f (by omega)).trans ((own_ref_30_f (by omega)).trans (rfl))))))).symm
  rcases Int.lt_or_le x.toInt 10 with h2 | g2
  · clear g0
    exact (show own_isc_0 x = 1 from (own_isc_0_t (by omega)).trans (rfl)).trans (show own_ref_0 x = 1 from (own_ref_0_f (by omega)).trans ((own_ref_4_f (by omega)).trans ((own_ref_12_t (by omega)).trans ((own_ref_18_t (by omega)).trans (rfl))))).symm
  rcases Int.lt_or_le x.toInt 11 with h3 | g3
  · clear g0 g1
    exact (show own_isc_0 x = 1 from (own_isc_0_f (by omega)).trans ((own_isc_6_t (by omega)).trans (rfl))).trans (show own_ref_0 x = 1 from (own_ref_0_f (by omega)).trans ((own_ref_4_f (by omega)).trans ((own_ref_12_t (by omega)).trans ((own_ref_18_f (by omega)).trans ((own_ref_24_t (by omega)).trans (rfl)))))).symm
  rcases Int.lt_or_le x.toInt 13 with h4 | g4
  · clear g0 g1 g2
    exact (show own_isc_0 x = 0 from (own_isc_0_f (by omega)).trans ((own_isc_6_f (by omega)).trans ((own_isc_12_f (by omega)).trans ((own_isc_18_t (by omega)).trans ((own_isc_30_t (by omega)).trans ((own_isc_42_t (by omega)).trans (rfl))))))).trans (show own_ref_0 x = 0 from (own_ref_0_f (by omega)).trans ((own_ref_4_f (by omega)).trans ((own_ref_12_t (by omega)).trans ((own_ref_18_f (by omega)).trans ((own_ref_24_f (by omega)).trans ((own_ref_30_f (by omega)).trans (rfl))))))).symm
  rcases Int.lt_or_le x.toInt 14 with h5 | g5
  · clear g0 g1 g2 g3
    exact (show own_isc_0 x = 1 from (own_isc_0_f (by omega)).trans ((own_isc_6_f (by omega)).trans ((own_isc_12_t (by omega)).trans (rfl)))).trans (show own_ref_0 x = 1 from (own_ref_0_f (by omega)).trans ((own_ref_4_f (by omega)).trans ((own_ref_12_t (by omega)).trans ((own_ref_18_f (by omega)).trans ((own_ref_24_f (by omega)).trans ((own_ref_30_t (by omega)).trans (rfl))))))).symm
  rcases Int.lt_or_le x.toInt 32 with h6 | g6
  · clear g0 g1 g2 g3 g4
    exact (show own_isc_0 x = 0 from (own_isc_0_f (by omega)).trans ((own_isc_6_f (by omega)).trans ((own_isc_12_f (by omega)).trans ((own_isc_18_t (by omega)).trans ((own_isc_30_t (by omega)).trans ((own_isc_42_t (by omega)).trans (rfl))))))).trans (show own_ref_0 x = 0 from (own_ref_0_f (by omega)).trans ((own_ref_4_f (by omega)).trans ((own_ref_12_t (by omega)).trans ((own_ref_18_f (by omega)).trans ((own_ref_24_f (by omega)).trans ((own_ref_30_f (by omega)).trans (rfl))))))).symm
  rcases Int.lt_or_le x.toInt 55296 with h7 | g7
  · clear g0 g1 g2 g3 g4 g5
    exact (show own_isc_0 x = 1 from (own_isc_0_f (by omega)).trans ((own_isc_6_f (by omega)).trans ((own_isc_12_f (by omega)).trans ((own_isc_18_f (by omega)).trans ((own_isc_24_f (by omega)).trans (rfl)))))).trans (show own_ref_0 x = 1 from (own_ref_0_f (by omega)).trans ((own_ref_4_f (by omega)).trans ((own_ref_12_f (by omega)).trans ((own_ref_42_t (by omega)).trans ((own_ref_56_f (by omega)).trans ((own_ref_62_f (by omega)).trans (rfl))))))).symm
  rcases Int.lt_or_le x.toInt 57344 with h8 | g8
  · clear g0 g1 g2 g3 g4 g5 g6
    exact (show own_isc_0 x = 0 from (own_isc_0_f (by omega)).trans ((own_isc_6_f (by omega)).trans ((own_isc_12_f (by omega)).trans ((own_isc_18_f (by omega)).trans ((own_isc_24_t (by omega)).trans ((own_isc_30_t (by omega)).trans ((own_isc_42_t (by omega)).trans (rfl)))))))).trans (show own_ref_0 x = 0 from (own_ref_0_f (by omega)).trans ((own_ref_4_f (by omega)).trans ((own_ref_12_f (by omega)).trans ((own_ref_42_f (by omega)).trans ((own_ref_48_f (by omega)).trans (rfl)))))).symm
  rcases Int.lt_or_le x.toInt 65534 with h9 | g9
  · clear g0 g1 g2 g3 g4 g5 g6 g7
    exact (show own_isc_0 x = 1 from (own_isc_0_f (by omega)).trans ((own_isc_6_f (by omega)).trans ((own_isc_12_f (by omega)).trans ((own_isc_18_f (by omega)).trans ((own_isc_24_t (by omega)).trans ((own_isc_30_f (by omega)).trans ((own_isc_36_f (by omega)).trans (rfl)))))))).trans (show own_ref_0 x = 1 from (own_ref_0_f (by omega)).trans ((own_ref_4_f (by omega)).trans ((own_ref_12_f (by omega)).trans ((own_ref_42_f (by omega)).trans ((own_ref_48_t (by omega)).trans ((own_ref_56_f (by omega)).trans ((own_ref_62_f (by omega)).trans (rfl)))))))).symm
  rcases Int.lt_or_le x.toInt 65535 with h10 | g10
  · clear g0 g1 g2 g3 g4 g5 g6 g7 g8
    exact (show own_isc_0 x = 0 from (own_isc_0_f (by omega)).trans ((own_isc_6_f (by omega)).trans ((own_isc_12_f (by omega)).trans ((own_isc_18_f (by omega)).trans ((own_isc_24_t (by omega)).trans ((own_isc_30_f (by omega)).trans ((own_isc_36_t (by omega)).trans ((own_isc_42_t (by omega)).trans (rfl))))))))).trans (show own_ref_0 x = 0 from (own_ref_0_f (by omega)).trans ((own_ref_4_f (by omega)).trans ((own_ref_12_f (by omega)).trans ((own_ref_42_f (by omega)).trans ((own_ref_48_t (by omega)).trans ((own_ref_56_t (by omega)).trans (rfl))))))).symm
  rcases Int.lt_or_le x.toInt 65536 with h11 | g11
  · clear g0 g1 g2 g3 g4 g5 g6 g7 g8 g9
    exact (show own_isc_0 x = 0 from (own_isc_0_f (by omega)).trans ((own_isc_6_f (by omega)).trans ((own_isc_12_f (by omega)).trans ((own_isc_18_f (by omega)).trans ((own_isc_24_t (by omega)).trans ((own_isc_30_f (by omega)).trans ((own_isc_36_t (by omega)).trans ((own_isc_42_t (by omega)).trans (rfl))))))))).trans (show own_ref_0 x = 0 from (own_ref_0_f (by omega)).trans ((own_ref_4_f (by omega)).trans ((own_ref_12_f (by omega)).trans ((own_ref_42_f (by omega)).trans ((own_ref_48_t (by omega)).trans ((own_ref_56_f (by omega)).trans ((own_ref_62_t (by omega)).trans (rfl)))))))).symm
  rcases Int.lt_or_le x.toInt 1114112 with h12 | g12
  · clear g0 g1 g2 g3 g4 g5 g6 g7 g8 g9 g10
    exact (show own_isc_0 x = 1 from (own_isc_0_f (by omega)).trans ((own_isc_6_f (by omega)).trans ((own_isc_12_f (by omega)).trans ((own_isc_18_f (by omega)).trans ((own_isc_24_t (by omega)).trans ((own_isc_30_f (by omega)).trans ((own_isc_36_t (by omega)).trans ((own_isc_42_f (by omega)).trans ((own_isc_48_f (by omega)).trans (rfl)))))))))).trans (show own_ref_0 x = 1 from (own_ref_0_f (by omega)).trans ((own_ref_4_f (by omega)).trans ((own_ref_12_f (by omega)).trans ((own_ref_42_f (by omega)).trans ((own_ref_48_t (by omega)).trans ((own_ref_56_f (by omega)).trans ((own_ref_62_f (by omega)).trans (rfl)))))))).symm
  exact (show own_isc_0 x = 0 from (own_isc_0_f (by omega)).trans ((own_isc_6_f (by omega)).trans ((own_isc_12_f (by omega)).trans ((own_isc_18_f (by omega)).trans ((own_isc_24_t (by omega)).trans ((own_isc_30_f (by omega)).trans ((own_isc_36_t (by omega)).trans ((own_isc_42_f (by omega)).trans ((own_isc_48_t (by omega)).trans (rfl)))))))))).trans (show own_ref_0 x = 0 from (own_ref_0_f (by omega)).trans ((own_ref_4_t (by omega)).trans (rfl))).symm
theorem own_idx (x : Int32) : ¬ ((x &&& (2147483647 : Int32)) % (17 : Int32)) < 0 ∧ ((x &&& (2147483647 : Int32)) % (17 : Int32)).toNatClampNeg < 17 := by
  have h0 : ¬ (x &&& (2147483647 : Int32)) < 0 := fun q => absurd ((XT.and_neg32 _ _).mp q).2 (by decide)
  have z : (0 : Int32).toInt = 0 := by decide
  rw [Int32.lt_iff_toInt_lt, z] at h0
  have e : ((x &&& (2147483647 : Int32)) % (17 : Int32)).toInt = (x &&& (2147483647 : Int32)).toInt.tmod 17 := by rw [Int32.toInt_mod]; rfl
  have h1 : 0 ≤ (x &&& (2147483647 : Int32)).toInt.tmod 17 := Int.tmod_nonneg _ (by omega)
  have h2 : (x &&& (2147483647 : Int32)).toInt.tmod 17 < 17 := Int.tmod_lt_of_pos _ (by decide)
  constructor
  · rw [Int32.lt_iff_toInt_lt, e, z]
    omega
  · show ((x &&& (2147483647 : Int32)) % (17 : Int32)).toInt.toNat < 17
    rw [e]
    omega
theorem own_setSlot (c : Cell) (j : Nat) (v : Value) : (c.setSlot j v).slots = c.slots.setIfInBounds j v := rfl
def own_Ints (Z : State) (h : Heap) (b : Addr) (N : Nat) : Prop := ∃ cl : Cell, Arr Z h b cl .int ∧ cl.slots.size = N ∧ ∀ k, k < N → ∃ w : Int32, cl.slots[k]? = some (.int w)
theorem own_store {p : Program} {l : Launch} {e : Env} {R : Room} {s : State} {m : MethodId} {args : Array Value} {below : List Frame} {meth : Method} {c : Code} {T : State} {locs : List Loc} {cells slots : Nat} {Z : State} {n0 : Nat} {b : Addr} {N : Nat} (X : Stand p l e R s m args below meth c T locs cells slots) (hx : p.tables.exec = Jvm.exec) (hZ : Z.Warmed39 s.vm) (F : Fr n0 locs) (gb : n0 ≤ b) (G : own_Ints Z T.heap b N) (pc : Nat) (Ls : Array Slot) (rest : List Value) (j v : Int32) (hj : ¬ j < 0) (hj2 : j.toNatClampNeg < N) (hd : decode c.code pc = .ok (.iastore, 1)) :
    ∃ (T' : State) (locs' : List Loc), Stand p l e R s m args below meth c T' locs' cells slots ∧ Fr n0 locs' ∧ own_Ints Z T'.heap b N ∧ ∀ target, Steps p.tables e below (T'.setTop (mkF m (pc + 1) Ls rest)) target → Steps p.tables e below (T.setTop (mkF m pc Ls (.int v :: .int j :: .ref b :: rest))) target := by
  obtain ⟨cl, Ar, S, H⟩ := G
  have hin : ¬ (j < 0 ∨ cl.slots.size ≤ j.toNatClampNeg) := fun q => q.elim hj (fun q => by omega)
  obtain ⟨T', h', X', e', W', st'⟩ := stI X hx hZ rfl Ar (j := j) (x := v) hin (g := mkF m pc Ls (.int v :: .int j :: .ref b :: rest)) rfl rfl hd
  refine ⟨T', _, X', Fr.snoc X' F gb, ?_, st'⟩
  rw [e']
  refine ⟨_, Ar.same W', by rw [sz_set]; exact S, fun k hk => ?_⟩
  rw [own_setSlot, Array.getElem?_setIfInBounds]
  by_cases q : j.toNatClampNeg = k
  · rw [if_pos q, if_pos (by omega)]
    exact ⟨v, rfl⟩
  · rw [if_neg q]
    exact H k hk
theorem own_fresh {Z : State} {h : Heap} {b : Addr} {cA : ClassId} {n : Int32} {N : Nat} (A : Arr Z h b (newA cA .int n) .int) (hn : n.toNatClampNeg = N) : own_Ints Z h b N := by
  refine ⟨_, A, by rw [sz_new]; exact hn, fun k hk => ⟨0, ?_⟩⟩
  show (Array.replicate n.toNatClampNeg (defaultValue .int))[k]? = some (.int 0)
  rw [Array.getElem?_replicate, if_pos (by omega)]
  rfl
theorem pn_0 : plainName "com/example/kellar/kellar/XmlCharsIsCharPinLaw" = true := by first | (simp [plainName, overriddenIn]; done) | decide +kernel
theorem ef_0 (m : MethodId) (x0 : Int32) (x1 : Int32) (x2 : Int32) : entryFrame m #[(.int x0), (.int x1), (.int x2)] maxLocals = mkF m 0 #[.val (.int x0), .val (.int x1), .val (.int x2), .unset, .unset, .unset, .unset, .unset] [] := by first | (simp [entryFrame, mkF, argsToLocals, Value.category, maxLocals]; done) | rfl
def Q0 (Z : State) (p1 p2 p3 : Int32) (h0 : Heap) (n0 : Nat) (v : Option Value) (h : Heap) (L : List Loc) : Prop := v = some (.int 1) ∧ Fr n0 L
set_option maxRecDepth 65536 in
set_option maxHeartbeats 40000000 in
theorem rm0 (l : Launch) (Z : State) (a0 : Array Value) (hw : ∀ d ∈ tables_1, d.before a0 Z = true) (ws : List Jvm.Cond) (p1 p2 p3 : Int32) (h0 : Heap) (n0 : Nat) (Z0 : n0 ≤ h0.size)  :
    MetFree l x (head1 (Jvm.Cond.code x code maxLocals ret :: ws) room_1) (fun aa U => aa = #[(.int p1), (.int p2), (.int p3)] ∧ Z.Warmed39 U.vm ∧ U.heap = h0) (fun _ _ _ _ _ => True) (fun _ U o U' => ∃ v L, o = .returned v ∧ Q0 Z p1 p2 p3 h0 n0 v U'.heap L ∧ FrameEnd U o U' L room_1.cells room_1.slots) := by
  refine MetFree.of_bodySF (plainFor_of_name pn_0) hisR ?_
  intro p e s m args below meth c s₁ Bd hml0 hP hK
  obtain ⟨rfl, hZ, hh⟩ := hP
  have hx := Bd.exec
  have hby := Bd.bytes
  have hml : c.maxLocals = 8 := hml0
  have hown : s.vm.findClass "com/example/kellar/kellar/XmlCharsIsCharPinLaw" = some m.cls := findClass_of_methodNamed Bd.named
  have hnm := (name_of_methodNamed Bd.named Bd.method).1
  have X0 : Stand p l e room_1 s m #[(.int p1), (.int p2), (.int p3)] below meth c s₁ [] 0 0 := Stand.of_body Bd
  have e0 : s₁.heap = h0 := by rw [← hh, Bd.state]; rfl
  have N0 := Fr.nil n0
  have pre0 : ∀ t, Steps p.tables e below (s₁.setTop (mkF m 0 #[.val (.int p1), .val (.int p2), .val (.int p3), .unset, .unset, .unset, .unset, .unset] [])) t → Steps p.tables e below (s₁.setTop (entryFrame m #[(.int p1), (.int p2), (.int p3)] maxLocals)) t := fun t k => castTop (ef_0 m p1 p2 p3) k
  have s1 : ∀ t, Steps p.tables e below (s₁.setTop (mkF m 2 #[.val (.int p1), .val (.int p2), .val (.int p3), .unset, .unset, .unset, .unset, .unset] [(.int (17 : Int32))])) t → Steps p.tables e below (s₁.setTop (mkF m 0 #[.val (.int p1), .val (.int p2), .val (.int p3), .unset, .unset, .unset, .unset, .unset] [])) t := by
    intro t k
    show Steps p.tables e below (s₁.setTop (mkF m 0 #[.val (.int p1), .val (.int p2), .val (.int p3), .unset, .unset, .unset, .unset, .unset] [])) _
    refine XS.bipush X0.here hx rfl (hb hby at_0) ?_
    show Steps p.tables e below (s₁.setTop (mkF m 2 #[.val (.int p1), .val (.int p2), .val (.int p3), .unset, .unset, .unset, .unset, .unset] [(.int (17 : Int32))])) _
    exact k
  obtain ⟨T2, h2, k2, X2, e2, E2, A2, st2⟩ := newP X0 hx hZ (hw _ (List.mem_of_getElem? (i := 0) rfl)) e0 (g := (mkF m 2 #[.val (.int p1), .val (.int p2), .val (.int p3), .unset, .unset, .unset, .unset, .unset] [(.int (17 : Int32))])) rfl (hb hby at_2) rfl (by decide) (cap := 17) (by decide) (by decide) (by decide) (by decide)
  obtain ⟨b2, g2⟩ : ∃ z, z = h0.size := ⟨_, rfl⟩
  rw [← g2] at A2 st2
  have gb : n0 ≤ b2 := Nat.le_trans Z0 (Nat.le_of_eq g2.symm)
  have G2 : own_Ints Z T2.heap b2 17 := by rw [e2]; exact own_fresh A2 (by decide)
  have N2 := N0
  have r2 : ∀ t, Steps p.tables e below (T2.setTop (mkF m 4 #[.val (.int p1), .val (.int p2), .val (.int p3), .unset, .unset, .unset, .unset, .unset] [(.ref b2)])) t → Steps p.tables e below (s₁.setTop (mkF m 0 #[.val (.int p1), .val (.int p2), .val (.int p3), .unset, .unset, .unset, .unset, .unset] [])) t := fun t k => s1 t (st2 t k)
  have s2 : ∀ t, Steps p.tables e below (T2.setTop (mkF m 7 #[.val (.int p1), .val (.int p2), .val (.int p3), .unset, .unset, .unset, .unset, .unset] [(.int (0 : Int32)), (.int (0 : Int32)), (.ref b2), (.ref b2)])) t → Steps p.tables e below (T2.setTop (mkF m 4 #[.val (.int p1), .val (.int p2), .val (.int p3), .unset, .unset, .unset, .unset, .unset] [(.ref b2)])) t := by
    intro t k
    show Steps p.tables e below (T2.setTop (mkF m 4 #[.val (.int p1), .val (.int p2), .val (.int p3), .unset, .unset, .unset, .unset, .unset] [(.ref b2)])) _
    refine XS.dup X2.here hx rfl (hb hby at_4) rfl rfl ?_
    show Steps p.tables e below (T2.setTop (mkF m 5 #[.val (.int p1), .val (.int p2), .val (.int p3), .unset, .unset, .unset, .unset, .unset] [(.ref b2), (.ref b2)])) _
    refine XS.iconst X2.here hx rfl (hb hby at_5) ?_
    show Steps p.tables e below (T2.setTop (mkF m 6 #[.val (.int p1), .val (.int p2), .val (.int p3), .unset, .unset, .unset, .unset, .unset] [(.int (0 : Int32)), (.ref b2), (.ref b2)])) _
    refine XS.iconst X2.here hx rfl (hb hby at_6) ?_
    show Steps p.tables e below (T2.setTop (mkF m 7 #[.val (.int p1), .val (.int p2), .val (.int p3), .unset, .unset, .unset, .unset, .unset] [(.int (0 : Int32)), (.int (0 : Int32)), (.ref b2), (.ref b2)])) _
    exact k
  obtain ⟨T3, L3, X3, N3, G3, st3⟩ := own_store X2 hx hZ N2 gb G2 7 #[.val (.int p1), .val (.int p2), .val (.int p3), .unset, .unset, .unset, .unset, .unset] [(.ref b2)] (0 : Int32) (0 : Int32) (by decide) (by decide) (hb hby at_7)
  have r3 : ∀ t, Steps p.tables e below (T3.setTop (mkF m 8 #[.val (.int p1), .val (.int p2), .val (.int p3), .unset, .unset, .unset, .unset, .unset] [(.ref b2)])) t → Steps p.tables e below (s₁.setTop (mkF m 0 #[.val (.int p1), .val (.int p2), .val (.int p3), .unset, .unset, .unset, .unset, .unset] [])) t := fun t k => r2 t (s2 t (st3 t k))
  clear r2 s2 st3
  have s3 : ∀ t, Steps p.tables e below (T3.setTop (mkF m 12 #[.val (.int p1), .val (.int p2), .val (.int p3), .unset, .unset, .unset, .unset, .unset] [(.int (9 : Int32)), (.int (1 : Int32)), (.ref b2), (.ref b2)])) t → Steps p.tables e below (T3.setTop (mkF m 8 #[.val (.int p1), .val (.int p2), .val (.int p3), .unset, .unset, .unset, .unset, .unset] [(.ref b2)])) t := by
    intro t k
    show Steps p.tables e below (T3.setTop (mkF m 8 #[.val (.int p1), .val (.int p2), .val (.int p3), .unset, .unset, .unset, .unset, .unset] [(.ref b2)])) _
    refine XS.dup X3.here hx rfl (hb hby at_8) rfl rfl ?_
    show Steps p.tables e below (T3.setTop (mkF m 9 #[.val (.int p1), .val (.int p2), .val (.int p3), .unset, .unset, .unset, .unset, .unset] [(.ref b2), (.ref b2)])) _
    refine XS.iconst X3.here hx rfl (hb hby at_9) ?_
    show Steps p.tables e below (T3.setTop (mkF m 10 #[.val (.int p1), .val (.int p2), .val (.int p3), .unset, .unset, .unset, .unset, .unset] [(.int (1 : Int32)), (.ref b2), (.ref b2)])) _
    refine XS.bipush X3.here hx rfl (hb hby at_10) ?_
    show Steps p.tables e below (T3.setTop (mkF m 12 #[.val (.int p1), .val (.int p2), .val (.int p3), .unset, .unset, .unset, .unset, .unset] [(.int (9 : Int32)), (.int (1 : Int32)), (.ref b2), (.ref b2)])) _
    exact k
  obtain ⟨T4, L4, X4, N4, G4, st4⟩ := own_store X3 hx hZ N3 gb G3 12 #[.val (.int p1), .val (.int p2), .val (.int p3), .unset, .unset, .unset, .unset, .unset] [(.ref b2)] (1 : Int32) (9 : Int32) (by decide) (by decide) (hb hby at_12)
  have r4 : ∀ t, Steps p.tables e below (T4.setTop (mkF m 13 #[.val (.int p1), .val (.int p2), .val (.int p3), .unset, .unset, .unset, .unset, .unset] [(.ref b2)])) t → Steps p.tables e below (s₁.setTop (mkF m 0 #[.val (.int p1), .val (.int p2), .val (.int p3), .unset, .unset, .unset, .unset, .unset] [])) t := fun t k => r3 t (s3 t (st4 t k))
  clear r3 s3 st4
  clear G3 X3
  have s4 : ∀ t, Steps p.tables e below (T4.setTop (mkF m 17 #[.val (.int p1), .val (.int p2), .val (.int p3), .unset, .unset, .unset, .unset, .unset] [(.int (10 : Int32)), (.int (2 : Int32)), (.ref b2), (.ref b2)])) t → Steps p.tables e below (T4.setTop (mkF m 13 #[.val (.int p1), .val (.int p2), .val (.int p3), .unset, .unset, .unset, .unset, .unset] [(.ref b2)])) t := by
    intro t k
    show Steps p.tables e below (T4.setTop (mkF m 13 #[.val (.int p1), .val (.int p2), .val (.int p3), .unset, .unset, .unset, .unset, .unset] [(.ref b2)])) _
    refine XS.dup X4.here hx rfl (hb hby at_13) rfl rfl ?_
    show Steps p.tables e below (T4.setTop (mkF m 14 #[.val (.int p1), .val (.int p2), .val (.int p3), .unset, .unset, .unset, .unset, .unset] [(.ref b2), (.ref b2)])) _
    refine XS.iconst X4.here hx rfl (hb hby at_14) ?_
    show Steps p.tables e below (T4.setTop (mkF m 15 #[.val (.int p1), .val (.int p2), .val (.int p3), .unset, .unset, .unset, .unset, .unset] [(.int (2 : Int32)), (.ref b2), (.ref b2)])) _
    refine XS.bipush X4.here hx rfl (hb hby at_15) ?_
    show Steps p.tables e below (T4.setTop (mkF m 17 #[.val (.int p1), .val (.int p2), .val (.int p3), .unset, .unset, .unset, .unset, .unset] [(.int (10 : Int32)), (.int (2 : Int32)), (.ref b2), (.ref b2)])) _
    exact k
  obtain ⟨T5, L5, X5, N5, G5, st5⟩ := own_store X4 hx hZ N4 gb G4 17 #[.val (.int p1), .val (.int p2), .val (.int p3), .unset, .unset, .unset, .unset, .unset] [(.ref b2)] (2 : Int32) (10 : Int32) (by decide) (by decide) (hb hby at_17)
  have r5 : ∀ t, Steps p.tables e below (T5.setTop (mkF m 18 #[.val (.int p1), .val (.int p2), .val (.int p3), .unset, .unset, .unset, .unset, .unset] [(.ref b2)])) t → Steps p.tables e below (s₁.setTop (mkF m 0 #[.val (.int p1), .val (.int p2), .val (.int p3), .unset, .unset, .unset, .unset, .unset] [])) t := fun t k => r4 t (s4 t (st5 t k))
  clear r4 s4 st5
  clear G4 X4
  have s5 : ∀ t, Steps p.tables e below (T5.setTop (mkF m 22 #[.val (.int p1), .val (.int p2), .val (.int p3), .unset, .unset, .unset, .unset, .unset] [(.int (13 : Int32)), (.int (3 : Int32)), (.ref b2), (.ref b2)])) t → Steps p.tables e below (T5.setTop (mkF m 18 #[.val (.int p1), .val (.int p2), .val (.int p3), .unset, .unset, .unset, .unset, .unset] [(.ref b2)])) t := by
    intro t k
    show Steps p.tables e below (T5.setTop (mkF m 18 #[.val (.int p1), .val (.int p2), .val (.int p3), .unset, .unset, .unset, .unset, .unset] [(.ref b2)])) _
    refine XS.dup X5.here hx rfl (hb hby at_18) rfl rfl ?_
    show Steps p.tables e below (T5.setTop (mkF m 19 #[.val (.int p1), .val (.int p2), .val (.int p3), .unset, .unset, .unset, .unset, .unset] [(.ref b2), (.ref b2)])) _
    refine XS.iconst X5.here hx rfl (hb hby at_19) ?_
    show Steps p.tables e below (T5.setTop (mkF m 20 #[.val (.int p1), .val (.int p2), .val (.int p3), .unset, .unset, .unset, .unset, .unset] [(.int (3 : Int32)), (.ref b2), (.ref b2)])) _
    refine XS.bipush X5.here hx rfl (hb hby at_20) ?_
    show Steps p.tables e below (T5.setTop (mkF m 22 #[.val (.int p1), .val (.int p2), .val (.int p3), .unset, .unset, .unset, .unset, .unset] [(.int (13 : Int32)), (.int (3 : Int32)), (.ref b2), (.ref b2)])) _
    exact k
  obtain ⟨T6, L6, X6, N6, G6, st6⟩ := own_store X5 hx hZ N5 gb G5 22 #[.val (.int p1), .val (.int p2), .val (.int p3), .unset, .unset, .unset, .unset, .unset] [(.ref b2)] (3 : Int32) (13 : Int32) (by decide) (by decide) (hb hby at_22)
  have r6 : ∀ t, Steps p.tables e below (T6.setTop (mkF m 23 #[.val (.int p1), .val (.int p2), .val (.int p3), .unset, .unset, .unset, .unset, .unset] [(.ref b2)])) t → Steps p.tables e below (s₁.setTop (mkF m 0 #[.val (.int p1), .val (.int p2), .val (.int p3), .unset, .unset, .unset, .unset, .unset] [])) t := fun t k => r5 t (s5 t (st6 t k))
  clear r5 s5 st6
  clear G5 X5
  have s6 : ∀ t, Steps p.tables e below (T6.setTop (mkF m 27 #[.val (.int p1), .val (.int p2), .val (.int p3), .unset, .unset, .unset, .unset, .unset] [(.int (32 : Int32)), (.int (4 : Int32)), (.ref b2), (.ref b2)])) t → Steps p.tables e below (T6.setTop (mkF m 23 #[.val (.int p1), .val (.int p2), .val (.int p3), .unset, .unset, .unset, .unset, .unset] [(.ref b2)])) t := by
    intro t k
    show Steps p.tables e below (T6.setTop (mkF m 23 #[.val (.int p1), .val (.int p2), .val (.int p3), .unset, .unset, .unset, .unset, .unset] [(.ref b2)])) _
    refine XS.dup X6.here hx rfl (hb hby at_23) rfl rfl ?_
    show Steps p.tables e below (T6.setTop (mkF m 24 #[.val (.int p1), .val (.int p2), .val (.int p3), .unset, .unset, .unset, .unset, .unset] [(.ref b2), (.ref b2)])) _
    refine XS.iconst X6.here hx rfl (hb hby at_24) ?_
    show Steps p.tables e below (T6.setTop (mkF m 25 #[.val (.int p1), .val (.int p2), .val (.int p3), .unset, .unset, .unset, .unset, .unset] [(.int (4 : Int32)), (.ref b2), (.ref b2)])) _
    refine XS.bipush X6.here hx rfl (hb hby at_25) ?_
    show Steps p.tables e below (T6.setTop (mkF m 27 #[.val (.int p1), .val (.int p2), .val (.int p3), .unset, .unset, .unset, .unset, .unset] [(.int (32 : Int32)), (.int (4 : Int32)), (.ref b2), (.ref b2)])) _
    exact k
  obtain ⟨T7, L7, X7, N7, G7, st7⟩ := own_store X6 hx hZ N6 gb G6 27 #[.val (.int p1), .val (.int p2), .val (.int p3), .unset, .unset, .unset, .unset, .unset] [(.ref b2)] (4 : Int32) (32 : Int32) (by decide) (by decide) (hb hby at_27)
  have r7 : ∀ t, Steps p.tables e below (T7.setTop (mkF m 28 #[.val (.int p1), .val (.int p2), .val (.int p3), .unset, .unset, .unset, .unset, .unset] [(.ref b2)])) t → Steps p.tables e below (s₁.setTop (mkF m 0 #[.val (.int p1), .val (.int p2), .val (.int p3), .unset, .unset, .unset, .unset, .unset] [])) t := fun t k => r6 t (s6 t (st7 t k))
  clear r6 s6 st7
  clear G6 X6
  have s7 : ∀ t, Steps p.tables e below (T7.setTop (mkF m 32 #[.val (.int p1), .val (.int p2), .val (.int p3), .unset, .unset, .unset, .unset, .unset] [(.int (55295 : Int32)), (.int (5 : Int32)), (.ref b2), (.ref b2)])) t → Steps p.tables e below (T7.setTop (mkF m 28 #[.val (.int p1), .val (.int p2), .val (.int p3), .unset, .unset, .unset, .unset, .unset] [(.ref b2)])) t := by
    intro t k
    show Steps p.tables e below (T7.setTop (mkF m 28 #[.val (.int p1), .val (.int p2), .val (.int p3), .unset, .unset, .unset, .unset, .unset] [(.ref b2)])) _
    refine XS.dup X7.here hx rfl (hb hby at_28) rfl rfl ?_
    show Steps p.tables e below (T7.setTop (mkF m 29 #[.val (.int p1), .val (.int p2), .val (.int p3), .unset, .unset, .unset, .unset, .unset] [(.ref b2), (.ref b2)])) _
    refine XS.iconst X7.here hx rfl (hb hby at_29) ?_
    show Steps p.tables e below (T7.setTop (mkF m 30 #[.val (.int p1), .val (.int p2), .val (.int p3), .unset, .unset, .unset, .unset, .unset] [(.int (5 : Int32)), (.ref b2), (.ref b2)])) _
    refine X7.ldcI hx hown (mvT hZ (hw _ (List.mem_of_getElem? (i := 1) rfl))) (g := (mkF m 30 #[.val (.int p1), .val (.int p2), .val (.int p3), .unset, .unset, .unset, .unset, .unset] [(.int (5 : Int32)), (.ref b2), (.ref b2)])) rfl (hb hby at_30) ?_
    show Steps p.tables e below (T7.setTop (mkF m 32 #[.val (.int p1), .val (.int p2), .val (.int p3), .unset, .unset, .unset, .unset, .unset] [(.int (55295 : Int32)), (.int (5 : Int32)), (.ref b2), (.ref b2)])) _
    exact k
  obtain ⟨T8, L8, X8, N8, G8, st8⟩ := own_store X7 hx hZ N7 gb G7 32 #[.val (.int p1), .val (.int p2), .val (.int p3), .unset, .unset, .unset, .unset, .unset] [(.ref b2)] (5 : Int32) (55295 : Int32) (by decide) (by decide) (hb hby at_32)
  have r8 : ∀ t, Steps p.tables e below (T8.setTop (mkF m 33 #[.val (.int p1), .val (.int p2), .val (.int p3), .unset, .unset, .unset, .unset, .unset] [(.ref b2)])) t → Steps p.tables e below (s₁.setTop (mkF m 0 #[.val (.int p1), .val (.int p2), .val (.int p3), .unset, .unset, .unset, .unset, .unset] [])) t := fun t k => r7 t (s7 t (st8 t k))
  clear r7 s7 st8
  clear G7 X7
  have s8 : ∀ t, Steps p.tables e below (T8.setTop (mkF m 38 #[.val (.int p1), .val (.int p2), .val (.int p3), .unset, .unset, .unset, .unset, .unset] [(.int (55296 : Int32)), (.int (6 : Int32)), (.ref b2), (.ref b2)])) t → Steps p.tables e below (T8.setTop (mkF m 33 #[.val (.int p1), .val (.int p2), .val (.int p3), .unset, .unset, .unset, .unset, .unset] [(.ref b2)])) t := by
    intro t k
    show Steps p.tables e below (T8.setTop (mkF m 33 #[.val (.int p1), .val (.int p2), .val (.int p3), .unset, .unset, .unset, .unset, .unset] [(.ref b2)])) _
    refine XS.dup X8.here hx rfl (hb hby at_33) rfl rfl ?_
    show Steps p.tables e below (T8.setTop (mkF m 34 #[.val (.int p1), .val (.int p2), .val (.int p3), .unset, .unset, .unset, .unset, .unset] [(.ref b2), (.ref b2)])) _
    refine XS.bipush X8.here hx rfl (hb hby at_34) ?_
    show Steps p.tables e below (T8.setTop (mkF m 36 #[.val (.int p1), .val (.int p2), .val (.int p3), .unset, .unset, .unset, .unset, .unset] [(.int (6 : Int32)), (.ref b2), (.ref b2)])) _
    refine X8.ldcI hx hown (mvT hZ (hw _ (List.mem_of_getElem? (i := 2) rfl))) (g := (mkF m 36 #[.val (.int p1), .val (.int p2), .val (.int p3), .unset, .unset, .unset, .unset, .unset] [(.int (6 : Int32)), (.ref b2), (.ref b2)])) rfl (hb hby at_36) ?_
    show Steps p.tables e below (T8.setTop (mkF m 38 #[.val (.int p1), .val (.int p2), .val (.int p3), .unset, .unset, .unset, .unset, .unset] [(.int (55296 : Int32)), (.int (6 : Int32)), (.ref b2), (.ref b2)])) _
    exact k
  obtain ⟨T9, L9, X9, N9, G9, st9⟩ := own_store X8 hx hZ N8 gb G8 38 #[.val (.int p1), .val (.int p2), .val (.int p3), .unset, .unset, .unset, .unset, .unset] [(.ref b2)] (6 : Int32) (55296 : Int32) (by decide) (by decide) (hb hby at_38)
  have r9 : ∀ t, Steps p.tables e below (T9.setTop (mkF m 39 #[.val (.int p1), .val (.int p2), .val (.int p3), .unset, .unset, .unset, .unset, .unset] [(.ref b2)])) t → Steps p.tables e below (s₁.setTop (mkF m 0 #[.val (.int p1), .val (.int p2), .val (.int p3), .unset, .unset, .unset, .unset, .unset] [])) t := fun t k => r8 t (s8 t (st9 t k))
  clear r8 s8 st9
  clear G8 X8
  have s9 : ∀ t, Steps p.tables e below (T9.setTop (mkF m 44 #[.val (.int p1), .val (.int p2), .val (.int p3), .unset, .unset, .unset, .unset, .unset] [(.int (57343 : Int32)), (.int (7 : Int32)), (.ref b2), (.ref b2)])) t → Steps p.tables e below (T9.setTop (mkF m 39 #[.val (.int p1), .val (.int p2), .val (.int p3), .unset, .unset, .unset, .unset, .unset] [(.ref b2)])) t := by
    intro t k
    show Steps p.tables e below (T9.setTop (mkF m 39 #[.val (.int p1), .val (.int p2), .val (.int p3), .unset, .unset, .unset, .unset, .unset] [(.ref b2)])) _
    refine XS.dup X9.here hx rfl (hb hby at_39) rfl rfl ?_
    show Steps p.tables e below (T9.setTop (mkF m 40 #[.val (.int p1), .val (.int p2), .val (.int p3), .unset, .unset, .unset, .unset, .unset] [(.ref b2), (.ref b2)])) _
    refine XS.bipush X9.here hx rfl (hb hby at_40) ?_
    show Steps p.tables e below (T9.setTop (mkF m 42 #[.val (.int p1), .val (.int p2), .val (.int p3), .unset, .unset, .unset, .unset, .unset] [(.int (7 : Int32)), (.ref b2), (.ref b2)])) _
    refine X9.ldcI hx hown (mvT hZ (hw _ (List.mem_of_getElem? (i := 3) rfl))) (g := (mkF m 42 #[.val (.int p1), .val (.int p2), .val (.int p3), .unset, .unset, .unset, .unset, .unset] [(.int (7 : Int32)), (.ref b2), (.ref b2)])) rfl (hb hby at_42) ?_
    show Steps p.tables e below (T9.setTop (mkF m 44 #[.val (.int p1), .val (.int p2), .val (.int p3), .unset, .unset, .unset, .unset, .unset] [(.int (57343 : Int32)), (.int (7 : Int32)), (.ref b2), (.ref b2)])) _
    exact k
  obtain ⟨T10, L10, X10, N10, G10, st10⟩ := own_store X9 hx hZ N9 gb G9 44 #[.val (.int p1), .val (.int p2), .val (.int p3), .unset, .unset, .unset, .unset, .unset] [(.ref b2)] (7 : Int32) (57343 : Int32) (by decide) (by decide) (hb hby at_44)
  have r10 : ∀ t, Steps p.tables e below (T10.setTop (mkF m 45 #[.val (.int p1), .val (.int p2), .val (.int p3), .unset, .unset, .unset, .unset, .unset] [(.ref b2)])) t → Steps p.tables e below (s₁.setTop (mkF m 0 #[.val (.int p1), .val (.int p2), .val (.int p3), .unset, .unset, .unset, .unset, .unset] [])) t := fun t k => r9 t (s9 t (st10 t k))
  clear r9 s9 st10
  clear G9 X9
  have s10 : ∀ t, Steps p.tables e below (T10.setTop (mkF m 50 #[.val (.int p1), .val (.int p2), .val (.int p3), .unset, .unset, .unset, .unset, .unset] [(.int (57344 : Int32)), (.int (8 : Int32)), (.ref b2), (.ref b2)])) t → Steps p.tables e below (T10.setTop (mkF m 45 #[.val (.int p1), .val (.int p2), .val (.int p3), .unset, .unset, .unset, .unset, .unset] [(.ref b2)])) t := by
    intro t k
    show Steps p.tables e below (T10.setTop (mkF m 45 #[.val (.int p1), .val (.int p2), .val (.int p3), .unset, .unset, .unset, .unset, .unset] [(.ref b2)])) _
    refine XS.dup X10.here hx rfl (hb hby at_45) rfl rfl ?_
    show Steps p.tables e below (T10.setTop (mkF m 46 #[.val (.int p1), .val (.int p2), .val (.int p3), .unset, .unset, .unset, .unset, .unset] [(.ref b2), (.ref b2)])) _
    refine XS.bipush X10.here hx rfl (hb hby at_46) ?_
    show Steps p.tables e below (T10.setTop (mkF m 48 #[.val (.int p1), .val (.int p2), .val (.int p3), .unset, .unset, .unset, .unset, .unset] [(.int (8 : Int32)), (.ref b2), (.ref b2)])) _
    refine X10.ldcI hx hown (mvT hZ (hw _ (List.mem_of_getElem? (i := 4) rfl))) (g := (mkF m 48 #[.val (.int p1), .val (.int p2), .val (.int p3), .unset, .unset, .unset, .unset, .unset] [(.int (8 : Int32)), (.ref b2), (.ref b2)])) rfl (hb hby at_48) ?_
    show Steps p.tables e below (T10.setTop (mkF m 50 #[.val (.int p1), .val (.int p2), .val (.int p3), .unset, .unset, .unset, .unset, .unset] [(.int (57344 : Int32)), (.int (8 : Int32)), (.ref b2), (.ref b2)])) _
    exact k
  obtain ⟨T11, L11, X11, N11, G11, st11⟩ := own_store X10 hx hZ N10 gb G10 50 #[.val (.int p1), .val (.int p2), .val (.int p3), .unset, .unset, .unset, .unset, .unset] [(.ref b2)] (8 : Int32) (57344 : Int32) (by decide) (by decide) (hb hby at_50)
  have r11 : ∀ t, Steps p.tables e below (T11.setTop (mkF m 51 #[.val (.int p1), .val (.int p2), .val (.int p3), .unset, .unset, .unset, .unset, .unset] [(.ref b2)])) t → Steps p.tables e below (s₁.setTop (mkF m 0 #[.val (.int p1), .val (.int p2), .val (.int p3), .unset, .unset, .unset, .unset, .unset] [])) t := fun t k => r10 t (s10 t (st11 t k))
  clear r10 s10 st11
  clear G10 X10
  have s11 : ∀ t, Steps p.tables e below (T11.setTop (mkF m 56 #[.val (.int p1), .val (.int p2), .val (.int p3), .unset, .unset, .unset, .unset, .unset] [(.int (65533 : Int32)), (.int (9 : Int32)), (.ref b2), (.ref b2)])) t → Steps p.tables e below (T11.setTop (mkF m 51 #[.val (.int p1), .val (.int p2), .val (.int p3), .unset, .unset, .unset, .unset, .unset] [(.ref b2)])) t := by
    intro t k
    show Steps p.tables e below (T11.setTop (mkF m 51 #[.val (.int p1), .val (.int p2), .val (.int p3), .unset, .unset, .unset, .unset, .unset] [(.ref b2)])) _
    refine XS.dup X11.here hx rfl (hb hby at_51) rfl rfl ?_
    show Steps p.tables e below (T11.setTop (mkF m 52 #[.val (.int p1), .val (.int p2), .val (.int p3), .unset, .unset, .unset, .unset, .unset] [(.ref b2), (.ref b2)])) _
    refine XS.bipush X11.here hx rfl (hb hby at_52) ?_
    show Steps p.tables e below (T11.setTop (mkF m 54 #[.val (.int p1), .val (.int p2), .val (.int p3), .unset, .unset, .unset, .unset, .unset] [(.int (9 : Int32)), (.ref b2), (.ref b2)])) _
    refine X11.ldcI hx hown (mvT hZ (hw _ (List.mem_of_getElem? (i := 5) rfl))) (g := (mkF m 54 #[.val (.int p1), .val (.int p2), .val (.int p3), .unset, .unset, .unset, .unset, .unset] [(.int (9 : Int32)), (.ref b2), (.ref b2)])) rfl (hb hby at_54) ?_
    show Steps p.tables e below (T11.setTop (mkF m 56 #[.val (.int p1), .val (.int p2), .val (.int p3), .unset, .unset, .unset, .unset, .unset] [(.int (65533 : Int32)), (.int (9 : Int32)), (.ref b2), (.ref b2)])) _
    exact k
  obtain ⟨T12, L12, X12, N12, G12, st12⟩ := own_store X11 hx hZ N11 gb G11 56 #[.val (.int p1), .val (.int p2), .val (.int p3), .unset, .unset, .unset, .unset, .unset] [(.ref b2)] (9 : Int32) (65533 : Int32) (by decide) (by decide) (hb hby at_56)
  have r12 : ∀ t, Steps p.tables e below (T12.setTop (mkF m 57 #[.val (.int p1), .val (.int p2), .val (.int p3), .unset, .unset, .unset, .unset, .unset] [(.ref b2)])) t → Steps p.tables e below (s₁.setTop (mkF m 0 #[.val (.int p1), .val (.int p2), .val (.int p3), .unset, .unset, .unset, .unset, .unset] [])) t := fun t k => r11 t (s11 t (st12 t k))
  clear r11 s11 st12
  clear G11 X11
  have s12 : ∀ t, Steps p.tables e below (T12.setTop (mkF m 62 #[.val (.int p1), .val (.int p2), .val (.int p3), .unset, .unset, .unset, .unset, .unset] [(.int (65534 : Int32)), (.int (10 : Int32)), (.ref b2), (.ref b2)])) t → Steps p.tables e below (T12.setTop (mkF m 57 #[.val (.int p1), .val (.int p2), .val (.int p3), .unset, .unset, .unset, .unset, .unset] [(.ref b2)])) t := by
    intro t k
    show Steps p.tables e below (T12.setTop (mkF m 57 #[.val (.int p1), .val (.int p2), .val (.int p3), .unset, .unset, .unset, .unset, .unset] [(.ref b2)])) _
    refine XS.dup X12.here hx rfl (hb hby at_57) rfl rfl ?_
    show Steps p.tables e below (T12.setTop (mkF m 58 #[.val (.int p1), .val (.int p2), .val (.int p3), .unset, .unset, .unset, .unset, .unset] [(.ref b2), (.ref b2)])) _
    refine XS.bipush X12.here hx rfl (hb hby at_58) ?_
    show Steps p.tables e below (T12.setTop (mkF m 60 #[.val (.int p1), .val (.int p2), .val (.int p3), .unset, .unset, .unset, .unset, .unset] [(.int (10 : Int32)), (.ref b2), (.ref b2)])) _
    refine X12.ldcI hx hown (mvT hZ (hw _ (List.mem_of_getElem? (i := 6) rfl))) (g := (mkF m 60 #[.val (.int p1), .val (.int p2), .val (.int p3), .unset, .unset, .unset, .unset, .unset] [(.int (10 : Int32)), (.ref b2), (.ref b2)])) rfl (hb hby at_60) ?_
    show Steps p.tables e below (T12.setTop (mkF m 62 #[.val (.int p1), .val (.int p2), .val (.int p3), .unset, .unset, .unset, .unset, .unset] [(.int (65534 : Int32)), (.int (10 : Int32)), (.ref b2), (.ref b2)])) _
    exact k
  obtain ⟨T13, L13, X13, N13, G13, st13⟩ := own_store X12 hx hZ N12 gb G12 62 #[.val (.int p1), .val (.int p2), .val (.int p3), .unset, .unset, .unset, .unset, .unset] [(.ref b2)] (10 : Int32) (65534 : Int32) (by decide) (by decide) (hb hby at_62)
  have r13 : ∀ t, Steps p.tables e below (T13.setTop (mkF m 63 #[.val (.int p1), .val (.int p2), .val (.int p3), .unset, .unset, .unset, .unset, .unset] [(.ref b2)])) t → Steps p.tables e below (s₁.setTop (mkF m 0 #[.val (.int p1), .val (.int p2), .val (.int p3), .unset, .unset, .unset, .unset, .unset] [])) t := fun t k => r12 t (s12 t (st13 t k))
  clear r12 s12 st13
  clear G12 X12
  have s13 : ∀ t, Steps p.tables e below (T13.setTop (mkF m 68 #[.val (.int p1), .val (.int p2), .val (.int p3), .unset, .unset, .unset, .unset, .unset] [(.int (65535 : Int32)), (.int (11 : Int32)), (.ref b2), (.ref b2)])) t → Steps p.tables e below (T13.setTop (mkF m 63 #[.val (.int p1), .val (.int p2), .val (.int p3), .unset, .unset, .unset, .unset, .unset] [(.ref b2)])) t := by
    intro t k
    show Steps p.tables e below (T13.setTop (mkF m 63 #[.val (.int p1), .val (.int p2), .val (.int p3), .unset, .unset, .unset, .unset, .unset] [(.ref b2)])) _
    refine XS.dup X13.here hx rfl (hb hby at_63) rfl rfl ?_
    show Steps p.tables e below (T13.setTop (mkF m 64 #[.val (.int p1), .val (.int p2), .val (.int p3), .unset, .unset, .unset, .unset, .unset] [(.ref b2), (.ref b2)])) _
    refine XS.bipush X13.here hx rfl (hb hby at_64) ?_
    show Steps p.tables e below (T13.setTop (mkF m 66 #[.val (.int p1), .val (.int p2), .val (.int p3), .unset, .unset, .unset, .unset, .unset] [(.int (11 : Int32)), (.ref b2), (.ref b2)])) _
    refine X13.ldcI hx hown (mvT hZ (hw _ (List.mem_of_getElem? (i := 7) rfl))) (g := (mkF m 66 #[.val (.int p1), .val (.int p2), .val (.int p3), .unset, .unset, .unset, .unset, .unset] [(.int (11 : Int32)), (.ref b2), (.ref b2)])) rfl (hb hby at_66) ?_
    show Steps p.tables e below (T13.setTop (mkF m 68 #[.val (.int p1), .val (.int p2), .val (.int p3), .unset, .unset, .unset, .unset, .unset] [(.int (65535 : Int32)), (.int (11 : Int32)), (.ref b2), (.ref b2)])) _
    exact k
  obtain ⟨T14, L14, X14, N14, G14, st14⟩ := own_store X13 hx hZ N13 gb G13 68 #[.val (.int p1), .val (.int p2), .val (.int p3), .unset, .unset, .unset, .unset, .unset] [(.ref b2)] (11 : Int32) (65535 : Int32) (by decide) (by decide) (hb hby at_68)
  have r14 : ∀ t, Steps p.tables e below (T14.setTop (mkF m 69 #[.val (.int p1), .val (.int p2), .val (.int p3), .unset, .unset, .unset, .unset, .unset] [(.ref b2)])) t → Steps p.tables e below (s₁.setTop (mkF m 0 #[.val (.int p1), .val (.int p2), .val (.int p3), .unset, .unset, .unset, .unset, .unset] [])) t := fun t k => r13 t (s13 t (st14 t k))
  clear r13 s13 st14
  clear G13 X13
  have s14 : ∀ t, Steps p.tables e below (T14.setTop (mkF m 74 #[.val (.int p1), .val (.int p2), .val (.int p3), .unset, .unset, .unset, .unset, .unset] [(.int (65536 : Int32)), (.int (12 : Int32)), (.ref b2), (.ref b2)])) t → Steps p.tables e below (T14.setTop (mkF m 69 #[.val (.int p1), .val (.int p2), .val (.int p3), .unset, .unset, .unset, .unset, .unset] [(.ref b2)])) t := by
    intro t k
    show Steps p.tables e below (T14.setTop (mkF m 69 #[.val (.int p1), .val (.int p2), .val (.int p3), .unset, .unset, .unset, .unset, .unset] [(.ref b2)])) _
    refine XS.dup X14.here hx rfl (hb hby at_69) rfl rfl ?_
    show Steps p.tables e below (T14.setTop (mkF m 70 #[.val (.int p1), .val (.int p2), .val (.int p3), .unset, .unset, .unset, .unset, .unset] [(.ref b2), (.ref b2)])) _
    refine XS.bipush X14.here hx rfl (hb hby at_70) ?_
    show Steps p.tables e below (T14.setTop (mkF m 72 #[.val (.int p1), .val (.int p2), .val (.int p3), .unset, .unset, .unset, .unset, .unset] [(.int (12 : Int32)), (.ref b2), (.ref b2)])) _
    refine X14.ldcI hx hown (mvT hZ (hw _ (List.mem_of_getElem? (i := 8) rfl))) (g := (mkF m 72 #[.val (.int p1), .val (.int p2), .val (.int p3), .unset, .unset, .unset, .unset, .unset] [(.int (12 : Int32)), (.ref b2), (.ref b2)])) rfl (hb hby at_72) ?_
    show Steps p.tables e below (T14.setTop (mkF m 74 #[.val (.int p1), .val (.int p2), .val (.int p3), .unset, .unset, .unset, .unset, .unset] [(.int (65536 : Int32)), (.int (12 : Int32)), (.ref b2), (.ref b2)])) _
    exact k
  obtain ⟨T15, L15, X15, N15, G15, st15⟩ := own_store X14 hx hZ N14 gb G14 74 #[.val (.int p1), .val (.int p2), .val (.int p3), .unset, .unset, .unset, .unset, .unset] [(.ref b2)] (12 : Int32) (65536 : Int32) (by decide) (by decide) (hb hby at_74)
  have r15 : ∀ t, Steps p.tables e below (T15.setTop (mkF m 75 #[.val (.int p1), .val (.int p2), .val (.int p3), .unset, .unset, .unset, .unset, .unset] [(.ref b2)])) t → Steps p.tables e below (s₁.setTop (mkF m 0 #[.val (.int p1), .val (.int p2), .val (.int p3), .unset, .unset, .unset, .unset, .unset] [])) t := fun t k => r14 t (s14 t (st15 t k))
  clear r14 s14 st15
  clear G14 X14
  have s15 : ∀ t, Steps p.tables e below (T15.setTop (mkF m 80 #[.val (.int p1), .val (.int p2), .val (.int p3), .unset, .unset, .unset, .unset, .unset] [(.int (1114111 : Int32)), (.int (13 : Int32)), (.ref b2), (.ref b2)])) t → Steps p.tables e below (T15.setTop (mkF m 75 #[.val (.int p1), .val (.int p2), .val (.int p3), .unset, .unset, .unset, .unset, .unset] [(.ref b2)])) t := by
    intro t k
    show Steps p.tables e below (T15.setTop (mkF m 75 #[.val (.int p1), .val (.int p2), .val (.int p3), .unset, .unset, .unset, .unset, .unset] [(.ref b2)])) _
    refine XS.dup X15.here hx rfl (hb hby at_75) rfl rfl ?_
    show Steps p.tables e below (T15.setTop (mkF m 76 #[.val (.int p1), .val (.int p2), .val (.int p3), .unset, .unset, .unset, .unset, .unset] [(.ref b2), (.ref b2)])) _
    refine XS.bipush X15.here hx rfl (hb hby at_76) ?_
    show Steps p.tables e below (T15.setTop (mkF m 78 #[.val (.int p1), .val (.int p2), .val (.int p3), .unset, .unset, .unset, .unset, .unset] [(.int (13 : Int32)), (.ref b2), (.ref b2)])) _
    refine X15.ldcI hx hown (mvT hZ (hw _ (List.mem_of_getElem? (i := 9) rfl))) (g := (mkF m 78 #[.val (.int p1), .val (.int p2), .val (.int p3), .unset, .unset, .unset, .unset, .unset] [(.int (13 : Int32)), (.ref b2), (.ref b2)])) rfl (hb hby at_78) ?_
    show Steps p.tables e below (T15.setTop (mkF m 80 #[.val (.int p1), .val (.int p2), .val (.int p3), .unset, .unset, .unset, .unset, .unset] [(.int (1114111 : Int32)), (.int (13 : Int32)), (.ref b2), (.ref b2)])) _
    exact k
  obtain ⟨T16, L16, X16, N16, G16, st16⟩ := own_store X15 hx hZ N15 gb G15 80 #[.val (.int p1), .val (.int p2), .val (.int p3), .unset, .unset, .unset, .unset, .unset] [(.ref b2)] (13 : Int32) (1114111 : Int32) (by decide) (by decide) (hb hby at_80)
  have r16 : ∀ t, Steps p.tables e below (T16.setTop (mkF m 81 #[.val (.int p1), .val (.int p2), .val (.int p3), .unset, .unset, .unset, .unset, .unset] [(.ref b2)])) t → Steps p.tables e below (s₁.setTop (mkF m 0 #[.val (.int p1), .val (.int p2), .val (.int p3), .unset, .unset, .unset, .unset, .unset] [])) t := fun t k => r15 t (s15 t (st16 t k))
  clear r15 s15 st16
  clear G15 X15
  have s16 : ∀ t, Steps p.tables e below (T16.setTop (mkF m 86 #[.val (.int p1), .val (.int p2), .val (.int p3), .unset, .unset, .unset, .unset, .unset] [(.int (1114112 : Int32)), (.int (14 : Int32)), (.ref b2), (.ref b2)])) t → Steps p.tables e below (T16.setTop (mkF m 81 #[.val (.int p1), .val (.int p2), .val (.int p3), .unset, .unset, .unset, .unset, .unset] [(.ref b2)])) t := by
    intro t k
    show Steps p.tables e below (T16.setTop (mkF m 81 #[.val (.int p1), .val (.int p2), .val (.int p3), .unset, .unset, .unset, .unset, .unset] [(.ref b2)])) _
    refine XS.dup X16.here hx rfl (hb hby at_81) rfl rfl ?_
    show Steps p.tables e below (T16.setTop (mkF m 82 #[.val (.int p1), .val (.int p2), .val (.int p3), .unset, .unset, .unset, .unset, .unset] [(.ref b2), (.ref b2)])) _
    refine XS.bipush X16.here hx rfl (hb hby at_82) ?_
    show Steps p.tables e below (T16.setTop (mkF m 84 #[.val (.int p1), .val (.int p2), .val (.int p3), .unset, .unset, .unset, .unset, .unset] [(.int (14 : Int32)), (.ref b2), (.ref b2)])) _
    refine X16.ldcI hx hown (mvT hZ (hw _ (List.mem_of_getElem? (i := 10) rfl))) (g := (mkF m 84 #[.val (.int p1), .val (.int p2), .val (.int p3), .unset, .unset, .unset, .unset, .unset] [(.int (14 : Int32)), (.ref b2), (.ref b2)])) rfl (hb hby at_84) ?_
    show Steps p.tables e below (T16.setTop (mkF m 86 #[.val (.int p1), .val (.int p2), .val (.int p3), .unset, .unset, .unset, .unset, .unset] [(.int (1114112 : Int32)), (.int (14 : Int32)), (.ref b2), (.ref b2)])) _
    exact k
  obtain ⟨T17, L17, X17, N17, G17, st17⟩ := own_store X16 hx hZ N16 gb G16 86 #[.val (.int p1), .val (.int p2), .val (.int p3), .unset, .unset, .unset, .unset, .unset] [(.ref b2)] (14 : Int32) (1114112 : Int32) (by decide) (by decide) (hb hby at_86)
  have r17 : ∀ t, Steps p.tables e below (T17.setTop (mkF m 87 #[.val (.int p1), .val (.int p2), .val (.int p3), .unset, .unset, .unset, .unset, .unset] [(.ref b2)])) t → Steps p.tables e below (s₁.setTop (mkF m 0 #[.val (.int p1), .val (.int p2), .val (.int p3), .unset, .unset, .unset, .unset, .unset] [])) t := fun t k => r16 t (s16 t (st17 t k))
  clear r16 s16 st17
  clear G16 X16
  have s17 : ∀ t, Steps p.tables e below (T17.setTop (mkF m 92 #[.val (.int p1), .val (.int p2), .val (.int p3), .unset, .unset, .unset, .unset, .unset] [(.int (-2147483648 : Int32)), (.int (15 : Int32)), (.ref b2), (.ref b2)])) t → Steps p.tables e below (T17.setTop (mkF m 87 #[.val (.int p1), .val (.int p2), .val (.int p3), .unset, .unset, .unset, .unset, .unset] [(.ref b2)])) t := by
    intro t k
    show Steps p.tables e below (T17.setTop (mkF m 87 #[.val (.int p1), .val (.int p2), .val (.int p3), .unset, .unset, .unset, .unset, .unset] [(.ref b2)])) _
    refine XS.dup X17.here hx rfl (hb hby at_87) rfl rfl ?_
    show Steps p.tables e below (T17.setTop (mkF m 88 #[.val (.int p1), .val (.int p2), .val (.int p3), .unset, .unset, .unset, .unset, .unset] [(.ref b2), (.ref b2)])) _
    refine XS.bipush X17.here hx rfl (hb hby at_88) ?_
    show Steps p.tables e below (T17.setTop (mkF m 90 #[.val (.int p1), .val (.int p2), .val (.int p3), .unset, .unset, .unset, .unset, .unset] [(.int (15 : Int32)), (.ref b2), (.ref b2)])) _
    refine X17.ldcI hx hown (mvT hZ (hw _ (List.mem_of_getElem? (i := 11) rfl))) (g := (mkF m 90 #[.val (.int p1), .val (.int p2), .val (.int p3), .unset, .unset, .unset, .unset, .unset] [(.int (15 : Int32)), (.ref b2), (.ref b2)])) rfl (hb hby at_90) ?_
    show Steps p.tables e below (T17.setTop (mkF m 92 #[.val (.int p1), .val (.int p2), .val (.int p3), .unset, .unset, .unset, .unset, .unset] [(.int (-2147483648 : Int32)), (.int (15 : Int32)), (.ref b2), (.ref b2)])) _
    exact k
  obtain ⟨T18, L18, X18, N18, G18, st18⟩ := own_store X17 hx hZ N17 gb G17 92 #[.val (.int p1), .val (.int p2), .val (.int p3), .unset, .unset, .unset, .unset, .unset] [(.ref b2)] (15 : Int32) (-2147483648 : Int32) (by decide) (by decide) (hb hby at_92)
  have r18 : ∀ t, Steps p.tables e below (T18.setTop (mkF m 93 #[.val (.int p1), .val (.int p2), .val (.int p3), .unset, .unset, .unset, .unset, .unset] [(.ref b2)])) t → Steps p.tables e below (s₁.setTop (mkF m 0 #[.val (.int p1), .val (.int p2), .val (.int p3), .unset, .unset, .unset, .unset, .unset] [])) t := fun t k => r17 t (s17 t (st18 t k))
  clear r17 s17 st18
  clear G17 X17
  have s18 : ∀ t, Steps p.tables e below (T18.setTop (mkF m 98 #[.val (.int p1), .val (.int p2), .val (.int p3), .unset, .unset, .unset, .unset, .unset] [(.int (2147483647 : Int32)), (.int (16 : Int32)), (.ref b2), (.ref b2)])) t → Steps p.tables e below (T18.setTop (mkF m 93 #[.val (.int p1), .val (.int p2), .val (.int p3), .unset, .unset, .unset, .unset, .unset] [(.ref b2)])) t := by
    intro t k
    show Steps p.tables e below (T18.setTop (mkF m 93 #[.val (.int p1), .val (.int p2), .val (.int p3), .unset, .unset, .unset, .unset, .unset] [(.ref b2)])) _
    refine XS.dup X18.here hx rfl (hb hby at_93) rfl rfl ?_
    show Steps p.tables e below (T18.setTop (mkF m 94 #[.val (.int p1), .val (.int p2), .val (.int p3), .unset, .unset, .unset, .unset, .unset] [(.ref b2), (.ref b2)])) _
    refine XS.bipush X18.here hx rfl (hb hby at_94) ?_
    show Steps p.tables e below (T18.setTop (mkF m 96 #[.val (.int p1), .val (.int p2), .val (.int p3), .unset, .unset, .unset, .unset, .unset] [(.int (16 : Int32)), (.ref b2), (.ref b2)])) _
    refine X18.ldcI hx hown (mvT hZ (hw _ (List.mem_of_getElem? (i := 12) rfl))) (g := (mkF m 96 #[.val (.int p1), .val (.int p2), .val (.int p3), .unset, .unset, .unset, .unset, .unset] [(.int (16 : Int32)), (.ref b2), (.ref b2)])) rfl (hb hby at_96) ?_
    show Steps p.tables e below (T18.setTop (mkF m 98 #[.val (.int p1), .val (.int p2), .val (.int p3), .unset, .unset, .unset, .unset, .unset] [(.int (2147483647 : Int32)), (.int (16 : Int32)), (.ref b2), (.ref b2)])) _
    exact k
  obtain ⟨T19, L19, X19, N19, G19, st19⟩ := own_store X18 hx hZ N18 gb G18 98 #[.val (.int p1), .val (.int p2), .val (.int p3), .unset, .unset, .unset, .unset, .unset] [(.ref b2)] (16 : Int32) (2147483647 : Int32) (by decide) (by decide) (hb hby at_98)
  have r19 : ∀ t, Steps p.tables e below (T19.setTop (mkF m 99 #[.val (.int p1), .val (.int p2), .val (.int p3), .unset, .unset, .unset, .unset, .unset] [(.ref b2)])) t → Steps p.tables e below (s₁.setTop (mkF m 0 #[.val (.int p1), .val (.int p2), .val (.int p3), .unset, .unset, .unset, .unset, .unset] [])) t := fun t k => r18 t (s18 t (st19 t k))
  clear r18 s18 st19
  clear G18 X18
  have s19 : ∀ t, Steps p.tables e below (T19.setTop (mkF m 112 #[.val (.int p1), .val (.int p2), .val (.int p3), .val (.ref b2), .val (.int ((p2 &&& (2147483647 : Int32)) % (17 : Int32))), .unset, .unset, .unset] [(.int ((p2 &&& (2147483647 : Int32)) % (17 : Int32))), (.ref b2)])) t → Steps p.tables e below (T19.setTop (mkF m 99 #[.val (.int p1), .val (.int p2), .val (.int p3), .unset, .unset, .unset, .unset, .unset] [(.ref b2)])) t := by
    intro t k
    show Steps p.tables e below (T19.setTop (mkF m 99 #[.val (.int p1), .val (.int p2), .val (.int p3), .unset, .unset, .unset, .unset, .unset] [(.ref b2)])) _
    refine XS.astoreN X19.here hx rfl (hb hby at_99) rfl rfl (l' := #[.val (.int p1), .val (.int p2), .val (.int p3), .val (.ref b2), .unset, .unset, .unset, .unset]) rfl ?_
    show Steps p.tables e below (T19.setTop (mkF m 100 #[.val (.int p1), .val (.int p2), .val (.int p3), .val (.ref b2), .unset, .unset, .unset, .unset] [])) _
    refine XS.iloadN X19.here hx rfl (hb hby at_100) rfl ?_
    show Steps p.tables e below (T19.setTop (mkF m 101 #[.val (.int p1), .val (.int p2), .val (.int p3), .val (.ref b2), .unset, .unset, .unset, .unset] [(.int p2)])) _
    refine X19.ldcI hx hown (mvT hZ (hw _ (List.mem_of_getElem? (i := 12) rfl))) (g := (mkF m 101 #[.val (.int p1), .val (.int p2), .val (.int p3), .val (.ref b2), .unset, .unset, .unset, .unset] [(.int p2)])) rfl (hb hby at_101) ?_
    show Steps p.tables e below (T19.setTop (mkF m 103 #[.val (.int p1), .val (.int p2), .val (.int p3), .val (.ref b2), .unset, .unset, .unset, .unset] [(.int (2147483647 : Int32)), (.int p2)])) _
    refine XS.iand X19.here hx rfl (hb hby at_103) rfl ?_
    show Steps p.tables e below (T19.setTop (mkF m 104 #[.val (.int p1), .val (.int p2), .val (.int p3), .val (.ref b2), .unset, .unset, .unset, .unset] [(.int (p2 &&& (2147483647 : Int32)))])) _
    refine XS.bipush X19.here hx rfl (hb hby at_104) ?_
    show Steps p.tables e below (T19.setTop (mkF m 106 #[.val (.int p1), .val (.int p2), .val (.int p3), .val (.ref b2), .unset, .unset, .unset, .unset] [(.int (17 : Int32)), (.int (p2 &&& (2147483647 : Int32)))])) _
    refine iremM X19 hx rfl (hb hby at_106) rfl (by decide) ?_
    show Steps p.tables e below (T19.setTop (mkF m 107 #[.val (.int p1), .val (.int p2), .val (.int p3), .val (.ref b2), .unset, .unset, .unset, .unset] [(.int ((p2 &&& (2147483647 : Int32)) % (17 : Int32)))])) _
    refine XS.istore X19.here hx rfl (hb hby at_107) rfl (l' := #[.val (.int p1), .val (.int p2), .val (.int p3), .val (.ref b2), .val (.int ((p2 &&& (2147483647 : Int32)) % (17 : Int32))), .unset, .unset, .unset]) rfl ?_
    show Steps p.tables e below (T19.setTop (mkF m 109 #[.val (.int p1), .val (.int p2), .val (.int p3), .val (.ref b2), .val (.int ((p2 &&& (2147483647 : Int32)) % (17 : Int32))), .unset, .unset, .unset] [])) _
    refine XS.aloadN X19.here hx rfl (hb hby at_109) rfl rfl ?_
    show Steps p.tables e below (T19.setTop (mkF m 110 #[.val (.int p1), .val (.int p2), .val (.int p3), .val (.ref b2), .val (.int ((p2 &&& (2147483647 : Int32)) % (17 : Int32))), .unset, .unset, .unset] [(.ref b2)])) _
    refine XS.iload X19.here hx rfl (hb hby at_110) rfl ?_
    show Steps p.tables e below (T19.setTop (mkF m 112 #[.val (.int p1), .val (.int p2), .val (.int p3), .val (.ref b2), .val (.int ((p2 &&& (2147483647 : Int32)) % (17 : Int32))), .unset, .unset, .unset] [(.int ((p2 &&& (2147483647 : Int32)) % (17 : Int32))), (.ref b2)])) _
    exact k
  obtain ⟨cl, Ar, Sz, Hs⟩ := G19
  have hidx := own_idx p2
  obtain ⟨wv, hwv⟩ := Hs (((p2 &&& (2147483647 : Int32)) % (17 : Int32))).toNatClampNeg hidx.2
  have hin : ¬ (((p2 &&& (2147483647 : Int32)) % (17 : Int32)) < 0 ∨ cl.slots.size ≤ (((p2 &&& (2147483647 : Int32)) % (17 : Int32))).toNatClampNeg) := fun q => q.elim hidx.1 (fun q => by have := hidx.2; omega)
  have s19a : ∀ t, Steps p.tables e below (T19.setTop (mkF m 113 #[.val (.int p1), .val (.int p2), .val (.int p3), .val (.ref b2), .val (.int ((p2 &&& (2147483647 : Int32)) % (17 : Int32))), .unset, .unset, .unset] [(.int wv)])) t → Steps p.tables e below (T19.setTop (mkF m 112 #[.val (.int p1), .val (.int p2), .val (.int p3), .val (.ref b2), .val (.int ((p2 &&& (2147483647 : Int32)) % (17 : Int32))), .unset, .unset, .unset] [(.int ((p2 &&& (2147483647 : Int32)) % (17 : Int32))), (.ref b2)])) t := fun t k => X19.iaload hx (j := ((p2 &&& (2147483647 : Int32)) % (17 : Int32))) (v := (.int wv)) Ar.1 (State.isArrayOf_alike hZ.alike Ar.2.1) Ar.2.2 hin hwv (g := (mkF m 112 #[.val (.int p1), .val (.int p2), .val (.int p3), .val (.ref b2), .val (.int ((p2 &&& (2147483647 : Int32)) % (17 : Int32))), .unset, .unset, .unset] [(.int ((p2 &&& (2147483647 : Int32)) % (17 : Int32))), (.ref b2)])) rfl rfl (hb hby at_112) _ k
  have s19b : ∀ t, Steps p.tables e below (T19.setTop (mkF m 123 #[.val (.int p1), .val (.int p2), .val (.int p3), .val (.ref b2), .val (.int ((p2 &&& (2147483647 : Int32)) % (17 : Int32))), .val (.int (wv + ((p3 &&& (7 : Int32)) - (3 : Int32)))), .unset, .unset] [(.int p1)])) t → Steps p.tables e below (T19.setTop (mkF m 113 #[.val (.int p1), .val (.int p2), .val (.int p3), .val (.ref b2), .val (.int ((p2 &&& (2147483647 : Int32)) % (17 : Int32))), .unset, .unset, .unset] [(.int wv)])) t := by
    intro t k
    show Steps p.tables e below (T19.setTop (mkF m 113 #[.val (.int p1), .val (.int p2), .val (.int p3), .val (.ref b2), .val (.int ((p2 &&& (2147483647 : Int32)) % (17 : Int32))), .unset, .unset, .unset] [(.int wv)])) _
    refine XS.iloadN X19.here hx rfl (hb hby at_113) rfl ?_
    show Steps p.tables e below (T19.setTop (mkF m 114 #[.val (.int p1), .val (.int p2), .val (.int p3), .val (.ref b2), .val (.int ((p2 &&& (2147483647 : Int32)) % (17 : Int32))), .unset, .unset, .unset] [(.int p3), (.int wv)])) _
    refine XS.bipush X19.here hx rfl (hb hby at_114) ?_
    show Steps p.tables e below (T19.setTop (mkF m 116 #[.val (.int p1), .val (.int p2), .val (.int p3), .val (.ref b2), .val (.int ((p2 &&& (2147483647 : Int32)) % (17 : Int32))), .unset, .unset, .unset] [(.int (7 : Int32)), (.int p3), (.int wv)])) _
    refine XS.iand X19.here hx rfl (hb hby at_116) rfl ?_
    show Steps p.tables e below (T19.setTop (mkF m 117 #[.val (.int p1), .val (.int p2), .val (.int p3), .val (.ref b2), .val (.int ((p2 &&& (2147483647 : Int32)) % (17 : Int32))), .unset, .unset, .unset] [(.int (p3 &&& (7 : Int32))), (.int wv)])) _
    refine XS.iconst X19.here hx rfl (hb hby at_117) ?_
    show Steps p.tables e below (T19.setTop (mkF m 118 #[.val (.int p1), .val (.int p2), .val (.int p3), .val (.ref b2), .val (.int ((p2 &&& (2147483647 : Int32)) % (17 : Int32))), .unset, .unset, .unset] [(.int (3 : Int32)), (.int (p3 &&& (7 : Int32))), (.int wv)])) _
    refine XS.isub X19.here hx rfl (hb hby at_118) rfl ?_
    show Steps p.tables e below (T19.setTop (mkF m 119 #[.val (.int p1), .val (.int p2), .val (.int p3), .val (.ref b2), .val (.int ((p2 &&& (2147483647 : Int32)) % (17 : Int32))), .unset, .unset, .unset] [(.int ((p3 &&& (7 : Int32)) - (3 : Int32))), (.int wv)])) _
    refine XS.iadd X19.here hx rfl (hb hby at_119) rfl ?_
    show Steps p.tables e below (T19.setTop (mkF m 120 #[.val (.int p1), .val (.int p2), .val (.int p3), .val (.ref b2), .val (.int ((p2 &&& (2147483647 : Int32)) % (17 : Int32))), .unset, .unset, .unset] [(.int (wv + ((p3 &&& (7 : Int32)) - (3 : Int32))))])) _
    refine XS.istore X19.here hx rfl (hb hby at_120) rfl (l' := #[.val (.int p1), .val (.int p2), .val (.int p3), .val (.ref b2), .val (.int ((p2 &&& (2147483647 : Int32)) % (17 : Int32))), .val (.int (wv + ((p3 &&& (7 : Int32)) - (3 : Int32)))), .unset, .unset]) rfl ?_
    show Steps p.tables e below (T19.setTop (mkF m 122 #[.val (.int p1), .val (.int p2), .val (.int p3), .val (.ref b2), .val (.int ((p2 &&& (2147483647 : Int32)) % (17 : Int32))), .val (.int (wv + ((p3 &&& (7 : Int32)) - (3 : Int32)))), .unset, .unset] [])) _
    refine XS.iloadN X19.here hx rfl (hb hby at_122) rfl ?_
    show Steps p.tables e below (T19.setTop (mkF m 123 #[.val (.int p1), .val (.int p2), .val (.int p3), .val (.ref b2), .val (.int ((p2 &&& (2147483647 : Int32)) % (17 : Int32))), .val (.int (wv + ((p3 &&& (7 : Int32)) - (3 : Int32)))), .unset, .unset] [(.int p1)])) _
    exact k
  have Zq : n0 ≤ T19.heap.size := Nat.le_trans gb (Nat.le_of_lt Ar.lt)
  have rq : ∀ t, Steps p.tables e below (T19.setTop (mkF m 123 #[.val (.int p1), .val (.int p2), .val (.int p3), .val (.ref b2), .val (.int ((p2 &&& (2147483647 : Int32)) % (17 : Int32))), .val (.int (wv + ((p3 &&& (7 : Int32)) - (3 : Int32)))), .unset, .unset] [(.int p1)])) t → Steps p.tables e below (s₁.setTop (mkF m 0 #[.val (.int p1), .val (.int p2), .val (.int p3), .unset, .unset, .unset, .unset, .unset] [])) t := fun t k => r19 t (s19 t (s19a t (s19b t k)))
  obtain ⟨_, _, ⟨T20, L20, k20, n20⟩, -, X20, ⟨Lc20, hQ20, l20, y20, z20⟩, st20⟩ := Jvm.LawKit.callS X19 hx (y := (⟨"com/example/kellar/kellar/XmlChars", "isChar", "(I)Z"⟩ : MethodName)) hown (mvT hZ (hw _ (List.mem_of_getElem? (i := 13) rfl))) (mvT hZ (hw _ (List.mem_of_getElem? (i := 14) rfl))) (mvT hZ (hw _ (List.mem_of_getElem? (i := 15) rfl))) (mvT hZ (hw _ (List.mem_of_getElem? (i := 16) rfl))) (by decide) (backOf (W := 0) (rm1 l Z a0 hw [] p1 T19.heap n0 Zq) hZ (hw _ (List.mem_of_getElem? (i := 16) rfl)) (hw _ (List.mem_of_getElem? (i := 15) rfl)) (by decide) (by decide)) (g := (mkF m 123 #[.val (.int p1), .val (.int p2), .val (.int p3), .val (.ref b2), .val (.int ((p2 &&& (2147483647 : Int32)) % (17 : Int32))), .val (.int (wv + ((p3 &&& (7 : Int32)) - (3 : Int32)))), .unset, .unset] [(.int p1)])) rfl (by rw [hml]; rfl) (argsL := [(.int p1)]) (rest := []) (lenOf pd__I_Z rfl) rfl (by show 2 * 0 + _ ≤ _; exact Nat.le_of_eq rfl) (hb hby at_123) (fun _ _ => ⟨rfl, rfl, (by decide : 1 + 0 ≤ _), (by decide : 17 + 0 ≤ _)⟩)
  dsimp only [Pt.U, Pt.locs, Pt.cells, Pt.slots] at X20 l20 y20 z20 st20 hQ20
  subst l20 y20 z20
  obtain ⟨rfl, N20q, e20⟩ := hQ20
  have N20 := Fr.app N19 N20q
  rw [← e20] at Zq
  have r20 : ∀ t, Steps p.tables e below (T20.setTop (mkF m 126 #[.val (.int p1), .val (.int p2), .val (.int p3), .val (.ref b2), .val (.int ((p2 &&& (2147483647 : Int32)) % (17 : Int32))), .val (.int (wv + ((p3 &&& (7 : Int32)) - (3 : Int32)))), .unset, .unset] [(.int (own_isc_0 p1))])) t → Steps p.tables e below (s₁.setTop (mkF m 0 #[.val (.int p1), .val (.int p2), .val (.int p3), .unset, .unset, .unset, .unset, .unset] [])) t := fun t k => rq t (st20 _  k)
  have s20 : ∀ t, Steps p.tables e below (T20.setTop (mkF m 127 #[.val (.int p1), .val (.int p2), .val (.int p3), .val (.ref b2), .val (.int ((p2 &&& (2147483647 : Int32)) % (17 : Int32))), .val (.int (wv + ((p3 &&& (7 : Int32)) - (3 : Int32)))), .unset, .unset] [(.int p1), (.int (own_isc_0 p1))])) t → Steps p.tables e below (T20.setTop (mkF m 126 #[.val (.int p1), .val (.int p2), .val (.int p3), .val (.ref b2), .val (.int ((p2 &&& (2147483647 : Int32)) % (17 : Int32))), .val (.int (wv + ((p3 &&& (7 : Int32)) - (3 : Int32)))), .unset, .unset] [(.int (own_isc_0 p1))])) t := by
    intro t k
    show Steps p.tables e below (T20.setTop (mkF m 126 #[.val (.int p1), .val (.int p2), .val (.int p3), .val (.ref b2), .val (.int ((p2 &&& (2147483647 : Int32)) % (17 : Int32))), .val (.int (wv + ((p3 &&& (7 : Int32)) - (3 : Int32)))), .unset, .unset] [(.int (own_isc_0 p1))])) _
    refine XS.iloadN X20.here hx rfl (hb hby at_126) rfl ?_
    show Steps p.tables e below (T20.setTop (mkF m 127 #[.val (.int p1), .val (.int p2), .val (.int p3), .val (.ref b2), .val (.int ((p2 &&& (2147483647 : Int32)) % (17 : Int32))), .val (.int (wv + ((p3 &&& (7 : Int32)) - (3 : Int32)))), .unset, .unset] [(.int p1), (.int (own_isc_0 p1))])) _
    exact k
  have r20_ : ∀ t, Steps p.tables e below (T20.setTop (mkF m 127 #[.val (.int p1), .val (.int p2), .val (.int p3), .val (.ref b2), .val (.int ((p2 &&& (2147483647 : Int32)) % (17 : Int32))), .val (.int (wv + ((p3 &&& (7 : Int32)) - (3 : Int32)))), .unset, .unset] [(.int p1), (.int (own_isc_0 p1))])) t → Steps p.tables e below (s₁.setTop (mkF m 0 #[.val (.int p1), .val (.int p2), .val (.int p3), .unset, .unset, .unset, .unset, .unset] [])) t := fun t k => r20 t (s20 t k)
  obtain ⟨_, _, ⟨T21, L21, k21, n21⟩, -, X21, ⟨Lc21, hQ21, l21, y21, z21⟩, st21⟩ := Jvm.LawKit.callS X20 hx (y := (⟨"com/example/kellar/kellar/XmlCharsIsCharPinLaw", "ref", "(I)Z"⟩ : MethodName)) hown (mvT hZ (hw _ (List.mem_of_getElem? (i := 19) rfl))) (mvT hZ (hw _ (List.mem_of_getElem? (i := 20) rfl))) (mvT hZ (hw _ (List.mem_of_getElem? (i := 21) rfl))) (mvT hZ (hw _ (List.mem_of_getElem? (i := 22) rfl))) (by decide) (backOf (W := 1) (rm2 l Z a0 hw [] p1 T20.heap n0 Zq) hZ (hw _ (List.mem_of_getElem? (i := 22) rfl)) (hw _ (List.mem_of_getElem? (i := 21) rfl)) (by decide) (by decide)) (g := (mkF m 127 #[.val (.int p1), .val (.int p2), .val (.int p3), .val (.ref b2), .val (.int ((p2 &&& (2147483647 : Int32)) % (17 : Int32))), .val (.int (wv + ((p3 &&& (7 : Int32)) - (3 : Int32)))), .unset, .unset] [(.int p1), (.int (own_isc_0 p1))])) rfl (by rw [hml]; rfl) (argsL := [(.int p1)]) (rest := [(.int (own_isc_0 p1))]) (lenOf pd__I_Z rfl) rfl (by show 2 * 0 + _ ≤ _; exact Nat.le_of_eq rfl) (hb hby at_127) (fun _ _ => ⟨rfl, rfl, (by decide : 1 + 0 ≤ _), (by decide : 17 + 0 ≤ _)⟩)
  dsimp only [Pt.U, Pt.locs, Pt.cells, Pt.slots] at X21 l21 y21 z21 st21 hQ21
  subst l21 y21 z21
  obtain ⟨rfl, N21q, e21⟩ := hQ21
  have N21 := Fr.app N20 N21q
  rw [← e21] at Zq
  have r21 : ∀ t, Steps p.tables e below (T21.setTop (mkF m 130 #[.val (.int p1), .val (.int p2), .val (.int p3), .val (.ref b2), .val (.int ((p2 &&& (2147483647 : Int32)) % (17 : Int32))), .val (.int (wv + ((p3 &&& (7 : Int32)) - (3 : Int32)))), .unset, .unset] [(.int (own_ref_0 p1)), (.int (own_isc_0 p1))])) t → Steps p.tables e below (s₁.setTop (mkF m 0 #[.val (.int p1), .val (.int p2), .val (.int p3), .unset, .unset, .unset, .unset, .unset] [])) t := fun t k => r20_ t (st21 _  k)
  have s21 : ∀ t, Steps p.tables e below (T21.setTop (mkF m 142 #[.val (.int p1), .val (.int p2), .val (.int p3), .val (.ref b2), .val (.int ((p2 &&& (2147483647 : Int32)) % (17 : Int32))), .val (.int (wv + ((p3 &&& (7 : Int32)) - (3 : Int32)))), .val (.int (1 : Int32)), .unset] [(.int (wv + ((p3 &&& (7 : Int32)) - (3 : Int32))))])) t → Steps p.tables e below (T21.setTop (mkF m 130 #[.val (.int p1), .val (.int p2), .val (.int p3), .val (.ref b2), .val (.int ((p2 &&& (2147483647 : Int32)) % (17 : Int32))), .val (.int (wv + ((p3 &&& (7 : Int32)) - (3 : Int32)))), .unset, .unset] [(.int (own_ref_0 p1)), (.int (own_isc_0 p1))])) t := by
    intro t k
    show Steps p.tables e below (T21.setTop (mkF m 130 #[.val (.int p1), .val (.int p2), .val (.int p3), .val (.ref b2), .val (.int ((p2 &&& (2147483647 : Int32)) % (17 : Int32))), .val (.int (wv + ((p3 &&& (7 : Int32)) - (3 : Int32)))), .unset, .unset] [(.int (own_ref_0 p1)), (.int (own_isc_0 p1))])) _
    refine XS.icmpNo X21.here hx rfl (hb hby at_130) rfl (XT.ii_ne_f (own_same p1)) ?_
    show Steps p.tables e below (T21.setTop (mkF m 133 #[.val (.int p1), .val (.int p2), .val (.int p3), .val (.ref b2), .val (.int ((p2 &&& (2147483647 : Int32)) % (17 : Int32))), .val (.int (wv + ((p3 &&& (7 : Int32)) - (3 : Int32)))), .unset, .unset] [])) _
    refine XS.iconst X21.here hx rfl (hb hby at_133) ?_
    show Steps p.tables e below (T21.setTop (mkF m 134 #[.val (.int p1), .val (.int p2), .val (.int p3), .val (.ref b2), .val (.int ((p2 &&& (2147483647 : Int32)) % (17 : Int32))), .val (.int (wv + ((p3 &&& (7 : Int32)) - (3 : Int32)))), .unset, .unset] [(.int (1 : Int32))])) _
    refine XS.goto X21.here hx rfl (pc0 := 134) (pc' := 138) rfl (hb hby at_134) (by decide) (by decide) ?_
    show Steps p.tables e below (T21.setTop (mkF m 138 #[.val (.int p1), .val (.int p2), .val (.int p3), .val (.ref b2), .val (.int ((p2 &&& (2147483647 : Int32)) % (17 : Int32))), .val (.int (wv + ((p3 &&& (7 : Int32)) - (3 : Int32)))), .unset, .unset] [(.int (1 : Int32))])) _
    refine XS.istore X21.here hx rfl (hb hby at_138) rfl (l' := #[.val (.int p1), .val (.int p2), .val (.int p3), .val (.ref b2), .val (.int ((p2 &&& (2147483647 : Int32)) % (17 : Int32))), .val (.int (wv + ((p3 &&& (7 : Int32)) - (3 : Int32)))), .val (.int (1 : Int32)), .unset]) rfl ?_
    show Steps p.tables e below (T21.setTop (mkF m 140 #[.val (.int p1), .val (.int p2), .val (.int p3), .val (.ref b2), .val (.int ((p2 &&& (2147483647 : Int32)) % (17 : Int32))), .val (.int (wv + ((p3 &&& (7 : Int32)) - (3 : Int32)))), .val (.int (1 : Int32)), .unset] [])) _
    refine XS.iload X21.here hx rfl (hb hby at_140) rfl ?_
    show Steps p.tables e below (T21.setTop (mkF m 142 #[.val (.int p1), .val (.int p2), .val (.int p3), .val (.ref b2), .val (.int ((p2 &&& (2147483647 : Int32)) % (17 : Int32))), .val (.int (wv + ((p3 &&& (7 : Int32)) - (3 : Int32)))), .val (.int (1 : Int32)), .unset] [(.int (wv + ((p3 &&& (7 : Int32)) - (3 : Int32))))])) _
    exact k
  have r21_ : ∀ t, Steps p.tables e below (T21.setTop (mkF m 142 #[.val (.int p1), .val (.int p2), .val (.int p3), .val (.ref b2), .val (.int ((p2 &&& (2147483647 : Int32)) % (17 : Int32))), .val (.int (wv + ((p3 &&& (7 : Int32)) - (3 : Int32)))), .val (.int (1 : Int32)), .unset] [(.int (wv + ((p3 &&& (7 : Int32)) - (3 : Int32))))])) t → Steps p.tables e below (s₁.setTop (mkF m 0 #[.val (.int p1), .val (.int p2), .val (.int p3), .unset, .unset, .unset, .unset, .unset] [])) t := fun t k => r21 t (s21 t k)
  obtain ⟨_, _, ⟨T22, L22, k22, n22⟩, -, X22, ⟨Lc22, hQ22, l22, y22, z22⟩, st22⟩ := Jvm.LawKit.callS X21 hx (y := (⟨"com/example/kellar/kellar/XmlChars", "isChar", "(I)Z"⟩ : MethodName)) hown (mvT hZ (hw _ (List.mem_of_getElem? (i := 13) rfl))) (mvT hZ (hw _ (List.mem_of_getElem? (i := 14) rfl))) (mvT hZ (hw _ (List.mem_of_getElem? (i := 15) rfl))) (mvT hZ (hw _ (List.mem_of_getElem? (i := 16) rfl))) (by decide) (backOf (W := 0) (rm1 l Z a0 hw [] (wv + ((p3 &&& (7 : Int32)) - (3 : Int32))) T21.heap n0 Zq) hZ (hw _ (List.mem_of_getElem? (i := 16) rfl)) (hw _ (List.mem_of_getElem? (i := 15) rfl)) (by decide) (by decide)) (g := (mkF m 142 #[.val (.int p1), .val (.int p2), .val (.int p3), .val (.ref b2), .val (.int ((p2 &&& (2147483647 : Int32)) % (17 : Int32))), .val (.int (wv + ((p3 &&& (7 : Int32)) - (3 : Int32)))), .val (.int (1 : Int32)), .unset] [(.int (wv + ((p3 &&& (7 : Int32)) - (3 : Int32))))])) rfl (by rw [hml]; rfl) (argsL := [(.int (wv + ((p3 &&& (7 : Int32)) - (3 : Int32))))]) (rest := []) (lenOf pd__I_Z rfl) rfl (by show 2 * 0 + _ ≤ _; exact Nat.le_of_eq rfl) (hb hby at_142) (fun _ _ => ⟨rfl, rfl, (by decide : 1 + 0 ≤ _), (by decide : 17 + 0 ≤ _)⟩)
  dsimp only [Pt.U, Pt.locs, Pt.cells, Pt.slots] at X22 l22 y22 z22 st22 hQ22
  subst l22 y22 z22
  obtain ⟨rfl, N22q, e22⟩ := hQ22
  have N22 := Fr.app N21 N22q
  rw [← e22] at Zq
  have r22 : ∀ t, Steps p.tables e below (T22.setTop (mkF m 145 #[.val (.int p1), .val (.int p2), .val (.int p3), .val (.ref b2), .val (.int ((p2 &&& (2147483647 : Int32)) % (17 : Int32))), .val (.int (wv + ((p3 &&& (7 : Int32)) - (3 : Int32)))), .val (.int (1 : Int32)), .unset] [(.int (own_isc_0 (wv + ((p3 &&& (7 : Int32)) - (3 : Int32)))))])) t → Steps p.tables e below (s₁.setTop (mkF m 0 #[.val (.int p1), .val (.int p2), .val (.int p3), .unset, .unset, .unset, .unset, .unset] [])) t := fun t k => r21_ t (st22 _  k)
  have s22 : ∀ t, Steps p.tables e below (T22.setTop (mkF m 147 #[.val (.int p1), .val (.int p2), .val (.int p3), .val (.ref b2), .val (.int ((p2 &&& (2147483647 : Int32)) % (17 : Int32))), .val (.int (wv + ((p3 &&& (7 : Int32)) - (3 : Int32)))), .val (.int (1 : Int32)), .unset] [(.int (wv + ((p3 &&& (7 : Int32)) - (3 : Int32)))), (.int (own_isc_0 (wv + ((p3 &&& (7 : Int32)) - (3 : Int32)))))])) t → Steps p.tables e below (T22.setTop (mkF m 145 #[.val (.int p1), .val (.int p2), .val (.int p3), .val (.ref b2), .val (.int ((p2 &&& (2147483647 : Int32)) % (17 : Int32))), .val (.int (wv + ((p3 &&& (7 : Int32)) - (3 : Int32)))), .val (.int (1 : Int32)), .unset] [(.int (own_isc_0 (wv + ((p3 &&& (7 : Int32)) - (3 : Int32)))))])) t := by
    intro t k
    show Steps p.tables e below (T22.setTop (mkF m 145 #[.val (.int p1), .val (.int p2), .val (.int p3), .val (.ref b2), .val (.int ((p2 &&& (2147483647 : Int32)) % (17 : Int32))), .val (.int (wv + ((p3 &&& (7 : Int32)) - (3 : Int32)))), .val (.int (1 : Int32)), .unset] [(.int (own_isc_0 (wv + ((p3 &&& (7 : Int32)) - (3 : Int32)))))])) _
    refine XS.iload X22.here hx rfl (hb hby at_145) rfl ?_
    show Steps p.tables e below (T22.setTop (mkF m 147 #[.val (.int p1), .val (.int p2), .val (.int p3), .val (.ref b2), .val (.int ((p2 &&& (2147483647 : Int32)) % (17 : Int32))), .val (.int (wv + ((p3 &&& (7 : Int32)) - (3 : Int32)))), .val (.int (1 : Int32)), .unset] [(.int (wv + ((p3 &&& (7 : Int32)) - (3 : Int32)))), (.int (own_isc_0 (wv + ((p3 &&& (7 : Int32)) - (3 : Int32)))))])) _
    exact k
  have r22_ : ∀ t, Steps p.tables e below (T22.setTop (mkF m 147 #[.val (.int p1), .val (.int p2), .val (.int p3), .val (.ref b2), .val (.int ((p2 &&& (2147483647 : Int32)) % (17 : Int32))), .val (.int (wv + ((p3 &&& (7 : Int32)) - (3 : Int32)))), .val (.int (1 : Int32)), .unset] [(.int (wv + ((p3 &&& (7 : Int32)) - (3 : Int32)))), (.int (own_isc_0 (wv + ((p3 &&& (7 : Int32)) - (3 : Int32)))))])) t → Steps p.tables e below (s₁.setTop (mkF m 0 #[.val (.int p1), .val (.int p2), .val (.int p3), .unset, .unset, .unset, .unset, .unset] [])) t := fun t k => r22 t (s22 t k)
  obtain ⟨_, _, ⟨T23, L23, k23, n23⟩, -, X23, ⟨Lc23, hQ23, l23, y23, z23⟩, st23⟩ := Jvm.LawKit.callS X22 hx (y := (⟨"com/example/kellar/kellar/XmlCharsIsCharPinLaw", "ref", "(I)Z"⟩ : MethodName)) hown (mvT hZ (hw _ (List.mem_of_getElem? (i := 19) rfl))) (mvT hZ (hw _ (List.mem_of_getElem? (i := 20) rfl))) (mvT hZ (hw _ (List.mem_of_getElem? (i := 21) rfl))) (mvT hZ (hw _ (List.mem_of_getElem? (i := 22) rfl))) (by decide) (backOf (W := 1) (rm2 l Z a0 hw [] (wv + ((p3 &&& (7 : Int32)) - (3 : Int32))) T22.heap n0 Zq) hZ (hw _ (List.mem_of_getElem? (i := 22) rfl)) (hw _ (List.mem_of_getElem? (i := 21) rfl)) (by decide) (by decide)) (g := (mkF m 147 #[.val (.int p1), .val (.int p2), .val (.int p3), .val (.ref b2), .val (.int ((p2 &&& (2147483647 : Int32)) % (17 : Int32))), .val (.int (wv + ((p3 &&& (7 : Int32)) - (3 : Int32)))), .val (.int (1 : Int32)), .unset] [(.int (wv + ((p3 &&& (7 : Int32)) - (3 : Int32)))), (.int (own_isc_0 (wv + ((p3 &&& (7 : Int32)) - (3 : Int32)))))])) rfl (by rw [hml]; rfl) (argsL := [(.int (wv + ((p3 &&& (7 : Int32)) - (3 : Int32))))]) (rest := [(.int (own_isc_0 (wv + ((p3 &&& (7 : Int32)) - (3 : Int32)))))]) (lenOf pd__I_Z rfl) rfl (by show 2 * 0 + _ ≤ _; exact Nat.le_of_eq rfl) (hb hby at_147) (fun _ _ => ⟨rfl, rfl, (by decide : 1 + 0 ≤ _), (by decide : 17 + 0 ≤ _)⟩)
  dsimp only [Pt.U, Pt.locs, Pt.cells, Pt.slots] at X23 l23 y23 z23 st23 hQ23
  subst l23 y23 z23
  obtain ⟨rfl, N23q, e23⟩ := hQ23
  have N23 := Fr.app N22 N23q
  rw [← e23] at Zq
  have r23 : ∀ t, Steps p.tables e below (T23.setTop (mkF m 150 #[.val (.int p1), .val (.int p2), .val (.int p3), .val (.ref b2), .val (.int ((p2 &&& (2147483647 : Int32)) % (17 : Int32))), .val (.int (wv + ((p3 &&& (7 : Int32)) - (3 : Int32)))), .val (.int (1 : Int32)), .unset] [(.int (own_ref_0 (wv + ((p3 &&& (7 : Int32)) - (3 : Int32))))), (.int (own_isc_0 (wv + ((p3 &&& (7 : Int32)) - (3 : Int32)))))])) t → Steps p.tables e below (s₁.setTop (mkF m 0 #[.val (.int p1), .val (.int p2), .val (.int p3), .unset, .unset, .unset, .unset, .unset] [])) t := fun t k => r22_ t (st23 _  k)
  have s23 : ∀ t, Steps p.tables e below (T23.setTop (mkF m 175 #[.val (.int p1), .val (.int p2), .val (.int p3), .val (.ref b2), .val (.int ((p2 &&& (2147483647 : Int32)) % (17 : Int32))), .val (.int (wv + ((p3 &&& (7 : Int32)) - (3 : Int32)))), .val (.int (1 : Int32)), .val (.int (1 : Int32))] [(.int (1 : Int32))])) t → Steps p.tables e below (T23.setTop (mkF m 150 #[.val (.int p1), .val (.int p2), .val (.int p3), .val (.ref b2), .val (.int ((p2 &&& (2147483647 : Int32)) % (17 : Int32))), .val (.int (wv + ((p3 &&& (7 : Int32)) - (3 : Int32)))), .val (.int (1 : Int32)), .unset] [(.int (own_ref_0 (wv + ((p3 &&& (7 : Int32)) - (3 : Int32))))), (.int (own_isc_0 (wv + ((p3 &&& (7 : Int32)) - (3 : Int32)))))])) t := by
    intro t k
    show Steps p.tables e below (T23.setTop (mkF m 150 #[.val (.int p1), .val (.int p2), .val (.int p3), .val (.ref b2), .val (.int ((p2 &&& (2147483647 : Int32)) % (17 : Int32))), .val (.int (wv + ((p3 &&& (7 : Int32)) - (3 : Int32)))), .val (.int (1 : Int32)), .unset] [(.int (own_ref_0 (wv + ((p3 &&& (7 : Int32)) - (3 : Int32))))), (.int (own_isc_0 (wv + ((p3 &&& (7 : Int32)) - (3 : Int32)))))])) _
    refine XS.icmpNo X23.here hx rfl (hb hby at_150) rfl (XT.ii_ne_f (own_same (wv + ((p3 &&& (7 : Int32)) - (3 : Int32))))) ?_
    show Steps p.tables e below (T23.setTop (mkF m 153 #[.val (.int p1), .val (.int p2), .val (.int p3), .val (.ref b2), .val (.int ((p2 &&& (2147483647 : Int32)) % (17 : Int32))), .val (.int (wv + ((p3 &&& (7 : Int32)) - (3 : Int32)))), .val (.int (1 : Int32)), .unset] [])) _
    refine XS.iconst X23.here hx rfl (hb hby at_153) ?_
    show Steps p.tables e below (T23.setTop (mkF m 154 #[.val (.int p1), .val (.int p2), .val (.int p3), .val (.ref b2), .val (.int ((p2 &&& (2147483647 : Int32)) % (17 : Int32))), .val (.int (wv + ((p3 &&& (7 : Int32)) - (3 : Int32)))), .val (.int (1 : Int32)), .unset] [(.int (1 : Int32))])) _
    refine XS.goto X23.here hx rfl (pc0 := 154) (pc' := 158) rfl (hb hby at_154) (by decide) (by decide) ?_
    show Steps p.tables e below (T23.setTop (mkF m 158 #[.val (.int p1), .val (.int p2), .val (.int p3), .val (.ref b2), .val (.int ((p2 &&& (2147483647 : Int32)) % (17 : Int32))), .val (.int (wv + ((p3 &&& (7 : Int32)) - (3 : Int32)))), .val (.int (1 : Int32)), .unset] [(.int (1 : Int32))])) _
    refine XS.istore X23.here hx rfl (hb hby at_158) rfl (l' := #[.val (.int p1), .val (.int p2), .val (.int p3), .val (.ref b2), .val (.int ((p2 &&& (2147483647 : Int32)) % (17 : Int32))), .val (.int (wv + ((p3 &&& (7 : Int32)) - (3 : Int32)))), .val (.int (1 : Int32)), .val (.int (1 : Int32))]) rfl ?_
    show Steps p.tables e below (T23.setTop (mkF m 160 #[.val (.int p1), .val (.int p2), .val (.int p3), .val (.ref b2), .val (.int ((p2 &&& (2147483647 : Int32)) % (17 : Int32))), .val (.int (wv + ((p3 &&& (7 : Int32)) - (3 : Int32)))), .val (.int (1 : Int32)), .val (.int (1 : Int32))] [])) _
    refine XS.iload X23.here hx rfl (hb hby at_160) rfl ?_
    show Steps p.tables e below (T23.setTop (mkF m 162 #[.val (.int p1), .val (.int p2), .val (.int p3), .val (.ref b2), .val (.int ((p2 &&& (2147483647 : Int32)) % (17 : Int32))), .val (.int (wv + ((p3 &&& (7 : Int32)) - (3 : Int32)))), .val (.int (1 : Int32)), .val (.int (1 : Int32))] [(.int (1 : Int32))])) _
    refine XS.ifNo X23.here hx rfl (hb hby at_162) rfl (XT.i0_eq_f (by decide)) ?_
    show Steps p.tables e below (T23.setTop (mkF m 165 #[.val (.int p1), .val (.int p2), .val (.int p3), .val (.ref b2), .val (.int ((p2 &&& (2147483647 : Int32)) % (17 : Int32))), .val (.int (wv + ((p3 &&& (7 : Int32)) - (3 : Int32)))), .val (.int (1 : Int32)), .val (.int (1 : Int32))] [])) _
    refine XS.iload X23.here hx rfl (hb hby at_165) rfl ?_
    show Steps p.tables e below (T23.setTop (mkF m 167 #[.val (.int p1), .val (.int p2), .val (.int p3), .val (.ref b2), .val (.int ((p2 &&& (2147483647 : Int32)) % (17 : Int32))), .val (.int (wv + ((p3 &&& (7 : Int32)) - (3 : Int32)))), .val (.int (1 : Int32)), .val (.int (1 : Int32))] [(.int (1 : Int32))])) _
    refine XS.ifNo X23.here hx rfl (hb hby at_167) rfl (XT.i0_eq_f (by decide)) ?_
    show Steps p.tables e below (T23.setTop (mkF m 170 #[.val (.int p1), .val (.int p2), .val (.int p3), .val (.ref b2), .val (.int ((p2 &&& (2147483647 : Int32)) % (17 : Int32))), .val (.int (wv + ((p3 &&& (7 : Int32)) - (3 : Int32)))), .val (.int (1 : Int32)), .val (.int (1 : Int32))] [])) _
    refine XS.iconst X23.here hx rfl (hb hby at_170) ?_
    show Steps p.tables e below (T23.setTop (mkF m 171 #[.val (.int p1), .val (.int p2), .val (.int p3), .val (.ref b2), .val (.int ((p2 &&& (2147483647 : Int32)) % (17 : Int32))), .val (.int (wv + ((p3 &&& (7 : Int32)) - (3 : Int32)))), .val (.int (1 : Int32)), .val (.int (1 : Int32))] [(.int (1 : Int32))])) _
    refine XS.goto X23.here hx rfl (pc0 := 171) (pc' := 175) rfl (hb hby at_171) (by decide) (by decide) ?_
    show Steps p.tables e below (T23.setTop (mkF m 175 #[.val (.int p1), .val (.int p2), .val (.int p3), .val (.ref b2), .val (.int ((p2 &&& (2147483647 : Int32)) % (17 : Int32))), .val (.int (wv + ((p3 &&& (7 : Int32)) - (3 : Int32)))), .val (.int (1 : Int32)), .val (.int (1 : Int32))] [(.int (1 : Int32))])) _
    exact k
  have r23_ : ∀ t, Steps p.tables e below (T23.setTop (mkF m 175 #[.val (.int p1), .val (.int p2), .val (.int p3), .val (.ref b2), .val (.int ((p2 &&& (2147483647 : Int32)) % (17 : Int32))), .val (.int (wv + ((p3 &&& (7 : Int32)) - (3 : Int32)))), .val (.int (1 : Int32)), .val (.int (1 : Int32))] [(.int (1 : Int32))])) t → Steps p.tables e below (s₁.setTop (mkF m 0 #[.val (.int p1), .val (.int p2), .val (.int p3), .unset, .unset, .unset, .unset, .unset] [])) t := fun t k => r23 t (s23 t k)
  obtain ⟨fs, hr, hrun, hended, hW, hsame⟩ := X23.leave (v := some (.int (1 : Int32))) (fun h => by rw [Bd.returns] at h; cases h)
  refine ⟨_, _, pre0 _ (r23_ _ ?_), hrun, hended, _, _, rfl, ?_, ⟨_, rfl⟩, hW, hsame.mono (by decide) (by decide)⟩
  · exact retN X23 hx (t := .boolean) Bd.returns (by simp) (hb hby at_175) hr
  · exact ⟨rfl, N23⟩
set_option maxRecDepth 65536 in
set_option maxHeartbeats 40000000 in
theorem comes_1 {Post : Tables → Env → Array Value → State → Outcome → State → Prop} (hpost : ∀ tb e args s v u, (limb_1_1.after args s (.returned v) u = true ∧ limb_1_2.after args s (.returned v) u = true ∧ True) → FrameEnd s (.returned v) u (Jvm.fieldLocs frame_1_writes args s ++ Jvm.arrayLocs frame_1_arrays args s ++ Jvm.staticLocs frame_1_statics s) 16 128 → Post tb e args s (.returned v) u) :
    ArmFor flags0 classFile x code maxLocals ret World_1 tables_1 room_1 Calls_1 rest_1 Pre_1 Post := by
  intro l hfl _ _ p e ha hc hk s m args below hf hA hF happ hP
  obtain ⟨hcalls, hrest, hpre⟩ := hP
  obtain ⟨-, -, -, hnamed, -, -, -, hat⟩ := (Spec.applies_iff hf).mp happ
  obtain ⟨hg, hn⟩ := and_e (Cond.before_iff.mp (show (Jvm.Cond.and given_1 narrow_1).before args s = true from hpre))
  obtain ⟨gc, q0⟩ := and_e hg
  obtain ⟨gi0, q1⟩ := and_e q0
  obtain ⟨gi1, q2⟩ := and_e q1
  obtain ⟨w0, w1, w2, rfl⟩ : ∃ w0 w1 w2 : Value, args = #[w0, w1, w2] := by
    have hs : args.size = 3 := by simpa [Cond.value, given_1] using gc
    obtain ⟨L⟩ := args
    match L, hs with
    | [w0, w1, w2], _ => exact ⟨w0, w1, w2, rfl⟩
  have hw := fun d (hd : d ∈ tables_1) => atoms_spec (ws := Jvm.Cond.code x code maxLocals ret :: tables_1) hat d (List.mem_cons_of_mem _ hd)
  obtain ⟨i0, ei0⟩ := is_v gi0
  obtain rfl : w0 = (.int i0) := Option.some.inj ei0
  obtain ⟨i1, ei1⟩ := is_v gi1
  obtain rfl : w1 = (.int i1) := Option.some.inj ei1
  obtain ⟨i2, ei2⟩ := is_v q2
  obtain rfl : w2 = (.int i2) := Option.some.inj ei2
  obtain ⟨n, o, h1, h2, h3, _, L, rfl, ⟨rfl, N⟩, hq⟩ := rm0 l s _ hw tables_1 i0 i1 i2 s.heap s.heap.size (Nat.le_refl _) p e ha hc hk s m _ below hf ((Spec.applies_iff_loose hf).mp happ).1 ⟨rfl, State.Warmed39.refl s, rfl⟩ trivial
  refine ⟨n, _, h1, h2, h3, hpost _ _ _ _ _ _ ⟨Cond.after_iff.mpr rfl, Cond.after_iff.mpr (eq_i res_at (Term.int_eval (1)) rfl), trivial⟩ ⟨hq.1, hq.2.1, (hq.2.2.sift fun y hy => Or.inr (N y hy)).mono (by decide) (by decide)⟩⟩
theorem main_1_1 : Claimed_1_1 := comes_1 fun _ _ _ _ _ _ h hF => ⟨h.1, hF⟩
theorem main_1_2 : Claimed_1_2 := comes_1 fun _ _ _ _ _ _ h hF => ⟨h.2.1, hF⟩
end Jvm.Pilot.@@N@@
namespace Jvm.Pilot.@@N@@
open Jvm Jvm.ClassFile Sem Op Lib Jvm.Free Jvm.Stand Jvm.Pilot.@@N@@.Jvm.D
/-! MADE BY PROGRAM (witnessworld.py) out of the Statement's table words and the real class files: 9 classes; the members and pool entries that the words name. The judged class is class 1, her method 2. -/
namespace start1
open Jvm.ClassFile
def u (s : String) : CpInfo := .utf8 (stringToUtf16 s)
/-- a pool by its gaps: so many unusable entries, then the entry; so many at the end -/
def gap : Nat → List CpInfo → List CpInfo
  | 0, r => r
  | n + 1, r => .unusable :: gap n r
def poolList (es : List (Nat × CpInfo)) (last : Nat) : List CpInfo := es.foldr (fun e r => gap e.1 (e.2 :: r)) (gap last [])
def pool (es : List (Nat × CpInfo)) (last : Nat) : Array CpInfo := ⟨poolList es last⟩
def fileOf (pool : Array CpInfo) (this : Nat) (attrs : Array Attribute := #[]) (ms : Array MethodInfo := #[]) (fl : Nat := 33) (sup : Nat := 0) (ifs : Array Nat := #[]) (fds : Array FieldInfo := #[]) : ClassFile where
  minorVersion := 0
  majorVersion := 65
  constantPool := pool
  accessFlags := fl
  thisClass := this
  superClass := sup
  interfaces := ifs
  fields := fds
  methods := ms
  attributes := attrs
def plain (name : String) (sup : Option ClassId) : Class where
  name := name
  kind := .ordinary
  loader := none
  accessFlags := 33
  super := sup
  interfaces := #[]
  cf := none
  fields := #[]
  methods := #[]
  instanceTypes := #[]
  staticTypes := #[]
  resolved := #[]
  callSites := []
  init := .initialized
  statics := none
  mirror := none

def pool0 : Array CpInfo := pool [(5, u "<init>"), (0, u "()V"), (1, .class_ 10), (1, u "java/lang/Object")] 113

def k0m0 : Method := { name := "<init>", desc := "()V", sig := { parameters := [], returnType := none }, accessFlags := 1, code := none }
/-- java/lang/Object -/
def k0 : Class := { plain "java/lang/Object" none with
  accessFlags := 33
  interfaces := #[]
  cf := some (fileOf pool0 8 #[] #[{ accessFlags := 1, nameIndex := 5, descriptorIndex := 6, attributes := #[] }] 33 0 #[] #[])
  fields := #[]
  methods := #[k0m0]
  instanceTypes := #[]
  staticTypes := #[]
  resolved := Array.replicate 124 none
  statics := none }

def pool1 : Array CpInfo := pool [(2, .class_ 4), (1, u "java/lang/Object"), (0, u "<init>"), (0, u "()V"), (0, .integer 1114111), (0, .integer 55296), (0, .integer 57343), (0, .integer 65534), (0, .integer 65535), (0, .integer 55295), (0, .integer 57344), (0, .integer 65533), (0, .integer 65536), (0, .integer 1114112), (2, .integer 2147483648), (0, .integer 2147483647), (0, .methodref 22 23), (0, .class_ 24), (0, .nameAndType 25 26), (0, u "com/example/kellar/kellar/XmlChars"), (0, u "isChar"), (0, u "(I)Z"), (0, .methodref 28 29), (0, .class_ 30), (0, .nameAndType 31 26), (0, u "com/example/kellar/kellar/XmlCharsIsCharPinLaw"), (0, u "ref"), (3, u "law"), (0, u "(III)Z")] 4

def k1m0 : Method := { name := "<init>", desc := "()V", sig := { parameters := [], returnType := none }, accessFlags := 2, code := none }
def k1c1 : Code := { maxStack := 2, maxLocals := 1, code := method_2_code, exceptionTable := #[], attributes := #[] }
def k1m1 : Method := { name := "ref", desc := "(I)Z", sig := { parameters := [.int], returnType := some .boolean }, accessFlags := 10, code := some k1c1 }
def k1c2 : Code := { maxStack := 4, maxLocals := 8, code := code, exceptionTable := #[], attributes := #[] }
def k1m2 : Method := { name := "law", desc := "(III)Z", sig := { parameters := [.int, .int, .int], returnType := some .boolean }, accessFlags := 9, code := some k1c2 }
/-- com/example/kellar/kellar/XmlCharsIsCharPinLaw -/
def k1 : Class := { plain "com/example/kellar/kellar/XmlCharsIsCharPinLaw" (some 0) with
  accessFlags := 49
  interfaces := #[]
  cf := some (fileOf pool1 28 #[] #[{ accessFlags := 2, nameIndex := 5, descriptorIndex := 6, attributes := #[] }, { accessFlags := 10, nameIndex := 31, descriptorIndex := 26, attributes := #[] }, { accessFlags := 9, nameIndex := 35, descriptorIndex := 36, attributes := #[] }] 49 2 #[] #[])
  fields := #[]
  methods := #[k1m0, k1m1, k1m2]
  instanceTypes := #[]
  staticTypes := #[]
  resolved := Array.replicate 41 none
  statics := none }

def pool2 : Array CpInfo := pool [(2, .class_ 4), (1, u "java/lang/Object"), (0, u "<init>"), (0, u "()V"), (0, .integer 55295), (0, .integer 57344), (0, .integer 65533), (0, .integer 65536), (0, .integer 1114111), (15, .class_ 29), (1, u "com/example/kellar/kellar/XmlChars"), (1, u "(I)Z"), (14, u "isChar")] 5

def k2m0 : Method := { name := "<init>", desc := "()V", sig := { parameters := [], returnType := none }, accessFlags := 2, code := none }
def k2c1 : Code := { maxStack := 2, maxLocals := 1, code := prog_19_method_2_code, exceptionTable := #[], attributes := #[] }
def k2m1 : Method := { name := "isChar", desc := "(I)Z", sig := { parameters := [.int], returnType := some .boolean }, accessFlags := 9, code := some k2c1 }
/-- com/example/kellar/kellar/XmlChars -/
def k2 : Class := { plain "com/example/kellar/kellar/XmlChars" (some 0) with
  accessFlags := 49
  interfaces := #[]
  cf := some (fileOf pool2 27 #[] #[{ accessFlags := 2, nameIndex := 5, descriptorIndex := 6, attributes := #[] }, { accessFlags := 9, nameIndex := 46, descriptorIndex := 31, attributes := #[] }] 49 2 #[] #[])
  fields := #[]
  methods := #[k2m0, k2m1]
  instanceTypes := #[]
  staticTypes := #[]
  resolved := Array.replicate 52 none
  statics := none }

def pool3 : Array CpInfo := pool [(1, u "java/lang/Cloneable"), (0, .class_ 1), (0, u "java/lang/Object"), (0, .class_ 3)] 3

/-- java/lang/Cloneable -/
def k3 : Class := { plain "java/lang/Cloneable" (some 0) with
  accessFlags := 1537
  interfaces := #[]
  cf := some (fileOf pool3 2 #[] #[] 1537 4 #[] #[])
  fields := #[]
  methods := #[]
  instanceTypes := #[]
  staticTypes := #[]
  resolved := Array.replicate 8 none
  statics := none }

def pool4 : Array CpInfo := pool [(1, u "java/io/Serializable"), (0, .class_ 1), (0, u "java/lang/Object"), (0, .class_ 3)] 3

/-- java/io/Serializable -/
def k4 : Class := { plain "java/io/Serializable" (some 0) with
  accessFlags := 1537
  interfaces := #[]
  cf := some (fileOf pool4 2 #[] #[] 1537 4 #[] #[])
  fields := #[]
  methods := #[]
  instanceTypes := #[]
  staticTypes := #[]
  resolved := Array.replicate 8 none
  statics := none }

/-- the primitive byte -/
def k5 : Class := { plain "byte" none with kind := .primitive 'B', accessFlags := 0x411 }
/-- [B -/
def k6 : Class := { plain "[B" (some 0) with kind := .array 5 .byte, interfaces := #[3, 4], accessFlags := 1041 }

/-- the primitive int -/
def k7 : Class := { plain "int" none with kind := .primitive 'I', accessFlags := 0x411 }
/-- [I -/
def k8 : Class := { plain "[I" (some 0) with kind := .array 7 .int, interfaces := #[3, 4], accessFlags := 1041 }

def heap : Heap := #[]
def classes : Array Class := #[k0, k1, k2, k3, k4, k5, k6, k7, k8]
def interned : List (Array UInt16 × Addr) := []
def slotsUsed : Nat := 0
def theMethod : MethodId := ⟨1, 2⟩
def args0 : Array Value := #[.int 5, .int 6, .int 7]
def aboutOver (below : List Frame) : State where
  vm := { classes := classes, interned := interned.toArray }
  heap := heap
  slotsUsed := slotsUsed
  threads := #[{ frames := .invoking theMethod args0 :: below }]
def below0 : List Frame := [.native { method := ⟨0, 0⟩, args := #[] }]
def about1 : State := aboutOver below0
def p0 : Program := .bare "" "" ""
def e0 : Env := launch0.env 0 0 0
theorem w_frames : about1.frames = Frame.invoking theMethod args0 :: below0 := rfl
set_option maxRecDepth 65536 in
theorem w_args : argsFit about1.vm theMethod args0 = true := by decide +kernel
set_option maxRecDepth 65536 in
theorem w_heap : heapFits about1 = true := by decide +kernel
set_option maxRecDepth 65536 in
theorem w_runnable : about1.curStatus? = some .runnable := by decide +kernel
set_option maxRecDepth 65536 in
theorem w_alone : about1.alone = true := by decide +kernel
set_option maxRecDepth 65536 in
theorem w_named : about1.methodNamed? x = some theMethod := by decide +kernel
set_option maxRecDepth 65536 in
theorem w_hears : about1.hears theMethod below0 = true := by decide +kernel
set_option maxRecDepth 65536 in
theorem w_ripe : about1.ripe theMethod args0 below0 = true := by decide +kernel
theorem w_running : about1.status = .running := rfl
set_option maxRecDepth 65536 in
theorem w_room : about1.hasRoom e0.platform room_1 = true :=
  launch0.hasRoom_least _ room_1 (by decide +kernel) (by decide +kernel) (by decide +kernel) (by decide +kernel) (by decide +kernel) (by decide +kernel)
theorem allAtoms_all (ts : List Jvm.Cond) (a : Array Jvm.Value) (st : Jvm.State) : (allAtoms ts).before a st = ts.all (fun c => c.before a st) := by
  induction ts with
  | nil => rfl
  | cons c t ih =>
    show (Jvm.Cond.and c (allAtoms t)).before a st = _
    rw [Jvm.Cond.before_and, ih, List.all_cons]
def words1 : List Jvm.Cond := Jvm.Cond.code x code maxLocals ret :: tables_1
/-- a 'code' word, met by the world's own term for the bytes: nothing is compared byte by byte -/
theorem code_word {y : MethodName} {bytes : ByteArray} {mx : Nat} {rt : Option FieldType} {a : Array Value} {s : State} {m : MethodId} {meth : Method} {c : Code} (h1 : s.methodNamed? y = some m) (h2 : s.vm.method? m = some meth) (h3 : meth.code = some c) (h4 : c.code = bytes)
    (h5 : (c.maxLocals == mx && c.exceptionTable.isEmpty && decide (c.maxStack ≤ mostOperands) && decide (meth.sig.returnType = rt) && !meth.locks && decide (parseMethodDescriptor y.desc = some meth.sig)) = true) : (Jvm.Cond.code y bytes mx rt).before a s = true := by
  simp only [Bool.and_eq_true, beq_iff_eq, Bool.not_eq_true', decide_eq_true_eq] at h5
  obtain ⟨⟨⟨⟨⟨g1, g2⟩, g3⟩, g4⟩, g5⟩, g6⟩ := h5
  simp [Cond.before, Cond.holds, Cond.value, h1, h2, h3, h4, g1, g2, g3, g4, g5, g6]
def isCode : Jvm.Cond → Bool
  | .code _ _ _ _ => true
  | _ => false
theorem all_split {L : List Jvm.Cond} {P : Jvm.Cond → Bool} (h1 : L.all (fun c => isCode c || P c) = true) (h2 : ∀ c ∈ L.filter isCode, P c = true) : L.all P = true := by
  refine List.all_eq_true.mpr fun c hc => ?_
  have h := List.all_eq_true.mp h1 c hc
  rcases Bool.eq_false_or_eq_true (isCode c) with hi | hi
  · exact h2 c (List.mem_filter.mpr ⟨hc, hi⟩)
  · simpa [hi] using h
set_option maxRecDepth 65536 in
theorem w_c0 : (Jvm.Cond.code x code maxLocals ret).before args0 about1 = true := code_word (m := ⟨1, 2⟩) (meth := k1m2) (c := k1c2) (by decide +kernel) rfl rfl rfl (by decide +kernel)
set_option maxRecDepth 65536 in
theorem w_c1 : (Jvm.Cond.code ({ cls := "com/example/kellar/kellar/XmlChars", name := "isChar", desc := "(I)Z" } : Jvm.MethodName) prog_19_method_2_code (1 : Nat) (Option.some Jvm.ClassFile.FieldType.boolean)).before args0 about1 = true := code_word (m := ⟨2, 1⟩) (meth := k2m1) (c := k2c1) (by decide +kernel) rfl rfl rfl (by decide +kernel)
set_option maxRecDepth 65536 in
theorem w_c2 : (Jvm.Cond.code ({ cls := "com/example/kellar/kellar/XmlCharsIsCharPinLaw", name := "ref", desc := "(I)Z" } : Jvm.MethodName) method_2_code (1 : Nat) (Option.some Jvm.ClassFile.FieldType.boolean)).before args0 about1 = true := code_word (m := ⟨1, 1⟩) (meth := k1m1) (c := k1c1) (by decide +kernel) rfl rfl rfl (by decide +kernel)
def codes1 : List Jvm.Cond := [Jvm.Cond.code x code maxLocals ret, Jvm.Cond.code ({ cls := "com/example/kellar/kellar/XmlChars", name := "isChar", desc := "(I)Z" } : Jvm.MethodName) prog_19_method_2_code (1 : Nat) (Option.some Jvm.ClassFile.FieldType.boolean), Jvm.Cond.code ({ cls := "com/example/kellar/kellar/XmlCharsIsCharPinLaw", name := "ref", desc := "(I)Z" } : Jvm.MethodName) method_2_code (1 : Nat) (Option.some Jvm.ClassFile.FieldType.boolean)]
set_option maxRecDepth 65536 in
theorem codes_eq : words1.filter isCode = codes1 := rfl
theorem w_codes : ∀ c ∈ words1.filter isCode, c.before args0 about1 = true := by
  rw [codes_eq]
  intro c hc
  simp only [codes1, List.mem_cons, List.not_mem_nil, or_false] at hc
  rcases hc with rfl | rfl | rfl
  · exact w_c0
  · exact w_c1
  · exact w_c2
set_option maxRecDepth 65536 in
theorem w_t1 : (words1.take 24).all (fun c => isCode c || c.before args0 about1) = true := by decide +kernel
set_option maxRecDepth 65536 in
theorem w_t2 : (words1.drop 24).all (fun c => isCode c || c.before args0 about1) = true := by decide +kernel
theorem w_tables : (allAtoms (Jvm.Cond.code x code maxLocals ret :: tables_1)).before args0 about1 = true := by
  rw [allAtoms_all]
  show words1.all (fun c => c.before args0 about1) = true
  refine all_split ?_ w_codes
  rw [← List.take_append_drop 24 words1, List.all_append, w_t1, w_t2]
  rfl
set_option maxRecDepth 65536 in
theorem w_case : (Jvm.Cond.and given_1 narrow_1).before args0 about1 = true := by decide +kernel
theorem w_applies : (headSpec (Jvm.Cond.code x code maxLocals ret :: tables_1) room_1).applies x e0.platform about1 = true :=
  (Spec.applies_iff w_frames).mpr ⟨w_running, w_runnable, w_alone, w_named, w_hears, w_ripe, w_room, w_tables⟩
theorem atStart : AtStart classFile x code maxLocals ret World_1 tables_1 room_1 Calls_1 rest_1 Pre_1 launch0 p0 e0 about1 theMethod args0 below0 :=
  ⟨lists_1, trivial, launch0.admits_env _ _ _, launch0.least_env, fairChoices_fair.cas, fairChoices_fair.clock, w_frames, w_args, w_heap, w_applies, trivial, trivial, w_case⟩
end start1
theorem witness_1 : WitnessClaimed_1 := ⟨start1.p0, start1.e0, start1.about1, start1.theMethod, start1.args0, start1.below0, start1.atStart⟩
end Jvm.Pilot.@@N@@
