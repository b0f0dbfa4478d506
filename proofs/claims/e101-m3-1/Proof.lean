import JvmDerived
import JvmDerived.Pilot.@@N@@Statement
import JvmDerived.Pilot.@@N@@Code
set_option linter.unusedVariables false
set_option linter.unusedSimpArgs false
namespace Jvm.RoadKit
open Sem ClassFile Op Lib Jvm.Stand Jvm.Free Jvm.LawKit
section New
variable {p : Program} {l : Launch} {e : Env} {R : Room} {s : State} {m : MethodId} {args : Array Value} {below : List Frame} {meth : Method} {c : Code} {T : State} {locs : List Loc} {cells slots : Nat}
theorem retI (X : Stand p l e R s m args below meth c T locs cells slots) (hx : p.tables.exec = Jvm.exec) {pc : Nat} {Ls : Array Slot} {z : Int32} {rest : List Value} (hret : meth.sig.returnType = some .int) (hd : decode c.code pc = .ok (.ireturn, 1)) {fs : List Frame}
    (hl : ∀ (f : JFrame) (acts : List Action), f.method = m → f.locked = none → f.entered = [] → (doReturn e (T.setTop f) acts (some (.int z))).1 = T.setFrames fs) : Steps p.tables e below (T.setTop (mkF m pc Ls (.int z :: rest))) (T.setFrames fs) := by
  have hm' : T.vm.method? m = some meth := X.method'
  have hn : narrow .int (.int z) = .int z := rfl
  show Steps p.tables e below (T.setTop { method := m, pc := pc, locals := Ls, stack := _ :: rest, locked := none }) _
  jvm_step X.here [X.here.top, hx, hd, hm', hret, hn]
  first | (intro acts; rw [hl _ acts rfl rfl rfl]) | rw [hl _ _ rfl rfl rfl]
  exact Steps.refl _
end New
end Jvm.RoadKit
namespace Jvm.Pilot.@@N@@
open Jvm Jvm.ClassFile Sem Op Lib Jvm.Free Jvm.Stand Jvm.LawKit Jvm.RoadKit Bundle Jvm.Pilot.@@N@@.Jvm.D
theorem pd___V : parseMethodDescriptor "()V" = some ⟨[], none⟩ := by decide +kernel
theorem pd___Z : parseMethodDescriptor "()Z" = some ⟨[], some .boolean⟩ := by decide +kernel
theorem pd__I_Z : parseMethodDescriptor "(I)Z" = some ⟨[.int], some .boolean⟩ := by decide +kernel
theorem d1_0 : decode prog_23_method_1_code 0 = .ok (.aload_n 0, 1) := by decide +kernel
theorem d1_1 : decode prog_23_method_1_code 1 = .ok (.invokespecial 3, 3) := by decide +kernel
theorem d1_4 : decode prog_23_method_1_code 4 = .ok (.return_, 1) := by decide +kernel
theorem pn_1 : plainName "com/example/fsmconv/fsmconv/model/ExpressionLimits" = true := by first | (simp [plainName, overriddenIn]; done) | decide +kernel
theorem ef_1 (m : MethodId) (x0 : Addr) : entryFrame m #[(.ref x0)] 1 = mkF m 0 #[.val (.ref x0)] [] := by first | (simp [entryFrame, mkF, argsToLocals, Value.category]; done) | rfl
def Q1 (Z : State) (a1 : Addr) (h0 : Heap) (n0 : Nat) (v : Option Value) (h : Heap) (L : List Loc) : Prop := v = none ∧ Fr n0 L ∧ h = h0
set_option maxRecDepth 65536 in
set_option maxHeartbeats 40000000 in
theorem rm1 (l : Launch) (Z : State) (a0 : Array Value) (hw : ∀ d ∈ tables_1, d.before a0 Z = true) (ws : List Jvm.Cond) (a1 : Addr) (h0 : Heap) (n0 : Nat) (Z0 : n0 ≤ h0.size) :
    MetFree l (⟨"com/example/fsmconv/fsmconv/model/ExpressionLimits", "<init>", "()V"⟩ : MethodName) (head1 (Jvm.Cond.code (⟨"com/example/fsmconv/fsmconv/model/ExpressionLimits", "<init>", "()V"⟩ : MethodName) prog_23_method_1_code 1 none :: ws) ({ frames := 1, cells := 0, slots := 0, locals := 12 } : Room)) (fun a U => a = #[(.ref a1)] ∧ Z.Warmed39 U.vm ∧ U.heap = h0) (fun _ _ _ _ _ => True) (fun _ U o U' => ∃ v L, o = .returned v ∧ Q1 Z a1 h0 n0 v U'.heap L ∧ FrameEnd U o U' L ({ frames := 1, cells := 0, slots := 0, locals := 12 } : Room).cells ({ frames := 1, cells := 0, slots := 0, locals := 12 } : Room).slots) := by
  refine MetFree.of_bodySF (plainFor_of_name pn_1) hisR ?_
  intro p e s m args below meth c s₁ Bd hml0 hP hK
  obtain ⟨rfl, hZ, hh⟩ := hP
  have hx := Bd.exec
  have hby := Bd.bytes
  have hml : c.maxLocals = 1 := hml0
  have hown : s.vm.findClass "com/example/fsmconv/fsmconv/model/ExpressionLimits" = some m.cls := findClass_of_methodNamed Bd.named
  have hnm := (name_of_methodNamed Bd.named Bd.method).1
  have X0 : Stand p l e ({ frames := 1, cells := 0, slots := 0, locals := 12 } : Room) s m #[(.ref a1)] below meth c s₁ [] 0 0 := Stand.of_body Bd
  have e0 : s₁.heap = h0 := by rw [← hh, Bd.state]; rfl
  have N0 := Fr.nil n0
  have pre0 : ∀ t, Steps p.tables e below (s₁.setTop (mkF m 0 #[.val (.ref a1)] [])) t → Steps p.tables e below (s₁.setTop (entryFrame m #[(.ref a1)] 1)) t := fun t k => castTop (ef_1 m a1) k
  obtain ⟨T2, X2, e2, st2⟩ := initO X0 hx hZ hown (hw _ (List.mem_of_getElem? (i := 6) rfl)) (hw _ (List.mem_of_getElem? (i := 7) rfl)) (hw _ (List.mem_of_getElem? (i := 8) rfl)) e0 (g := (mkF m 1 #[.val (.ref a1)] [(.ref a1)])) rfl (by rw [hml]; rfl) rfl (hb hby d1_1) (by decide) (W := 0) (by show 2 * 0 + _ ≤ _; exact Nat.le_of_eq rfl) (by decide)
  obtain ⟨fs, hr, hrun, hended, hW, hsame⟩ := X2.leave (v := none) (fun _ => rfl)
  refine ⟨_, _, pre0 _ ?_, hrun, hended, _, _, rfl, ?_, ⟨_, rfl⟩, hW, hsame.mono (by decide) (by decide)⟩
  · show Steps p.tables e below (s₁.setTop (mkF m 0 #[.val (.ref a1)] [])) _
    refine XS.aloadN X0.here hx rfl (hb hby d1_0) rfl rfl ?_
    show Steps p.tables e below (s₁.setTop (mkF m 1 #[.val (.ref a1)] [(.ref a1)])) _
    refine st2 _ ?_
    show Steps p.tables e below (T2.setTop (mkF m 4 #[.val (.ref a1)] [])) _
    exact X2.returnOut hx Bd.returns (hb hby d1_4) hr
  · show Q1 Z a1 h0 n0 _ T2.heap _
    rw [e2]
    exact ⟨rfl, N0, rfl⟩
theorem d3_0 : decode prog_23_method_5_code 0 = .ok (.aload_n 0, 1) := by decide +kernel
theorem d3_1 : decode prog_23_method_5_code 1 = .ok (.dup, 1) := by decide +kernel
theorem d3_2 : decode prog_23_method_5_code 2 = .ok (.getfield 13, 3) := by decide +kernel
theorem d3_5 : decode prog_23_method_5_code 5 = .ok (.iconst 1, 1) := by decide +kernel
theorem d3_6 : decode prog_23_method_5_code 6 = .ok (.iadd, 1) := by decide +kernel
theorem d3_7 : decode prog_23_method_5_code 7 = .ok (.putfield 13, 3) := by decide +kernel
theorem d3_10 : decode prog_23_method_5_code 10 = .ok (.aload_n 0, 1) := by decide +kernel
theorem d3_11 : decode prog_23_method_5_code 11 = .ok (.getfield 13, 3) := by decide +kernel
theorem d3_14 : decode prog_23_method_5_code 14 = .ok (.sipush 10000, 3) := by decide +kernel
theorem d3_17 : decode prog_23_method_5_code 17 = .ok (.if_icmp .gt 7, 3) := by decide +kernel
theorem d3_20 : decode prog_23_method_5_code 20 = .ok (.iconst 1, 1) := by decide +kernel
theorem d3_21 : decode prog_23_method_5_code 21 = .ok (.goto 4, 3) := by decide +kernel
theorem d3_25 : decode prog_23_method_5_code 25 = .ok (.ireturn, 1) := by decide +kernel
theorem pn_3 : plainName "com/example/fsmconv/fsmconv/model/ExpressionLimits" = true := by first | (simp [plainName, overriddenIn]; done) | decide +kernel
theorem ef_3 (m : MethodId) (x0 : Addr) : entryFrame m #[(.ref x0)] 1 = mkF m 0 #[.val (.ref x0)] [] := by first | (simp [entryFrame, mkF, argsToLocals, Value.category]; done) | rfl
def Q3 (Z : State) (a1 : Addr) (w2 : Int32) (h0 : Heap) (n0 : Nat) (v : Option Value) (h : Heap) (L : List Loc) : Prop := v = some (.int (1 : Int32)) ∧ Fr n0 L ∧ Keep h0 h [a1] ∧ Exa Z h a1 "com/example/fsmconv/fsmconv/model/ExpressionLimits" ∧ Fld Z h a1 "com/example/fsmconv/fsmconv/model/ExpressionLimits" "operators" "I" (.int (w2 + (1 : Int32)))
set_option maxRecDepth 65536 in
set_option maxHeartbeats 40000000 in
theorem rm3 (l : Launch) (Z : State) (a0 : Array Value) (hw : ∀ d ∈ tables_1, d.before a0 Z = true) (ws : List Jvm.Cond) (a1 : Addr) (w2 : Int32) (h0 : Heap) (n0 : Nat) (Z0 : n0 ≤ h0.size) (F_operators_a1 : Fld Z h0 a1 "com/example/fsmconv/fsmconv/model/ExpressionLimits" "operators" "I" (.int w2)) (E_a1 : Exa Z h0 a1 "com/example/fsmconv/fsmconv/model/ExpressionLimits") (g_a1 : n0 ≤ a1) (hc17 : ¬ ((10000 : Int32) < (w2 + (1 : Int32)))) :
    MetFree l (⟨"com/example/fsmconv/fsmconv/model/ExpressionLimits", "operator", "()Z"⟩ : MethodName) (head1 (Jvm.Cond.code (⟨"com/example/fsmconv/fsmconv/model/ExpressionLimits", "operator", "()Z"⟩ : MethodName) prog_23_method_5_code 1 (some .boolean) :: ws) ({ frames := 0, cells := 0, slots := 0, locals := 0 } : Room)) (fun a U => a = #[(.ref a1)] ∧ Z.Warmed39 U.vm ∧ U.heap = h0) (fun _ _ _ _ _ => True) (fun _ U o U' => ∃ v L, o = .returned v ∧ Q3 Z a1 w2 h0 n0 v U'.heap L ∧ FrameEnd U o U' L ({ frames := 0, cells := 0, slots := 0, locals := 0 } : Room).cells ({ frames := 0, cells := 0, slots := 0, locals := 0 } : Room).slots) := by
  refine MetFree.of_bodySF (plainFor_of_name pn_3) hisR ?_
  intro p e s m args below meth c s₁ Bd hml0 hP hK
  obtain ⟨rfl, hZ, hh⟩ := hP
  have hx := Bd.exec
  have hby := Bd.bytes
  have hml : c.maxLocals = 1 := hml0
  have hown : s.vm.findClass "com/example/fsmconv/fsmconv/model/ExpressionLimits" = some m.cls := findClass_of_methodNamed Bd.named
  have hnm := (name_of_methodNamed Bd.named Bd.method).1
  have X0 : Stand p l e ({ frames := 0, cells := 0, slots := 0, locals := 0 } : Room) s m #[(.ref a1)] below meth c s₁ [] 0 0 := Stand.of_body Bd
  have e0 : s₁.heap = h0 := by rw [← hh, Bd.state]; rfl
  have N0 := Fr.nil n0
  have pre0 : ∀ t, Steps p.tables e below (s₁.setTop (mkF m 0 #[.val (.ref a1)] [])) t → Steps p.tables e below (s₁.setTop (entryFrame m #[(.ref a1)] 1)) t := fun t k => castTop (ef_3 m a1) k
  obtain ⟨T3, X3, e3, st3⟩ := getF X0 hx hZ hown (host := "") (Or.inl (hw _ (List.mem_of_getElem? (i := 14) rfl))) Via.refl e0 F_operators_a1 (g := (mkF m 2 #[.val (.ref a1)] [(.ref a1), (.ref a1)])) rfl rfl (hb hby d3_2)
  obtain ⟨T4, h4, X4, e4, W4, st4⟩ := putF X3 hx hZ hown (host := "") (Or.inl (hw _ (List.mem_of_getElem? (i := 14) rfl))) Via.refl e3 F_operators_a1 E_a1 (Or.inl (hw _ (List.mem_of_getElem? (i := 15) rfl))) (hw _ (List.mem_of_getElem? (i := 1) rfl)) (ty := .int) (by decide) rfl rfl (g := (mkF m 7 #[.val (.ref a1)] [(.int (w2 + (1 : Int32))), (.ref a1)])) rfl rfl (hb hby d3_7)
  have Fw4 := F_operators_a1.same W4
  have K4 : Keep h0 h4 [a1] := (Keep.refl h0 [a1]).wr W4 (Or.inl (List.mem_of_getElem? (i := 0) rfl))
  have N4 := Fr.snoc X4 N0 g_a1
  obtain ⟨T5, X5, e5, st5⟩ := getF X4 hx hZ hown (host := "") (Or.inl (hw _ (List.mem_of_getElem? (i := 14) rfl))) Via.refl e4 Fw4 (g := (mkF m 11 #[.val (.ref a1)] [(.ref a1)])) rfl rfl (hb hby d3_11)
  obtain ⟨fs, hr, hrun, hended, hW, hsame⟩ := X5.leave (v := some (.int (1 : Int32))) (fun h => by rw [Bd.returns] at h; cases h)
  refine ⟨_, _, pre0 _ ?_, hrun, hended, _, _, rfl, ?_, ⟨_, rfl⟩, hW, hsame.mono (by decide) (by decide)⟩
  · show Steps p.tables e below (s₁.setTop (mkF m 0 #[.val (.ref a1)] [])) _
    refine XS.aloadN X0.here hx rfl (hb hby d3_0) rfl rfl ?_
    show Steps p.tables e below (s₁.setTop (mkF m 1 #[.val (.ref a1)] [(.ref a1)])) _
    refine XS.dup X0.here hx rfl (hb hby d3_1) rfl rfl ?_
    show Steps p.tables e below (s₁.setTop (mkF m 2 #[.val (.ref a1)] [(.ref a1), (.ref a1)])) _
    refine st3 _ ?_
    show Steps p.tables e below (T3.setTop (mkF m 5 #[.val (.ref a1)] [(.int w2), (.ref a1)])) _
    refine XS.iconst X3.here hx rfl (hb hby d3_5) ?_
    show Steps p.tables e below (T3.setTop (mkF m 6 #[.val (.ref a1)] [(.int (1 : Int32)), (.int w2), (.ref a1)])) _
    refine XS.iadd X3.here hx rfl (hb hby d3_6) rfl ?_
    show Steps p.tables e below (T3.setTop (mkF m 7 #[.val (.ref a1)] [(.int (w2 + (1 : Int32))), (.ref a1)])) _
    refine st4 _ ?_
    show Steps p.tables e below (T4.setTop (mkF m 10 #[.val (.ref a1)] [])) _
    refine XS.aloadN X4.here hx rfl (hb hby d3_10) rfl rfl ?_
    show Steps p.tables e below (T4.setTop (mkF m 11 #[.val (.ref a1)] [(.ref a1)])) _
    refine st5 _ ?_
    show Steps p.tables e below (T5.setTop (mkF m 14 #[.val (.ref a1)] [(.int (w2 + (1 : Int32)))])) _
    refine XS.sipush X5.here hx rfl (hb hby d3_14) ?_
    show Steps p.tables e below (T5.setTop (mkF m 17 #[.val (.ref a1)] [(.int (10000 : Int32)), (.int (w2 + (1 : Int32)))])) _
    refine XS.icmpNo X5.here hx rfl (hb hby d3_17) rfl (flt hc17).2.2.1 ?_
    show Steps p.tables e below (T5.setTop (mkF m 20 #[.val (.ref a1)] [])) _
    refine XS.iconst X5.here hx rfl (hb hby d3_20) ?_
    show Steps p.tables e below (T5.setTop (mkF m 21 #[.val (.ref a1)] [(.int (1 : Int32))])) _
    refine XS.goto X5.here hx rfl (pc0 := 21) (pc' := 25) rfl (hb hby d3_21) (by decide) (by decide) ?_
    show Steps p.tables e below (T5.setTop (mkF m 25 #[.val (.ref a1)] [(.int (1 : Int32))])) _
    exact retN X5 hx (t := .boolean) Bd.returns (by simp) (hb hby d3_25) hr
  · show Q3 Z a1 w2 h0 n0 _ T5.heap _
    rw [e5]
    exact ⟨rfl, N4, K4, (E_a1.wr W4), Fw4⟩
theorem d4_0 : decode method_2_code 0 = .ok (.iload_n 0, 1) := by decide +kernel
theorem d4_1 : decode method_2_code 1 = .ok (.sipush 10000, 3) := by decide +kernel
theorem d4_4 : decode method_2_code 4 = .ok (.if_icmp .gt 7, 3) := by decide +kernel
theorem d4_7 : decode method_2_code 7 = .ok (.iconst 1, 1) := by decide +kernel
theorem d4_8 : decode method_2_code 8 = .ok (.goto 4, 3) := by decide +kernel
theorem d4_12 : decode method_2_code 12 = .ok (.ireturn, 1) := by decide +kernel
theorem pn_4 : plainName "com/example/fsmconv/fsmconv/model/ExpressionLimitsOperatorPinLaw" = true := by first | (simp [plainName, overriddenIn]; done) | decide +kernel
theorem ef_4 (m : MethodId) (x0 : Int32) : entryFrame m #[(.int x0)] 1 = mkF m 0 #[.val (.int x0)] [] := by first | (simp [entryFrame, mkF, argsToLocals, Value.category]; done) | rfl
def Q4 (Z : State) (p1 : Int32) (h0 : Heap) (n0 : Nat) (v : Option Value) (h : Heap) (L : List Loc) : Prop := v = some (.int (1 : Int32)) ∧ Fr n0 L ∧ h = h0
set_option maxRecDepth 65536 in
set_option maxHeartbeats 40000000 in
theorem rm4 (l : Launch) (Z : State) (a0 : Array Value) (hw : ∀ d ∈ tables_1, d.before a0 Z = true) (ws : List Jvm.Cond) (p1 : Int32) (h0 : Heap) (n0 : Nat) (Z0 : n0 ≤ h0.size) (hc4 : ¬ ((10000 : Int32) < p1)) :
    MetFree l (⟨"com/example/fsmconv/fsmconv/model/ExpressionLimitsOperatorPinLaw", "expect", "(I)Z"⟩ : MethodName) (head1 (Jvm.Cond.code (⟨"com/example/fsmconv/fsmconv/model/ExpressionLimitsOperatorPinLaw", "expect", "(I)Z"⟩ : MethodName) method_2_code 1 (some .boolean) :: ws) ({ frames := 0, cells := 0, slots := 0, locals := 0 } : Room)) (fun a U => a = #[(.int p1)] ∧ Z.Warmed39 U.vm ∧ U.heap = h0) (fun _ _ _ _ _ => True) (fun _ U o U' => ∃ v L, o = .returned v ∧ Q4 Z p1 h0 n0 v U'.heap L ∧ FrameEnd U o U' L ({ frames := 0, cells := 0, slots := 0, locals := 0 } : Room).cells ({ frames := 0, cells := 0, slots := 0, locals := 0 } : Room).slots) := by
  refine MetFree.of_bodySF (plainFor_of_name pn_4) hisR ?_
  intro p e s m args below meth c s₁ Bd hml0 hP hK
  obtain ⟨rfl, hZ, hh⟩ := hP
  have hx := Bd.exec
  have hby := Bd.bytes
  have hml : c.maxLocals = 1 := hml0
  have hown : s.vm.findClass "com/example/fsmconv/fsmconv/model/ExpressionLimitsOperatorPinLaw" = some m.cls := findClass_of_methodNamed Bd.named
  have hnm := (name_of_methodNamed Bd.named Bd.method).1
  have X0 : Stand p l e ({ frames := 0, cells := 0, slots := 0, locals := 0 } : Room) s m #[(.int p1)] below meth c s₁ [] 0 0 := Stand.of_body Bd
  have e0 : s₁.heap = h0 := by rw [← hh, Bd.state]; rfl
  have N0 := Fr.nil n0
  have pre0 : ∀ t, Steps p.tables e below (s₁.setTop (mkF m 0 #[.val (.int p1)] [])) t → Steps p.tables e below (s₁.setTop (entryFrame m #[(.int p1)] 1)) t := fun t k => castTop (ef_4 m p1) k
  obtain ⟨fs, hr, hrun, hended, hW, hsame⟩ := X0.leave (v := some (.int (1 : Int32))) (fun h => by rw [Bd.returns] at h; cases h)
  refine ⟨_, _, pre0 _ ?_, hrun, hended, _, _, rfl, ?_, ⟨_, rfl⟩, hW, hsame.mono (by decide) (by decide)⟩
  · show Steps p.tables e below (s₁.setTop (mkF m 0 #[.val (.int p1)] [])) _
    refine XS.iloadN X0.here hx rfl (hb hby d4_0) rfl ?_
    show Steps p.tables e below (s₁.setTop (mkF m 1 #[.val (.int p1)] [(.int p1)])) _
    refine XS.sipush X0.here hx rfl (hb hby d4_1) ?_
    show Steps p.tables e below (s₁.setTop (mkF m 4 #[.val (.int p1)] [(.int (10000 : Int32)), (.int p1)])) _
    refine XS.icmpNo X0.here hx rfl (hb hby d4_4) rfl (flt hc4).2.2.1 ?_
    show Steps p.tables e below (s₁.setTop (mkF m 7 #[.val (.int p1)] [])) _
    refine XS.iconst X0.here hx rfl (hb hby d4_7) ?_
    show Steps p.tables e below (s₁.setTop (mkF m 8 #[.val (.int p1)] [(.int (1 : Int32))])) _
    refine XS.goto X0.here hx rfl (pc0 := 8) (pc' := 12) rfl (hb hby d4_8) (by decide) (by decide) ?_
    show Steps p.tables e below (s₁.setTop (mkF m 12 #[.val (.int p1)] [(.int (1 : Int32))])) _
    exact retN X0 hx (t := .boolean) Bd.returns (by simp) (hb hby d4_12) hr
  · show Q4 Z p1 h0 n0 _ s₁.heap _
    rw [e0]
    exact ⟨rfl, N0, rfl⟩
set_option maxRecDepth 65536 in
set_option maxHeartbeats 40000000 in
theorem own_sk7 {p : Program} {l : Launch} {e : Env} {R : Room} {s : State} {m : MethodId} {args : Array Value} {below : List Frame} {meth : Method} {c : Code} {T : State} {locs : List Loc} {cells slots : Nat} (X : Stand p l e R s m args below meth c T locs cells slots) (hx : p.tables.exec = Jvm.exec) (hby : c.code = code) (p1 : Int32) (b2 : Addr) (hn : (p1 &&& (7 : Int32)) < (7 : Int32)) (t : State) (k : Steps p.tables e below (T.setTop (mkF m 223 #[.val (.int p1), .val (.ref b2), .val (.int (p1 &&& (7 : Int32))), .val (.int (1 : Int32))] [])) t) : Steps p.tables e below (T.setTop (mkF m 195 #[.val (.int p1), .val (.ref b2), .val (.int (p1 &&& (7 : Int32))), .val (.int (1 : Int32))] [])) t := by
  show Steps p.tables e below (T.setTop (mkF m 195 #[.val (.int p1), .val (.ref b2), .val (.int (p1 &&& (7 : Int32))), .val (.int (1 : Int32))] [])) _
  refine XS.iloadN X.here hx rfl (hb hby at_195) rfl ?_
  show Steps p.tables e below (T.setTop (mkF m 196 #[.val (.int p1), .val (.ref b2), .val (.int (p1 &&& (7 : Int32))), .val (.int (1 : Int32))] [(.int (p1 &&& (7 : Int32)))])) _
  refine XS.bipush X.here hx rfl (hb hby at_196) ?_
  show Steps p.tables e below (T.setTop (mkF m 198 #[.val (.int p1), .val (.ref b2), .val (.int (p1 &&& (7 : Int32))), .val (.int (1 : Int32))] [(.int (7 : Int32)), (.int (p1 &&& (7 : Int32)))])) _
  refine XS.icmpYes X.here hx rfl (pc0 := 198) (pc' := 223) rfl (hb hby at_198) rfl (XT.ii_lt_t hn) (by decide) (by decide) ?_
  show Steps p.tables e below (T.setTop (mkF m 223 #[.val (.int p1), .val (.ref b2), .val (.int (p1 &&& (7 : Int32))), .val (.int (1 : Int32))] [])) _
  exact k
set_option maxRecDepth 65536 in
set_option maxHeartbeats 40000000 in
theorem own_sk6 {p : Program} {l : Launch} {e : Env} {R : Room} {s : State} {m : MethodId} {args : Array Value} {below : List Frame} {meth : Method} {c : Code} {T : State} {locs : List Loc} {cells slots : Nat} (X : Stand p l e R s m args below meth c T locs cells slots) (hx : p.tables.exec = Jvm.exec) (hby : c.code = code) (p1 : Int32) (b2 : Addr) (hn : (p1 &&& (7 : Int32)) < (6 : Int32)) (t : State) (k : Steps p.tables e below (T.setTop (mkF m 223 #[.val (.int p1), .val (.ref b2), .val (.int (p1 &&& (7 : Int32))), .val (.int (1 : Int32))] [])) t) : Steps p.tables e below (T.setTop (mkF m 167 #[.val (.int p1), .val (.ref b2), .val (.int (p1 &&& (7 : Int32))), .val (.int (1 : Int32))] [])) t := by
  show Steps p.tables e below (T.setTop (mkF m 167 #[.val (.int p1), .val (.ref b2), .val (.int (p1 &&& (7 : Int32))), .val (.int (1 : Int32))] [])) _
  refine XS.iloadN X.here hx rfl (hb hby at_167) rfl ?_
  show Steps p.tables e below (T.setTop (mkF m 168 #[.val (.int p1), .val (.ref b2), .val (.int (p1 &&& (7 : Int32))), .val (.int (1 : Int32))] [(.int (p1 &&& (7 : Int32)))])) _
  refine XS.bipush X.here hx rfl (hb hby at_168) ?_
  show Steps p.tables e below (T.setTop (mkF m 170 #[.val (.int p1), .val (.ref b2), .val (.int (p1 &&& (7 : Int32))), .val (.int (1 : Int32))] [(.int (6 : Int32)), (.int (p1 &&& (7 : Int32)))])) _
  refine XS.icmpYes X.here hx rfl (pc0 := 170) (pc' := 195) rfl (hb hby at_170) rfl (XT.ii_lt_t hn) (by decide) (by decide) ?_
  show Steps p.tables e below (T.setTop (mkF m 195 #[.val (.int p1), .val (.ref b2), .val (.int (p1 &&& (7 : Int32))), .val (.int (1 : Int32))] [])) _
  exact own_sk7 X hx hby p1 b2 (Int32.lt_trans hn (by decide)) t k
set_option maxRecDepth 65536 in
set_option maxHeartbeats 40000000 in
theorem own_sk5 {p : Program} {l : Launch} {e : Env} {R : Room} {s : State} {m : MethodId} {args : Array Value} {below : List Frame} {meth : Method} {c : Code} {T : State} {locs : List Loc} {cells slots : Nat} (X : Stand p l e R s m args below meth c T locs cells slots) (hx : p.tables.exec = Jvm.exec) (hby : c.code = code) (p1 : Int32) (b2 : Addr) (hn : (p1 &&& (7 : Int32)) < (5 : Int32)) (t : State) (k : Steps p.tables e below (T.setTop (mkF m 223 #[.val (.int p1), .val (.ref b2), .val (.int (p1 &&& (7 : Int32))), .val (.int (1 : Int32))] [])) t) : Steps p.tables e below (T.setTop (mkF m 140 #[.val (.int p1), .val (.ref b2), .val (.int (p1 &&& (7 : Int32))), .val (.int (1 : Int32))] [])) t := by
  show Steps p.tables e below (T.setTop (mkF m 140 #[.val (.int p1), .val (.ref b2), .val (.int (p1 &&& (7 : Int32))), .val (.int (1 : Int32))] [])) _
  refine XS.iloadN X.here hx rfl (hb hby at_140) rfl ?_
  show Steps p.tables e below (T.setTop (mkF m 141 #[.val (.int p1), .val (.ref b2), .val (.int (p1 &&& (7 : Int32))), .val (.int (1 : Int32))] [(.int (p1 &&& (7 : Int32)))])) _
  refine XS.iconst X.here hx rfl (hb hby at_141) ?_
  show Steps p.tables e below (T.setTop (mkF m 142 #[.val (.int p1), .val (.ref b2), .val (.int (p1 &&& (7 : Int32))), .val (.int (1 : Int32))] [(.int (5 : Int32)), (.int (p1 &&& (7 : Int32)))])) _
  refine XS.icmpYes X.here hx rfl (pc0 := 142) (pc' := 167) rfl (hb hby at_142) rfl (XT.ii_lt_t hn) (by decide) (by decide) ?_
  show Steps p.tables e below (T.setTop (mkF m 167 #[.val (.int p1), .val (.ref b2), .val (.int (p1 &&& (7 : Int32))), .val (.int (1 : Int32))] [])) _
  exact own_sk6 X hx hby p1 b2 (Int32.lt_trans hn (by decide)) t k
set_option maxRecDepth 65536 in
set_option maxHeartbeats 40000000 in
theorem own_sk4 {p : Program} {l : Launch} {e : Env} {R : Room} {s : State} {m : MethodId} {args : Array Value} {below : List Frame} {meth : Method} {c : Code} {T : State} {locs : List Loc} {cells slots : Nat} (X : Stand p l e R s m args below meth c T locs cells slots) (hx : p.tables.exec = Jvm.exec) (hby : c.code = code) (p1 : Int32) (b2 : Addr) (hn : (p1 &&& (7 : Int32)) < (4 : Int32)) (t : State) (k : Steps p.tables e below (T.setTop (mkF m 223 #[.val (.int p1), .val (.ref b2), .val (.int (p1 &&& (7 : Int32))), .val (.int (1 : Int32))] [])) t) : Steps p.tables e below (T.setTop (mkF m 114 #[.val (.int p1), .val (.ref b2), .val (.int (p1 &&& (7 : Int32))), .val (.int (1 : Int32))] [])) t := by
  show Steps p.tables e below (T.setTop (mkF m 114 #[.val (.int p1), .val (.ref b2), .val (.int (p1 &&& (7 : Int32))), .val (.int (1 : Int32))] [])) _
  refine XS.iloadN X.here hx rfl (hb hby at_114) rfl ?_
  show Steps p.tables e below (T.setTop (mkF m 115 #[.val (.int p1), .val (.ref b2), .val (.int (p1 &&& (7 : Int32))), .val (.int (1 : Int32))] [(.int (p1 &&& (7 : Int32)))])) _
  refine XS.iconst X.here hx rfl (hb hby at_115) ?_
  show Steps p.tables e below (T.setTop (mkF m 116 #[.val (.int p1), .val (.ref b2), .val (.int (p1 &&& (7 : Int32))), .val (.int (1 : Int32))] [(.int (4 : Int32)), (.int (p1 &&& (7 : Int32)))])) _
  refine XS.icmpYes X.here hx rfl (pc0 := 116) (pc' := 140) rfl (hb hby at_116) rfl (XT.ii_lt_t hn) (by decide) (by decide) ?_
  show Steps p.tables e below (T.setTop (mkF m 140 #[.val (.int p1), .val (.ref b2), .val (.int (p1 &&& (7 : Int32))), .val (.int (1 : Int32))] [])) _
  exact own_sk5 X hx hby p1 b2 (Int32.lt_trans hn (by decide)) t k
set_option maxRecDepth 65536 in
set_option maxHeartbeats 40000000 in
theorem own_sk3 {p : Program} {l : Launch} {e : Env} {R : Room} {s : State} {m : MethodId} {args : Array Value} {below : List Frame} {meth : Method} {c : Code} {T : State} {locs : List Loc} {cells slots : Nat} (X : Stand p l e R s m args below meth c T locs cells slots) (hx : p.tables.exec = Jvm.exec) (hby : c.code = code) (p1 : Int32) (b2 : Addr) (hn : (p1 &&& (7 : Int32)) < (3 : Int32)) (t : State) (k : Steps p.tables e below (T.setTop (mkF m 223 #[.val (.int p1), .val (.ref b2), .val (.int (p1 &&& (7 : Int32))), .val (.int (1 : Int32))] [])) t) : Steps p.tables e below (T.setTop (mkF m 88 #[.val (.int p1), .val (.ref b2), .val (.int (p1 &&& (7 : Int32))), .val (.int (1 : Int32))] [])) t := by
  show Steps p.tables e below (T.setTop (mkF m 88 #[.val (.int p1), .val (.ref b2), .val (.int (p1 &&& (7 : Int32))), .val (.int (1 : Int32))] [])) _
  refine XS.iloadN X.here hx rfl (hb hby at_88) rfl ?_
  show Steps p.tables e below (T.setTop (mkF m 89 #[.val (.int p1), .val (.ref b2), .val (.int (p1 &&& (7 : Int32))), .val (.int (1 : Int32))] [(.int (p1 &&& (7 : Int32)))])) _
  refine XS.iconst X.here hx rfl (hb hby at_89) ?_
  show Steps p.tables e below (T.setTop (mkF m 90 #[.val (.int p1), .val (.ref b2), .val (.int (p1 &&& (7 : Int32))), .val (.int (1 : Int32))] [(.int (3 : Int32)), (.int (p1 &&& (7 : Int32)))])) _
  refine XS.icmpYes X.here hx rfl (pc0 := 90) (pc' := 114) rfl (hb hby at_90) rfl (XT.ii_lt_t hn) (by decide) (by decide) ?_
  show Steps p.tables e below (T.setTop (mkF m 114 #[.val (.int p1), .val (.ref b2), .val (.int (p1 &&& (7 : Int32))), .val (.int (1 : Int32))] [])) _
  exact own_sk4 X hx hby p1 b2 (Int32.lt_trans hn (by decide)) t k
set_option maxRecDepth 65536 in
set_option maxHeartbeats 40000000 in
theorem own_sk2 {p : Program} {l : Launch} {e : Env} {R : Room} {s : State} {m : MethodId} {args : Array Value} {below : List Frame} {meth : Method} {c : Code} {T : State} {locs : List Loc} {cells slots : Nat} (X : Stand p l e R s m args below meth c T locs cells slots) (hx : p.tables.exec = Jvm.exec) (hby : c.code = code) (p1 : Int32) (b2 : Addr) (hn : (p1 &&& (7 : Int32)) < (2 : Int32)) (t : State) (k : Steps p.tables e below (T.setTop (mkF m 223 #[.val (.int p1), .val (.ref b2), .val (.int (p1 &&& (7 : Int32))), .val (.int (1 : Int32))] [])) t) : Steps p.tables e below (T.setTop (mkF m 62 #[.val (.int p1), .val (.ref b2), .val (.int (p1 &&& (7 : Int32))), .val (.int (1 : Int32))] [])) t := by
  show Steps p.tables e below (T.setTop (mkF m 62 #[.val (.int p1), .val (.ref b2), .val (.int (p1 &&& (7 : Int32))), .val (.int (1 : Int32))] [])) _
  refine XS.iloadN X.here hx rfl (hb hby at_62) rfl ?_
  show Steps p.tables e below (T.setTop (mkF m 63 #[.val (.int p1), .val (.ref b2), .val (.int (p1 &&& (7 : Int32))), .val (.int (1 : Int32))] [(.int (p1 &&& (7 : Int32)))])) _
  refine XS.iconst X.here hx rfl (hb hby at_63) ?_
  show Steps p.tables e below (T.setTop (mkF m 64 #[.val (.int p1), .val (.ref b2), .val (.int (p1 &&& (7 : Int32))), .val (.int (1 : Int32))] [(.int (2 : Int32)), (.int (p1 &&& (7 : Int32)))])) _
  refine XS.icmpYes X.here hx rfl (pc0 := 64) (pc' := 88) rfl (hb hby at_64) rfl (XT.ii_lt_t hn) (by decide) (by decide) ?_
  show Steps p.tables e below (T.setTop (mkF m 88 #[.val (.int p1), .val (.ref b2), .val (.int (p1 &&& (7 : Int32))), .val (.int (1 : Int32))] [])) _
  exact own_sk3 X hx hby p1 b2 (Int32.lt_trans hn (by decide)) t k
set_option maxRecDepth 65536 in
set_option maxHeartbeats 40000000 in
theorem own_sk1 {p : Program} {l : Launch} {e : Env} {R : Room} {s : State} {m : MethodId} {args : Array Value} {below : List Frame} {meth : Method} {c : Code} {T : State} {locs : List Loc} {cells slots : Nat} (X : Stand p l e R s m args below meth c T locs cells slots) (hx : p.tables.exec = Jvm.exec) (hby : c.code = code) (p1 : Int32) (b2 : Addr) (hn : (p1 &&& (7 : Int32)) < (1 : Int32)) (t : State) (k : Steps p.tables e below (T.setTop (mkF m 223 #[.val (.int p1), .val (.ref b2), .val (.int (p1 &&& (7 : Int32))), .val (.int (1 : Int32))] [])) t) : Steps p.tables e below (T.setTop (mkF m 36 #[.val (.int p1), .val (.ref b2), .val (.int (p1 &&& (7 : Int32))), .val (.int (1 : Int32))] [])) t := by
  show Steps p.tables e below (T.setTop (mkF m 36 #[.val (.int p1), .val (.ref b2), .val (.int (p1 &&& (7 : Int32))), .val (.int (1 : Int32))] [])) _
  refine XS.iloadN X.here hx rfl (hb hby at_36) rfl ?_
  show Steps p.tables e below (T.setTop (mkF m 37 #[.val (.int p1), .val (.ref b2), .val (.int (p1 &&& (7 : Int32))), .val (.int (1 : Int32))] [(.int (p1 &&& (7 : Int32)))])) _
  refine XS.iconst X.here hx rfl (hb hby at_37) ?_
  show Steps p.tables e below (T.setTop (mkF m 38 #[.val (.int p1), .val (.ref b2), .val (.int (p1 &&& (7 : Int32))), .val (.int (1 : Int32))] [(.int (1 : Int32)), (.int (p1 &&& (7 : Int32)))])) _
  refine XS.icmpYes X.here hx rfl (pc0 := 38) (pc' := 62) rfl (hb hby at_38) rfl (XT.ii_lt_t hn) (by decide) (by decide) ?_
  show Steps p.tables e below (T.setTop (mkF m 62 #[.val (.int p1), .val (.ref b2), .val (.int (p1 &&& (7 : Int32))), .val (.int (1 : Int32))] [])) _
  exact own_sk2 X hx hby p1 b2 (Int32.lt_trans hn (by decide)) t k
theorem pn_0 : plainName "com/example/fsmconv/fsmconv/model/ExpressionLimitsOperatorPinLaw" = true := by first | (simp [plainName, overriddenIn]; done) | decide +kernel
theorem ef_0 (m : MethodId) (x0 : Int32) : entryFrame m #[(.int x0)] maxLocals = mkF m 0 #[.val (.int x0), .unset, .unset, .unset] [] := by first | (simp [entryFrame, mkF, argsToLocals, Value.category, maxLocals]; done) | rfl
def Q0 (Z : State) (p1 : Int32) (h0 : Heap) (n0 : Nat) (v : Option Value) (h : Heap) (L : List Loc) : Prop := v = some (.int 1) ∧ Fr n0 L
set_option maxRecDepth 65536 in
set_option maxHeartbeats 40000000 in
theorem rm0 (l : Launch) (Z : State) (a0 : Array Value) (hw : ∀ d ∈ tables_1, d.before a0 Z = true) (ws : List Jvm.Cond) (p1 : Int32) (h0 : Heap) (n0 : Nat) (Z0 : n0 ≤ h0.size)  :
    MetFree l x (head1 (Jvm.Cond.code x code maxLocals ret :: ws) room_1) (fun aa U => aa = #[(.int p1)] ∧ Z.Warmed39 U.vm ∧ U.heap = h0) (fun _ _ _ _ _ => True) (fun _ U o U' => ∃ v L, o = .returned v ∧ Q0 Z p1 h0 n0 v U'.heap L ∧ FrameEnd U o U' L room_1.cells room_1.slots) := by
  refine MetFree.of_bodySF (plainFor_of_name pn_0) hisR ?_
  intro p e s m args below meth c s₁ Bd hml0 hP hK
  obtain ⟨rfl, hZ, hh⟩ := hP
  have hx := Bd.exec
  have hby := Bd.bytes
  have hml : c.maxLocals = 4 := hml0
  have hown : s.vm.findClass "com/example/fsmconv/fsmconv/model/ExpressionLimitsOperatorPinLaw" = some m.cls := findClass_of_methodNamed Bd.named
  have hnm := (name_of_methodNamed Bd.named Bd.method).1
  have X0 : Stand p l e room_1 s m #[(.int p1)] below meth c s₁ [] 0 0 := Stand.of_body Bd
  have e0 : s₁.heap = h0 := by rw [← hh, Bd.state]; rfl
  have N0 := Fr.nil n0
  have pre0 : ∀ t, Steps p.tables e below (s₁.setTop (mkF m 0 #[.val (.int p1), .unset, .unset, .unset] [])) t → Steps p.tables e below (s₁.setTop (entryFrame m #[(.int p1)] maxLocals)) t := fun t k => castTop (ef_0 m p1) k
  obtain ⟨T2, h2, X2, e2, E2, A2, D2, -, st2⟩ := newO X0 hx hZ hown (hw _ (List.mem_of_getElem? (i := 0) rfl)) (hw _ (List.mem_of_getElem? (i := 1) rfl)) (hw _ (List.mem_of_getElem? (i := 2) rfl)) e0 (g := (mkF m 0 #[.val (.int p1), .unset, .unset, .unset] [])) rfl (hb hby at_0) (by decide) (by decide)
  obtain ⟨b2, g2⟩ : ∃ z, z = h0.size := ⟨_, rfl⟩
  rw [← g2] at A2 D2 st2
  have F2 : Fld Z h2 b2 "com/example/fsmconv/fsmconv/model/ExpressionLimits" "operators" "I" (.int (0 : Int32)) := D2 (Or.inl (hw _ (List.mem_of_getElem? (i := 15) rfl))) (ty := .int) (by decide)
  have g_b2 : n0 ≤ b2 := Nat.le_trans Z0 (Nat.le_of_eq g2.symm)
  have Z2 : n0 ≤ h2.size := Nat.le_trans Z0 E2.1
  have r2 : ∀ t, Steps p.tables e below (T2.setTop (mkF m 3 #[.val (.int p1), .unset, .unset, .unset] [(.ref b2)])) t → Steps p.tables e below (s₁.setTop (mkF m 0 #[.val (.int p1), .unset, .unset, .unset] [])) t := fun t k => st2 _ k
  have s2 : ∀ t, Steps p.tables e below (T2.setTop (mkF m 4 #[.val (.int p1), .unset, .unset, .unset] [(.ref b2), (.ref b2)])) t → Steps p.tables e below (T2.setTop (mkF m 3 #[.val (.int p1), .unset, .unset, .unset] [(.ref b2)])) t := by
    intro t k
    show Steps p.tables e below (T2.setTop (mkF m 3 #[.val (.int p1), .unset, .unset, .unset] [(.ref b2)])) _
    refine XS.dup X2.here hx rfl (hb hby at_3) rfl rfl ?_
    show Steps p.tables e below (T2.setTop (mkF m 4 #[.val (.int p1), .unset, .unset, .unset] [(.ref b2), (.ref b2)])) _
    exact k
  obtain ⟨_, _, ⟨T3, L3, k3, n3⟩, -, X3, ⟨Lc3, hQ3, l3, y3, z3⟩, st3⟩ := X2.specialBack hx (y := (⟨"com/example/fsmconv/fsmconv/model/ExpressionLimits", "<init>", "()V"⟩ : MethodName)) rfl hown (mvT hZ (hw _ (List.mem_of_getElem? (i := 3) rfl))) (mvT hZ (hw _ (List.mem_of_getElem? (i := 4) rfl))) (mvT hZ (hw _ (List.mem_of_getElem? (i := 5) rfl))) (by decide) (backOf (W := 1) (rm1 l Z a0 hw [] b2 h2 n0 Z2) hZ (hw _ (List.mem_of_getElem? (i := 5) rfl)) (hw _ (List.mem_of_getElem? (i := 2) rfl)) (by decide) (by decide)) (g := (mkF m 4 #[.val (.int p1), .unset, .unset, .unset] [(.ref b2), (.ref b2)])) rfl (by rw [hml]; rfl) (Steps.refl _) (a := b2) (argsL := []) (rest := [(.ref b2)]) (lenOf pd___V rfl) rfl (by show 2 * 0 + _ ≤ _; exact Nat.le_of_eq rfl) (hb hby at_4) (fun _ _ => ⟨rfl, e2, (by decide : 1 + 0 ≤ _), (by decide : 2 + 0 ≤ _)⟩)
  dsimp only [Pt.U, Pt.locs, Pt.cells, Pt.slots] at X3 l3 y3 z3 st3 hQ3
  subst l3 y3 z3
  obtain ⟨rfl, N3q, e3⟩ := hQ3
  have N3 := Fr.app N0 N3q
  have r3 : ∀ t, Steps p.tables e below (T3.setTop (mkF m 7 #[.val (.int p1), .unset, .unset, .unset] [(.ref b2)])) t → Steps p.tables e below (s₁.setTop (mkF m 0 #[.val (.int p1), .unset, .unset, .unset] [])) t := fun t k => r2 t (s2 t (st3.trans  k))
  rw [← e3] at F2 A2 Z2
  have s3 : ∀ t, Steps p.tables e below (T3.setTop (mkF m 20 #[.val (.int p1), .val (.ref b2), .val (.int (p1 &&& (7 : Int32))), .val (.int (1 : Int32))] [(.ref b2)])) t → Steps p.tables e below (T3.setTop (mkF m 7 #[.val (.int p1), .unset, .unset, .unset] [(.ref b2)])) t := by
    intro t k
    show Steps p.tables e below (T3.setTop (mkF m 7 #[.val (.int p1), .unset, .unset, .unset] [(.ref b2)])) _
    refine XS.astoreN X3.here hx rfl (hb hby at_7) rfl rfl (l' := #[.val (.int p1), .val (.ref b2), .unset, .unset]) rfl ?_
    show Steps p.tables e below (T3.setTop (mkF m 8 #[.val (.int p1), .val (.ref b2), .unset, .unset] [])) _
    refine XS.iloadN X3.here hx rfl (hb hby at_8) rfl ?_
    show Steps p.tables e below (T3.setTop (mkF m 9 #[.val (.int p1), .val (.ref b2), .unset, .unset] [(.int p1)])) _
    refine XS.bipush X3.here hx rfl (hb hby at_9) ?_
    show Steps p.tables e below (T3.setTop (mkF m 11 #[.val (.int p1), .val (.ref b2), .unset, .unset] [(.int (7 : Int32)), (.int p1)])) _
    refine XS.iand X3.here hx rfl (hb hby at_11) rfl ?_
    show Steps p.tables e below (T3.setTop (mkF m 12 #[.val (.int p1), .val (.ref b2), .unset, .unset] [(.int (p1 &&& (7 : Int32)))])) _
    refine XS.istoreN X3.here hx rfl (hb hby at_12) rfl (l' := #[.val (.int p1), .val (.ref b2), .val (.int (p1 &&& (7 : Int32))), .unset]) rfl ?_
    show Steps p.tables e below (T3.setTop (mkF m 13 #[.val (.int p1), .val (.ref b2), .val (.int (p1 &&& (7 : Int32))), .unset] [])) _
    refine XS.iconst X3.here hx rfl (hb hby at_13) ?_
    show Steps p.tables e below (T3.setTop (mkF m 14 #[.val (.int p1), .val (.ref b2), .val (.int (p1 &&& (7 : Int32))), .unset] [(.int (1 : Int32))])) _
    refine XS.istoreN X3.here hx rfl (hb hby at_14) rfl (l' := #[.val (.int p1), .val (.ref b2), .val (.int (p1 &&& (7 : Int32))), .val (.int (1 : Int32))]) rfl ?_
    show Steps p.tables e below (T3.setTop (mkF m 15 #[.val (.int p1), .val (.ref b2), .val (.int (p1 &&& (7 : Int32))), .val (.int (1 : Int32))] [])) _
    refine XS.iloadN X3.here hx rfl (hb hby at_15) rfl ?_
    show Steps p.tables e below (T3.setTop (mkF m 16 #[.val (.int p1), .val (.ref b2), .val (.int (p1 &&& (7 : Int32))), .val (.int (1 : Int32))] [(.int (1 : Int32))])) _
    refine XS.ifNo X3.here hx rfl (hb hby at_16) rfl (XT.i0_eq_f (by decide)) ?_
    show Steps p.tables e below (T3.setTop (mkF m 19 #[.val (.int p1), .val (.ref b2), .val (.int (p1 &&& (7 : Int32))), .val (.int (1 : Int32))] [])) _
    refine XS.aloadN X3.here hx rfl (hb hby at_19) rfl rfl ?_
    show Steps p.tables e below (T3.setTop (mkF m 20 #[.val (.int p1), .val (.ref b2), .val (.int (p1 &&& (7 : Int32))), .val (.int (1 : Int32))] [(.ref b2)])) _
    exact k
  obtain ⟨cq4, kq4, q4a, q4b, q4c⟩ := isOf hZ rfl A2
  obtain ⟨_, _, ⟨T4, L4, k4, n4⟩, -, X4, ⟨Lc4, hQ4, l4, y4, z4⟩, st4⟩ := X3.virtualBack hx (y := (⟨"com/example/fsmconv/fsmconv/model/ExpressionLimits", "operator", "()Z"⟩ : MethodName)) (z := (⟨"com/example/fsmconv/fsmconv/model/ExpressionLimits", "operator", "()Z"⟩ : MethodName)) hown (mvT hZ (hw _ (List.mem_of_getElem? (i := 9) rfl))) (mvT hZ (hw _ (List.mem_of_getElem? (i := 10) rfl))) (notFace_of_selects (args := #[]) (mvT hZ (hw _ (List.mem_of_getElem? (i := 12) rfl)))) (mvT hZ (hw _ (List.mem_of_getElem? (i := 12) rfl))) (mvT hZ (hw _ (List.mem_of_getElem? (i := 11) rfl))) (by decide) (backOf (W := 0) (rm3 l Z a0 hw [] b2 (0 : Int32) T3.heap n0 Z2 F2 A2 g_b2 (by decide)) hZ (hw _ (List.mem_of_getElem? (i := 13) rfl)) (hw _ (List.mem_of_getElem? (i := 2) rfl)) (by decide) (by decide)) q4a q4c (g := (mkF m 20 #[.val (.int p1), .val (.ref b2), .val (.int (p1 &&& (7 : Int32))), .val (.int (1 : Int32))] [(.ref b2)])) rfl (by rw [hml]; rfl) (Steps.refl _) (argsL := []) (rest := []) (lenOf pd___Z rfl) rfl (by show 2 * 0 + _ ≤ _; exact Nat.le_of_eq rfl) (hb hby at_20) (fun _ _ => ⟨rfl, rfl, (by decide : 1 + 0 ≤ _), (by decide : 2 + 0 ≤ _)⟩)
  dsimp only [Pt.U, Pt.locs, Pt.cells, Pt.slots] at X4 l4 y4 z4 st4 hQ4
  subst l4 y4 z4
  obtain ⟨rfl, N4q, K4, E4, F4⟩ := hQ4
  have N4 := Fr.app N3 N4q
  have Z4 : n0 ≤ T4.heap.size := Nat.le_trans Z2 K4.1
  have r4 : ∀ t, Steps p.tables e below (T4.setTop (mkF m 23 #[.val (.int p1), .val (.ref b2), .val (.int (p1 &&& (7 : Int32))), .val (.int (1 : Int32))] [(.int (1 : Int32))])) t → Steps p.tables e below (s₁.setTop (mkF m 0 #[.val (.int p1), .unset, .unset, .unset] [])) t := fun t k => r3 t (s3 t (st4.trans  k))
  have s4 : ∀ t, Steps p.tables e below (T4.setTop (mkF m 24 #[.val (.int p1), .val (.ref b2), .val (.int (p1 &&& (7 : Int32))), .val (.int (1 : Int32))] [(.int (1 : Int32)), (.int (1 : Int32))])) t → Steps p.tables e below (T4.setTop (mkF m 23 #[.val (.int p1), .val (.ref b2), .val (.int (p1 &&& (7 : Int32))), .val (.int (1 : Int32))] [(.int (1 : Int32))])) t := by
    intro t k
    show Steps p.tables e below (T4.setTop (mkF m 23 #[.val (.int p1), .val (.ref b2), .val (.int (p1 &&& (7 : Int32))), .val (.int (1 : Int32))] [(.int (1 : Int32))])) _
    refine XS.iconst X4.here hx rfl (hb hby at_23) ?_
    show Steps p.tables e below (T4.setTop (mkF m 24 #[.val (.int p1), .val (.ref b2), .val (.int (p1 &&& (7 : Int32))), .val (.int (1 : Int32))] [(.int (1 : Int32)), (.int (1 : Int32))])) _
    exact k
  obtain ⟨_, _, ⟨T5, L5, k5, n5⟩, -, X5, ⟨Lc5, hQ5, l5, y5, z5⟩, st5⟩ := Jvm.LawKit.callS X4 hx (y := (⟨"com/example/fsmconv/fsmconv/model/ExpressionLimitsOperatorPinLaw", "expect", "(I)Z"⟩ : MethodName)) hown (mvT hZ (hw _ (List.mem_of_getElem? (i := 16) rfl))) (mvT hZ (hw _ (List.mem_of_getElem? (i := 17) rfl))) (mvT hZ (hw _ (List.mem_of_getElem? (i := 18) rfl))) (mvT hZ (hw _ (List.mem_of_getElem? (i := 19) rfl))) (by decide) (backOf (W := 1) (rm4 l Z a0 hw [] (1 : Int32) T4.heap n0 Z4 (by decide)) hZ (hw _ (List.mem_of_getElem? (i := 19) rfl)) (hw _ (List.mem_of_getElem? (i := 18) rfl)) (by decide) (by decide)) (g := (mkF m 24 #[.val (.int p1), .val (.ref b2), .val (.int (p1 &&& (7 : Int32))), .val (.int (1 : Int32))] [(.int (1 : Int32)), (.int (1 : Int32))])) rfl (by rw [hml]; rfl) (argsL := [(.int (1 : Int32))]) (rest := [(.int (1 : Int32))]) (lenOf pd__I_Z rfl) rfl (by show 2 * 0 + _ ≤ _; exact Nat.le_of_eq rfl) (hb hby at_24) (fun _ _ => ⟨rfl, rfl, (by decide : 1 + 0 ≤ _), (by decide : 2 + 0 ≤ _)⟩)
  dsimp only [Pt.U, Pt.locs, Pt.cells, Pt.slots] at X5 l5 y5 z5 st5 hQ5
  subst l5 y5 z5
  obtain ⟨rfl, N5q, e5⟩ := hQ5
  have N5 := Fr.app N4 N5q
  rw [← e5] at F4 E4 Z4
  have r5 : ∀ t, Steps p.tables e below (T5.setTop (mkF m 27 #[.val (.int p1), .val (.ref b2), .val (.int (p1 &&& (7 : Int32))), .val (.int (1 : Int32))] [(.int (1 : Int32)), (.int (1 : Int32))])) t → Steps p.tables e below (s₁.setTop (mkF m 0 #[.val (.int p1), .unset, .unset, .unset] [])) t := fun t k => r4 t (s4 t (st5 _  k))
  have s5 : ∀ t, Steps p.tables e below (T5.setTop (mkF m 36 #[.val (.int p1), .val (.ref b2), .val (.int (p1 &&& (7 : Int32))), .val (.int (1 : Int32))] [])) t → Steps p.tables e below (T5.setTop (mkF m 27 #[.val (.int p1), .val (.ref b2), .val (.int (p1 &&& (7 : Int32))), .val (.int (1 : Int32))] [(.int (1 : Int32)), (.int (1 : Int32))])) t := by
    intro t k
    show Steps p.tables e below (T5.setTop (mkF m 27 #[.val (.int p1), .val (.ref b2), .val (.int (p1 &&& (7 : Int32))), .val (.int (1 : Int32))] [(.int (1 : Int32)), (.int (1 : Int32))])) _
    refine XS.icmpNo X5.here hx rfl (hb hby at_27) rfl (XT.ii_ne_f (rfl : (1 : Int32) = (1 : Int32))) ?_
    show Steps p.tables e below (T5.setTop (mkF m 30 #[.val (.int p1), .val (.ref b2), .val (.int (p1 &&& (7 : Int32))), .val (.int (1 : Int32))] [])) _
    refine XS.iconst X5.here hx rfl (hb hby at_30) ?_
    show Steps p.tables e below (T5.setTop (mkF m 31 #[.val (.int p1), .val (.ref b2), .val (.int (p1 &&& (7 : Int32))), .val (.int (1 : Int32))] [(.int (1 : Int32))])) _
    refine XS.goto X5.here hx rfl (pc0 := 31) (pc' := 35) rfl (hb hby at_31) (by decide) (by decide) ?_
    show Steps p.tables e below (T5.setTop (mkF m 35 #[.val (.int p1), .val (.ref b2), .val (.int (p1 &&& (7 : Int32))), .val (.int (1 : Int32))] [(.int (1 : Int32))])) _
    refine XS.istoreN X5.here hx rfl (hb hby at_35) rfl (l' := #[.val (.int p1), .val (.ref b2), .val (.int (p1 &&& (7 : Int32))), .val (.int (1 : Int32))]) rfl ?_
    show Steps p.tables e below (T5.setTop (mkF m 36 #[.val (.int p1), .val (.ref b2), .val (.int (p1 &&& (7 : Int32))), .val (.int (1 : Int32))] [])) _
    exact k
  by_cases hn1 : (p1 &&& (7 : Int32)) < (1 : Int32)
  · obtain ⟨fs, hr, hrun, hended, hW, hsame⟩ := X5.leave (v := some (.int (1 : Int32))) (fun h => by rw [Bd.returns] at h; cases h)
    refine ⟨_, _, pre0 _ (r5 _ (s5 _ (own_sk1 X5 hx hby p1 b2 hn1 _ ?_))), hrun, hended, _, _, rfl, ?_, ⟨_, rfl⟩, hW, hsame.mono (by decide) (by decide)⟩
    · show Steps p.tables e below (T5.setTop (mkF m 223 #[.val (.int p1), .val (.ref b2), .val (.int (p1 &&& (7 : Int32))), .val (.int (1 : Int32))] [])) _
      refine XS.iloadN X5.here hx rfl (hb hby at_223) rfl ?_
      show Steps p.tables e below (T5.setTop (mkF m 224 #[.val (.int p1), .val (.ref b2), .val (.int (p1 &&& (7 : Int32))), .val (.int (1 : Int32))] [(.int (1 : Int32))])) _
      exact retN X5 hx (t := .boolean) Bd.returns (by simp) (hb hby at_224) hr
    · exact ⟨rfl, N5⟩
  have r5_ := fun t k => r5 t (s5 t k)
  have s5_ : ∀ t, Steps p.tables e below (T5.setTop (mkF m 46 #[.val (.int p1), .val (.ref b2), .val (.int (p1 &&& (7 : Int32))), .val (.int (1 : Int32))] [(.ref b2)])) t → Steps p.tables e below (T5.setTop (mkF m 36 #[.val (.int p1), .val (.ref b2), .val (.int (p1 &&& (7 : Int32))), .val (.int (1 : Int32))] [])) t := by
    intro t k
    show Steps p.tables e below (T5.setTop (mkF m 36 #[.val (.int p1), .val (.ref b2), .val (.int (p1 &&& (7 : Int32))), .val (.int (1 : Int32))] [])) _
    refine XS.iloadN X5.here hx rfl (hb hby at_36) rfl ?_
    show Steps p.tables e below (T5.setTop (mkF m 37 #[.val (.int p1), .val (.ref b2), .val (.int (p1 &&& (7 : Int32))), .val (.int (1 : Int32))] [(.int (p1 &&& (7 : Int32)))])) _
    refine XS.iconst X5.here hx rfl (hb hby at_37) ?_
    show Steps p.tables e below (T5.setTop (mkF m 38 #[.val (.int p1), .val (.ref b2), .val (.int (p1 &&& (7 : Int32))), .val (.int (1 : Int32))] [(.int (1 : Int32)), (.int (p1 &&& (7 : Int32)))])) _
    refine XS.icmpNo X5.here hx rfl (hb hby at_38) rfl (XT.ii_lt_f hn1) ?_
    show Steps p.tables e below (T5.setTop (mkF m 41 #[.val (.int p1), .val (.ref b2), .val (.int (p1 &&& (7 : Int32))), .val (.int (1 : Int32))] [])) _
    refine XS.iloadN X5.here hx rfl (hb hby at_41) rfl ?_
    show Steps p.tables e below (T5.setTop (mkF m 42 #[.val (.int p1), .val (.ref b2), .val (.int (p1 &&& (7 : Int32))), .val (.int (1 : Int32))] [(.int (1 : Int32))])) _
    refine XS.ifNo X5.here hx rfl (hb hby at_42) rfl (XT.i0_eq_f (by decide)) ?_
    show Steps p.tables e below (T5.setTop (mkF m 45 #[.val (.int p1), .val (.ref b2), .val (.int (p1 &&& (7 : Int32))), .val (.int (1 : Int32))] [])) _
    refine XS.aloadN X5.here hx rfl (hb hby at_45) rfl rfl ?_
    show Steps p.tables e below (T5.setTop (mkF m 46 #[.val (.int p1), .val (.ref b2), .val (.int (p1 &&& (7 : Int32))), .val (.int (1 : Int32))] [(.ref b2)])) _
    exact k
  obtain ⟨cq6, kq6, q6a, q6b, q6c⟩ := isOf hZ rfl E4
  obtain ⟨_, _, ⟨T6, L6, k6, n6⟩, -, X6, ⟨Lc6, hQ6, l6, y6, z6⟩, st6⟩ := X5.virtualBack hx (y := (⟨"com/example/fsmconv/fsmconv/model/ExpressionLimits", "operator", "()Z"⟩ : MethodName)) (z := (⟨"com/example/fsmconv/fsmconv/model/ExpressionLimits", "operator", "()Z"⟩ : MethodName)) hown (mvT hZ (hw _ (List.mem_of_getElem? (i := 9) rfl))) (mvT hZ (hw _ (List.mem_of_getElem? (i := 10) rfl))) (notFace_of_selects (args := #[]) (mvT hZ (hw _ (List.mem_of_getElem? (i := 12) rfl)))) (mvT hZ (hw _ (List.mem_of_getElem? (i := 12) rfl))) (mvT hZ (hw _ (List.mem_of_getElem? (i := 11) rfl))) (by decide) (backOf (W := 0) (rm3 l Z a0 hw [] b2 ((0 : Int32) + (1 : Int32)) T5.heap n0 Z4 F4 E4 g_b2 (by decide)) hZ (hw _ (List.mem_of_getElem? (i := 13) rfl)) (hw _ (List.mem_of_getElem? (i := 2) rfl)) (by decide) (by decide)) q6a q6c (g := (mkF m 46 #[.val (.int p1), .val (.ref b2), .val (.int (p1 &&& (7 : Int32))), .val (.int (1 : Int32))] [(.ref b2)])) rfl (by rw [hml]; rfl) (Steps.refl _) (argsL := []) (rest := []) (lenOf pd___Z rfl) rfl (by show 2 * 0 + _ ≤ _; exact Nat.le_of_eq rfl) (hb hby at_46) (fun _ _ => ⟨rfl, rfl, (by decide : 1 + 0 ≤ _), (by decide : 2 + 0 ≤ _)⟩)
  dsimp only [Pt.U, Pt.locs, Pt.cells, Pt.slots] at X6 l6 y6 z6 st6 hQ6
  subst l6 y6 z6
  obtain ⟨rfl, N6q, K6, E6, F6⟩ := hQ6
  have N6 := Fr.app N5 N6q
  have Z6 : n0 ≤ T6.heap.size := Nat.le_trans Z4 K6.1
  have r6 : ∀ t, Steps p.tables e below (T6.setTop (mkF m 49 #[.val (.int p1), .val (.ref b2), .val (.int (p1 &&& (7 : Int32))), .val (.int (1 : Int32))] [(.int (1 : Int32))])) t → Steps p.tables e below (s₁.setTop (mkF m 0 #[.val (.int p1), .unset, .unset, .unset] [])) t := fun t k => r5_ t (s5_ t (st6.trans  k))
  have s6 : ∀ t, Steps p.tables e below (T6.setTop (mkF m 50 #[.val (.int p1), .val (.ref b2), .val (.int (p1 &&& (7 : Int32))), .val (.int (1 : Int32))] [(.int (2 : Int32)), (.int (1 : Int32))])) t → Steps p.tables e below (T6.setTop (mkF m 49 #[.val (.int p1), .val (.ref b2), .val (.int (p1 &&& (7 : Int32))), .val (.int (1 : Int32))] [(.int (1 : Int32))])) t := by
    intro t k
    show Steps p.tables e below (T6.setTop (mkF m 49 #[.val (.int p1), .val (.ref b2), .val (.int (p1 &&& (7 : Int32))), .val (.int (1 : Int32))] [(.int (1 : Int32))])) _
    refine XS.iconst X6.here hx rfl (hb hby at_49) ?_
    show Steps p.tables e below (T6.setTop (mkF m 50 #[.val (.int p1), .val (.ref b2), .val (.int (p1 &&& (7 : Int32))), .val (.int (1 : Int32))] [(.int (2 : Int32)), (.int (1 : Int32))])) _
    exact k
  obtain ⟨_, _, ⟨T7, L7, k7, n7⟩, -, X7, ⟨Lc7, hQ7, l7, y7, z7⟩, st7⟩ := Jvm.LawKit.callS X6 hx (y := (⟨"com/example/fsmconv/fsmconv/model/ExpressionLimitsOperatorPinLaw", "expect", "(I)Z"⟩ : MethodName)) hown (mvT hZ (hw _ (List.mem_of_getElem? (i := 16) rfl))) (mvT hZ (hw _ (List.mem_of_getElem? (i := 17) rfl))) (mvT hZ (hw _ (List.mem_of_getElem? (i := 18) rfl))) (mvT hZ (hw _ (List.mem_of_getElem? (i := 19) rfl))) (by decide) (backOf (W := 1) (rm4 l Z a0 hw [] (2 : Int32) T6.heap n0 Z6 (by decide)) hZ (hw _ (List.mem_of_getElem? (i := 19) rfl)) (hw _ (List.mem_of_getElem? (i := 18) rfl)) (by decide) (by decide)) (g := (mkF m 50 #[.val (.int p1), .val (.ref b2), .val (.int (p1 &&& (7 : Int32))), .val (.int (1 : Int32))] [(.int (2 : Int32)), (.int (1 : Int32))])) rfl (by rw [hml]; rfl) (argsL := [(.int (2 : Int32))]) (rest := [(.int (1 : Int32))]) (lenOf pd__I_Z rfl) rfl (by show 2 * 0 + _ ≤ _; exact Nat.le_of_eq rfl) (hb hby at_50) (fun _ _ => ⟨rfl, rfl, (by decide : 1 + 0 ≤ _), (by decide : 2 + 0 ≤ _)⟩)
  dsimp only [Pt.U, Pt.locs, Pt.cells, Pt.slots] at X7 l7 y7 z7 st7 hQ7
  subst l7 y7 z7
  obtain ⟨rfl, N7q, e7⟩ := hQ7
  have N7 := Fr.app N6 N7q
  rw [← e7] at F6 E6 Z6
  have r7 : ∀ t, Steps p.tables e below (T7.setTop (mkF m 53 #[.val (.int p1), .val (.ref b2), .val (.int (p1 &&& (7 : Int32))), .val (.int (1 : Int32))] [(.int (1 : Int32)), (.int (1 : Int32))])) t → Steps p.tables e below (s₁.setTop (mkF m 0 #[.val (.int p1), .unset, .unset, .unset] [])) t := fun t k => r6 t (s6 t (st7 _  k))
  have s7 : ∀ t, Steps p.tables e below (T7.setTop (mkF m 62 #[.val (.int p1), .val (.ref b2), .val (.int (p1 &&& (7 : Int32))), .val (.int (1 : Int32))] [])) t → Steps p.tables e below (T7.setTop (mkF m 53 #[.val (.int p1), .val (.ref b2), .val (.int (p1 &&& (7 : Int32))), .val (.int (1 : Int32))] [(.int (1 : Int32)), (.int (1 : Int32))])) t := by
    intro t k
    show Steps p.tables e below (T7.setTop (mkF m 53 #[.val (.int p1), .val (.ref b2), .val (.int (p1 &&& (7 : Int32))), .val (.int (1 : Int32))] [(.int (1 : Int32)), (.int (1 : Int32))])) _
    refine XS.icmpNo X7.here hx rfl (hb hby at_53) rfl (XT.ii_ne_f (rfl : (1 : Int32) = (1 : Int32))) ?_
    show Steps p.tables e below (T7.setTop (mkF m 56 #[.val (.int p1), .val (.ref b2), .val (.int (p1 &&& (7 : Int32))), .val (.int (1 : Int32))] [])) _
    refine XS.iconst X7.here hx rfl (hb hby at_56) ?_
    show Steps p.tables e below (T7.setTop (mkF m 57 #[.val (.int p1), .val (.ref b2), .val (.int (p1 &&& (7 : Int32))), .val (.int (1 : Int32))] [(.int (1 : Int32))])) _
    refine XS.goto X7.here hx rfl (pc0 := 57) (pc' := 61) rfl (hb hby at_57) (by decide) (by decide) ?_
    show Steps p.tables e below (T7.setTop (mkF m 61 #[.val (.int p1), .val (.ref b2), .val (.int (p1 &&& (7 : Int32))), .val (.int (1 : Int32))] [(.int (1 : Int32))])) _
    refine XS.istoreN X7.here hx rfl (hb hby at_61) rfl (l' := #[.val (.int p1), .val (.ref b2), .val (.int (p1 &&& (7 : Int32))), .val (.int (1 : Int32))]) rfl ?_
    show Steps p.tables e below (T7.setTop (mkF m 62 #[.val (.int p1), .val (.ref b2), .val (.int (p1 &&& (7 : Int32))), .val (.int (1 : Int32))] [])) _
    exact k
  by_cases hn2 : (p1 &&& (7 : Int32)) < (2 : Int32)
  · obtain ⟨fs, hr, hrun, hended, hW, hsame⟩ := X7.leave (v := some (.int (1 : Int32))) (fun h => by rw [Bd.returns] at h; cases h)
    refine ⟨_, _, pre0 _ (r7 _ (s7 _ (own_sk2 X7 hx hby p1 b2 hn2 _ ?_))), hrun, hended, _, _, rfl, ?_, ⟨_, rfl⟩, hW, hsame.mono (by decide) (by decide)⟩
    · show Steps p.tables e below (T7.setTop (mkF m 223 #[.val (.int p1), .val (.ref b2), .val (.int (p1 &&& (7 : Int32))), .val (.int (1 : Int32))] [])) _
      refine XS.iloadN X7.here hx rfl (hb hby at_223) rfl ?_
      show Steps p.tables e below (T7.setTop (mkF m 224 #[.val (.int p1), .val (.ref b2), .val (.int (p1 &&& (7 : Int32))), .val (.int (1 : Int32))] [(.int (1 : Int32))])) _
      exact retN X7 hx (t := .boolean) Bd.returns (by simp) (hb hby at_224) hr
    · exact ⟨rfl, N7⟩
  have r7_ := fun t k => r7 t (s7 t k)
  have s7_ : ∀ t, Steps p.tables e below (T7.setTop (mkF m 72 #[.val (.int p1), .val (.ref b2), .val (.int (p1 &&& (7 : Int32))), .val (.int (1 : Int32))] [(.ref b2)])) t → Steps p.tables e below (T7.setTop (mkF m 62 #[.val (.int p1), .val (.ref b2), .val (.int (p1 &&& (7 : Int32))), .val (.int (1 : Int32))] [])) t := by
    intro t k
    show Steps p.tables e below (T7.setTop (mkF m 62 #[.val (.int p1), .val (.ref b2), .val (.int (p1 &&& (7 : Int32))), .val (.int (1 : Int32))] [])) _
    refine XS.iloadN X7.here hx rfl (hb hby at_62) rfl ?_
    show Steps p.tables e below (T7.setTop (mkF m 63 #[.val (.int p1), .val (.ref b2), .val (.int (p1 &&& (7 : Int32))), .val (.int (1 : Int32))] [(.int (p1 &&& (7 : Int32)))])) _
    refine XS.iconst X7.here hx rfl (hb hby at_63) ?_
    show Steps p.tables e below (T7.setTop (mkF m 64 #[.val (.int p1), .val (.ref b2), .val (.int (p1 &&& (7 : Int32))), .val (.int (1 : Int32))] [(.int (2 : Int32)), (.int (p1 &&& (7 : Int32)))])) _
    refine XS.icmpNo X7.here hx rfl (hb hby at_64) rfl (XT.ii_lt_f hn2) ?_
    show Steps p.tables e below (T7.setTop (mkF m 67 #[.val (.int p1), .val (.ref b2), .val (.int (p1 &&& (7 : Int32))), .val (.int (1 : Int32))] [])) _
    refine XS.iloadN X7.here hx rfl (hb hby at_67) rfl ?_
    show Steps p.tables e below (T7.setTop (mkF m 68 #[.val (.int p1), .val (.ref b2), .val (.int (p1 &&& (7 : Int32))), .val (.int (1 : Int32))] [(.int (1 : Int32))])) _
    refine XS.ifNo X7.here hx rfl (hb hby at_68) rfl (XT.i0_eq_f (by decide)) ?_
    show Steps p.tables e below (T7.setTop (mkF m 71 #[.val (.int p1), .val (.ref b2), .val (.int (p1 &&& (7 : Int32))), .val (.int (1 : Int32))] [])) _
    refine XS.aloadN X7.here hx rfl (hb hby at_71) rfl rfl ?_
    show Steps p.tables e below (T7.setTop (mkF m 72 #[.val (.int p1), .val (.ref b2), .val (.int (p1 &&& (7 : Int32))), .val (.int (1 : Int32))] [(.ref b2)])) _
    exact k
  obtain ⟨cq8, kq8, q8a, q8b, q8c⟩ := isOf hZ rfl E6
  obtain ⟨_, _, ⟨T8, L8, k8, n8⟩, -, X8, ⟨Lc8, hQ8, l8, y8, z8⟩, st8⟩ := X7.virtualBack hx (y := (⟨"com/example/fsmconv/fsmconv/model/ExpressionLimits", "operator", "()Z"⟩ : MethodName)) (z := (⟨"com/example/fsmconv/fsmconv/model/ExpressionLimits", "operator", "()Z"⟩ : MethodName)) hown (mvT hZ (hw _ (List.mem_of_getElem? (i := 9) rfl))) (mvT hZ (hw _ (List.mem_of_getElem? (i := 10) rfl))) (notFace_of_selects (args := #[]) (mvT hZ (hw _ (List.mem_of_getElem? (i := 12) rfl)))) (mvT hZ (hw _ (List.mem_of_getElem? (i := 12) rfl))) (mvT hZ (hw _ (List.mem_of_getElem? (i := 11) rfl))) (by decide) (backOf (W := 0) (rm3 l Z a0 hw [] b2 (((0 : Int32) + (1 : Int32)) + (1 : Int32)) T7.heap n0 Z6 F6 E6 g_b2 (by decide)) hZ (hw _ (List.mem_of_getElem? (i := 13) rfl)) (hw _ (List.mem_of_getElem? (i := 2) rfl)) (by decide) (by decide)) q8a q8c (g := (mkF m 72 #[.val (.int p1), .val (.ref b2), .val (.int (p1 &&& (7 : Int32))), .val (.int (1 : Int32))] [(.ref b2)])) rfl (by rw [hml]; rfl) (Steps.refl _) (argsL := []) (rest := []) (lenOf pd___Z rfl) rfl (by show 2 * 0 + _ ≤ _; exact Nat.le_of_eq rfl) (hb hby at_72) (fun _ _ => ⟨rfl, rfl, (by decide : 1 + 0 ≤ _), (by decide : 2 + 0 ≤ _)⟩)
  dsimp only [Pt.U, Pt.locs, Pt.cells, Pt.slots] at X8 l8 y8 z8 st8 hQ8
  subst l8 y8 z8
  obtain ⟨rfl, N8q, K8, E8, F8⟩ := hQ8
  have N8 := Fr.app N7 N8q
  have Z8 : n0 ≤ T8.heap.size := Nat.le_trans Z6 K8.1
  have r8 : ∀ t, Steps p.tables e below (T8.setTop (mkF m 75 #[.val (.int p1), .val (.ref b2), .val (.int (p1 &&& (7 : Int32))), .val (.int (1 : Int32))] [(.int (1 : Int32))])) t → Steps p.tables e below (s₁.setTop (mkF m 0 #[.val (.int p1), .unset, .unset, .unset] [])) t := fun t k => r7_ t (s7_ t (st8.trans  k))
  have s8 : ∀ t, Steps p.tables e below (T8.setTop (mkF m 76 #[.val (.int p1), .val (.ref b2), .val (.int (p1 &&& (7 : Int32))), .val (.int (1 : Int32))] [(.int (3 : Int32)), (.int (1 : Int32))])) t → Steps p.tables e below (T8.setTop (mkF m 75 #[.val (.int p1), .val (.ref b2), .val (.int (p1 &&& (7 : Int32))), .val (.int (1 : Int32))] [(.int (1 : Int32))])) t := by
    intro t k
    show Steps p.tables e below (T8.setTop (mkF m 75 #[.val (.int p1), .val (.ref b2), .val (.int (p1 &&& (7 : Int32))), .val (.int (1 : Int32))] [(.int (1 : Int32))])) _
    refine XS.iconst X8.here hx rfl (hb hby at_75) ?_
    show Steps p.tables e below (T8.setTop (mkF m 76 #[.val (.int p1), .val (.ref b2), .val (.int (p1 &&& (7 : Int32))), .val (.int (1 : Int32))] [(.int (3 : Int32)), (.int (1 : Int32))])) _
    exact k
  obtain ⟨_, _, ⟨T9, L9, k9, n9⟩, -, X9, ⟨Lc9, hQ9, l9, y9, z9⟩, st9⟩ := Jvm.LawKit.callS X8 hx (y := (⟨"com/example/fsmconv/fsmconv/model/ExpressionLimitsOperatorPinLaw", "expect", "(I)Z"⟩ : MethodName)) hown (mvT hZ (hw _ (List.mem_of_getElem? (i := 16) rfl))) (mvT hZ (hw _ (List.mem_of_getElem? (i := 17) rfl))) (mvT hZ (hw _ (List.mem_of_getElem? (i := 18) rfl))) (mvT hZ (hw _ (List.mem_of_getElem? (i := 19) rfl))) (by decide) (backOf (W := 1) (rm4 l Z a0 hw [] (3 : Int32) T8.heap n0 Z8 (by decide)) hZ (hw _ (List.mem_of_getElem? (i := 19) rfl)) (hw _ (List.mem_of_getElem? (i := 18) rfl)) (by decide) (by decide)) (g := (mkF m 76 #[.val (.int p1), .val (.ref b2), .val (.int (p1 &&& (7 : Int32))), .val (.int (1 : Int32))] [(.int (3 : Int32)), (.int (1 : Int32))])) rfl (by rw [hml]; rfl) (argsL := [(.int (3 : Int32))]) (rest := [(.int (1 : Int32))]) (lenOf pd__I_Z rfl) rfl (by show 2 * 0 + _ ≤ _; exact Nat.le_of_eq rfl) (hb hby at_76) (fun _ _ => ⟨rfl, rfl, (by decide : 1 + 0 ≤ _), (by decide : 2 + 0 ≤ _)⟩)
  dsimp only [Pt.U, Pt.locs, Pt.cells, Pt.slots] at X9 l9 y9 z9 st9 hQ9
  subst l9 y9 z9
  obtain ⟨rfl, N9q, e9⟩ := hQ9
  have N9 := Fr.app N8 N9q
  rw [← e9] at F8 E8 Z8
  have r9 : ∀ t, Steps p.tables e below (T9.setTop (mkF m 79 #[.val (.int p1), .val (.ref b2), .val (.int (p1 &&& (7 : Int32))), .val (.int (1 : Int32))] [(.int (1 : Int32)), (.int (1 : Int32))])) t → Steps p.tables e below (s₁.setTop (mkF m 0 #[.val (.int p1), .unset, .unset, .unset] [])) t := fun t k => r8 t (s8 t (st9 _  k))
  have s9 : ∀ t, Steps p.tables e below (T9.setTop (mkF m 88 #[.val (.int p1), .val (.ref b2), .val (.int (p1 &&& (7 : Int32))), .val (.int (1 : Int32))] [])) t → Steps p.tables e below (T9.setTop (mkF m 79 #[.val (.int p1), .val (.ref b2), .val (.int (p1 &&& (7 : Int32))), .val (.int (1 : Int32))] [(.int (1 : Int32)), (.int (1 : Int32))])) t := by
    intro t k
    show Steps p.tables e below (T9.setTop (mkF m 79 #[.val (.int p1), .val (.ref b2), .val (.int (p1 &&& (7 : Int32))), .val (.int (1 : Int32))] [(.int (1 : Int32)), (.int (1 : Int32))])) _
    refine XS.icmpNo X9.here hx rfl (hb hby at_79) rfl (XT.ii_ne_f (rfl : (1 : Int32) = (1 : Int32))) ?_
    show Steps p.tables e below (T9.setTop (mkF m 82 #[.val (.int p1), .val (.ref b2), .val (.int (p1 &&& (7 : Int32))), .val (.int (1 : Int32))] [])) _
    refine XS.iconst X9.here hx rfl (hb hby at_82) ?_
    show Steps p.tables e below (T9.setTop (mkF m 83 #[.val (.int p1), .val (.ref b2), .val (.int (p1 &&& (7 : Int32))), .val (.int (1 : Int32))] [(.int (1 : Int32))])) _
    refine XS.goto X9.here hx rfl (pc0 := 83) (pc' := 87) rfl (hb hby at_83) (by decide) (by decide) ?_
    show Steps p.tables e below (T9.setTop (mkF m 87 #[.val (.int p1), .val (.ref b2), .val (.int (p1 &&& (7 : Int32))), .val (.int (1 : Int32))] [(.int (1 : Int32))])) _
    refine XS.istoreN X9.here hx rfl (hb hby at_87) rfl (l' := #[.val (.int p1), .val (.ref b2), .val (.int (p1 &&& (7 : Int32))), .val (.int (1 : Int32))]) rfl ?_
    show Steps p.tables e below (T9.setTop (mkF m 88 #[.val (.int p1), .val (.ref b2), .val (.int (p1 &&& (7 : Int32))), .val (.int (1 : Int32))] [])) _
    exact k
  by_cases hn3 : (p1 &&& (7 : Int32)) < (3 : Int32)
  · obtain ⟨fs, hr, hrun, hended, hW, hsame⟩ := X9.leave (v := some (.int (1 : Int32))) (fun h => by rw [Bd.returns] at h; cases h)
    refine ⟨_, _, pre0 _ (r9 _ (s9 _ (own_sk3 X9 hx hby p1 b2 hn3 _ ?_))), hrun, hended, _, _, rfl, ?_, ⟨_, rfl⟩, hW, hsame.mono (by decide) (by decide)⟩
    · show Steps p.tables e below (T9.setTop (mkF m 223 #[.val (.int p1), .val (.ref b2), .val (.int (p1 &&& (7 : Int32))), .val (.int (1 : Int32))] [])) _
      refine XS.iloadN X9.here hx rfl (hb hby at_223) rfl ?_
      show Steps p.tables e below (T9.setTop (mkF m 224 #[.val (.int p1), .val (.ref b2), .val (.int (p1 &&& (7 : Int32))), .val (.int (1 : Int32))] [(.int (1 : Int32))])) _
      exact retN X9 hx (t := .boolean) Bd.returns (by simp) (hb hby at_224) hr
    · exact ⟨rfl, N9⟩
  have r9_ := fun t k => r9 t (s9 t k)
  have s9_ : ∀ t, Steps p.tables e below (T9.setTop (mkF m 98 #[.val (.int p1), .val (.ref b2), .val (.int (p1 &&& (7 : Int32))), .val (.int (1 : Int32))] [(.ref b2)])) t → Steps p.tables e below (T9.setTop (mkF m 88 #[.val (.int p1), .val (.ref b2), .val (.int (p1 &&& (7 : Int32))), .val (.int (1 : Int32))] [])) t := by
    intro t k
    show Steps p.tables e below (T9.setTop (mkF m 88 #[.val (.int p1), .val (.ref b2), .val (.int (p1 &&& (7 : Int32))), .val (.int (1 : Int32))] [])) _
    refine XS.iloadN X9.here hx rfl (hb hby at_88) rfl ?_
    show Steps p.tables e below (T9.setTop (mkF m 89 #[.val (.int p1), .val (.ref b2), .val (.int (p1 &&& (7 : Int32))), .val (.int (1 : Int32))] [(.int (p1 &&& (7 : Int32)))])) _
    refine XS.iconst X9.here hx rfl (hb hby at_89) ?_
    show Steps p.tables e below (T9.setTop (mkF m 90 #[.val (.int p1), .val (.ref b2), .val (.int (p1 &&& (7 : Int32))), .val (.int (1 : Int32))] [(.int (3 : Int32)), (.int (p1 &&& (7 : Int32)))])) _
    refine XS.icmpNo X9.here hx rfl (hb hby at_90) rfl (XT.ii_lt_f hn3) ?_
    show Steps p.tables e below (T9.setTop (mkF m 93 #[.val (.int p1), .val (.ref b2), .val (.int (p1 &&& (7 : Int32))), .val (.int (1 : Int32))] [])) _
    refine XS.iloadN X9.here hx rfl (hb hby at_93) rfl ?_
    show Steps p.tables e below (T9.setTop (mkF m 94 #[.val (.int p1), .val (.ref b2), .val (.int (p1 &&& (7 : Int32))), .val (.int (1 : Int32))] [(.int (1 : Int32))])) _
    refine XS.ifNo X9.here hx rfl (hb hby at_94) rfl (XT.i0_eq_f (by decide)) ?_
    show Steps p.tables e below (T9.setTop (mkF m 97 #[.val (.int p1), .val (.ref b2), .val (.int (p1 &&& (7 : Int32))), .val (.int (1 : Int32))] [])) _
    refine XS.aloadN X9.here hx rfl (hb hby at_97) rfl rfl ?_
    show Steps p.tables e below (T9.setTop (mkF m 98 #[.val (.int p1), .val (.ref b2), .val (.int (p1 &&& (7 : Int32))), .val (.int (1 : Int32))] [(.ref b2)])) _
    exact k
  obtain ⟨cq10, kq10, q10a, q10b, q10c⟩ := isOf hZ rfl E8
  obtain ⟨_, _, ⟨T10, L10, k10, n10⟩, -, X10, ⟨Lc10, hQ10, l10, y10, z10⟩, st10⟩ := X9.virtualBack hx (y := (⟨"com/example/fsmconv/fsmconv/model/ExpressionLimits", "operator", "()Z"⟩ : MethodName)) (z := (⟨"com/example/fsmconv/fsmconv/model/ExpressionLimits", "operator", "()Z"⟩ : MethodName)) hown (mvT hZ (hw _ (List.mem_of_getElem? (i := 9) rfl))) (mvT hZ (hw _ (List.mem_of_getElem? (i := 10) rfl))) (notFace_of_selects (args := #[]) (mvT hZ (hw _ (List.mem_of_getElem? (i := 12) rfl)))) (mvT hZ (hw _ (List.mem_of_getElem? (i := 12) rfl))) (mvT hZ (hw _ (List.mem_of_getElem? (i := 11) rfl))) (by decide) (backOf (W := 0) (rm3 l Z a0 hw [] b2 ((((0 : Int32) + (1 : Int32)) + (1 : Int32)) + (1 : Int32)) T9.heap n0 Z8 F8 E8 g_b2 (by decide)) hZ (hw _ (List.mem_of_getElem? (i := 13) rfl)) (hw _ (List.mem_of_getElem? (i := 2) rfl)) (by decide) (by decide)) q10a q10c (g := (mkF m 98 #[.val (.int p1), .val (.ref b2), .val (.int (p1 &&& (7 : Int32))), .val (.int (1 : Int32))] [(.ref b2)])) rfl (by rw [hml]; rfl) (Steps.refl _) (argsL := []) (rest := []) (lenOf pd___Z rfl) rfl (by show 2 * 0 + _ ≤ _; exact Nat.le_of_eq rfl) (hb hby at_98) (fun _ _ => ⟨rfl, rfl, (by decide : 1 + 0 ≤ _), (by decide : 2 + 0 ≤ _)⟩)
  dsimp only [Pt.U, Pt.locs, Pt.cells, Pt.slots] at X10 l10 y10 z10 st10 hQ10
  subst l10 y10 z10
  obtain ⟨rfl, N10q, K10, E10, F10⟩ := hQ10
  have N10 := Fr.app N9 N10q
  have Z10 : n0 ≤ T10.heap.size := Nat.le_trans Z8 K10.1
  have r10 : ∀ t, Steps p.tables e below (T10.setTop (mkF m 101 #[.val (.int p1), .val (.ref b2), .val (.int (p1 &&& (7 : Int32))), .val (.int (1 : Int32))] [(.int (1 : Int32))])) t → Steps p.tables e below (s₁.setTop (mkF m 0 #[.val (.int p1), .unset, .unset, .unset] [])) t := fun t k => r9_ t (s9_ t (st10.trans  k))
  have s10 : ∀ t, Steps p.tables e below (T10.setTop (mkF m 102 #[.val (.int p1), .val (.ref b2), .val (.int (p1 &&& (7 : Int32))), .val (.int (1 : Int32))] [(.int (4 : Int32)), (.int (1 : Int32))])) t → Steps p.tables e below (T10.setTop (mkF m 101 #[.val (.int p1), .val (.ref b2), .val (.int (p1 &&& (7 : Int32))), .val (.int (1 : Int32))] [(.int (1 : Int32))])) t := by
    intro t k
    show Steps p.tables e below (T10.setTop (mkF m 101 #[.val (.int p1), .val (.ref b2), .val (.int (p1 &&& (7 : Int32))), .val (.int (1 : Int32))] [(.int (1 : Int32))])) _
    refine XS.iconst X10.here hx rfl (hb hby at_101) ?_
    show Steps p.tables e below (T10.setTop (mkF m 102 #[.val (.int p1), .val (.ref b2), .val (.int (p1 &&& (7 : Int32))), .val (.int (1 : Int32))] [(.int (4 : Int32)), (.int (1 : Int32))])) _
    exact k
  obtain ⟨_, _, ⟨T11, L11, k11, n11⟩, -, X11, ⟨Lc11, hQ11, l11, y11, z11⟩, st11⟩ := Jvm.LawKit.callS X10 hx (y := (⟨"com/example/fsmconv/fsmconv/model/ExpressionLimitsOperatorPinLaw", "expect", "(I)Z"⟩ : MethodName)) hown (mvT hZ (hw _ (List.mem_of_getElem? (i := 16) rfl))) (mvT hZ (hw _ (List.mem_of_getElem? (i := 17) rfl))) (mvT hZ (hw _ (List.mem_of_getElem? (i := 18) rfl))) (mvT hZ (hw _ (List.mem_of_getElem? (i := 19) rfl))) (by decide) (backOf (W := 1) (rm4 l Z a0 hw [] (4 : Int32) T10.heap n0 Z10 (by decide)) hZ (hw _ (List.mem_of_getElem? (i := 19) rfl)) (hw _ (List.mem_of_getElem? (i := 18) rfl)) (by decide) (by decide)) (g := (mkF m 102 #[.val (.int p1), .val (.ref b2), .val (.int (p1 &&& (7 : Int32))), .val (.int (1 : Int32))] [(.int (4 : Int32)), (.int (1 : Int32))])) rfl (by rw [hml]; rfl) (argsL := [(.int (4 : Int32))]) (rest := [(.int (1 : Int32))]) (lenOf pd__I_Z rfl) rfl (by show 2 * 0 + _ ≤ _; exact Nat.le_of_eq rfl) (hb hby at_102) (fun _ _ => ⟨rfl, rfl, (by decide : 1 + 0 ≤ _), (by decide : 2 + 0 ≤ _)⟩)
  dsimp only [Pt.U, Pt.locs, Pt.cells, Pt.slots] at X11 l11 y11 z11 st11 hQ11
  subst l11 y11 z11
  obtain ⟨rfl, N11q, e11⟩ := hQ11
  have N11 := Fr.app N10 N11q
  rw [← e11] at F10 E10 Z10
  have r11 : ∀ t, Steps p.tables e below (T11.setTop (mkF m 105 #[.val (.int p1), .val (.ref b2), .val (.int (p1 &&& (7 : Int32))), .val (.int (1 : Int32))] [(.int (1 : Int32)), (.int (1 : Int32))])) t → Steps p.tables e below (s₁.setTop (mkF m 0 #[.val (.int p1), .unset, .unset, .unset] [])) t := fun t k => r10 t (s10 t (st11 _  k))
  have s11 : ∀ t, Steps p.tables e below (T11.setTop (mkF m 114 #[.val (.int p1), .val (.ref b2), .val (.int (p1 &&& (7 : Int32))), .val (.int (1 : Int32))] [])) t → Steps p.tables e below (T11.setTop (mkF m 105 #[.val (.int p1), .val (.ref b2), .val (.int (p1 &&& (7 : Int32))), .val (.int (1 : Int32))] [(.int (1 : Int32)), (.int (1 : Int32))])) t := by
    intro t k
    show Steps p.tables e below (T11.setTop (mkF m 105 #[.val (.int p1), .val (.ref b2), .val (.int (p1 &&& (7 : Int32))), .val (.int (1 : Int32))] [(.int (1 : Int32)), (.int (1 : Int32))])) _
    refine XS.icmpNo X11.here hx rfl (hb hby at_105) rfl (XT.ii_ne_f (rfl : (1 : Int32) = (1 : Int32))) ?_
    show Steps p.tables e below (T11.setTop (mkF m 108 #[.val (.int p1), .val (.ref b2), .val (.int (p1 &&& (7 : Int32))), .val (.int (1 : Int32))] [])) _
    refine XS.iconst X11.here hx rfl (hb hby at_108) ?_
    show Steps p.tables e below (T11.setTop (mkF m 109 #[.val (.int p1), .val (.ref b2), .val (.int (p1 &&& (7 : Int32))), .val (.int (1 : Int32))] [(.int (1 : Int32))])) _
    refine XS.goto X11.here hx rfl (pc0 := 109) (pc' := 113) rfl (hb hby at_109) (by decide) (by decide) ?_
    show Steps p.tables e below (T11.setTop (mkF m 113 #[.val (.int p1), .val (.ref b2), .val (.int (p1 &&& (7 : Int32))), .val (.int (1 : Int32))] [(.int (1 : Int32))])) _
    refine XS.istoreN X11.here hx rfl (hb hby at_113) rfl (l' := #[.val (.int p1), .val (.ref b2), .val (.int (p1 &&& (7 : Int32))), .val (.int (1 : Int32))]) rfl ?_
    show Steps p.tables e below (T11.setTop (mkF m 114 #[.val (.int p1), .val (.ref b2), .val (.int (p1 &&& (7 : Int32))), .val (.int (1 : Int32))] [])) _
    exact k
  by_cases hn4 : (p1 &&& (7 : Int32)) < (4 : Int32)
  · obtain ⟨fs, hr, hrun, hended, hW, hsame⟩ := X11.leave (v := some (.int (1 : Int32))) (fun h => by rw [Bd.returns] at h; cases h)
    refine ⟨_, _, pre0 _ (r11 _ (s11 _ (own_sk4 X11 hx hby p1 b2 hn4 _ ?_))), hrun, hended, _, _, rfl, ?_, ⟨_, rfl⟩, hW, hsame.mono (by decide) (by decide)⟩
    · show Steps p.tables e below (T11.setTop (mkF m 223 #[.val (.int p1), .val (.ref b2), .val (.int (p1 &&& (7 : Int32))), .val (.int (1 : Int32))] [])) _
      refine XS.iloadN X11.here hx rfl (hb hby at_223) rfl ?_
      show Steps p.tables e below (T11.setTop (mkF m 224 #[.val (.int p1), .val (.ref b2), .val (.int (p1 &&& (7 : Int32))), .val (.int (1 : Int32))] [(.int (1 : Int32))])) _
      exact retN X11 hx (t := .boolean) Bd.returns (by simp) (hb hby at_224) hr
    · exact ⟨rfl, N11⟩
  have r11_ := fun t k => r11 t (s11 t k)
  have s11_ : ∀ t, Steps p.tables e below (T11.setTop (mkF m 124 #[.val (.int p1), .val (.ref b2), .val (.int (p1 &&& (7 : Int32))), .val (.int (1 : Int32))] [(.ref b2)])) t → Steps p.tables e below (T11.setTop (mkF m 114 #[.val (.int p1), .val (.ref b2), .val (.int (p1 &&& (7 : Int32))), .val (.int (1 : Int32))] [])) t := by
    intro t k
    show Steps p.tables e below (T11.setTop (mkF m 114 #[.val (.int p1), .val (.ref b2), .val (.int (p1 &&& (7 : Int32))), .val (.int (1 : Int32))] [])) _
    refine XS.iloadN X11.here hx rfl (hb hby at_114) rfl ?_
    show Steps p.tables e below (T11.setTop (mkF m 115 #[.val (.int p1), .val (.ref b2), .val (.int (p1 &&& (7 : Int32))), .val (.int (1 : Int32))] [(.int (p1 &&& (7 : Int32)))])) _
    refine XS.iconst X11.here hx rfl (hb hby at_115) ?_
    show Steps p.tables e below (T11.setTop (mkF m 116 #[.val (.int p1), .val (.ref b2), .val (.int (p1 &&& (7 : Int32))), .val (.int (1 : Int32))] [(.int (4 : Int32)), (.int (p1 &&& (7 : Int32)))])) _
    refine XS.icmpNo X11.here hx rfl (hb hby at_116) rfl (XT.ii_lt_f hn4) ?_
    show Steps p.tables e below (T11.setTop (mkF m 119 #[.val (.int p1), .val (.ref b2), .val (.int (p1 &&& (7 : Int32))), .val (.int (1 : Int32))] [])) _
    refine XS.iloadN X11.here hx rfl (hb hby at_119) rfl ?_
    show Steps p.tables e below (T11.setTop (mkF m 120 #[.val (.int p1), .val (.ref b2), .val (.int (p1 &&& (7 : Int32))), .val (.int (1 : Int32))] [(.int (1 : Int32))])) _
    refine XS.ifNo X11.here hx rfl (hb hby at_120) rfl (XT.i0_eq_f (by decide)) ?_
    show Steps p.tables e below (T11.setTop (mkF m 123 #[.val (.int p1), .val (.ref b2), .val (.int (p1 &&& (7 : Int32))), .val (.int (1 : Int32))] [])) _
    refine XS.aloadN X11.here hx rfl (hb hby at_123) rfl rfl ?_
    show Steps p.tables e below (T11.setTop (mkF m 124 #[.val (.int p1), .val (.ref b2), .val (.int (p1 &&& (7 : Int32))), .val (.int (1 : Int32))] [(.ref b2)])) _
    exact k
  obtain ⟨cq12, kq12, q12a, q12b, q12c⟩ := isOf hZ rfl E10
  obtain ⟨_, _, ⟨T12, L12, k12, n12⟩, -, X12, ⟨Lc12, hQ12, l12, y12, z12⟩, st12⟩ := X11.virtualBack hx (y := (⟨"com/example/fsmconv/fsmconv/model/ExpressionLimits", "operator", "()Z"⟩ : MethodName)) (z := (⟨"com/example/fsmconv/fsmconv/model/ExpressionLimits", "operator", "()Z"⟩ : MethodName)) hown (mvT hZ (hw _ (List.mem_of_getElem? (i := 9) rfl))) (mvT hZ (hw _ (List.mem_of_getElem? (i := 10) rfl))) (notFace_of_selects (args := #[]) (mvT hZ (hw _ (List.mem_of_getElem? (i := 12) rfl)))) (mvT hZ (hw _ (List.mem_of_getElem? (i := 12) rfl))) (mvT hZ (hw _ (List.mem_of_getElem? (i := 11) rfl))) (by decide) (backOf (W := 0) (rm3 l Z a0 hw [] b2 (((((0 : Int32) + (1 : Int32)) + (1 : Int32)) + (1 : Int32)) + (1 : Int32)) T11.heap n0 Z10 F10 E10 g_b2 (by decide)) hZ (hw _ (List.mem_of_getElem? (i := 13) rfl)) (hw _ (List.mem_of_getElem? (i := 2) rfl)) (by decide) (by decide)) q12a q12c (g := (mkF m 124 #[.val (.int p1), .val (.ref b2), .val (.int (p1 &&& (7 : Int32))), .val (.int (1 : Int32))] [(.ref b2)])) rfl (by rw [hml]; rfl) (Steps.refl _) (argsL := []) (rest := []) (lenOf pd___Z rfl) rfl (by show 2 * 0 + _ ≤ _; exact Nat.le_of_eq rfl) (hb hby at_124) (fun _ _ => ⟨rfl, rfl, (by decide : 1 + 0 ≤ _), (by decide : 2 + 0 ≤ _)⟩)
  dsimp only [Pt.U, Pt.locs, Pt.cells, Pt.slots] at X12 l12 y12 z12 st12 hQ12
  subst l12 y12 z12
  obtain ⟨rfl, N12q, K12, E12, F12⟩ := hQ12
  have N12 := Fr.app N11 N12q
  have Z12 : n0 ≤ T12.heap.size := Nat.le_trans Z10 K12.1
  have r12 : ∀ t, Steps p.tables e below (T12.setTop (mkF m 127 #[.val (.int p1), .val (.ref b2), .val (.int (p1 &&& (7 : Int32))), .val (.int (1 : Int32))] [(.int (1 : Int32))])) t → Steps p.tables e below (s₁.setTop (mkF m 0 #[.val (.int p1), .unset, .unset, .unset] [])) t := fun t k => r11_ t (s11_ t (st12.trans  k))
  have s12 : ∀ t, Steps p.tables e below (T12.setTop (mkF m 128 #[.val (.int p1), .val (.ref b2), .val (.int (p1 &&& (7 : Int32))), .val (.int (1 : Int32))] [(.int (5 : Int32)), (.int (1 : Int32))])) t → Steps p.tables e below (T12.setTop (mkF m 127 #[.val (.int p1), .val (.ref b2), .val (.int (p1 &&& (7 : Int32))), .val (.int (1 : Int32))] [(.int (1 : Int32))])) t := by
    intro t k
    show Steps p.tables e below (T12.setTop (mkF m 127 #[.val (.int p1), .val (.ref b2), .val (.int (p1 &&& (7 : Int32))), .val (.int (1 : Int32))] [(.int (1 : Int32))])) _
    refine XS.iconst X12.here hx rfl (hb hby at_127) ?_
    show Steps p.tables e below (T12.setTop (mkF m 128 #[.val (.int p1), .val (.ref b2), .val (.int (p1 &&& (7 : Int32))), .val (.int (1 : Int32))] [(.int (5 : Int32)), (.int (1 : Int32))])) _
    exact k
  obtain ⟨_, _, ⟨T13, L13, k13, n13⟩, -, X13, ⟨Lc13, hQ13, l13, y13, z13⟩, st13⟩ := Jvm.LawKit.callS X12 hx (y := (⟨"com/example/fsmconv/fsmconv/model/ExpressionLimitsOperatorPinLaw", "expect", "(I)Z"⟩ : MethodName)) hown (mvT hZ (hw _ (List.mem_of_getElem? (i := 16) rfl))) (mvT hZ (hw _ (List.mem_of_getElem? (i := 17) rfl))) (mvT hZ (hw _ (List.mem_of_getElem? (i := 18) rfl))) (mvT hZ (hw _ (List.mem_of_getElem? (i := 19) rfl))) (by decide) (backOf (W := 1) (rm4 l Z a0 hw [] (5 : Int32) T12.heap n0 Z12 (by decide)) hZ (hw _ (List.mem_of_getElem? (i := 19) rfl)) (hw _ (List.mem_of_getElem? (i := 18) rfl)) (by decide) (by decide)) (g := (mkF m 128 #[.val (.int p1), .val (.ref b2), .val (.int (p1 &&& (7 : Int32))), .val (.int (1 : Int32))] [(.int (5 : Int32)), (.int (1 : Int32))])) rfl (by rw [hml]; rfl) (argsL := [(.int (5 : Int32))]) (rest := [(.int (1 : Int32))]) (lenOf pd__I_Z rfl) rfl (by show 2 * 0 + _ ≤ _; exact Nat.le_of_eq rfl) (hb hby at_128) (fun _ _ => ⟨rfl, rfl, (by decide : 1 + 0 ≤ _), (by decide : 2 + 0 ≤ _)⟩)
  dsimp only [Pt.U, Pt.locs, Pt.cells, Pt.slots] at X13 l13 y13 z13 st13 hQ13
  subst l13 y13 z13
  obtain ⟨rfl, N13q, e13⟩ := hQ13
  have N13 := Fr.app N12 N13q
  rw [← e13] at F12 E12 Z12
  have r13 : ∀ t, Steps p.tables e below (T13.setTop (mkF m 131 #[.val (.int p1), .val (.ref b2), .val (.int (p1 &&& (7 : Int32))), .val (.int (1 : Int32))] [(.int (1 : Int32)), (.int (1 : Int32))])) t → Steps p.tables e below (s₁.setTop (mkF m 0 #[.val (.int p1), .unset, .unset, .unset] [])) t := fun t k => r12 t (s12 t (st13 _  k))
  have s13 : ∀ t, Steps p.tables e below (T13.setTop (mkF m 140 #[.val (.int p1), .val (.ref b2), .val (.int (p1 &&& (7 : Int32))), .val (.int (1 : Int32))] [])) t → Steps p.tables e below (T13.setTop (mkF m 131 #[.val (.int p1), .val (.ref b2), .val (.int (p1 &&& (7 : Int32))), .val (.int (1 : Int32))] [(.int (1 : Int32)), (.int (1 : Int32))])) t := by
    intro t k
    show Steps p.tables e below (T13.setTop (mkF m 131 #[.val (.int p1), .val (.ref b2), .val (.int (p1 &&& (7 : Int32))), .val (.int (1 : Int32))] [(.int (1 : Int32)), (.int (1 : Int32))])) _
    refine XS.icmpNo X13.here hx rfl (hb hby at_131) rfl (XT.ii_ne_f (rfl : (1 : Int32) = (1 : Int32))) ?_
    show Steps p.tables e below (T13.setTop (mkF m 134 #[.val (.int p1), .val (.ref b2), .val (.int (p1 &&& (7 : Int32))), .val (.int (1 : Int32))] [])) _
    refine XS.iconst X13.here hx rfl (hb hby at_134) ?_
    show Steps p.tables e below (T13.setTop (mkF m 135 #[.val (.int p1), .val (.ref b2), .val (.int (p1 &&& (7 : Int32))), .val (.int (1 : Int32))] [(.int (1 : Int32))])) _
    refine XS.goto X13.here hx rfl (pc0 := 135) (pc' := 139) rfl (hb hby at_135) (by decide) (by decide) ?_
    show Steps p.tables e below (T13.setTop (mkF m 139 #[.val (.int p1), .val (.ref b2), .val (.int (p1 &&& (7 : Int32))), .val (.int (1 : Int32))] [(.int (1 : Int32))])) _
    refine XS.istoreN X13.here hx rfl (hb hby at_139) rfl (l' := #[.val (.int p1), .val (.ref b2), .val (.int (p1 &&& (7 : Int32))), .val (.int (1 : Int32))]) rfl ?_
    show Steps p.tables e below (T13.setTop (mkF m 140 #[.val (.int p1), .val (.ref b2), .val (.int (p1 &&& (7 : Int32))), .val (.int (1 : Int32))] [])) _
    exact k
  by_cases hn5 : (p1 &&& (7 : Int32)) < (5 : Int32)
  · obtain ⟨fs, hr, hrun, hended, hW, hsame⟩ := X13.leave (v := some (.int (1 : Int32))) (fun h => by rw [Bd.returns] at h; cases h)
    refine ⟨_, _, pre0 _ (r13 _ (s13 _ (own_sk5 X13 hx hby p1 b2 hn5 _ ?_))), hrun, hended, _, _, rfl, ?_, ⟨_, rfl⟩, hW, hsame.mono (by decide) (by decide)⟩
    · show Steps p.tables e below (T13.setTop (mkF m 223 #[.val (.int p1), .val (.ref b2), .val (.int (p1 &&& (7 : Int32))), .val (.int (1 : Int32))] [])) _
      refine XS.iloadN X13.here hx rfl (hb hby at_223) rfl ?_
      show Steps p.tables e below (T13.setTop (mkF m 224 #[.val (.int p1), .val (.ref b2), .val (.int (p1 &&& (7 : Int32))), .val (.int (1 : Int32))] [(.int (1 : Int32))])) _
      exact retN X13 hx (t := .boolean) Bd.returns (by simp) (hb hby at_224) hr
    · exact ⟨rfl, N13⟩
  have r13_ := fun t k => r13 t (s13 t k)
  have s13_ : ∀ t, Steps p.tables e below (T13.setTop (mkF m 150 #[.val (.int p1), .val (.ref b2), .val (.int (p1 &&& (7 : Int32))), .val (.int (1 : Int32))] [(.ref b2)])) t → Steps p.tables e below (T13.setTop (mkF m 140 #[.val (.int p1), .val (.ref b2), .val (.int (p1 &&& (7 : Int32))), .val (.int (1 : Int32))] [])) t := by
    intro t k
    show Steps p.tables e below (T13.setTop (mkF m 140 #[.val (.int p1), .val (.ref b2), .val (.int (p1 &&& (7 : Int32))), .val (.int (1 : Int32))] [])) _
    refine XS.iloadN X13.here hx rfl (hb hby at_140) rfl ?_
    show Steps p.tables e below (T13.setTop (mkF m 141 #[.val (.int p1), .val (.ref b2), .val (.int (p1 &&& (7 : Int32))), .val (.int (1 : Int32))] [(.int (p1 &&& (7 : Int32)))])) _
    refine XS.iconst X13.here hx rfl (hb hby at_141) ?_
    show Steps p.tables e below (T13.setTop (mkF m 142 #[.val (.int p1), .val (.ref b2), .val (.int (p1 &&& (7 : Int32))), .val (.int (1 : Int32))] [(.int (5 : Int32)), (.int (p1 &&& (7 : Int32)))])) _
    refine XS.icmpNo X13.here hx rfl (hb hby at_142) rfl (XT.ii_lt_f hn5) ?_
    show Steps p.tables e below (T13.setTop (mkF m 145 #[.val (.int p1), .val (.ref b2), .val (.int (p1 &&& (7 : Int32))), .val (.int (1 : Int32))] [])) _
    refine XS.iloadN X13.here hx rfl (hb hby at_145) rfl ?_
    show Steps p.tables e below (T13.setTop (mkF m 146 #[.val (.int p1), .val (.ref b2), .val (.int (p1 &&& (7 : Int32))), .val (.int (1 : Int32))] [(.int (1 : Int32))])) _
    refine XS.ifNo X13.here hx rfl (hb hby at_146) rfl (XT.i0_eq_f (by decide)) ?_
    show Steps p.tables e below (T13.setTop (mkF m 149 #[.val (.int p1), .val (.ref b2), .val (.int (p1 &&& (7 : Int32))), .val (.int (1 : Int32))] [])) _
    refine XS.aloadN X13.here hx rfl (hb hby at_149) rfl rfl ?_
    show Steps p.tables e below (T13.setTop (mkF m 150 #[.val (.int p1), .val (.ref b2), .val (.int (p1 &&& (7 : Int32))), .val (.int (1 : Int32))] [(.ref b2)])) _
    exact k
  obtain ⟨cq14, kq14, q14a, q14b, q14c⟩ := isOf hZ rfl E12
  obtain ⟨_, _, ⟨T14, L14, k14, n14⟩, -, X14, ⟨Lc14, hQ14, l14, y14, z14⟩, st14⟩ := X13.virtualBack hx (y := (⟨"com/example/fsmconv/fsmconv/model/ExpressionLimits", "operator", "()Z"⟩ : MethodName)) (z := (⟨"com/example/fsmconv/fsmconv/model/ExpressionLimits", "operator", "()Z"⟩ : MethodName)) hown (mvT hZ (hw _ (List.mem_of_getElem? (i := 9) rfl))) (mvT hZ (hw _ (List.mem_of_getElem? (i := 10) rfl))) (notFace_of_selects (args := #[]) (mvT hZ (hw _ (List.mem_of_getElem? (i := 12) rfl)))) (mvT hZ (hw _ (List.mem_of_getElem? (i := 12) rfl))) (mvT hZ (hw _ (List.mem_of_getElem? (i := 11) rfl))) (by decide) (backOf (W := 0) (rm3 l Z a0 hw [] b2 ((((((0 : Int32) + (1 : Int32)) + (1 : Int32)) + (1 : Int32)) + (1 : Int32)) + (1 : Int32)) T13.heap n0 Z12 F12 E12 g_b2 (by decide)) hZ (hw _ (List.mem_of_getElem? (i := 13) rfl)) (hw _ (List.mem_of_getElem? (i := 2) rfl)) (by decide) (by decide)) q14a q14c (g := (mkF m 150 #[.val (.int p1), .val (.ref b2), .val (.int (p1 &&& (7 : Int32))), .val (.int (1 : Int32))] [(.ref b2)])) rfl (by rw [hml]; rfl) (Steps.refl _) (argsL := []) (rest := []) (lenOf pd___Z rfl) rfl (by show 2 * 0 + _ ≤ _; exact Nat.le_of_eq rfl) (hb hby at_150) (fun _ _ => ⟨rfl, rfl, (by decide : 1 + 0 ≤ _), (by decide : 2 + 0 ≤ _)⟩)
  dsimp only [Pt.U, Pt.locs, Pt.cells, Pt.slots] at X14 l14 y14 z14 st14 hQ14
  subst l14 y14 z14
  obtain ⟨rfl, N14q, K14, E14, F14⟩ := hQ14
  have N14 := Fr.app N13 N14q
  have Z14 : n0 ≤ T14.heap.size := Nat.le_trans Z12 K14.1
  have r14 : ∀ t, Steps p.tables e below (T14.setTop (mkF m 153 #[.val (.int p1), .val (.ref b2), .val (.int (p1 &&& (7 : Int32))), .val (.int (1 : Int32))] [(.int (1 : Int32))])) t → Steps p.tables e below (s₁.setTop (mkF m 0 #[.val (.int p1), .unset, .unset, .unset] [])) t := fun t k => r13_ t (s13_ t (st14.trans  k))
  have s14 : ∀ t, Steps p.tables e below (T14.setTop (mkF m 155 #[.val (.int p1), .val (.ref b2), .val (.int (p1 &&& (7 : Int32))), .val (.int (1 : Int32))] [(.int (6 : Int32)), (.int (1 : Int32))])) t → Steps p.tables e below (T14.setTop (mkF m 153 #[.val (.int p1), .val (.ref b2), .val (.int (p1 &&& (7 : Int32))), .val (.int (1 : Int32))] [(.int (1 : Int32))])) t := by
    intro t k
    show Steps p.tables e below (T14.setTop (mkF m 153 #[.val (.int p1), .val (.ref b2), .val (.int (p1 &&& (7 : Int32))), .val (.int (1 : Int32))] [(.int (1 : Int32))])) _
    refine XS.bipush X14.here hx rfl (hb hby at_153) ?_
    show Steps p.tables e below (T14.setTop (mkF m 155 #[.val (.int p1), .val (.ref b2), .val (.int (p1 &&& (7 : Int32))), .val (.int (1 : Int32))] [(.int (6 : Int32)), (.int (1 : Int32))])) _
    exact k
  obtain ⟨_, _, ⟨T15, L15, k15, n15⟩, -, X15, ⟨Lc15, hQ15, l15, y15, z15⟩, st15⟩ := Jvm.LawKit.callS X14 hx (y := (⟨"com/example/fsmconv/fsmconv/model/ExpressionLimitsOperatorPinLaw", "expect", "(I)Z"⟩ : MethodName)) hown (mvT hZ (hw _ (List.mem_of_getElem? (i := 16) rfl))) (mvT hZ (hw _ (List.mem_of_getElem? (i := 17) rfl))) (mvT hZ (hw _ (List.mem_of_getElem? (i := 18) rfl))) (mvT hZ (hw _ (List.mem_of_getElem? (i := 19) rfl))) (by decide) (backOf (W := 1) (rm4 l Z a0 hw [] (6 : Int32) T14.heap n0 Z14 (by decide)) hZ (hw _ (List.mem_of_getElem? (i := 19) rfl)) (hw _ (List.mem_of_getElem? (i := 18) rfl)) (by decide) (by decide)) (g := (mkF m 155 #[.val (.int p1), .val (.ref b2), .val (.int (p1 &&& (7 : Int32))), .val (.int (1 : Int32))] [(.int (6 : Int32)), (.int (1 : Int32))])) rfl (by rw [hml]; rfl) (argsL := [(.int (6 : Int32))]) (rest := [(.int (1 : Int32))]) (lenOf pd__I_Z rfl) rfl (by show 2 * 0 + _ ≤ _; exact Nat.le_of_eq rfl) (hb hby at_155) (fun _ _ => ⟨rfl, rfl, (by decide : 1 + 0 ≤ _), (by decide : 2 + 0 ≤ _)⟩)
  dsimp only [Pt.U, Pt.locs, Pt.cells, Pt.slots] at X15 l15 y15 z15 st15 hQ15
  subst l15 y15 z15
  obtain ⟨rfl, N15q, e15⟩ := hQ15
  have N15 := Fr.app N14 N15q
  rw [← e15] at F14 E14 Z14
  have r15 : ∀ t, Steps p.tables e below (T15.setTop (mkF m 158 #[.val (.int p1), .val (.ref b2), .val (.int (p1 &&& (7 : Int32))), .val (.int (1 : Int32))] [(.int (1 : Int32)), (.int (1 : Int32))])) t → Steps p.tables e below (s₁.setTop (mkF m 0 #[.val (.int p1), .unset, .unset, .unset] [])) t := fun t k => r14 t (s14 t (st15 _  k))
  have s15 : ∀ t, Steps p.tables e below (T15.setTop (mkF m 167 #[.val (.int p1), .val (.ref b2), .val (.int (p1 &&& (7 : Int32))), .val (.int (1 : Int32))] [])) t → Steps p.tables e below (T15.setTop (mkF m 158 #[.val (.int p1), .val (.ref b2), .val (.int (p1 &&& (7 : Int32))), .val (.int (1 : Int32))] [(.int (1 : Int32)), (.int (1 : Int32))])) t := by
    intro t k
    show Steps p.tables e below (T15.setTop (mkF m 158 #[.val (.int p1), .val (.ref b2), .val (.int (p1 &&& (7 : Int32))), .val (.int (1 : Int32))] [(.int (1 : Int32)), (.int (1 : Int32))])) _
    refine XS.icmpNo X15.here hx rfl (hb hby at_158) rfl (XT.ii_ne_f (rfl : (1 : Int32) = (1 : Int32))) ?_
    show Steps p.tables e below (T15.setTop (mkF m 161 #[.val (.int p1), .val (.ref b2), .val (.int (p1 &&& (7 : Int32))), .val (.int (1 : Int32))] [])) _
    refine XS.iconst X15.here hx rfl (hb hby at_161) ?_
    show Steps p.tables e below (T15.setTop (mkF m 162 #[.val (.int p1), .val (.ref b2), .val (.int (p1 &&& (7 : Int32))), .val (.int (1 : Int32))] [(.int (1 : Int32))])) _
    refine XS.goto X15.here hx rfl (pc0 := 162) (pc' := 166) rfl (hb hby at_162) (by decide) (by decide) ?_
    show Steps p.tables e below (T15.setTop (mkF m 166 #[.val (.int p1), .val (.ref b2), .val (.int (p1 &&& (7 : Int32))), .val (.int (1 : Int32))] [(.int (1 : Int32))])) _
    refine XS.istoreN X15.here hx rfl (hb hby at_166) rfl (l' := #[.val (.int p1), .val (.ref b2), .val (.int (p1 &&& (7 : Int32))), .val (.int (1 : Int32))]) rfl ?_
    show Steps p.tables e below (T15.setTop (mkF m 167 #[.val (.int p1), .val (.ref b2), .val (.int (p1 &&& (7 : Int32))), .val (.int (1 : Int32))] [])) _
    exact k
  by_cases hn6 : (p1 &&& (7 : Int32)) < (6 : Int32)
  · obtain ⟨fs, hr, hrun, hended, hW, hsame⟩ := X15.leave (v := some (.int (1 : Int32))) (fun h => by rw [Bd.returns] at h; cases h)
    refine ⟨_, _, pre0 _ (r15 _ (s15 _ (own_sk6 X15 hx hby p1 b2 hn6 _ ?_))), hrun, hended, _, _, rfl, ?_, ⟨_, rfl⟩, hW, hsame.mono (by decide) (by decide)⟩
    · show Steps p.tables e below (T15.setTop (mkF m 223 #[.val (.int p1), .val (.ref b2), .val (.int (p1 &&& (7 : Int32))), .val (.int (1 : Int32))] [])) _
      refine XS.iloadN X15.here hx rfl (hb hby at_223) rfl ?_
      show Steps p.tables e below (T15.setTop (mkF m 224 #[.val (.int p1), .val (.ref b2), .val (.int (p1 &&& (7 : Int32))), .val (.int (1 : Int32))] [(.int (1 : Int32))])) _
      exact retN X15 hx (t := .boolean) Bd.returns (by simp) (hb hby at_224) hr
    · exact ⟨rfl, N15⟩
  have r15_ := fun t k => r15 t (s15 t k)
  have s15_ : ∀ t, Steps p.tables e below (T15.setTop (mkF m 178 #[.val (.int p1), .val (.ref b2), .val (.int (p1 &&& (7 : Int32))), .val (.int (1 : Int32))] [(.ref b2)])) t → Steps p.tables e below (T15.setTop (mkF m 167 #[.val (.int p1), .val (.ref b2), .val (.int (p1 &&& (7 : Int32))), .val (.int (1 : Int32))] [])) t := by
    intro t k
    show Steps p.tables e below (T15.setTop (mkF m 167 #[.val (.int p1), .val (.ref b2), .val (.int (p1 &&& (7 : Int32))), .val (.int (1 : Int32))] [])) _
    refine XS.iloadN X15.here hx rfl (hb hby at_167) rfl ?_
    show Steps p.tables e below (T15.setTop (mkF m 168 #[.val (.int p1), .val (.ref b2), .val (.int (p1 &&& (7 : Int32))), .val (.int (1 : Int32))] [(.int (p1 &&& (7 : Int32)))])) _
    refine XS.bipush X15.here hx rfl (hb hby at_168) ?_
    show Steps p.tables e below (T15.setTop (mkF m 170 #[.val (.int p1), .val (.ref b2), .val (.int (p1 &&& (7 : Int32))), .val (.int (1 : Int32))] [(.int (6 : Int32)), (.int (p1 &&& (7 : Int32)))])) _
    refine XS.icmpNo X15.here hx rfl (hb hby at_170) rfl (XT.ii_lt_f hn6) ?_
    show Steps p.tables e below (T15.setTop (mkF m 173 #[.val (.int p1), .val (.ref b2), .val (.int (p1 &&& (7 : Int32))), .val (.int (1 : Int32))] [])) _
    refine XS.iloadN X15.here hx rfl (hb hby at_173) rfl ?_
    show Steps p.tables e below (T15.setTop (mkF m 174 #[.val (.int p1), .val (.ref b2), .val (.int (p1 &&& (7 : Int32))), .val (.int (1 : Int32))] [(.int (1 : Int32))])) _
    refine XS.ifNo X15.here hx rfl (hb hby at_174) rfl (XT.i0_eq_f (by decide)) ?_
    show Steps p.tables e below (T15.setTop (mkF m 177 #[.val (.int p1), .val (.ref b2), .val (.int (p1 &&& (7 : Int32))), .val (.int (1 : Int32))] [])) _
    refine XS.aloadN X15.here hx rfl (hb hby at_177) rfl rfl ?_
    show Steps p.tables e below (T15.setTop (mkF m 178 #[.val (.int p1), .val (.ref b2), .val (.int (p1 &&& (7 : Int32))), .val (.int (1 : Int32))] [(.ref b2)])) _
    exact k
  obtain ⟨cq16, kq16, q16a, q16b, q16c⟩ := isOf hZ rfl E14
  obtain ⟨_, _, ⟨T16, L16, k16, n16⟩, -, X16, ⟨Lc16, hQ16, l16, y16, z16⟩, st16⟩ := X15.virtualBack hx (y := (⟨"com/example/fsmconv/fsmconv/model/ExpressionLimits", "operator", "()Z"⟩ : MethodName)) (z := (⟨"com/example/fsmconv/fsmconv/model/ExpressionLimits", "operator", "()Z"⟩ : MethodName)) hown (mvT hZ (hw _ (List.mem_of_getElem? (i := 9) rfl))) (mvT hZ (hw _ (List.mem_of_getElem? (i := 10) rfl))) (notFace_of_selects (args := #[]) (mvT hZ (hw _ (List.mem_of_getElem? (i := 12) rfl)))) (mvT hZ (hw _ (List.mem_of_getElem? (i := 12) rfl))) (mvT hZ (hw _ (List.mem_of_getElem? (i := 11) rfl))) (by decide) (backOf (W := 0) (rm3 l Z a0 hw [] b2 (((((((0 : Int32) + (1 : Int32)) + (1 : Int32)) + (1 : Int32)) + (1 : Int32)) + (1 : Int32)) + (1 : Int32)) T15.heap n0 Z14 F14 E14 g_b2 (by decide)) hZ (hw _ (List.mem_of_getElem? (i := 13) rfl)) (hw _ (List.mem_of_getElem? (i := 2) rfl)) (by decide) (by decide)) q16a q16c (g := (mkF m 178 #[.val (.int p1), .val (.ref b2), .val (.int (p1 &&& (7 : Int32))), .val (.int (1 : Int32))] [(.ref b2)])) rfl (by rw [hml]; rfl) (Steps.refl _) (argsL := []) (rest := []) (lenOf pd___Z rfl) rfl (by show 2 * 0 + _ ≤ _; exact Nat.le_of_eq rfl) (hb hby at_178) (fun _ _ => ⟨rfl, rfl, (by decide : 1 + 0 ≤ _), (by decide : 2 + 0 ≤ _)⟩)
  dsimp only [Pt.U, Pt.locs, Pt.cells, Pt.slots] at X16 l16 y16 z16 st16 hQ16
  subst l16 y16 z16
  obtain ⟨rfl, N16q, K16, E16, F16⟩ := hQ16
  have N16 := Fr.app N15 N16q
  have Z16 : n0 ≤ T16.heap.size := Nat.le_trans Z14 K16.1
  have r16 : ∀ t, Steps p.tables e below (T16.setTop (mkF m 181 #[.val (.int p1), .val (.ref b2), .val (.int (p1 &&& (7 : Int32))), .val (.int (1 : Int32))] [(.int (1 : Int32))])) t → Steps p.tables e below (s₁.setTop (mkF m 0 #[.val (.int p1), .unset, .unset, .unset] [])) t := fun t k => r15_ t (s15_ t (st16.trans  k))
  have s16 : ∀ t, Steps p.tables e below (T16.setTop (mkF m 183 #[.val (.int p1), .val (.ref b2), .val (.int (p1 &&& (7 : Int32))), .val (.int (1 : Int32))] [(.int (7 : Int32)), (.int (1 : Int32))])) t → Steps p.tables e below (T16.setTop (mkF m 181 #[.val (.int p1), .val (.ref b2), .val (.int (p1 &&& (7 : Int32))), .val (.int (1 : Int32))] [(.int (1 : Int32))])) t := by
    intro t k
    show Steps p.tables e below (T16.setTop (mkF m 181 #[.val (.int p1), .val (.ref b2), .val (.int (p1 &&& (7 : Int32))), .val (.int (1 : Int32))] [(.int (1 : Int32))])) _
    refine XS.bipush X16.here hx rfl (hb hby at_181) ?_
    show Steps p.tables e below (T16.setTop (mkF m 183 #[.val (.int p1), .val (.ref b2), .val (.int (p1 &&& (7 : Int32))), .val (.int (1 : Int32))] [(.int (7 : Int32)), (.int (1 : Int32))])) _
    exact k
  obtain ⟨_, _, ⟨T17, L17, k17, n17⟩, -, X17, ⟨Lc17, hQ17, l17, y17, z17⟩, st17⟩ := Jvm.LawKit.callS X16 hx (y := (⟨"com/example/fsmconv/fsmconv/model/ExpressionLimitsOperatorPinLaw", "expect", "(I)Z"⟩ : MethodName)) hown (mvT hZ (hw _ (List.mem_of_getElem? (i := 16) rfl))) (mvT hZ (hw _ (List.mem_of_getElem? (i := 17) rfl))) (mvT hZ (hw _ (List.mem_of_getElem? (i := 18) rfl))) (mvT hZ (hw _ (List.mem_of_getElem? (i := 19) rfl))) (by decide) (backOf (W := 1) (rm4 l Z a0 hw [] (7 : Int32) T16.heap n0 Z16 (by decide)) hZ (hw _ (List.mem_of_getElem? (i := 19) rfl)) (hw _ (List.mem_of_getElem? (i := 18) rfl)) (by decide) (by decide)) (g := (mkF m 183 #[.val (.int p1), .val (.ref b2), .val (.int (p1 &&& (7 : Int32))), .val (.int (1 : Int32))] [(.int (7 : Int32)), (.int (1 : Int32))])) rfl (by rw [hml]; rfl) (argsL := [(.int (7 : Int32))]) (rest := [(.int (1 : Int32))]) (lenOf pd__I_Z rfl) rfl (by show 2 * 0 + _ ≤ _; exact Nat.le_of_eq rfl) (hb hby at_183) (fun _ _ => ⟨rfl, rfl, (by decide : 1 + 0 ≤ _), (by decide : 2 + 0 ≤ _)⟩)
  dsimp only [Pt.U, Pt.locs, Pt.cells, Pt.slots] at X17 l17 y17 z17 st17 hQ17
  subst l17 y17 z17
  obtain ⟨rfl, N17q, e17⟩ := hQ17
  have N17 := Fr.app N16 N17q
  rw [← e17] at F16 E16 Z16
  have r17 : ∀ t, Steps p.tables e below (T17.setTop (mkF m 186 #[.val (.int p1), .val (.ref b2), .val (.int (p1 &&& (7 : Int32))), .val (.int (1 : Int32))] [(.int (1 : Int32)), (.int (1 : Int32))])) t → Steps p.tables e below (s₁.setTop (mkF m 0 #[.val (.int p1), .unset, .unset, .unset] [])) t := fun t k => r16 t (s16 t (st17 _  k))
  have s17 : ∀ t, Steps p.tables e below (T17.setTop (mkF m 195 #[.val (.int p1), .val (.ref b2), .val (.int (p1 &&& (7 : Int32))), .val (.int (1 : Int32))] [])) t → Steps p.tables e below (T17.setTop (mkF m 186 #[.val (.int p1), .val (.ref b2), .val (.int (p1 &&& (7 : Int32))), .val (.int (1 : Int32))] [(.int (1 : Int32)), (.int (1 : Int32))])) t := by
    intro t k
    show Steps p.tables e below (T17.setTop (mkF m 186 #[.val (.int p1), .val (.ref b2), .val (.int (p1 &&& (7 : Int32))), .val (.int (1 : Int32))] [(.int (1 : Int32)), (.int (1 : Int32))])) _
    refine XS.icmpNo X17.here hx rfl (hb hby at_186) rfl (XT.ii_ne_f (rfl : (1 : Int32) = (1 : Int32))) ?_
    show Steps p.tables e below (T17.setTop (mkF m 189 #[.val (.int p1), .val (.ref b2), .val (.int (p1 &&& (7 : Int32))), .val (.int (1 : Int32))] [])) _
    refine XS.iconst X17.here hx rfl (hb hby at_189) ?_
    show Steps p.tables e below (T17.setTop (mkF m 190 #[.val (.int p1), .val (.ref b2), .val (.int (p1 &&& (7 : Int32))), .val (.int (1 : Int32))] [(.int (1 : Int32))])) _
    refine XS.goto X17.here hx rfl (pc0 := 190) (pc' := 194) rfl (hb hby at_190) (by decide) (by decide) ?_
    show Steps p.tables e below (T17.setTop (mkF m 194 #[.val (.int p1), .val (.ref b2), .val (.int (p1 &&& (7 : Int32))), .val (.int (1 : Int32))] [(.int (1 : Int32))])) _
    refine XS.istoreN X17.here hx rfl (hb hby at_194) rfl (l' := #[.val (.int p1), .val (.ref b2), .val (.int (p1 &&& (7 : Int32))), .val (.int (1 : Int32))]) rfl ?_
    show Steps p.tables e below (T17.setTop (mkF m 195 #[.val (.int p1), .val (.ref b2), .val (.int (p1 &&& (7 : Int32))), .val (.int (1 : Int32))] [])) _
    exact k
  by_cases hn7 : (p1 &&& (7 : Int32)) < (7 : Int32)
  · obtain ⟨fs, hr, hrun, hended, hW, hsame⟩ := X17.leave (v := some (.int (1 : Int32))) (fun h => by rw [Bd.returns] at h; cases h)
    refine ⟨_, _, pre0 _ (r17 _ (s17 _ (own_sk7 X17 hx hby p1 b2 hn7 _ ?_))), hrun, hended, _, _, rfl, ?_, ⟨_, rfl⟩, hW, hsame.mono (by decide) (by decide)⟩
    · show Steps p.tables e below (T17.setTop (mkF m 223 #[.val (.int p1), .val (.ref b2), .val (.int (p1 &&& (7 : Int32))), .val (.int (1 : Int32))] [])) _
      refine XS.iloadN X17.here hx rfl (hb hby at_223) rfl ?_
      show Steps p.tables e below (T17.setTop (mkF m 224 #[.val (.int p1), .val (.ref b2), .val (.int (p1 &&& (7 : Int32))), .val (.int (1 : Int32))] [(.int (1 : Int32))])) _
      exact retN X17 hx (t := .boolean) Bd.returns (by simp) (hb hby at_224) hr
    · exact ⟨rfl, N17⟩
  have r17_ := fun t k => r17 t (s17 t k)
  have s17_ : ∀ t, Steps p.tables e below (T17.setTop (mkF m 206 #[.val (.int p1), .val (.ref b2), .val (.int (p1 &&& (7 : Int32))), .val (.int (1 : Int32))] [(.ref b2)])) t → Steps p.tables e below (T17.setTop (mkF m 195 #[.val (.int p1), .val (.ref b2), .val (.int (p1 &&& (7 : Int32))), .val (.int (1 : Int32))] [])) t := by
    intro t k
    show Steps p.tables e below (T17.setTop (mkF m 195 #[.val (.int p1), .val (.ref b2), .val (.int (p1 &&& (7 : Int32))), .val (.int (1 : Int32))] [])) _
    refine XS.iloadN X17.here hx rfl (hb hby at_195) rfl ?_
    show Steps p.tables e below (T17.setTop (mkF m 196 #[.val (.int p1), .val (.ref b2), .val (.int (p1 &&& (7 : Int32))), .val (.int (1 : Int32))] [(.int (p1 &&& (7 : Int32)))])) _
    refine XS.bipush X17.here hx rfl (hb hby at_196) ?_
    show Steps p.tables e below (T17.setTop (mkF m 198 #[.val (.int p1), .val (.ref b2), .val (.int (p1 &&& (7 : Int32))), .val (.int (1 : Int32))] [(.int (7 : Int32)), (.int (p1 &&& (7 : Int32)))])) _
    refine XS.icmpNo X17.here hx rfl (hb hby at_198) rfl (XT.ii_lt_f hn7) ?_
    show Steps p.tables e below (T17.setTop (mkF m 201 #[.val (.int p1), .val (.ref b2), .val (.int (p1 &&& (7 : Int32))), .val (.int (1 : Int32))] [])) _
    refine XS.iloadN X17.here hx rfl (hb hby at_201) rfl ?_
    show Steps p.tables e below (T17.setTop (mkF m 202 #[.val (.int p1), .val (.ref b2), .val (.int (p1 &&& (7 : Int32))), .val (.int (1 : Int32))] [(.int (1 : Int32))])) _
    refine XS.ifNo X17.here hx rfl (hb hby at_202) rfl (XT.i0_eq_f (by decide)) ?_
    show Steps p.tables e below (T17.setTop (mkF m 205 #[.val (.int p1), .val (.ref b2), .val (.int (p1 &&& (7 : Int32))), .val (.int (1 : Int32))] [])) _
    refine XS.aloadN X17.here hx rfl (hb hby at_205) rfl rfl ?_
    show Steps p.tables e below (T17.setTop (mkF m 206 #[.val (.int p1), .val (.ref b2), .val (.int (p1 &&& (7 : Int32))), .val (.int (1 : Int32))] [(.ref b2)])) _
    exact k
  obtain ⟨cq18, kq18, q18a, q18b, q18c⟩ := isOf hZ rfl E16
  obtain ⟨_, _, ⟨T18, L18, k18, n18⟩, -, X18, ⟨Lc18, hQ18, l18, y18, z18⟩, st18⟩ := X17.virtualBack hx (y := (⟨"com/example/fsmconv/fsmconv/model/ExpressionLimits", "operator", "()Z"⟩ : MethodName)) (z := (⟨"com/example/fsmconv/fsmconv/model/ExpressionLimits", "operator", "()Z"⟩ : MethodName)) hown (mvT hZ (hw _ (List.mem_of_getElem? (i := 9) rfl))) (mvT hZ (hw _ (List.mem_of_getElem? (i := 10) rfl))) (notFace_of_selects (args := #[]) (mvT hZ (hw _ (List.mem_of_getElem? (i := 12) rfl)))) (mvT hZ (hw _ (List.mem_of_getElem? (i := 12) rfl))) (mvT hZ (hw _ (List.mem_of_getElem? (i := 11) rfl))) (by decide) (backOf (W := 0) (rm3 l Z a0 hw [] b2 ((((((((0 : Int32) + (1 : Int32)) + (1 : Int32)) + (1 : Int32)) + (1 : Int32)) + (1 : Int32)) + (1 : Int32)) + (1 : Int32)) T17.heap n0 Z16 F16 E16 g_b2 (by decide)) hZ (hw _ (List.mem_of_getElem? (i := 13) rfl)) (hw _ (List.mem_of_getElem? (i := 2) rfl)) (by decide) (by decide)) q18a q18c (g := (mkF m 206 #[.val (.int p1), .val (.ref b2), .val (.int (p1 &&& (7 : Int32))), .val (.int (1 : Int32))] [(.ref b2)])) rfl (by rw [hml]; rfl) (Steps.refl _) (argsL := []) (rest := []) (lenOf pd___Z rfl) rfl (by show 2 * 0 + _ ≤ _; exact Nat.le_of_eq rfl) (hb hby at_206) (fun _ _ => ⟨rfl, rfl, (by decide : 1 + 0 ≤ _), (by decide : 2 + 0 ≤ _)⟩)
  dsimp only [Pt.U, Pt.locs, Pt.cells, Pt.slots] at X18 l18 y18 z18 st18 hQ18
  subst l18 y18 z18
  obtain ⟨rfl, N18q, K18, E18, F18⟩ := hQ18
  have N18 := Fr.app N17 N18q
  have Z18 : n0 ≤ T18.heap.size := Nat.le_trans Z16 K18.1
  have r18 : ∀ t, Steps p.tables e below (T18.setTop (mkF m 209 #[.val (.int p1), .val (.ref b2), .val (.int (p1 &&& (7 : Int32))), .val (.int (1 : Int32))] [(.int (1 : Int32))])) t → Steps p.tables e below (s₁.setTop (mkF m 0 #[.val (.int p1), .unset, .unset, .unset] [])) t := fun t k => r17_ t (s17_ t (st18.trans  k))
  have s18 : ∀ t, Steps p.tables e below (T18.setTop (mkF m 211 #[.val (.int p1), .val (.ref b2), .val (.int (p1 &&& (7 : Int32))), .val (.int (1 : Int32))] [(.int (8 : Int32)), (.int (1 : Int32))])) t → Steps p.tables e below (T18.setTop (mkF m 209 #[.val (.int p1), .val (.ref b2), .val (.int (p1 &&& (7 : Int32))), .val (.int (1 : Int32))] [(.int (1 : Int32))])) t := by
    intro t k
    show Steps p.tables e below (T18.setTop (mkF m 209 #[.val (.int p1), .val (.ref b2), .val (.int (p1 &&& (7 : Int32))), .val (.int (1 : Int32))] [(.int (1 : Int32))])) _
    refine XS.bipush X18.here hx rfl (hb hby at_209) ?_
    show Steps p.tables e below (T18.setTop (mkF m 211 #[.val (.int p1), .val (.ref b2), .val (.int (p1 &&& (7 : Int32))), .val (.int (1 : Int32))] [(.int (8 : Int32)), (.int (1 : Int32))])) _
    exact k
  obtain ⟨_, _, ⟨T19, L19, k19, n19⟩, -, X19, ⟨Lc19, hQ19, l19, y19, z19⟩, st19⟩ := Jvm.LawKit.callS X18 hx (y := (⟨"com/example/fsmconv/fsmconv/model/ExpressionLimitsOperatorPinLaw", "expect", "(I)Z"⟩ : MethodName)) hown (mvT hZ (hw _ (List.mem_of_getElem? (i := 16) rfl))) (mvT hZ (hw _ (List.mem_of_getElem? (i := 17) rfl))) (mvT hZ (hw _ (List.mem_of_getElem? (i := 18) rfl))) (mvT hZ (hw _ (List.mem_of_getElem? (i := 19) rfl))) (by decide) (backOf (W := 1) (rm4 l Z a0 hw [] (8 : Int32) T18.heap n0 Z18 (by decide)) hZ (hw _ (List.mem_of_getElem? (i := 19) rfl)) (hw _ (List.mem_of_getElem? (i := 18) rfl)) (by decide) (by decide)) (g := (mkF m 211 #[.val (.int p1), .val (.ref b2), .val (.int (p1 &&& (7 : Int32))), .val (.int (1 : Int32))] [(.int (8 : Int32)), (.int (1 : Int32))])) rfl (by rw [hml]; rfl) (argsL := [(.int (8 : Int32))]) (rest := [(.int (1 : Int32))]) (lenOf pd__I_Z rfl) rfl (by show 2 * 0 + _ ≤ _; exact Nat.le_of_eq rfl) (hb hby at_211) (fun _ _ => ⟨rfl, rfl, (by decide : 1 + 0 ≤ _), (by decide : 2 + 0 ≤ _)⟩)
  dsimp only [Pt.U, Pt.locs, Pt.cells, Pt.slots] at X19 l19 y19 z19 st19 hQ19
  subst l19 y19 z19
  obtain ⟨rfl, N19q, e19⟩ := hQ19
  have N19 := Fr.app N18 N19q
  rw [← e19] at F18 E18 Z18
  have r19 : ∀ t, Steps p.tables e below (T19.setTop (mkF m 214 #[.val (.int p1), .val (.ref b2), .val (.int (p1 &&& (7 : Int32))), .val (.int (1 : Int32))] [(.int (1 : Int32)), (.int (1 : Int32))])) t → Steps p.tables e below (s₁.setTop (mkF m 0 #[.val (.int p1), .unset, .unset, .unset] [])) t := fun t k => r18 t (s18 t (st19 _  k))
  have s19 : ∀ t, Steps p.tables e below (T19.setTop (mkF m 223 #[.val (.int p1), .val (.ref b2), .val (.int (p1 &&& (7 : Int32))), .val (.int (1 : Int32))] [])) t → Steps p.tables e below (T19.setTop (mkF m 214 #[.val (.int p1), .val (.ref b2), .val (.int (p1 &&& (7 : Int32))), .val (.int (1 : Int32))] [(.int (1 : Int32)), (.int (1 : Int32))])) t := by
    intro t k
    show Steps p.tables e below (T19.setTop (mkF m 214 #[.val (.int p1), .val (.ref b2), .val (.int (p1 &&& (7 : Int32))), .val (.int (1 : Int32))] [(.int (1 : Int32)), (.int (1 : Int32))])) _
    refine XS.icmpNo X19.here hx rfl (hb hby at_214) rfl (XT.ii_ne_f (rfl : (1 : Int32) = (1 : Int32))) ?_
    show Steps p.tables e below (T19.setTop (mkF m 217 #[.val (.int p1), .val (.ref b2), .val (.int (p1 &&& (7 : Int32))), .val (.int (1 : Int32))] [])) _
    refine XS.iconst X19.here hx rfl (hb hby at_217) ?_
    show Steps p.tables e below (T19.setTop (mkF m 218 #[.val (.int p1), .val (.ref b2), .val (.int (p1 &&& (7 : Int32))), .val (.int (1 : Int32))] [(.int (1 : Int32))])) _
    refine XS.goto X19.here hx rfl (pc0 := 218) (pc' := 222) rfl (hb hby at_218) (by decide) (by decide) ?_
    show Steps p.tables e below (T19.setTop (mkF m 222 #[.val (.int p1), .val (.ref b2), .val (.int (p1 &&& (7 : Int32))), .val (.int (1 : Int32))] [(.int (1 : Int32))])) _
    refine XS.istoreN X19.here hx rfl (hb hby at_222) rfl (l' := #[.val (.int p1), .val (.ref b2), .val (.int (p1 &&& (7 : Int32))), .val (.int (1 : Int32))]) rfl ?_
    show Steps p.tables e below (T19.setTop (mkF m 223 #[.val (.int p1), .val (.ref b2), .val (.int (p1 &&& (7 : Int32))), .val (.int (1 : Int32))] [])) _
    exact k
  obtain ⟨fs, hr, hrun, hended, hW, hsame⟩ := X19.leave (v := some (.int (1 : Int32))) (fun h => by rw [Bd.returns] at h; cases h)
  refine ⟨_, _, pre0 _ (r19 _ (s19 _ (?_))), hrun, hended, _, _, rfl, ?_, ⟨_, rfl⟩, hW, hsame.mono (by decide) (by decide)⟩
  · show Steps p.tables e below (T19.setTop (mkF m 223 #[.val (.int p1), .val (.ref b2), .val (.int (p1 &&& (7 : Int32))), .val (.int (1 : Int32))] [])) _
    refine XS.iloadN X19.here hx rfl (hb hby at_223) rfl ?_
    show Steps p.tables e below (T19.setTop (mkF m 224 #[.val (.int p1), .val (.ref b2), .val (.int (p1 &&& (7 : Int32))), .val (.int (1 : Int32))] [(.int (1 : Int32))])) _
    exact retN X19 hx (t := .boolean) Bd.returns (by simp) (hb hby at_224) hr
  · exact ⟨rfl, N19⟩
set_option maxRecDepth 65536 in
set_option maxHeartbeats 40000000 in
theorem comes_1 {Post : Tables → Env → Array Value → State → Outcome → State → Prop} (hpost : ∀ tb e args s v u, (limb_1_1.after args s (.returned v) u = true ∧ limb_1_2.after args s (.returned v) u = true ∧ True) → FrameEnd s (.returned v) u (Jvm.fieldLocs frame_1_writes args s ++ Jvm.arrayLocs frame_1_arrays args s ++ Jvm.staticLocs frame_1_statics s) 16 128 → Post tb e args s (.returned v) u) :
    ArmFor flags0 classFile x code maxLocals ret World_1 tables_1 room_1 Calls_1 rest_1 Pre_1 Post := by
  intro l hfl _ _ p e ha hc hk s m args below hf hA hF happ hP
  obtain ⟨hcalls, hrest, hpre⟩ := hP
  obtain ⟨-, -, -, hnamed, -, -, -, hat⟩ := (Spec.applies_iff hf).mp happ
  obtain ⟨hg, hn⟩ := and_e (Cond.before_iff.mp (show (Jvm.Cond.and given_1 narrow_1).before args s = true from hpre))
  obtain ⟨gc, q0⟩ := and_e hg
  obtain ⟨w0, rfl⟩ : ∃ w0 : Value, args = #[w0] := by
    have hs : args.size = 1 := by simpa [Cond.value, given_1] using gc
    obtain ⟨L⟩ := args
    match L, hs with
    | [w0], _ => exact ⟨w0, rfl⟩
  have hw := fun d (hd : d ∈ tables_1) => atoms_spec (ws := Jvm.Cond.code x code maxLocals ret :: tables_1) hat d (List.mem_cons_of_mem _ hd)
  obtain ⟨i0, ei0⟩ := is_v q0
  obtain rfl : w0 = (.int i0) := Option.some.inj ei0
  obtain ⟨n, o, h1, h2, h3, _, L, rfl, ⟨rfl, N⟩, hq⟩ := rm0 l s _ hw tables_1 i0 s.heap s.heap.size (Nat.le_refl _) p e ha hc hk s m _ below hf ((Spec.applies_iff_loose hf).mp happ).1 ⟨rfl, State.Warmed39.refl s, rfl⟩ trivial
  refine ⟨n, _, h1, h2, h3, hpost _ _ _ _ _ _ ⟨Cond.after_iff.mpr rfl, Cond.after_iff.mpr (eq_i res_at (Term.int_eval (1)) rfl), trivial⟩ ⟨hq.1, hq.2.1, (hq.2.2.sift fun y hy => Or.inr (N y hy)).mono (by decide) (by decide)⟩⟩
theorem main_1_1 : Claimed_1_1 := comes_1 fun _ _ _ _ _ _ h hF => ⟨h.1, hF⟩
theorem main_1_2 : Claimed_1_2 := comes_1 fun _ _ _ _ _ _ h hF => ⟨h.2.1, hF⟩
end Jvm.Pilot.@@N@@
namespace Jvm.Pilot.@@N@@
open Jvm Jvm.ClassFile Sem Op Lib Jvm.Free Jvm.Stand Jvm.Pilot.@@N@@.Jvm.D
/-! MADE BY PROGRAM (witnessworld.py) out of the Statement's table words and the real class files: 7 classes; the members and pool entries that the words name. The judged class is class 1, her method 2. -/
namespace start1
open Jvm.ClassFile
def u (s : String) : CpInfo := .utf8 (stringToUtf16 s)
/-- a pool by its gaps: so many unusable entries, then the entry; so many at the end -/
def gap : Nat → List CpInfo → List CpInfo
  | 0, r => r
  | n + 1, r => .unusable :: gap n r
def poolList (es : List (Nat × CpInfo)) (last : Nat) : List CpInfo := es.foldr (fun e r => gap e.1 (e.2 :: r)) (gap last [])
def pool (es : List (Nat × CpInfo)) (last : Nat) : Array CpInfo := ⟨poolList es last⟩
def fileOf (pool : Array CpInfo) (this : Nat) (attrs : Array Attribute := #[]) (ms : Array MethodInfo := #[]) (fl : Nat := 33) (sup : Nat := 0) (ifs : Array Nat := #[]) (fds : Array FieldInfo := #[]) : ClassFile where
  minorVersion := 0
  majorVersion := 65
  constantPool := pool
  accessFlags := fl
  thisClass := this
  superClass := sup
  interfaces := ifs
  fields := fds
  methods := ms
  attributes := attrs
def plain (name : String) (sup : Option ClassId) : Class where
  name := name
  kind := .ordinary
  loader := none
  accessFlags := 33
  super := sup
  interfaces := #[]
  cf := none
  fields := #[]
  methods := #[]
  instanceTypes := #[]
  staticTypes := #[]
  resolved := #[]
  callSites := []
  init := .initialized
  statics := none
  mirror := none

def pool0 : Array CpInfo := pool [(5, u "<init>"), (0, u "()V"), (1, .class_ 10), (1, u "java/lang/Object")] 113

def k0c0 : Code := { maxStack := 0, maxLocals := 1, code := object_method_1_code, exceptionTable := #[], attributes := #[] }
def k0m0 : Method := { name := "<init>", desc := "()V", sig := { parameters := [], returnType := none }, accessFlags := 1, code := some k0c0 }
/-- java/lang/Object -/
def k0 : Class := { plain "java/lang/Object" none with
  accessFlags := 33
  interfaces := #[]
  cf := some (fileOf pool0 8 #[] #[{ accessFlags := 1, nameIndex := 5, descriptorIndex := 6, attributes := #[] }] 33 0 #[] #[])
  fields := #[]
  methods := #[k0m0]
  instanceTypes := #[]
  staticTypes := #[]
  resolved := Array.replicate 124 none
  statics := none }

def pool1 : Array CpInfo := pool [(2, .class_ 4), (0, .nameAndType 5 6), (0, u "java/lang/Object"), (0, u "<init>"), (0, u "()V"), (0, .class_ 8), (0, u "com/example/fsmconv/fsmconv/model/ExpressionLimits"), (0, .methodref 7 3), (0, .methodref 7 11), (0, .nameAndType 12 13), (0, u "operator"), (0, u "()Z"), (0, .methodref 15 16), (0, .class_ 17), (0, .nameAndType 18 19), (0, u "com/example/fsmconv/fsmconv/model/ExpressionLimitsOperatorPinLaw"), (0, u "expect"), (0, u "(I)Z"), (3, u "law")] 2

def k1m0 : Method := { name := "<init>", desc := "()V", sig := { parameters := [], returnType := none }, accessFlags := 1, code := none }
def k1c1 : Code := { maxStack := 2, maxLocals := 1, code := method_2_code, exceptionTable := #[], attributes := #[] }
def k1m1 : Method := { name := "expect", desc := "(I)Z", sig := { parameters := [.int], returnType := some .boolean }, accessFlags := 10, code := some k1c1 }
def k1c2 : Code := { maxStack := 2, maxLocals := 4, code := code, exceptionTable := #[], attributes := #[] }
def k1m2 : Method := { name := "law", desc := "(I)Z", sig := { parameters := [.int], returnType := some .boolean }, accessFlags := 9, code := some k1c2 }
/-- com/example/fsmconv/fsmconv/model/ExpressionLimitsOperatorPinLaw -/
def k1 : Class := { plain "com/example/fsmconv/fsmconv/model/ExpressionLimitsOperatorPinLaw" (some 0) with
  accessFlags := 49
  interfaces := #[]
  cf := some (fileOf pool1 15 #[] #[{ accessFlags := 1, nameIndex := 5, descriptorIndex := 6, attributes := #[] }, { accessFlags := 10, nameIndex := 18, descriptorIndex := 19, attributes := #[] }, { accessFlags := 9, nameIndex := 23, descriptorIndex := 19, attributes := #[] }] 49 2 #[] #[])
  fields := #[]
  methods := #[k1m0, k1m1, k1m2]
  instanceTypes := #[]
  staticTypes := #[]
  resolved := Array.replicate 26 none
  statics := none }

def pool2 : Array CpInfo := pool [(1, .class_ 2), (0, u "com/example/fsmconv/fsmconv/model/ExpressionLimits"), (0, .methodref 4 5), (0, .class_ 6), (0, .nameAndType 7 8), (0, u "java/lang/Object"), (0, u "<init>"), (0, u "()V"), (2, u "depth"), (0, u "I"), (0, .fieldref 1 14), (0, .nameAndType 15 12), (0, u "operators"), (0, u "MAXIMUM_NESTING"), (2, u "MAXIMUM_OPERATORS"), (1, u "NESTS_TOO_DEEP"), (0, u "Ljava/lang/String;"), (2, u "HOLDS_TOO_MANY_OPERATORS"), (2, u "TOO_DEEP"), (2, u "TOO_MANY_OPERATORS"), (7, u "()Z"), (1, u "operator")] 2

def k2c0 : Code := { maxStack := 1, maxLocals := 1, code := prog_23_method_1_code, exceptionTable := #[], attributes := #[] }
def k2m0 : Method := { name := "<init>", desc := "()V", sig := { parameters := [], returnType := none }, accessFlags := 1, code := some k2c0 }
def k2c1 : Code := { maxStack := 3, maxLocals := 1, code := prog_23_method_5_code, exceptionTable := #[], attributes := #[] }
def k2m1 : Method := { name := "operator", desc := "()Z", sig := { parameters := [], returnType := some .boolean }, accessFlags := 1, code := some k2c1 }
/-- com/example/fsmconv/fsmconv/model/ExpressionLimits -/
def k2 : Class := { plain "com/example/fsmconv/fsmconv/model/ExpressionLimits" (some 0) with
  accessFlags := 49
  interfaces := #[]
  cf := some (fileOf pool2 1 #[] #[{ accessFlags := 1, nameIndex := 7, descriptorIndex := 8, attributes := #[] }, { accessFlags := 1, nameIndex := 41, descriptorIndex := 39, attributes := #[] }] 49 4 #[] #[{ accessFlags := 25, nameIndex := 16, descriptorIndex := 12, attributes := #[] }, { accessFlags := 25, nameIndex := 19, descriptorIndex := 12, attributes := #[] }, { accessFlags := 25, nameIndex := 21, descriptorIndex := 22, attributes := #[] }, { accessFlags := 25, nameIndex := 25, descriptorIndex := 22, attributes := #[] }, { accessFlags := 25, nameIndex := 28, descriptorIndex := 22, attributes := #[] }, { accessFlags := 25, nameIndex := 31, descriptorIndex := 22, attributes := #[] }, { accessFlags := 2, nameIndex := 11, descriptorIndex := 12, attributes := #[] }, { accessFlags := 2, nameIndex := 15, descriptorIndex := 12, attributes := #[] }])
  fields := #[{ name := "MAXIMUM_NESTING", type := .int, accessFlags := 25, slot := 0, constantValue := 0 }, { name := "MAXIMUM_OPERATORS", type := .int, accessFlags := 25, slot := 1, constantValue := 0 }, { name := "NESTS_TOO_DEEP", type := (.object "java/lang/String"), accessFlags := 25, slot := 2, constantValue := 0 }, { name := "HOLDS_TOO_MANY_OPERATORS", type := (.object "java/lang/String"), accessFlags := 25, slot := 3, constantValue := 0 }, { name := "TOO_DEEP", type := (.object "java/lang/String"), accessFlags := 25, slot := 4, constantValue := 0 }, { name := "TOO_MANY_OPERATORS", type := (.object "java/lang/String"), accessFlags := 25, slot := 5, constantValue := 0 }, { name := "depth", type := .int, accessFlags := 2, slot := 0, constantValue := 0 }, { name := "operators", type := .int, accessFlags := 2, slot := 1, constantValue := 0 }]
  methods := #[k2m0, k2m1]
  instanceTypes := #[.int, .int]
  staticTypes := #[.int, .int, (.object "java/lang/String"), (.object "java/lang/String"), (.object "java/lang/String"), (.object "java/lang/String")]
  resolved := Array.replicate 44 none
  statics := none }

def pool3 : Array CpInfo := pool [(1, u "java/lang/Cloneable"), (0, .class_ 1), (0, u "java/lang/Object"), (0, .class_ 3)] 3

/-- java/lang/Cloneable -/
def k3 : Class := { plain "java/lang/Cloneable" (some 0) with
  accessFlags := 1537
  interfaces := #[]
  cf := some (fileOf pool3 2 #[] #[] 1537 4 #[] #[])
  fields := #[]
  methods := #[]
  instanceTypes := #[]
  staticTypes := #[]
  resolved := Array.replicate 8 none
  statics := none }

def pool4 : Array CpInfo := pool [(1, u "java/io/Serializable"), (0, .class_ 1), (0, u "java/lang/Object"), (0, .class_ 3)] 3

/-- java/io/Serializable -/
def k4 : Class := { plain "java/io/Serializable" (some 0) with
  accessFlags := 1537
  interfaces := #[]
  cf := some (fileOf pool4 2 #[] #[] 1537 4 #[] #[])
  fields := #[]
  methods := #[]
  instanceTypes := #[]
  staticTypes := #[]
  resolved := Array.replicate 8 none
  statics := none }

/-- the primitive byte -/
def k5 : Class := { plain "byte" none with kind := .primitive 'B', accessFlags := 0x411 }
/-- [B -/
def k6 : Class := { plain "[B" (some 0) with kind := .array 5 .byte, interfaces := #[3, 4], accessFlags := 1041 }

def heap : Heap := #[]
def classes : Array Class := #[k0, k1, k2, k3, k4, k5, k6]
def interned : List (Array UInt16 × Addr) := []
def slotsUsed : Nat := 0
def theMethod : MethodId := ⟨1, 2⟩
def args0 : Array Value := #[.int 5]
def aboutOver (below : List Frame) : State where
  vm := { classes := classes, interned := interned.toArray }
  heap := heap
  slotsUsed := slotsUsed
  threads := #[{ frames := .invoking theMethod args0 :: below }]
def below0 : List Frame := [.native { method := ⟨0, 0⟩, args := #[] }]
def about1 : State := aboutOver below0
def p0 : Program := .bare "" "" ""
def e0 : Env := launch0.env 0 0 0
theorem w_frames : about1.frames = Frame.invoking theMethod args0 :: below0 := rfl
set_option maxRecDepth 65536 in
theorem w_args : argsFit about1.vm theMethod args0 = true := by decide +kernel
set_option maxRecDepth 65536 in
theorem w_heap : heapFits about1 = true := by decide +kernel
set_option maxRecDepth 65536 in
theorem w_runnable : about1.curStatus? = some .runnable := by decide +kernel
set_option maxRecDepth 65536 in
theorem w_alone : about1.alone = true := by decide +kernel
set_option maxRecDepth 65536 in
theorem w_named : about1.methodNamed? x = some theMethod := by decide +kernel
set_option maxRecDepth 65536 in
theorem w_hears : about1.hears theMethod below0 = true := by decide +kernel
set_option maxRecDepth 65536 in
theorem w_ripe : about1.ripe theMethod args0 below0 = true := by decide +kernel
theorem w_running : about1.status = .running := rfl
set_option maxRecDepth 65536 in
theorem w_room : about1.hasRoom e0.platform room_1 = true :=
  launch0.hasRoom_least _ room_1 (by decide +kernel) (by decide +kernel) (by decide +kernel) (by decide +kernel) (by decide +kernel) (by decide +kernel)
theorem allAtoms_all (ts : List Jvm.Cond) (a : Array Jvm.Value) (st : Jvm.State) : (allAtoms ts).before a st = ts.all (fun c => c.before a st) := by
  induction ts with
  | nil => rfl
  | cons c t ih =>
    show (Jvm.Cond.and c (allAtoms t)).before a st = _
    rw [Jvm.Cond.before_and, ih, List.all_cons]
def words1 : List Jvm.Cond := Jvm.Cond.code x code maxLocals ret :: tables_1
/-- a 'code' word, met by the world's own term for the bytes: nothing is compared byte by byte -/
theorem code_word {y : MethodName} {bytes : ByteArray} {mx : Nat} {rt : Option FieldType} {a : Array Value} {s : State} {m : MethodId} {meth : Method} {c : Code} (h1 : s.methodNamed? y = some m) (h2 : s.vm.method? m = some meth) (h3 : meth.code = some c) (h4 : c.code = bytes)
    (h5 : (c.maxLocals == mx && c.exceptionTable.isEmpty && decide (c.maxStack ≤ mostOperands) && decide (meth.sig.returnType = rt) && !meth.locks && decide (parseMethodDescriptor y.desc = some meth.sig)) = true) : (Jvm.Cond.code y bytes mx rt).before a s = true := by
  simp only [Bool.and_eq_true, beq_iff_eq, Bool.not_eq_true', decide_eq_true_eq] at h5
  obtain ⟨⟨⟨⟨⟨g1, g2⟩, g3⟩, g4⟩, g5⟩, g6⟩ := h5
  simp [Cond.before, Cond.holds, Cond.value, h1, h2, h3, h4, g1, g2, g3, g4, g5, g6]
def isCode : Jvm.Cond → Bool
  | .code _ _ _ _ => true
  | _ => false
theorem all_split {L : List Jvm.Cond} {P : Jvm.Cond → Bool} (h1 : L.all (fun c => isCode c || P c) = true) (h2 : ∀ c ∈ L.filter isCode, P c = true) : L.all P = true := by
  refine List.all_eq_true.mpr fun c hc => ?_
  have h := List.all_eq_true.mp h1 c hc
  rcases Bool.eq_false_or_eq_true (isCode c) with hi | hi
  · exact h2 c (List.mem_filter.mpr ⟨hc, hi⟩)
  · simpa [hi] using h
set_option maxRecDepth 65536 in
theorem w_c0 : (Jvm.Cond.code x code maxLocals ret).before args0 about1 = true := code_word (m := ⟨1, 2⟩) (meth := k1m2) (c := k1c2) (by decide +kernel) rfl rfl rfl (by decide +kernel)
set_option maxRecDepth 65536 in
theorem w_c1 : (Jvm.Cond.code ({ cls := "com/example/fsmconv/fsmconv/model/ExpressionLimits", name := "<init>", desc := "()V" } : Jvm.MethodName) prog_23_method_1_code (1 : Nat) (Option.none : Option Jvm.ClassFile.FieldType)).before args0 about1 = true := code_word (m := ⟨2, 0⟩) (meth := k2m0) (c := k2c0) (by decide +kernel) rfl rfl rfl (by decide +kernel)
set_option maxRecDepth 65536 in
theorem w_c2 : (Jvm.Cond.code ({ cls := "java/lang/Object", name := "<init>", desc := "()V" } : Jvm.MethodName) object_method_1_code (1 : Nat) (Option.none : Option Jvm.ClassFile.FieldType)).before args0 about1 = true := code_word (m := ⟨0, 0⟩) (meth := k0m0) (c := k0c0) (by decide +kernel) rfl rfl rfl (by decide +kernel)
set_option maxRecDepth 65536 in
theorem w_c3 : (Jvm.Cond.code ({ cls := "com/example/fsmconv/fsmconv/model/ExpressionLimits", name := "operator", desc := "()Z" } : Jvm.MethodName) prog_23_method_5_code (1 : Nat) (Option.some Jvm.ClassFile.FieldType.boolean)).before args0 about1 = true := code_word (m := ⟨2, 1⟩) (meth := k2m1) (c := k2c1) (by decide +kernel) rfl rfl rfl (by decide +kernel)
set_option maxRecDepth 65536 in
theorem w_c4 : (Jvm.Cond.code ({ cls := "com/example/fsmconv/fsmconv/model/ExpressionLimitsOperatorPinLaw", name := "expect", desc := "(I)Z" } : Jvm.MethodName) method_2_code (1 : Nat) (Option.some Jvm.ClassFile.FieldType.boolean)).before args0 about1 = true := code_word (m := ⟨1, 1⟩) (meth := k1m1) (c := k1c1) (by decide +kernel) rfl rfl rfl (by decide +kernel)
def codes1 : List Jvm.Cond := [Jvm.Cond.code x code maxLocals ret, Jvm.Cond.code ({ cls := "com/example/fsmconv/fsmconv/model/ExpressionLimits", name := "<init>", desc := "()V" } : Jvm.MethodName) prog_23_method_1_code (1 : Nat) (Option.none : Option Jvm.ClassFile.FieldType), Jvm.Cond.code ({ cls := "java/lang/Object", name := "<init>", desc := "()V" } : Jvm.MethodName) object_method_1_code (1 : Nat) (Option.none : Option Jvm.ClassFile.FieldType), Jvm.Cond.code ({ cls := "com/example/fsmconv/fsmconv/model/ExpressionLimits", name := "operator", desc := "()Z" } : Jvm.MethodName) prog_23_method_5_code (1 : Nat) (Option.some Jvm.ClassFile.FieldType.boolean), Jvm.Cond.code ({ cls := "com/example/fsmconv/fsmconv/model/ExpressionLimitsOperatorPinLaw", name := "expect", desc := "(I)Z" } : Jvm.MethodName) method_2_code (1 : Nat) (Option.some Jvm.ClassFile.FieldType.boolean)]
set_option maxRecDepth 65536 in
theorem codes_eq : words1.filter isCode = codes1 := rfl
theorem w_codes : ∀ c ∈ words1.filter isCode, c.before args0 about1 = true := by
  rw [codes_eq]
  intro c hc
  simp only [codes1, List.mem_cons, List.not_mem_nil, or_false] at hc
  rcases hc with rfl | rfl | rfl | rfl | rfl
  · exact w_c0
  · exact w_c1
  · exact w_c2
  · exact w_c3
  · exact w_c4
set_option maxRecDepth 65536 in
theorem w_t1 : words1.all (fun c => isCode c || c.before args0 about1) = true := by decide +kernel
theorem w_tables : (allAtoms (Jvm.Cond.code x code maxLocals ret :: tables_1)).before args0 about1 = true := by
  rw [allAtoms_all]
  show words1.all (fun c => c.before args0 about1) = true
  refine all_split ?_ w_codes
  rw [w_t1]
set_option maxRecDepth 65536 in
theorem w_case : (Jvm.Cond.and given_1 narrow_1).before args0 about1 = true := by decide +kernel
theorem w_applies : (headSpec (Jvm.Cond.code x code maxLocals ret :: tables_1) room_1).applies x e0.platform about1 = true :=
  (Spec.applies_iff w_frames).mpr ⟨w_running, w_runnable, w_alone, w_named, w_hears, w_ripe, w_room, w_tables⟩
theorem atStart : AtStart classFile x code maxLocals ret World_1 tables_1 room_1 Calls_1 rest_1 Pre_1 launch0 p0 e0 about1 theMethod args0 below0 :=
  ⟨lists_1, trivial, launch0.admits_env _ _ _, launch0.least_env, fairChoices_fair.cas, fairChoices_fair.clock, w_frames, w_args, w_heap, w_applies, trivial, trivial, w_case⟩
end start1
theorem witness_1 : WitnessClaimed_1 := ⟨start1.p0, start1.e0, start1.about1, start1.theMethod, start1.args0, start1.below0, start1.atStart⟩
end Jvm.Pilot.@@N@@
