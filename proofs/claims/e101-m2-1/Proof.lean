import JvmDerived
import JvmDerived.Pilot.@@N@@Statement
import JvmDerived.Pilot.@@N@@Code
set_option linter.unusedVariables false
set_option linter.unusedSimpArgs false
namespace Jvm.RoadKit
open Sem ClassFile Op Lib Jvm.Stand Jvm.Free Jvm.LawKit
section New
variable {p : Program} {l : Launch} {e : Env} {R : Room} {s : State} {m : MethodId} {args : Array Value} {below : List Frame} {meth : Method} {c : Code} {T : State} {locs : List Loc} {cells slots : Nat}
theorem retI (X : Stand p l e R s m args below meth c T locs cells slots) (hx : p.tables.exec = Jvm.exec) {pc : Nat} {Ls : Array Slot} {z : Int32} {rest : List Value} (hret : meth.sig.returnType = some .int) (hd : decode c.code pc = .ok (.ireturn, 1)) {fs : List Frame}
    (hl : ∀ (f : JFrame) (acts : List Action), f.method = m → f.locked = none → f.entered = [] → (doReturn e (T.setTop f) acts (some (.int z))).1 = T.setFrames fs) : Steps p.tables e below (T.setTop (mkF m pc Ls (.int z :: rest))) (T.setFrames fs) := by
  have hm' : T.vm.method? m = some meth := X.method'
  have hn : narrow .int (.int z) = .int z := rfl
  show Steps p.tables e below (T.setTop { method := m, pc := pc, locals := Ls, stack := _ :: rest, locked := none }) _
  jvm_step X.here [X.here.top, hx, hd, hm', hret, hn]
  first | (intro acts; rw [hl _ acts rfl rfl rfl]) | rw [hl _ _ rfl rfl rfl]
  exact Steps.refl _
end New
end Jvm.RoadKit
namespace Jvm.Pilot.@@N@@
open Jvm Jvm.ClassFile Sem Op Lib Jvm.Free Jvm.Stand Jvm.LawKit Jvm.RoadKit Bundle Jvm.Pilot.@@N@@.Jvm.D
theorem pd___V : parseMethodDescriptor "()V" = some ⟨[], none⟩ := by decide +kernel
theorem pd___Z : parseMethodDescriptor "()Z" = some ⟨[], some .boolean⟩ := by decide +kernel
theorem pd__Lcom_example_fsmconv_fsmconv_model_ExpressionLimits_III_I : parseMethodDescriptor "(Lcom/example/fsmconv/fsmconv/model/ExpressionLimits;III)I" = some ⟨[(.object "com/example/fsmconv/fsmconv/model/ExpressionLimits"), .int, .int, .int], some .int⟩ := by decide +kernel
theorem own_one : (1 : Int32).toInt = 1 := by decide
theorem own_up {d : Int32} (h1 : -100 ≤ d.toInt) (h2 : d.toInt ≤ 100) : (d + (1 : Int32)).toInt = d.toInt + 1 := by
  rw [XT.add32 (by rw [own_one]; constructor <;> omega), own_one]
theorem own_dn {d : Int32} (h1 : -100 ≤ d.toInt) (h2 : d.toInt ≤ 100) : (d - (1 : Int32)).toInt = d.toInt - 1 := by
  rw [XT.sub32 (by rw [own_one]; constructor <;> omega), own_one]
theorem own_min : (-2147483648 : Int32).toInt = -2147483648 := by decide
theorem own_tho : (1000 : Int32).toInt = 1000 := by decide
theorem own_ne {d : Int32} (h1 : -100 ≤ d.toInt) : ¬ (d = (-2147483648 : Int32)) := by
  intro h
  rw [h, own_min] at h1
  omega
theorem own_le {d : Int32} (h1 : -100 ≤ d.toInt) (h2 : d.toInt ≤ 100) : ¬ ((1000 : Int32) < (d + (1 : Int32))) := by
  rw [Int32.lt_iff_toInt_lt, own_up h1 h2, own_tho]
  omega
theorem d1_0 : decode prog_23_method_1_code 0 = .ok (.aload_n 0, 1) := by decide +kernel
theorem d1_1 : decode prog_23_method_1_code 1 = .ok (.invokespecial 3, 3) := by decide +kernel
theorem d1_4 : decode prog_23_method_1_code 4 = .ok (.return_, 1) := by decide +kernel
theorem pn_1 : plainName "com/example/fsmconv/fsmconv/model/ExpressionLimits" = true := by first | (simp [plainName, overriddenIn]; done) | decide +kernel
theorem ef_1 (m : MethodId) (x0 : Addr) : entryFrame m #[(.ref x0)] 1 = mkF m 0 #[.val (.ref x0)] [] := by first | (simp [entryFrame, mkF, argsToLocals, Value.category]; done) | rfl
def Q1 (Z : State) (a1 : Addr) (h0 : Heap) (n0 : Nat) (v : Option Value) (h : Heap) (L : List Loc) : Prop := v = none ∧ Fr n0 L ∧ h = h0
set_option maxRecDepth 65536 in
set_option maxHeartbeats 40000000 in
theorem rm1 (l : Launch) (Z : State) (a0 : Array Value) (hw : ∀ d ∈ tables_1, d.before a0 Z = true) (ws : List Jvm.Cond) (a1 : Addr) (h0 : Heap) (n0 : Nat) (Z0 : n0 ≤ h0.size) :
    MetFree l (⟨"com/example/fsmconv/fsmconv/model/ExpressionLimits", "<init>", "()V"⟩ : MethodName) (head1 (Jvm.Cond.code (⟨"com/example/fsmconv/fsmconv/model/ExpressionLimits", "<init>", "()V"⟩ : MethodName) prog_23_method_1_code 1 none :: ws) ({ frames := 1, cells := 0, slots := 0, locals := 12 } : Room)) (fun a U => a = #[(.ref a1)] ∧ Z.Warmed39 U.vm ∧ U.heap = h0) (fun _ _ _ _ _ => True) (fun _ U o U' => ∃ v L, o = .returned v ∧ Q1 Z a1 h0 n0 v U'.heap L ∧ FrameEnd U o U' L ({ frames := 1, cells := 0, slots := 0, locals := 12 } : Room).cells ({ frames := 1, cells := 0, slots := 0, locals := 12 } : Room).slots) := by
  refine MetFree.of_bodySF (plainFor_of_name pn_1) hisR ?_
  intro p e s m args below meth c s₁ Bd hml0 hP hK
  obtain ⟨rfl, hZ, hh⟩ := hP
  have hx := Bd.exec
  have hby := Bd.bytes
  have hml : c.maxLocals = 1 := hml0
  have hown : s.vm.findClass "com/example/fsmconv/fsmconv/model/ExpressionLimits" = some m.cls := findClass_of_methodNamed Bd.named
  have hnm := (name_of_methodNamed Bd.named Bd.method).1
  have X0 : Stand p l e ({ frames := 1, cells := 0, slots := 0, locals := 12 } : Room) s m #[(.ref a1)] below meth c s₁ [] 0 0 := Stand.of_body Bd
  have e0 : s₁.heap = h0 := by rw [← hh, Bd.state]; rfl
  have N0 := Fr.nil n0
  have pre0 : ∀ t, Steps p.tables e below (s₁.setTop (mkF m 0 #[.val (.ref a1)] [])) t → Steps p.tables e below (s₁.setTop (entryFrame m #[(.ref a1)] 1)) t := fun t k => castTop (ef_1 m a1) k
  obtain ⟨T2, X2, e2, st2⟩ := initO X0 hx hZ hown (hw _ (List.mem_of_getElem? (i := 6) rfl)) (hw _ (List.mem_of_getElem? (i := 7) rfl)) (hw _ (List.mem_of_getElem? (i := 8) rfl)) e0 (g := (mkF m 1 #[.val (.ref a1)] [(.ref a1)])) rfl (by rw [hml]; rfl) rfl (hb hby d1_1) (by decide) (W := 0) (by show 2 * 0 + _ ≤ _; exact Nat.le_of_eq rfl) (by decide)
  obtain ⟨fs, hr, hrun, hended, hW, hsame⟩ := X2.leave (v := none) (fun _ => rfl)
  refine ⟨_, _, pre0 _ ?_, hrun, hended, _, _, rfl, ?_, ⟨_, rfl⟩, hW, hsame.mono (by decide) (by decide)⟩
  · show Steps p.tables e below (s₁.setTop (mkF m 0 #[.val (.ref a1)] [])) _
    refine XS.aloadN X0.here hx rfl (hb hby d1_0) rfl rfl ?_
    show Steps p.tables e below (s₁.setTop (mkF m 1 #[.val (.ref a1)] [(.ref a1)])) _
    refine st2 _ ?_
    show Steps p.tables e below (T2.setTop (mkF m 4 #[.val (.ref a1)] [])) _
    exact X2.returnOut hx Bd.returns (hb hby d1_4) hr
  · show Q1 Z a1 h0 n0 _ T2.heap _
    rw [e2]
    exact ⟨rfl, N0, rfl⟩
theorem d4_0 : decode prog_23_method_4_code 0 = .ok (.aload_n 0, 1) := by decide +kernel
theorem d4_1 : decode prog_23_method_4_code 1 = .ok (.dup, 1) := by decide +kernel
theorem d4_2 : decode prog_23_method_4_code 2 = .ok (.getfield 9, 3) := by decide +kernel
theorem d4_5 : decode prog_23_method_4_code 5 = .ok (.iconst 1, 1) := by decide +kernel
theorem d4_6 : decode prog_23_method_4_code 6 = .ok (.isub, 1) := by decide +kernel
theorem d4_7 : decode prog_23_method_4_code 7 = .ok (.putfield 9, 3) := by decide +kernel
theorem d4_10 : decode prog_23_method_4_code 10 = .ok (.return_, 1) := by decide +kernel
theorem pn_4 : plainName "com/example/fsmconv/fsmconv/model/ExpressionLimits" = true := by first | (simp [plainName, overriddenIn]; done) | decide +kernel
theorem ef_4 (m : MethodId) (x0 : Addr) : entryFrame m #[(.ref x0)] 1 = mkF m 0 #[.val (.ref x0)] [] := by first | (simp [entryFrame, mkF, argsToLocals, Value.category]; done) | rfl
def Q4 (Z : State) (a1 : Addr) (w2 : Int32) (h0 : Heap) (n0 : Nat) (v : Option Value) (h : Heap) (L : List Loc) : Prop := v = none ∧ Fr n0 L ∧ Keep h0 h [a1] ∧ Exa Z h a1 "com/example/fsmconv/fsmconv/model/ExpressionLimits" ∧ Fld Z h a1 "com/example/fsmconv/fsmconv/model/ExpressionLimits" "depth" "I" (.int (w2 - (1 : Int32)))
set_option maxRecDepth 65536 in
set_option maxHeartbeats 40000000 in
theorem rm4 (l : Launch) (Z : State) (a0 : Array Value) (hw : ∀ d ∈ tables_1, d.before a0 Z = true) (ws : List Jvm.Cond) (a1 : Addr) (w2 : Int32) (h0 : Heap) (n0 : Nat) (Z0 : n0 ≤ h0.size) (F_depth_a1 : Fld Z h0 a1 "com/example/fsmconv/fsmconv/model/ExpressionLimits" "depth" "I" (.int w2)) (E_a1 : Exa Z h0 a1 "com/example/fsmconv/fsmconv/model/ExpressionLimits") (g_a1 : n0 ≤ a1) :
    MetFree l (⟨"com/example/fsmconv/fsmconv/model/ExpressionLimits", "shallower", "()V"⟩ : MethodName) (head1 (Jvm.Cond.code (⟨"com/example/fsmconv/fsmconv/model/ExpressionLimits", "shallower", "()V"⟩ : MethodName) prog_23_method_4_code 1 none :: ws) ({ frames := 0, cells := 0, slots := 0, locals := 0 } : Room)) (fun a U => a = #[(.ref a1)] ∧ Z.Warmed39 U.vm ∧ U.heap = h0) (fun _ _ _ _ _ => True) (fun _ U o U' => ∃ v L, o = .returned v ∧ Q4 Z a1 w2 h0 n0 v U'.heap L ∧ FrameEnd U o U' L ({ frames := 0, cells := 0, slots := 0, locals := 0 } : Room).cells ({ frames := 0, cells := 0, slots := 0, locals := 0 } : Room).slots) := by
  refine MetFree.of_bodySF (plainFor_of_name pn_4) hisR ?_
  intro p e s m args below meth c s₁ Bd hml0 hP hK
  obtain ⟨rfl, hZ, hh⟩ := hP
  have hx := Bd.exec
  have hby := Bd.bytes
  have hml : c.maxLocals = 1 := hml0
  have hown : s.vm.findClass "com/example/fsmconv/fsmconv/model/ExpressionLimits" = some m.cls := findClass_of_methodNamed Bd.named
  have hnm := (name_of_methodNamed Bd.named Bd.method).1
  have X0 : Stand p l e ({ frames := 0, cells := 0, slots := 0, locals := 0 } : Room) s m #[(.ref a1)] below meth c s₁ [] 0 0 := Stand.of_body Bd
  have e0 : s₁.heap = h0 := by rw [← hh, Bd.state]; rfl
  have N0 := Fr.nil n0
  have pre0 : ∀ t, Steps p.tables e below (s₁.setTop (mkF m 0 #[.val (.ref a1)] [])) t → Steps p.tables e below (s₁.setTop (entryFrame m #[(.ref a1)] 1)) t := fun t k => castTop (ef_4 m a1) k
  obtain ⟨T3, X3, e3, st3⟩ := getF X0 hx hZ hown (host := "") (Or.inl (hw _ (List.mem_of_getElem? (i := 19) rfl))) Via.refl e0 F_depth_a1 (g := (mkF m 2 #[.val (.ref a1)] [(.ref a1), (.ref a1)])) rfl rfl (hb hby d4_2)
  obtain ⟨T4, h4, X4, e4, W4, st4⟩ := putF X3 hx hZ hown (host := "") (Or.inl (hw _ (List.mem_of_getElem? (i := 19) rfl))) Via.refl e3 F_depth_a1 E_a1 (Or.inl (hw _ (List.mem_of_getElem? (i := 20) rfl))) (hw _ (List.mem_of_getElem? (i := 1) rfl)) (ty := .int) (by decide) rfl rfl (g := (mkF m 7 #[.val (.ref a1)] [(.int (w2 - (1 : Int32))), (.ref a1)])) rfl rfl (hb hby d4_7)
  have Fw4 := F_depth_a1.same W4
  have K4 : Keep h0 h4 [a1] := (Keep.refl h0 [a1]).wr W4 (Or.inl (List.mem_of_getElem? (i := 0) rfl))
  have N4 := Fr.snoc X4 N0 g_a1
  obtain ⟨fs, hr, hrun, hended, hW, hsame⟩ := X4.leave (v := none) (fun _ => rfl)
  refine ⟨_, _, pre0 _ ?_, hrun, hended, _, _, rfl, ?_, ⟨_, rfl⟩, hW, hsame.mono (by decide) (by decide)⟩
  · show Steps p.tables e below (s₁.setTop (mkF m 0 #[.val (.ref a1)] [])) _
    refine XS.aloadN X0.here hx rfl (hb hby d4_0) rfl rfl ?_
    show Steps p.tables e below (s₁.setTop (mkF m 1 #[.val (.ref a1)] [(.ref a1)])) _
    refine XS.dup X0.here hx rfl (hb hby d4_1) rfl rfl ?_
    show Steps p.tables e below (s₁.setTop (mkF m 2 #[.val (.ref a1)] [(.ref a1), (.ref a1)])) _
    refine st3 _ ?_
    show Steps p.tables e below (T3.setTop (mkF m 5 #[.val (.ref a1)] [(.int w2), (.ref a1)])) _
    refine XS.iconst X3.here hx rfl (hb hby d4_5) ?_
    show Steps p.tables e below (T3.setTop (mkF m 6 #[.val (.ref a1)] [(.int (1 : Int32)), (.int w2), (.ref a1)])) _
    refine XS.isub X3.here hx rfl (hb hby d4_6) rfl ?_
    show Steps p.tables e below (T3.setTop (mkF m 7 #[.val (.ref a1)] [(.int (w2 - (1 : Int32))), (.ref a1)])) _
    refine st4 _ ?_
    show Steps p.tables e below (T4.setTop (mkF m 10 #[.val (.ref a1)] [])) _
    exact X4.returnOut hx Bd.returns (hb hby d4_10) hr
  · show Q4 Z a1 w2 h0 n0 _ T4.heap _
    rw [e4]
    exact ⟨rfl, N4, K4, (E_a1.wr W4), Fw4⟩
theorem d5_0 : decode prog_23_method_3_code 0 = .ok (.aload_n 0, 1) := by decide +kernel
theorem d5_1 : decode prog_23_method_3_code 1 = .ok (.dup, 1) := by decide +kernel
theorem d5_2 : decode prog_23_method_3_code 2 = .ok (.getfield 9, 3) := by decide +kernel
theorem d5_5 : decode prog_23_method_3_code 5 = .ok (.iconst 1, 1) := by decide +kernel
theorem d5_6 : decode prog_23_method_3_code 6 = .ok (.iadd, 1) := by decide +kernel
theorem d5_7 : decode prog_23_method_3_code 7 = .ok (.putfield 9, 3) := by decide +kernel
theorem d5_10 : decode prog_23_method_3_code 10 = .ok (.aload_n 0, 1) := by decide +kernel
theorem d5_11 : decode prog_23_method_3_code 11 = .ok (.getfield 9, 3) := by decide +kernel
theorem d5_14 : decode prog_23_method_3_code 14 = .ok (.sipush 1000, 3) := by decide +kernel
theorem d5_17 : decode prog_23_method_3_code 17 = .ok (.if_icmp .gt 7, 3) := by decide +kernel
theorem d5_20 : decode prog_23_method_3_code 20 = .ok (.iconst 1, 1) := by decide +kernel
theorem d5_21 : decode prog_23_method_3_code 21 = .ok (.goto 4, 3) := by decide +kernel
theorem d5_25 : decode prog_23_method_3_code 25 = .ok (.ireturn, 1) := by decide +kernel
theorem pn_5 : plainName "com/example/fsmconv/fsmconv/model/ExpressionLimits" = true := by first | (simp [plainName, overriddenIn]; done) | decide +kernel
theorem ef_5 (m : MethodId) (x0 : Addr) : entryFrame m #[(.ref x0)] 1 = mkF m 0 #[.val (.ref x0)] [] := by first | (simp [entryFrame, mkF, argsToLocals, Value.category]; done) | rfl
def Q5 (Z : State) (a1 : Addr) (w2 : Int32) (h0 : Heap) (n0 : Nat) (v : Option Value) (h : Heap) (L : List Loc) : Prop := v = some (.int (1 : Int32)) ∧ Fr n0 L ∧ Keep h0 h [a1] ∧ Exa Z h a1 "com/example/fsmconv/fsmconv/model/ExpressionLimits" ∧ Fld Z h a1 "com/example/fsmconv/fsmconv/model/ExpressionLimits" "depth" "I" (.int (w2 + (1 : Int32)))
set_option maxRecDepth 65536 in
set_option maxHeartbeats 40000000 in
theorem rm5 (l : Launch) (Z : State) (a0 : Array Value) (hw : ∀ d ∈ tables_1, d.before a0 Z = true) (ws : List Jvm.Cond) (a1 : Addr) (w2 : Int32) (h0 : Heap) (n0 : Nat) (Z0 : n0 ≤ h0.size) (F_depth_a1 : Fld Z h0 a1 "com/example/fsmconv/fsmconv/model/ExpressionLimits" "depth" "I" (.int w2)) (E_a1 : Exa Z h0 a1 "com/example/fsmconv/fsmconv/model/ExpressionLimits") (g_a1 : n0 ≤ a1) (hc17 : ¬ ((1000 : Int32) < (w2 + (1 : Int32)))) :
    MetFree l (⟨"com/example/fsmconv/fsmconv/model/ExpressionLimits", "deeper", "()Z"⟩ : MethodName) (head1 (Jvm.Cond.code (⟨"com/example/fsmconv/fsmconv/model/ExpressionLimits", "deeper", "()Z"⟩ : MethodName) prog_23_method_3_code 1 (some .boolean) :: ws) ({ frames := 0, cells := 0, slots := 0, locals := 0 } : Room)) (fun a U => a = #[(.ref a1)] ∧ Z.Warmed39 U.vm ∧ U.heap = h0) (fun _ _ _ _ _ => True) (fun _ U o U' => ∃ v L, o = .returned v ∧ Q5 Z a1 w2 h0 n0 v U'.heap L ∧ FrameEnd U o U' L ({ frames := 0, cells := 0, slots := 0, locals := 0 } : Room).cells ({ frames := 0, cells := 0, slots := 0, locals := 0 } : Room).slots) := by
  refine MetFree.of_bodySF (plainFor_of_name pn_5) hisR ?_
  intro p e s m args below meth c s₁ Bd hml0 hP hK
  obtain ⟨rfl, hZ, hh⟩ := hP
  have hx := Bd.exec
  have hby := Bd.bytes
  have hml : c.maxLocals = 1 := hml0
  have hown : s.vm.findClass "com/example/fsmconv/fsmconv/model/ExpressionLimits" = some m.cls := findClass_of_methodNamed Bd.named
  have hnm := (name_of_methodNamed Bd.named Bd.method).1
  have X0 : Stand p l e ({ frames := 0, cells := 0, slots := 0, locals := 0 } : Room) s m #[(.ref a1)] below meth c s₁ [] 0 0 := Stand.of_body Bd
  have e0 : s₁.heap = h0 := by rw [← hh, Bd.state]; rfl
  have N0 := Fr.nil n0
  have pre0 : ∀ t, Steps p.tables e below (s₁.setTop (mkF m 0 #[.val (.ref a1)] [])) t → Steps p.tables e below (s₁.setTop (entryFrame m #[(.ref a1)] 1)) t := fun t k => castTop (ef_5 m a1) k
  obtain ⟨T3, X3, e3, st3⟩ := getF X0 hx hZ hown (host := "") (Or.inl (hw _ (List.mem_of_getElem? (i := 19) rfl))) Via.refl e0 F_depth_a1 (g := (mkF m 2 #[.val (.ref a1)] [(.ref a1), (.ref a1)])) rfl rfl (hb hby d5_2)
  obtain ⟨T4, h4, X4, e4, W4, st4⟩ := putF X3 hx hZ hown (host := "") (Or.inl (hw _ (List.mem_of_getElem? (i := 19) rfl))) Via.refl e3 F_depth_a1 E_a1 (Or.inl (hw _ (List.mem_of_getElem? (i := 20) rfl))) (hw _ (List.mem_of_getElem? (i := 1) rfl)) (ty := .int) (by decide) rfl rfl (g := (mkF m 7 #[.val (.ref a1)] [(.int (w2 + (1 : Int32))), (.ref a1)])) rfl rfl (hb hby d5_7)
  have Fw4 := F_depth_a1.same W4
  have K4 : Keep h0 h4 [a1] := (Keep.refl h0 [a1]).wr W4 (Or.inl (List.mem_of_getElem? (i := 0) rfl))
  have N4 := Fr.snoc X4 N0 g_a1
  obtain ⟨T5, X5, e5, st5⟩ := getF X4 hx hZ hown (host := "") (Or.inl (hw _ (List.mem_of_getElem? (i := 19) rfl))) Via.refl e4 Fw4 (g := (mkF m 11 #[.val (.ref a1)] [(.ref a1)])) rfl rfl (hb hby d5_11)
  obtain ⟨fs, hr, hrun, hended, hW, hsame⟩ := X5.leave (v := some (.int (1 : Int32))) (fun h => by rw [Bd.returns] at h; cases h)
  refine ⟨_, _, pre0 _ ?_, hrun, hended, _, _, rfl, ?_, ⟨_, rfl⟩, hW, hsame.mono (by decide) (by decide)⟩
  · show Steps p.tables e below (s₁.setTop (mkF m 0 #[.val (.ref a1)] [])) _
    refine XS.aloadN X0.here hx rfl (hb hby d5_0) rfl rfl ?_
    show Steps p.tables e below (s₁.setTop (mkF m 1 #[.val (.ref a1)] [(.ref a1)])) _
    refine XS.dup X0.here hx rfl (hb hby d5_1) rfl rfl ?_
    show Steps p.tables e below (s₁.setTop (mkF m 2 #[.val (.ref a1)] [(.ref a1), (.ref a1)])) _
    refine st3 _ ?_
    show Steps p.tables e below (T3.setTop (mkF m 5 #[.val (.ref a1)] [(.int w2), (.ref a1)])) _
    refine XS.iconst X3.here hx rfl (hb hby d5_5) ?_
    show Steps p.tables e below (T3.setTop (mkF m 6 #[.val (.ref a1)] [(.int (1 : Int32)), (.int w2), (.ref a1)])) _
    refine XS.iadd X3.here hx rfl (hb hby d5_6) rfl ?_
    show Steps p.tables e below (T3.setTop (mkF m 7 #[.val (.ref a1)] [(.int (w2 + (1 : Int32))), (.ref a1)])) _
    refine st4 _ ?_
    show Steps p.tables e below (T4.setTop (mkF m 10 #[.val (.ref a1)] [])) _
    refine XS.aloadN X4.here hx rfl (hb hby d5_10) rfl rfl ?_
    show Steps p.tables e below (T4.setTop (mkF m 11 #[.val (.ref a1)] [(.ref a1)])) _
    refine st5 _ ?_
    show Steps p.tables e below (T5.setTop (mkF m 14 #[.val (.ref a1)] [(.int (w2 + (1 : Int32)))])) _
    refine XS.sipush X5.here hx rfl (hb hby d5_14) ?_
    show Steps p.tables e below (T5.setTop (mkF m 17 #[.val (.ref a1)] [(.int (1000 : Int32)), (.int (w2 + (1 : Int32)))])) _
    refine XS.icmpNo X5.here hx rfl (hb hby d5_17) rfl (flt hc17).2.2.1 ?_
    show Steps p.tables e below (T5.setTop (mkF m 20 #[.val (.ref a1)] [])) _
    refine XS.iconst X5.here hx rfl (hb hby d5_20) ?_
    show Steps p.tables e below (T5.setTop (mkF m 21 #[.val (.ref a1)] [(.int (1 : Int32))])) _
    refine XS.goto X5.here hx rfl (pc0 := 21) (pc' := 25) rfl (hb hby d5_21) (by decide) (by decide) ?_
    show Steps p.tables e below (T5.setTop (mkF m 25 #[.val (.ref a1)] [(.int (1 : Int32))])) _
    exact retN X5 hx (t := .boolean) Bd.returns (by simp) (hb hby d5_25) hr
  · show Q5 Z a1 w2 h0 n0 _ T5.heap _
    rw [e5]
    exact ⟨rfl, N4, K4, (E_a1.wr W4), Fw4⟩
theorem d3_0 : decode method_2_code 0 = .ok (.iload_n 1, 1) := by decide +kernel
theorem d3_1 : decode method_2_code 1 = .ok (.ldc 11, 2) := by decide +kernel
theorem d3_3 : decode method_2_code 3 = .ok (.if_icmp .ne 6, 3) := by decide +kernel
theorem d3_6 : decode method_2_code 6 = .ok (.ldc 11, 2) := by decide +kernel
theorem d3_8 : decode method_2_code 8 = .ok (.ireturn, 1) := by decide +kernel
theorem d3_9 : decode method_2_code 9 = .ok (.iload_n 2, 1) := by decide +kernel
theorem d3_10 : decode method_2_code 10 = .ok (.iload_n 3, 1) := by decide +kernel
theorem d3_11 : decode method_2_code 11 = .ok (.iushr, 1) := by decide +kernel
theorem d3_12 : decode method_2_code 12 = .ok (.iconst 1, 1) := by decide +kernel
theorem d3_13 : decode method_2_code 13 = .ok (.iand, 1) := by decide +kernel
theorem d3_14 : decode method_2_code 14 = .ok (.ifCond .eq 42, 3) := by decide +kernel
theorem d3_17 : decode method_2_code 17 = .ok (.iload_n 1, 1) := by decide +kernel
theorem d3_18 : decode method_2_code 18 = .ok (.iconst 1, 1) := by decide +kernel
theorem d3_19 : decode method_2_code 19 = .ok (.iadd, 1) := by decide +kernel
theorem d3_20 : decode method_2_code 20 = .ok (.istore 4, 2) := by decide +kernel
theorem d3_22 : decode method_2_code 22 = .ok (.aload_n 0, 1) := by decide +kernel
theorem d3_23 : decode method_2_code 23 = .ok (.invokevirtual 12, 3) := by decide +kernel
theorem d3_26 : decode method_2_code 26 = .ok (.istore 5, 2) := by decide +kernel
theorem d3_28 : decode method_2_code 28 = .ok (.iload 4, 2) := by decide +kernel
theorem d3_30 : decode method_2_code 30 = .ok (.sipush 1000, 3) := by decide +kernel
theorem d3_33 : decode method_2_code 33 = .ok (.if_icmp .gt 7, 3) := by decide +kernel
theorem d3_36 : decode method_2_code 36 = .ok (.iconst 1, 1) := by decide +kernel
theorem d3_37 : decode method_2_code 37 = .ok (.goto 4, 3) := by decide +kernel
theorem d3_40 : decode method_2_code 40 = .ok (.iconst 0, 1) := by decide +kernel
theorem d3_41 : decode method_2_code 41 = .ok (.istore 6, 2) := by decide +kernel
theorem d3_43 : decode method_2_code 43 = .ok (.iload 5, 2) := by decide +kernel
theorem d3_45 : decode method_2_code 45 = .ok (.iload 6, 2) := by decide +kernel
theorem d3_47 : decode method_2_code 47 = .ok (.if_icmp .eq 6, 3) := by decide +kernel
theorem d3_50 : decode method_2_code 50 = .ok (.ldc 11, 2) := by decide +kernel
theorem d3_52 : decode method_2_code 52 = .ok (.ireturn, 1) := by decide +kernel
theorem d3_53 : decode method_2_code 53 = .ok (.iload 4, 2) := by decide +kernel
theorem d3_55 : decode method_2_code 55 = .ok (.ireturn, 1) := by decide +kernel
theorem d3_56 : decode method_2_code 56 = .ok (.aload_n 0, 1) := by decide +kernel
theorem d3_57 : decode method_2_code 57 = .ok (.invokevirtual 18, 3) := by decide +kernel
theorem d3_60 : decode method_2_code 60 = .ok (.iload_n 1, 1) := by decide +kernel
theorem d3_61 : decode method_2_code 61 = .ok (.iconst 1, 1) := by decide +kernel
theorem d3_62 : decode method_2_code 62 = .ok (.isub, 1) := by decide +kernel
theorem d3_63 : decode method_2_code 63 = .ok (.ireturn, 1) := by decide +kernel
theorem pn_3 : plainName "com/example/fsmconv/fsmconv/model/ExpressionLimitsDeeperPinLaw" = true := by first | (simp [plainName, overriddenIn]; done) | decide +kernel
theorem ef_3 (m : MethodId) (x0 : Addr) (x1 : Int32) (x2 : Int32) (x3 : Int32) : entryFrame m #[(.ref x0), (.int x1), (.int x2), (.int x3)] 7 = mkF m 0 #[.val (.ref x0), .val (.int x1), .val (.int x2), .val (.int x3), .unset, .unset, .unset] [] := by first | (simp [entryFrame, mkF, argsToLocals, Value.category]; done) | rfl
def Q3 (Z : State) (a1 : Addr) (p2 : Int32) (h0 : Heap) (n0 : Nat) (v : Option Value) (h : Heap) (L : List Loc) : Prop := ∃ d' : Int32, v = some (.int d') ∧ Fr n0 L ∧ Keep h0 h [a1] ∧ Exa Z h a1 "com/example/fsmconv/fsmconv/model/ExpressionLimits" ∧ Fld Z h a1 "com/example/fsmconv/fsmconv/model/ExpressionLimits" "depth" "I" (.int d') ∧ p2.toInt - 1 ≤ d'.toInt ∧ d'.toInt ≤ p2.toInt + 1
set_option maxRecDepth 65536 in
set_option maxHeartbeats 40000000 in
theorem rm3 (l : Launch) (Z : State) (a0 : Array Value) (hw : ∀ d ∈ tables_1, d.before a0 Z = true) (ws : List Jvm.Cond) (a1 : Addr) (p2 p3 p4 : Int32) (h0 : Heap) (n0 : Nat) (Z0 : n0 ≤ h0.size) (F0 : Fld Z h0 a1 "com/example/fsmconv/fsmconv/model/ExpressionLimits" "depth" "I" (.int p2)) (E0 : Exa Z h0 a1 "com/example/fsmconv/fsmconv/model/ExpressionLimits") (g0 : n0 ≤ a1) (lo : -100 ≤ p2.toInt) (hi : p2.toInt ≤ 100) :
    MetFree l (⟨"com/example/fsmconv/fsmconv/model/ExpressionLimitsDeeperPinLaw", "step", "(Lcom/example/fsmconv/fsmconv/model/ExpressionLimits;III)I"⟩ : MethodName) (head1 (Jvm.Cond.code (⟨"com/example/fsmconv/fsmconv/model/ExpressionLimitsDeeperPinLaw", "step", "(Lcom/example/fsmconv/fsmconv/model/ExpressionLimits;III)I"⟩ : MethodName) method_2_code 7 (some .int) :: ws) ({ frames := 1, cells := 0, slots := 0, locals := 12 } : Room)) (fun aa U => aa = #[(.ref a1), (.int p2), (.int p3), (.int p4)] ∧ Z.Warmed39 U.vm ∧ U.heap = h0) (fun _ _ _ _ _ => True) (fun _ U o U' => ∃ v L, o = .returned v ∧ Q3 Z a1 p2 h0 n0 v U'.heap L ∧ FrameEnd U o U' L ({ frames := 1, cells := 0, slots := 0, locals := 12 } : Room).cells ({ frames := 1, cells := 0, slots := 0, locals := 12 } : Room).slots) := by
  refine MetFree.of_bodySF (plainFor_of_name pn_3) hisR ?_
  intro p e s m args below meth c s₁ Bd hml0 hP hK
  obtain ⟨rfl, hZ, hh⟩ := hP
  have hx := Bd.exec
  have hby := Bd.bytes
  have hml : c.maxLocals = 7 := hml0
  have hown : s.vm.findClass "com/example/fsmconv/fsmconv/model/ExpressionLimitsDeeperPinLaw" = some m.cls := findClass_of_methodNamed Bd.named
  have hnm := (name_of_methodNamed Bd.named Bd.method).1
  have X0 : Stand p l e ({ frames := 1, cells := 0, slots := 0, locals := 12 } : Room) s m #[(.ref a1), (.int p2), (.int p3), (.int p4)] below meth c s₁ [] 0 0 := Stand.of_body Bd
  have e0 : s₁.heap = h0 := by rw [← hh, Bd.state]; rfl
  have N0 := Fr.nil n0
  have pre0 : ∀ t, Steps p.tables e below (s₁.setTop (mkF m 0 #[.val (.ref a1), .val (.int p2), .val (.int p3), .val (.int p4), .unset, .unset, .unset] [])) t → Steps p.tables e below (s₁.setTop (entryFrame m #[(.ref a1), (.int p2), (.int p3), (.int p4)] 7)) t := fun t k => castTop (ef_3 m a1 p2 p3 p4) k
  by_cases hbit : (((p3.toUInt32 >>> (p4 &&& 31).toUInt32).toInt32) &&& (1 : Int32)) = (0 : Int32)
  · have s1 : ∀ t, Steps p.tables e below (s₁.setTop (mkF m 57 #[.val (.ref a1), .val (.int p2), .val (.int p3), .val (.int p4), .unset, .unset, .unset] [(.ref a1)])) t → Steps p.tables e below (s₁.setTop (mkF m 0 #[.val (.ref a1), .val (.int p2), .val (.int p3), .val (.int p4), .unset, .unset, .unset] [])) t := by
      intro t k
      show Steps p.tables e below (s₁.setTop (mkF m 0 #[.val (.ref a1), .val (.int p2), .val (.int p3), .val (.int p4), .unset, .unset, .unset] [])) _
      refine XS.iloadN X0.here hx rfl (hb hby d3_0) rfl ?_
      show Steps p.tables e below (s₁.setTop (mkF m 1 #[.val (.ref a1), .val (.int p2), .val (.int p3), .val (.int p4), .unset, .unset, .unset] [(.int p2)])) _
      refine X0.ldcI hx hown (mvT hZ (hw _ (List.mem_of_getElem? (i := 13) rfl))) (g := (mkF m 1 #[.val (.ref a1), .val (.int p2), .val (.int p3), .val (.int p4), .unset, .unset, .unset] [(.int p2)])) rfl (hb hby d3_1) ?_
      show Steps p.tables e below (s₁.setTop (mkF m 3 #[.val (.ref a1), .val (.int p2), .val (.int p3), .val (.int p4), .unset, .unset, .unset] [(.int (-2147483648 : Int32)), (.int p2)])) _
      refine XS.icmpYes X0.here hx rfl (pc0 := 3) (pc' := 9) rfl (hb hby d3_3) rfl (XT.ii_ne_t (own_ne lo)) (by decide) (by decide) ?_
      show Steps p.tables e below (s₁.setTop (mkF m 9 #[.val (.ref a1), .val (.int p2), .val (.int p3), .val (.int p4), .unset, .unset, .unset] [])) _
      refine XS.iloadN X0.here hx rfl (hb hby d3_9) rfl ?_
      show Steps p.tables e below (s₁.setTop (mkF m 10 #[.val (.ref a1), .val (.int p2), .val (.int p3), .val (.int p4), .unset, .unset, .unset] [(.int p3)])) _
      refine XS.iloadN X0.here hx rfl (hb hby d3_10) rfl ?_
      show Steps p.tables e below (s₁.setTop (mkF m 11 #[.val (.ref a1), .val (.int p2), .val (.int p3), .val (.int p4), .unset, .unset, .unset] [(.int p4), (.int p3)])) _
      refine XS.iushr X0.here hx rfl (hb hby d3_11) rfl ?_
      show Steps p.tables e below (s₁.setTop (mkF m 12 #[.val (.ref a1), .val (.int p2), .val (.int p3), .val (.int p4), .unset, .unset, .unset] [(.int ((p3.toUInt32 >>> (p4 &&& 31).toUInt32).toInt32))])) _
      refine XS.iconst X0.here hx rfl (hb hby d3_12) ?_
      show Steps p.tables e below (s₁.setTop (mkF m 13 #[.val (.ref a1), .val (.int p2), .val (.int p3), .val (.int p4), .unset, .unset, .unset] [(.int (1 : Int32)), (.int ((p3.toUInt32 >>> (p4 &&& 31).toUInt32).toInt32))])) _
      refine XS.iand X0.here hx rfl (hb hby d3_13) rfl ?_
      show Steps p.tables e below (s₁.setTop (mkF m 14 #[.val (.ref a1), .val (.int p2), .val (.int p3), .val (.int p4), .unset, .unset, .unset] [(.int (((p3.toUInt32 >>> (p4 &&& 31).toUInt32).toInt32) &&& (1 : Int32)))])) _
      refine XS.ifYes X0.here hx rfl (pc0 := 14) (pc' := 56) rfl (hb hby d3_14) rfl (XT.i0_eq_t hbit) (by decide) (by decide) ?_
      show Steps p.tables e below (s₁.setTop (mkF m 56 #[.val (.ref a1), .val (.int p2), .val (.int p3), .val (.int p4), .unset, .unset, .unset] [])) _
      refine XS.aloadN X0.here hx rfl (hb hby d3_56) rfl rfl ?_
      show Steps p.tables e below (s₁.setTop (mkF m 57 #[.val (.ref a1), .val (.int p2), .val (.int p3), .val (.int p4), .unset, .unset, .unset] [(.ref a1)])) _
      exact k
    obtain ⟨cq2, kq2, q2a, q2b, q2c⟩ := isOf hZ rfl (show Exa Z s₁.heap a1 "com/example/fsmconv/fsmconv/model/ExpressionLimits" from e0 ▸ E0)
    obtain ⟨_, _, ⟨T2, L2, k2, n2⟩, -, X2, ⟨Lc2, hQ2, l2, y2, z2⟩, st2⟩ := X0.virtualBack hx (y := (⟨"com/example/fsmconv/fsmconv/model/ExpressionLimits", "shallower", "()V"⟩ : MethodName)) (z := (⟨"com/example/fsmconv/fsmconv/model/ExpressionLimits", "shallower", "()V"⟩ : MethodName)) hown (mvT hZ (hw _ (List.mem_of_getElem? (i := 14) rfl))) (mvT hZ (hw _ (List.mem_of_getElem? (i := 15) rfl))) (notFace_of_selects (args := #[]) (mvT hZ (hw _ (List.mem_of_getElem? (i := 17) rfl)))) (mvT hZ (hw _ (List.mem_of_getElem? (i := 17) rfl))) (mvT hZ (hw _ (List.mem_of_getElem? (i := 16) rfl))) (by decide) (backOf (W := 0) (rm4 l Z a0 hw [] a1 p2 s₁.heap n0 (e0 ▸ Z0) (e0 ▸ F0) (e0 ▸ E0) g0) hZ (hw _ (List.mem_of_getElem? (i := 18) rfl)) (hw _ (List.mem_of_getElem? (i := 2) rfl)) (by decide) (by decide)) q2a q2c (g := (mkF m 57 #[.val (.ref a1), .val (.int p2), .val (.int p3), .val (.int p4), .unset, .unset, .unset] [(.ref a1)])) rfl (by rw [hml]; rfl) (Steps.refl _) (argsL := []) (rest := []) (lenOf pd___V rfl) rfl (by show 2 * 0 + _ ≤ _; exact Nat.le_of_eq rfl) (hb hby d3_57) (fun _ _ => ⟨rfl, rfl, (by decide : 0 + 0 ≤ _), (by decide : 0 + 0 ≤ _)⟩)
    dsimp only [Pt.U, Pt.locs, Pt.cells, Pt.slots] at X2 l2 y2 z2 st2 hQ2
    subst l2 y2 z2
    obtain ⟨rfl, N2q, K2, E2, F2⟩ := hQ2
    have N2 := Fr.app N0 N2q
    rw [e0] at K2
    have r2 : ∀ t, Steps p.tables e below (T2.setTop (mkF m 60 #[.val (.ref a1), .val (.int p2), .val (.int p3), .val (.int p4), .unset, .unset, .unset] [])) t → Steps p.tables e below (s₁.setTop (mkF m 0 #[.val (.ref a1), .val (.int p2), .val (.int p3), .val (.int p4), .unset, .unset, .unset] [])) t := fun t k => s1 t (st2.trans  k)
    have s2 : ∀ t, Steps p.tables e below (T2.setTop (mkF m 63 #[.val (.ref a1), .val (.int p2), .val (.int p3), .val (.int p4), .unset, .unset, .unset] [(.int (p2 - (1 : Int32)))])) t → Steps p.tables e below (T2.setTop (mkF m 60 #[.val (.ref a1), .val (.int p2), .val (.int p3), .val (.int p4), .unset, .unset, .unset] [])) t := by
      intro t k
      show Steps p.tables e below (T2.setTop (mkF m 60 #[.val (.ref a1), .val (.int p2), .val (.int p3), .val (.int p4), .unset, .unset, .unset] [])) _
      refine XS.iloadN X2.here hx rfl (hb hby d3_60) rfl ?_
      show Steps p.tables e below (T2.setTop (mkF m 61 #[.val (.ref a1), .val (.int p2), .val (.int p3), .val (.int p4), .unset, .unset, .unset] [(.int p2)])) _
      refine XS.iconst X2.here hx rfl (hb hby d3_61) ?_
      show Steps p.tables e below (T2.setTop (mkF m 62 #[.val (.ref a1), .val (.int p2), .val (.int p3), .val (.int p4), .unset, .unset, .unset] [(.int (1 : Int32)), (.int p2)])) _
      refine XS.isub X2.here hx rfl (hb hby d3_62) rfl ?_
      show Steps p.tables e below (T2.setTop (mkF m 63 #[.val (.ref a1), .val (.int p2), .val (.int p3), .val (.int p4), .unset, .unset, .unset] [(.int (p2 - (1 : Int32)))])) _
      exact k
    obtain ⟨fs, hr, hrun, hended, hW, hsame⟩ := X2.leave (v := some (.int (p2 - (1 : Int32)))) (fun h => by rw [Bd.returns] at h; cases h)
    refine ⟨_, _, pre0 _ (r2 _ (s2 _ ?_)), hrun, hended, _, _, rfl, ?_, ⟨_, rfl⟩, hW, hsame.mono (by decide) (by decide)⟩
    · exact retI X2 hx Bd.returns (hb hby d3_63) hr
    · exact ⟨(p2 - (1 : Int32)), rfl, N2, K2, E2, F2, by rw [own_dn lo hi]; omega, by rw [own_dn lo hi]; omega⟩
  · have s1 : ∀ t, Steps p.tables e below (s₁.setTop (mkF m 23 #[.val (.ref a1), .val (.int p2), .val (.int p3), .val (.int p4), .val (.int (p2 + (1 : Int32))), .unset, .unset] [(.ref a1)])) t → Steps p.tables e below (s₁.setTop (mkF m 0 #[.val (.ref a1), .val (.int p2), .val (.int p3), .val (.int p4), .unset, .unset, .unset] [])) t := by
      intro t k
      show Steps p.tables e below (s₁.setTop (mkF m 0 #[.val (.ref a1), .val (.int p2), .val (.int p3), .val (.int p4), .unset, .unset, .unset] [])) _
      refine XS.iloadN X0.here hx rfl (hb hby d3_0) rfl ?_
      show Steps p.tables e below (s₁.setTop (mkF m 1 #[.val (.ref a1), .val (.int p2), .val (.int p3), .val (.int p4), .unset, .unset, .unset] [(.int p2)])) _
      refine X0.ldcI hx hown (mvT hZ (hw _ (List.mem_of_getElem? (i := 13) rfl))) (g := (mkF m 1 #[.val (.ref a1), .val (.int p2), .val (.int p3), .val (.int p4), .unset, .unset, .unset] [(.int p2)])) rfl (hb hby d3_1) ?_
      show Steps p.tables e below (s₁.setTop (mkF m 3 #[.val (.ref a1), .val (.int p2), .val (.int p3), .val (.int p4), .unset, .unset, .unset] [(.int (-2147483648 : Int32)), (.int p2)])) _
      refine XS.icmpYes X0.here hx rfl (pc0 := 3) (pc' := 9) rfl (hb hby d3_3) rfl (XT.ii_ne_t (own_ne lo)) (by decide) (by decide) ?_
      show Steps p.tables e below (s₁.setTop (mkF m 9 #[.val (.ref a1), .val (.int p2), .val (.int p3), .val (.int p4), .unset, .unset, .unset] [])) _
      refine XS.iloadN X0.here hx rfl (hb hby d3_9) rfl ?_
      show Steps p.tables e below (s₁.setTop (mkF m 10 #[.val (.ref a1), .val (.int p2), .val (.int p3), .val (.int p4), .unset, .unset, .unset] [(.int p3)])) _
      refine XS.iloadN X0.here hx rfl (hb hby d3_10) rfl ?_
      show Steps p.tables e below (s₁.setTop (mkF m 11 #[.val (.ref a1), .val (.int p2), .val (.int p3), .val (.int p4), .unset, .unset, .unset] [(.int p4), (.int p3)])) _
      refine XS.iushr X0.here hx rfl (hb hby d3_11) rfl ?_
      show Steps p.tables e below (s₁.setTop (mkF m 12 #[.val (.ref a1), .val (.int p2), .val (.int p3), .val (.int p4), .unset, .unset, .unset] [(.int ((p3.toUInt32 >>> (p4 &&& 31).toUInt32).toInt32))])) _
      refine XS.iconst X0.here hx rfl (hb hby d3_12) ?_
      show Steps p.tables e below (s₁.setTop (mkF m 13 #[.val (.ref a1), .val (.int p2), .val (.int p3), .val (.int p4), .unset, .unset, .unset] [(.int (1 : Int32)), (.int ((p3.toUInt32 >>> (p4 &&& 31).toUInt32).toInt32))])) _
      refine XS.iand X0.here hx rfl (hb hby d3_13) rfl ?_
      show Steps p.tables e below (s₁.setTop (mkF m 14 #[.val (.ref a1), .val (.int p2), .val (.int p3), .val (.int p4), .unset, .unset, .unset] [(.int (((p3.toUInt32 >>> (p4 &&& 31).toUInt32).toInt32) &&& (1 : Int32)))])) _
      refine XS.ifNo X0.here hx rfl (hb hby d3_14) rfl (XT.i0_eq_f hbit) ?_
      show Steps p.tables e below (s₁.setTop (mkF m 17 #[.val (.ref a1), .val (.int p2), .val (.int p3), .val (.int p4), .unset, .unset, .unset] [])) _
      refine XS.iloadN X0.here hx rfl (hb hby d3_17) rfl ?_
      show Steps p.tables e below (s₁.setTop (mkF m 18 #[.val (.ref a1), .val (.int p2), .val (.int p3), .val (.int p4), .unset, .unset, .unset] [(.int p2)])) _
      refine XS.iconst X0.here hx rfl (hb hby d3_18) ?_
      show Steps p.tables e below (s₁.setTop (mkF m 19 #[.val (.ref a1), .val (.int p2), .val (.int p3), .val (.int p4), .unset, .unset, .unset] [(.int (1 : Int32)), (.int p2)])) _
      refine XS.iadd X0.here hx rfl (hb hby d3_19) rfl ?_
      show Steps p.tables e below (s₁.setTop (mkF m 20 #[.val (.ref a1), .val (.int p2), .val (.int p3), .val (.int p4), .unset, .unset, .unset] [(.int (p2 + (1 : Int32)))])) _
      refine XS.istore X0.here hx rfl (hb hby d3_20) rfl (l' := #[.val (.ref a1), .val (.int p2), .val (.int p3), .val (.int p4), .val (.int (p2 + (1 : Int32))), .unset, .unset]) rfl ?_
      show Steps p.tables e below (s₁.setTop (mkF m 22 #[.val (.ref a1), .val (.int p2), .val (.int p3), .val (.int p4), .val (.int (p2 + (1 : Int32))), .unset, .unset] [])) _
      refine XS.aloadN X0.here hx rfl (hb hby d3_22) rfl rfl ?_
      show Steps p.tables e below (s₁.setTop (mkF m 23 #[.val (.ref a1), .val (.int p2), .val (.int p3), .val (.int p4), .val (.int (p2 + (1 : Int32))), .unset, .unset] [(.ref a1)])) _
      exact k
    obtain ⟨cq2, kq2, q2a, q2b, q2c⟩ := isOf hZ rfl (show Exa Z s₁.heap a1 "com/example/fsmconv/fsmconv/model/ExpressionLimits" from e0 ▸ E0)
    obtain ⟨_, _, ⟨T2, L2, k2, n2⟩, -, X2, ⟨Lc2, hQ2, l2, y2, z2⟩, st2⟩ := X0.virtualBack hx (y := (⟨"com/example/fsmconv/fsmconv/model/ExpressionLimits", "deeper", "()Z"⟩ : MethodName)) (z := (⟨"com/example/fsmconv/fsmconv/model/ExpressionLimits", "deeper", "()Z"⟩ : MethodName)) hown (mvT hZ (hw _ (List.mem_of_getElem? (i := 21) rfl))) (mvT hZ (hw _ (List.mem_of_getElem? (i := 22) rfl))) (notFace_of_selects (args := #[]) (mvT hZ (hw _ (List.mem_of_getElem? (i := 24) rfl)))) (mvT hZ (hw _ (List.mem_of_getElem? (i := 24) rfl))) (mvT hZ (hw _ (List.mem_of_getElem? (i := 23) rfl))) (by decide) (backOf (W := 0) (rm5 l Z a0 hw [] a1 p2 s₁.heap n0 (e0 ▸ Z0) (e0 ▸ F0) (e0 ▸ E0) g0 (own_le lo hi)) hZ (hw _ (List.mem_of_getElem? (i := 25) rfl)) (hw _ (List.mem_of_getElem? (i := 2) rfl)) (by decide) (by decide)) q2a q2c (g := (mkF m 23 #[.val (.ref a1), .val (.int p2), .val (.int p3), .val (.int p4), .val (.int (p2 + (1 : Int32))), .unset, .unset] [(.ref a1)])) rfl (by rw [hml]; rfl) (Steps.refl _) (argsL := []) (rest := []) (lenOf pd___Z rfl) rfl (by show 2 * 0 + _ ≤ _; exact Nat.le_of_eq rfl) (hb hby d3_23) (fun _ _ => ⟨rfl, rfl, (by decide : 0 + 0 ≤ _), (by decide : 0 + 0 ≤ _)⟩)
    dsimp only [Pt.U, Pt.locs, Pt.cells, Pt.slots] at X2 l2 y2 z2 st2 hQ2
    subst l2 y2 z2
    obtain ⟨rfl, N2q, K2, E2, F2⟩ := hQ2
    have N2 := Fr.app N0 N2q
    rw [e0] at K2
    have r2 : ∀ t, Steps p.tables e below (T2.setTop (mkF m 26 #[.val (.ref a1), .val (.int p2), .val (.int p3), .val (.int p4), .val (.int (p2 + (1 : Int32))), .unset, .unset] [(.int (1 : Int32))])) t → Steps p.tables e below (s₁.setTop (mkF m 0 #[.val (.ref a1), .val (.int p2), .val (.int p3), .val (.int p4), .unset, .unset, .unset] [])) t := fun t k => s1 t (st2.trans  k)
    have s2 : ∀ t, Steps p.tables e below (T2.setTop (mkF m 55 #[.val (.ref a1), .val (.int p2), .val (.int p3), .val (.int p4), .val (.int (p2 + (1 : Int32))), .val (.int (1 : Int32)), .val (.int (1 : Int32))] [(.int (p2 + (1 : Int32)))])) t → Steps p.tables e below (T2.setTop (mkF m 26 #[.val (.ref a1), .val (.int p2), .val (.int p3), .val (.int p4), .val (.int (p2 + (1 : Int32))), .unset, .unset] [(.int (1 : Int32))])) t := by
      intro t k
      show Steps p.tables e below (T2.setTop (mkF m 26 #[.val (.ref a1), .val (.int p2), .val (.int p3), .val (.int p4), .val (.int (p2 + (1 : Int32))), .unset, .unset] [(.int (1 : Int32))])) _
      refine XS.istore X2.here hx rfl (hb hby d3_26) rfl (l' := #[.val (.ref a1), .val (.int p2), .val (.int p3), .val (.int p4), .val (.int (p2 + (1 : Int32))), .val (.int (1 : Int32)), .unset]) rfl ?_
      show Steps p.tables e below (T2.setTop (mkF m 28 #[.val (.ref a1), .val (.int p2), .val (.int p3), .val (.int p4), .val (.int (p2 + (1 : Int32))), .val (.int (1 : Int32)), .unset] [])) _
      refine XS.iload X2.here hx rfl (hb hby d3_28) rfl ?_
      show Steps p.tables e below (T2.setTop (mkF m 30 #[.val (.ref a1), .val (.int p2), .val (.int p3), .val (.int p4), .val (.int (p2 + (1 : Int32))), .val (.int (1 : Int32)), .unset] [(.int (p2 + (1 : Int32)))])) _
      refine XS.sipush X2.here hx rfl (hb hby d3_30) ?_
      show Steps p.tables e below (T2.setTop (mkF m 33 #[.val (.ref a1), .val (.int p2), .val (.int p3), .val (.int p4), .val (.int (p2 + (1 : Int32))), .val (.int (1 : Int32)), .unset] [(.int (1000 : Int32)), (.int (p2 + (1 : Int32)))])) _
      refine XS.icmpNo X2.here hx rfl (hb hby d3_33) rfl (XT.ii_gt_f (own_le lo hi)) ?_
      show Steps p.tables e below (T2.setTop (mkF m 36 #[.val (.ref a1), .val (.int p2), .val (.int p3), .val (.int p4), .val (.int (p2 + (1 : Int32))), .val (.int (1 : Int32)), .unset] [])) _
      refine XS.iconst X2.here hx rfl (hb hby d3_36) ?_
      show Steps p.tables e below (T2.setTop (mkF m 37 #[.val (.ref a1), .val (.int p2), .val (.int p3), .val (.int p4), .val (.int (p2 + (1 : Int32))), .val (.int (1 : Int32)), .unset] [(.int (1 : Int32))])) _
      refine XS.goto X2.here hx rfl (pc0 := 37) (pc' := 41) rfl (hb hby d3_37) (by decide) (by decide) ?_
      show Steps p.tables e below (T2.setTop (mkF m 41 #[.val (.ref a1), .val (.int p2), .val (.int p3), .val (.int p4), .val (.int (p2 + (1 : Int32))), .val (.int (1 : Int32)), .unset] [(.int (1 : Int32))])) _
      refine XS.istore X2.here hx rfl (hb hby d3_41) rfl (l' := #[.val (.ref a1), .val (.int p2), .val (.int p3), .val (.int p4), .val (.int (p2 + (1 : Int32))), .val (.int (1 : Int32)), .val (.int (1 : Int32))]) rfl ?_
      show Steps p.tables e below (T2.setTop (mkF m 43 #[.val (.ref a1), .val (.int p2), .val (.int p3), .val (.int p4), .val (.int (p2 + (1 : Int32))), .val (.int (1 : Int32)), .val (.int (1 : Int32))] [])) _
      refine XS.iload X2.here hx rfl (hb hby d3_43) rfl ?_
      show Steps p.tables e below (T2.setTop (mkF m 45 #[.val (.ref a1), .val (.int p2), .val (.int p3), .val (.int p4), .val (.int (p2 + (1 : Int32))), .val (.int (1 : Int32)), .val (.int (1 : Int32))] [(.int (1 : Int32))])) _
      refine XS.iload X2.here hx rfl (hb hby d3_45) rfl ?_
      show Steps p.tables e below (T2.setTop (mkF m 47 #[.val (.ref a1), .val (.int p2), .val (.int p3), .val (.int p4), .val (.int (p2 + (1 : Int32))), .val (.int (1 : Int32)), .val (.int (1 : Int32))] [(.int (1 : Int32)), (.int (1 : Int32))])) _
      refine XS.icmpYes X2.here hx rfl (pc0 := 47) (pc' := 53) rfl (hb hby d3_47) rfl (XT.ii_eq_t (rfl : (1 : Int32) = (1 : Int32))) (by decide) (by decide) ?_
      show Steps p.tables e below (T2.setTop (mkF m 53 #[.val (.ref a1), .val (.int p2), .val (.int p3), .val (.int p4), .val (.int (p2 + (1 : Int32))), .val (.int (1 : Int32)), .val (.int (1 : Int32))] [])) _
      refine XS.iload X2.here hx rfl (hb hby d3_53) rfl ?_
      show Steps p.tables e below (T2.setTop (mkF m 55 #[.val (.ref a1), .val (.int p2), .val (.int p3), .val (.int p4), .val (.int (p2 + (1 : Int32))), .val (.int (1 : Int32)), .val (.int (1 : Int32))] [(.int (p2 + (1 : Int32)))])) _
      exact k
    obtain ⟨fs, hr, hrun, hended, hW, hsame⟩ := X2.leave (v := some (.int (p2 + (1 : Int32)))) (fun h => by rw [Bd.returns] at h; cases h)
    refine ⟨_, _, pre0 _ (r2 _ (s2 _ ?_)), hrun, hended, _, _, rfl, ?_, ⟨_, rfl⟩, hW, hsame.mono (by decide) (by decide)⟩
    · exact retI X2 hx Bd.returns (hb hby d3_55) hr
    · exact ⟨(p2 + (1 : Int32)), rfl, N2, K2, E2, F2, by rw [own_up lo hi]; omega, by rw [own_up lo hi]; omega⟩
theorem pn_0 : plainName "com/example/fsmconv/fsmconv/model/ExpressionLimitsDeeperPinLaw" = true := by first | (simp [plainName, overriddenIn]; done) | decide +kernel
theorem ef_0 (m : MethodId) (x0 : Int32) : entryFrame m #[(.int x0)] maxLocals = mkF m 0 #[.val (.int x0), .unset, .unset] [] := by first | (simp [entryFrame, mkF, argsToLocals, Value.category, maxLocals]; done) | rfl
def Q0 (Z : State) (p1 : Int32) (h0 : Heap) (n0 : Nat) (v : Option Value) (h : Heap) (L : List Loc) : Prop := v = some (.int 1) ∧ Fr n0 L
set_option maxRecDepth 65536 in
set_option maxHeartbeats 40000000 in
theorem rm0 (l : Launch) (Z : State) (a0 : Array Value) (hw : ∀ d ∈ tables_1, d.before a0 Z = true) (ws : List Jvm.Cond) (p1 : Int32) (h0 : Heap) (n0 : Nat) (Z0 : n0 ≤ h0.size)  :
    MetFree l x (head1 (Jvm.Cond.code x code maxLocals ret :: ws) room_1) (fun aa U => aa = #[(.int p1)] ∧ Z.Warmed39 U.vm ∧ U.heap = h0) (fun _ _ _ _ _ => True) (fun _ U o U' => ∃ v L, o = .returned v ∧ Q0 Z p1 h0 n0 v U'.heap L ∧ FrameEnd U o U' L room_1.cells room_1.slots) := by
  refine MetFree.of_bodySF (plainFor_of_name pn_0) hisR ?_
  intro p e s m args below meth c s₁ Bd hml0 hP hK
  obtain ⟨rfl, hZ, hh⟩ := hP
  have hx := Bd.exec
  have hby := Bd.bytes
  have hml : c.maxLocals = 3 := hml0
  have hown : s.vm.findClass "com/example/fsmconv/fsmconv/model/ExpressionLimitsDeeperPinLaw" = some m.cls := findClass_of_methodNamed Bd.named
  have hnm := (name_of_methodNamed Bd.named Bd.method).1
  have X0 : Stand p l e room_1 s m #[(.int p1)] below meth c s₁ [] 0 0 := Stand.of_body Bd
  have e0 : s₁.heap = h0 := by rw [← hh, Bd.state]; rfl
  have N0 := Fr.nil n0
  have pre0 : ∀ t, Steps p.tables e below (s₁.setTop (mkF m 0 #[.val (.int p1), .unset, .unset] [])) t → Steps p.tables e below (s₁.setTop (entryFrame m #[(.int p1)] maxLocals)) t := fun t k => castTop (ef_0 m p1) k
  obtain ⟨T2, h2, X2, e2, E2, A2, D2, -, st2⟩ := newO X0 hx hZ hown (hw _ (List.mem_of_getElem? (i := 0) rfl)) (hw _ (List.mem_of_getElem? (i := 1) rfl)) (hw _ (List.mem_of_getElem? (i := 2) rfl)) e0 (g := (mkF m 0 #[.val (.int p1), .unset, .unset] [])) rfl (hb hby at_0) (by decide) (by decide)
  obtain ⟨b2, g2⟩ : ∃ z, z = h0.size := ⟨_, rfl⟩
  rw [← g2] at A2 D2 st2
  have F2 : Fld Z h2 b2 "com/example/fsmconv/fsmconv/model/ExpressionLimits" "depth" "I" (.int (0 : Int32)) := D2 (Or.inl (hw _ (List.mem_of_getElem? (i := 20) rfl))) (ty := .int) (by decide)
  have g_b2 : n0 ≤ b2 := Nat.le_trans Z0 (Nat.le_of_eq g2.symm)
  have Z2 : n0 ≤ h2.size := Nat.le_trans Z0 E2.1
  have r2 : ∀ t, Steps p.tables e below (T2.setTop (mkF m 3 #[.val (.int p1), .unset, .unset] [(.ref b2)])) t → Steps p.tables e below (s₁.setTop (mkF m 0 #[.val (.int p1), .unset, .unset] [])) t := fun t k => st2 _ k
  have s2 : ∀ t, Steps p.tables e below (T2.setTop (mkF m 4 #[.val (.int p1), .unset, .unset] [(.ref b2), (.ref b2)])) t → Steps p.tables e below (T2.setTop (mkF m 3 #[.val (.int p1), .unset, .unset] [(.ref b2)])) t := by
    intro t k
    show Steps p.tables e below (T2.setTop (mkF m 3 #[.val (.int p1), .unset, .unset] [(.ref b2)])) _
    refine XS.dup X2.here hx rfl (hb hby at_3) rfl rfl ?_
    show Steps p.tables e below (T2.setTop (mkF m 4 #[.val (.int p1), .unset, .unset] [(.ref b2), (.ref b2)])) _
    exact k
  obtain ⟨_, _, ⟨T3, L3, k3, n3⟩, -, X3, ⟨Lc3, hQ3, l3, y3, z3⟩, st3⟩ := X2.specialBack hx (y := (⟨"com/example/fsmconv/fsmconv/model/ExpressionLimits", "<init>", "()V"⟩ : MethodName)) rfl hown (mvT hZ (hw _ (List.mem_of_getElem? (i := 3) rfl))) (mvT hZ (hw _ (List.mem_of_getElem? (i := 4) rfl))) (mvT hZ (hw _ (List.mem_of_getElem? (i := 5) rfl))) (by decide) (backOf (W := 1) (rm1 l Z a0 hw [] b2 h2 n0 Z2) hZ (hw _ (List.mem_of_getElem? (i := 5) rfl)) (hw _ (List.mem_of_getElem? (i := 2) rfl)) (by decide) (by decide)) (g := (mkF m 4 #[.val (.int p1), .unset, .unset] [(.ref b2), (.ref b2)])) rfl (by rw [hml]; rfl) (Steps.refl _) (a := b2) (argsL := []) (rest := [(.ref b2)]) (lenOf pd___V rfl) rfl (by show 2 * 0 + _ ≤ _; exact Nat.le_of_eq rfl) (hb hby at_4) (fun _ _ => ⟨rfl, e2, (by decide : 1 + 0 ≤ _), (by decide : 2 + 0 ≤ _)⟩)
  dsimp only [Pt.U, Pt.locs, Pt.cells, Pt.slots] at X3 l3 y3 z3 st3 hQ3
  subst l3 y3 z3
  obtain ⟨rfl, N3q, e3⟩ := hQ3
  have N3 := Fr.app N0 N3q
  have r3 : ∀ t, Steps p.tables e below (T3.setTop (mkF m 7 #[.val (.int p1), .unset, .unset] [(.ref b2)])) t → Steps p.tables e below (s₁.setTop (mkF m 0 #[.val (.int p1), .unset, .unset] [])) t := fun t k => r2 t (s2 t (st3.trans  k))
  rw [← e3] at F2 A2 Z2
  have lo3 : -0 ≤ (0 : Int32).toInt := by decide
  have hi3 : (0 : Int32).toInt ≤ 0 := by decide
  have s3 : ∀ t, Steps p.tables e below (T3.setTop (mkF m 14 #[.val (.int p1), .val (.ref b2), .val (.int (0 : Int32))] [(.int (0 : Int32)), (.int p1), (.int (0 : Int32)), (.ref b2)])) t → Steps p.tables e below (T3.setTop (mkF m 7 #[.val (.int p1), .unset, .unset] [(.ref b2)])) t := by
    intro t k
    show Steps p.tables e below (T3.setTop (mkF m 7 #[.val (.int p1), .unset, .unset] [(.ref b2)])) _
    refine XS.astoreN X3.here hx rfl (hb hby at_7) rfl rfl (l' := #[.val (.int p1), .val (.ref b2), .unset]) rfl ?_
    show Steps p.tables e below (T3.setTop (mkF m 8 #[.val (.int p1), .val (.ref b2), .unset] [])) _
    refine XS.iconst X3.here hx rfl (hb hby at_8) ?_
    show Steps p.tables e below (T3.setTop (mkF m 9 #[.val (.int p1), .val (.ref b2), .unset] [(.int (0 : Int32))])) _
    refine XS.istoreN X3.here hx rfl (hb hby at_9) rfl (l' := #[.val (.int p1), .val (.ref b2), .val (.int (0 : Int32))]) rfl ?_
    show Steps p.tables e below (T3.setTop (mkF m 10 #[.val (.int p1), .val (.ref b2), .val (.int (0 : Int32))] [])) _
    refine XS.aloadN X3.here hx rfl (hb hby at_10) rfl rfl ?_
    show Steps p.tables e below (T3.setTop (mkF m 11 #[.val (.int p1), .val (.ref b2), .val (.int (0 : Int32))] [(.ref b2)])) _
    refine XS.iloadN X3.here hx rfl (hb hby at_11) rfl ?_
    show Steps p.tables e below (T3.setTop (mkF m 12 #[.val (.int p1), .val (.ref b2), .val (.int (0 : Int32))] [(.int (0 : Int32)), (.ref b2)])) _
    refine XS.iloadN X3.here hx rfl (hb hby at_12) rfl ?_
    show Steps p.tables e below (T3.setTop (mkF m 13 #[.val (.int p1), .val (.ref b2), .val (.int (0 : Int32))] [(.int p1), (.int (0 : Int32)), (.ref b2)])) _
    refine XS.iconst X3.here hx rfl (hb hby at_13) ?_
    show Steps p.tables e below (T3.setTop (mkF m 14 #[.val (.int p1), .val (.ref b2), .val (.int (0 : Int32))] [(.int (0 : Int32)), (.int p1), (.int (0 : Int32)), (.ref b2)])) _
    exact k
  obtain ⟨_, _, ⟨T4, L4, k4, n4⟩, -, X4, ⟨Lc4, hQ4, l4, y4, z4⟩, st4⟩ := Jvm.LawKit.callS X3 hx (y := (⟨"com/example/fsmconv/fsmconv/model/ExpressionLimitsDeeperPinLaw", "step", "(Lcom/example/fsmconv/fsmconv/model/ExpressionLimits;III)I"⟩ : MethodName)) hown (mvT hZ (hw _ (List.mem_of_getElem? (i := 9) rfl))) (mvT hZ (hw _ (List.mem_of_getElem? (i := 10) rfl))) (mvT hZ (hw _ (List.mem_of_getElem? (i := 11) rfl))) (mvT hZ (hw _ (List.mem_of_getElem? (i := 12) rfl))) (by decide) (backOf (W := 0) (rm3 l Z a0 hw [] b2 (0 : Int32) p1 (0 : Int32) T3.heap n0 Z2 F2 A2 g_b2 (by omega) (by omega)) hZ (hw _ (List.mem_of_getElem? (i := 12) rfl)) (hw _ (List.mem_of_getElem? (i := 11) rfl)) (by decide) (by decide)) (g := (mkF m 14 #[.val (.int p1), .val (.ref b2), .val (.int (0 : Int32))] [(.int (0 : Int32)), (.int p1), (.int (0 : Int32)), (.ref b2)])) rfl (by rw [hml]; rfl) (argsL := [(.ref b2), (.int (0 : Int32)), (.int p1), (.int (0 : Int32))]) (rest := []) (lenOf pd__Lcom_example_fsmconv_fsmconv_model_ExpressionLimits_III_I rfl) rfl (by show 2 * 0 + _ ≤ _; exact Nat.le_of_eq rfl) (hb hby at_14) (fun _ _ => ⟨rfl, rfl, (by decide : 1 + 0 ≤ _), (by decide : 2 + 0 ≤ _)⟩)
  dsimp only [Pt.U, Pt.locs, Pt.cells, Pt.slots] at X4 l4 y4 z4 st4 hQ4
  subst l4 y4 z4
  obtain ⟨d4, rfl, N4q, K4, E4, F4, lo4, hi4⟩ := hQ4
  have N4 := Fr.app N3 N4q
  have Z4 : n0 ≤ T4.heap.size := Nat.le_trans Z2 K4.1
  have r4 : ∀ t, Steps p.tables e below (T4.setTop (mkF m 17 #[.val (.int p1), .val (.ref b2), .val (.int (0 : Int32))] [(.int d4)])) t → Steps p.tables e below (s₁.setTop (mkF m 0 #[.val (.int p1), .unset, .unset] [])) t := fun t k => r3 t (s3 t (st4 _  k))
  have s4 : ∀ t, Steps p.tables e below (T4.setTop (mkF m 22 #[.val (.int p1), .val (.ref b2), .val (.int d4)] [(.int (1 : Int32)), (.int p1), (.int d4), (.ref b2)])) t → Steps p.tables e below (T4.setTop (mkF m 17 #[.val (.int p1), .val (.ref b2), .val (.int (0 : Int32))] [(.int d4)])) t := by
    intro t k
    show Steps p.tables e below (T4.setTop (mkF m 17 #[.val (.int p1), .val (.ref b2), .val (.int (0 : Int32))] [(.int d4)])) _
    refine XS.istoreN X4.here hx rfl (hb hby at_17) rfl (l' := #[.val (.int p1), .val (.ref b2), .val (.int d4)]) rfl ?_
    show Steps p.tables e below (T4.setTop (mkF m 18 #[.val (.int p1), .val (.ref b2), .val (.int d4)] [])) _
    refine XS.aloadN X4.here hx rfl (hb hby at_18) rfl rfl ?_
    show Steps p.tables e below (T4.setTop (mkF m 19 #[.val (.int p1), .val (.ref b2), .val (.int d4)] [(.ref b2)])) _
    refine XS.iloadN X4.here hx rfl (hb hby at_19) rfl ?_
    show Steps p.tables e below (T4.setTop (mkF m 20 #[.val (.int p1), .val (.ref b2), .val (.int d4)] [(.int d4), (.ref b2)])) _
    refine XS.iloadN X4.here hx rfl (hb hby at_20) rfl ?_
    show Steps p.tables e below (T4.setTop (mkF m 21 #[.val (.int p1), .val (.ref b2), .val (.int d4)] [(.int p1), (.int d4), (.ref b2)])) _
    refine XS.iconst X4.here hx rfl (hb hby at_21) ?_
    show Steps p.tables e below (T4.setTop (mkF m 22 #[.val (.int p1), .val (.ref b2), .val (.int d4)] [(.int (1 : Int32)), (.int p1), (.int d4), (.ref b2)])) _
    exact k
  obtain ⟨_, _, ⟨T5, L5, k5, n5⟩, -, X5, ⟨Lc5, hQ5, l5, y5, z5⟩, st5⟩ := Jvm.LawKit.callS X4 hx (y := (⟨"com/example/fsmconv/fsmconv/model/ExpressionLimitsDeeperPinLaw", "step", "(Lcom/example/fsmconv/fsmconv/model/ExpressionLimits;III)I"⟩ : MethodName)) hown (mvT hZ (hw _ (List.mem_of_getElem? (i := 9) rfl))) (mvT hZ (hw _ (List.mem_of_getElem? (i := 10) rfl))) (mvT hZ (hw _ (List.mem_of_getElem? (i := 11) rfl))) (mvT hZ (hw _ (List.mem_of_getElem? (i := 12) rfl))) (by decide) (backOf (W := 0) (rm3 l Z a0 hw [] b2 d4 p1 (1 : Int32) T4.heap n0 Z4 F4 E4 g_b2 (by omega) (by omega)) hZ (hw _ (List.mem_of_getElem? (i := 12) rfl)) (hw _ (List.mem_of_getElem? (i := 11) rfl)) (by decide) (by decide)) (g := (mkF m 22 #[.val (.int p1), .val (.ref b2), .val (.int d4)] [(.int (1 : Int32)), (.int p1), (.int d4), (.ref b2)])) rfl (by rw [hml]; rfl) (argsL := [(.ref b2), (.int d4), (.int p1), (.int (1 : Int32))]) (rest := []) (lenOf pd__Lcom_example_fsmconv_fsmconv_model_ExpressionLimits_III_I rfl) rfl (by show 2 * 0 + _ ≤ _; exact Nat.le_of_eq rfl) (hb hby at_22) (fun _ _ => ⟨rfl, rfl, (by decide : 1 + 0 ≤ _), (by decide : 2 + 0 ≤ _)⟩)
  dsimp only [Pt.U, Pt.locs, Pt.cells, Pt.slots] at X5 l5 y5 z5 st5 hQ5
  subst l5 y5 z5
  obtain ⟨d5, rfl, N5q, K5, E5, F5, lo5, hi5⟩ := hQ5
  have N5 := Fr.app N4 N5q
  have Z5 : n0 ≤ T5.heap.size := Nat.le_trans Z4 K5.1
  have r5 : ∀ t, Steps p.tables e below (T5.setTop (mkF m 25 #[.val (.int p1), .val (.ref b2), .val (.int d4)] [(.int d5)])) t → Steps p.tables e below (s₁.setTop (mkF m 0 #[.val (.int p1), .unset, .unset] [])) t := fun t k => r4 t (s4 t (st5 _  k))
  have s5 : ∀ t, Steps p.tables e below (T5.setTop (mkF m 30 #[.val (.int p1), .val (.ref b2), .val (.int d5)] [(.int (2 : Int32)), (.int p1), (.int d5), (.ref b2)])) t → Steps p.tables e below (T5.setTop (mkF m 25 #[.val (.int p1), .val (.ref b2), .val (.int d4)] [(.int d5)])) t := by
    intro t k
    show Steps p.tables e below (T5.setTop (mkF m 25 #[.val (.int p1), .val (.ref b2), .val (.int d4)] [(.int d5)])) _
    refine XS.istoreN X5.here hx rfl (hb hby at_25) rfl (l' := #[.val (.int p1), .val (.ref b2), .val (.int d5)]) rfl ?_
    show Steps p.tables e below (T5.setTop (mkF m 26 #[.val (.int p1), .val (.ref b2), .val (.int d5)] [])) _
    refine XS.aloadN X5.here hx rfl (hb hby at_26) rfl rfl ?_
    show Steps p.tables e below (T5.setTop (mkF m 27 #[.val (.int p1), .val (.ref b2), .val (.int d5)] [(.ref b2)])) _
    refine XS.iloadN X5.here hx rfl (hb hby at_27) rfl ?_
    show Steps p.tables e below (T5.setTop (mkF m 28 #[.val (.int p1), .val (.ref b2), .val (.int d5)] [(.int d5), (.ref b2)])) _
    refine XS.iloadN X5.here hx rfl (hb hby at_28) rfl ?_
    show Steps p.tables e below (T5.setTop (mkF m 29 #[.val (.int p1), .val (.ref b2), .val (.int d5)] [(.int p1), (.int d5), (.ref b2)])) _
    refine XS.iconst X5.here hx rfl (hb hby at_29) ?_
    show Steps p.tables e below (T5.setTop (mkF m 30 #[.val (.int p1), .val (.ref b2), .val (.int d5)] [(.int (2 : Int32)), (.int p1), (.int d5), (.ref b2)])) _
    exact k
  obtain ⟨_, _, ⟨T6, L6, k6, n6⟩, -, X6, ⟨Lc6, hQ6, l6, y6, z6⟩, st6⟩ := Jvm.LawKit.callS X5 hx (y := (⟨"com/example/fsmconv/fsmconv/model/ExpressionLimitsDeeperPinLaw", "step", "(Lcom/example/fsmconv/fsmconv/model/ExpressionLimits;III)I"⟩ : MethodName)) hown (mvT hZ (hw _ (List.mem_of_getElem? (i := 9) rfl))) (mvT hZ (hw _ (List.mem_of_getElem? (i := 10) rfl))) (mvT hZ (hw _ (List.mem_of_getElem? (i := 11) rfl))) (mvT hZ (hw _ (List.mem_of_getElem? (i := 12) rfl))) (by decide) (backOf (W := 0) (rm3 l Z a0 hw [] b2 d5 p1 (2 : Int32) T5.heap n0 Z5 F5 E5 g_b2 (by omega) (by omega)) hZ (hw _ (List.mem_of_getElem? (i := 12) rfl)) (hw _ (List.mem_of_getElem? (i := 11) rfl)) (by decide) (by decide)) (g := (mkF m 30 #[.val (.int p1), .val (.ref b2), .val (.int d5)] [(.int (2 : Int32)), (.int p1), (.int d5), (.ref b2)])) rfl (by rw [hml]; rfl) (argsL := [(.ref b2), (.int d5), (.int p1), (.int (2 : Int32))]) (rest := []) (lenOf pd__Lcom_example_fsmconv_fsmconv_model_ExpressionLimits_III_I rfl) rfl (by show 2 * 0 + _ ≤ _; exact Nat.le_of_eq rfl) (hb hby at_30) (fun _ _ => ⟨rfl, rfl, (by decide : 1 + 0 ≤ _), (by decide : 2 + 0 ≤ _)⟩)
  dsimp only [Pt.U, Pt.locs, Pt.cells, Pt.slots] at X6 l6 y6 z6 st6 hQ6
  subst l6 y6 z6
  obtain ⟨d6, rfl, N6q, K6, E6, F6, lo6, hi6⟩ := hQ6
  have N6 := Fr.app N5 N6q
  have Z6 : n0 ≤ T6.heap.size := Nat.le_trans Z5 K6.1
  have r6 : ∀ t, Steps p.tables e below (T6.setTop (mkF m 33 #[.val (.int p1), .val (.ref b2), .val (.int d5)] [(.int d6)])) t → Steps p.tables e below (s₁.setTop (mkF m 0 #[.val (.int p1), .unset, .unset] [])) t := fun t k => r5 t (s5 t (st6 _  k))
  have s6 : ∀ t, Steps p.tables e below (T6.setTop (mkF m 38 #[.val (.int p1), .val (.ref b2), .val (.int d6)] [(.int (3 : Int32)), (.int p1), (.int d6), (.ref b2)])) t → Steps p.tables e below (T6.setTop (mkF m 33 #[.val (.int p1), .val (.ref b2), .val (.int d5)] [(.int d6)])) t := by
    intro t k
    show Steps p.tables e below (T6.setTop (mkF m 33 #[.val (.int p1), .val (.ref b2), .val (.int d5)] [(.int d6)])) _
    refine XS.istoreN X6.here hx rfl (hb hby at_33) rfl (l' := #[.val (.int p1), .val (.ref b2), .val (.int d6)]) rfl ?_
    show Steps p.tables e below (T6.setTop (mkF m 34 #[.val (.int p1), .val (.ref b2), .val (.int d6)] [])) _
    refine XS.aloadN X6.here hx rfl (hb hby at_34) rfl rfl ?_
    show Steps p.tables e below (T6.setTop (mkF m 35 #[.val (.int p1), .val (.ref b2), .val (.int d6)] [(.ref b2)])) _
    refine XS.iloadN X6.here hx rfl (hb hby at_35) rfl ?_
    show Steps p.tables e below (T6.setTop (mkF m 36 #[.val (.int p1), .val (.ref b2), .val (.int d6)] [(.int d6), (.ref b2)])) _
    refine XS.iloadN X6.here hx rfl (hb hby at_36) rfl ?_
    show Steps p.tables e below (T6.setTop (mkF m 37 #[.val (.int p1), .val (.ref b2), .val (.int d6)] [(.int p1), (.int d6), (.ref b2)])) _
    refine XS.iconst X6.here hx rfl (hb hby at_37) ?_
    show Steps p.tables e below (T6.setTop (mkF m 38 #[.val (.int p1), .val (.ref b2), .val (.int d6)] [(.int (3 : Int32)), (.int p1), (.int d6), (.ref b2)])) _
    exact k
  obtain ⟨_, _, ⟨T7, L7, k7, n7⟩, -, X7, ⟨Lc7, hQ7, l7, y7, z7⟩, st7⟩ := Jvm.LawKit.callS X6 hx (y := (⟨"com/example/fsmconv/fsmconv/model/ExpressionLimitsDeeperPinLaw", "step", "(Lcom/example/fsmconv/fsmconv/model/ExpressionLimits;III)I"⟩ : MethodName)) hown (mvT hZ (hw _ (List.mem_of_getElem? (i := 9) rfl))) (mvT hZ (hw _ (List.mem_of_getElem? (i := 10) rfl))) (mvT hZ (hw _ (List.mem_of_getElem? (i := 11) rfl))) (mvT hZ (hw _ (List.mem_of_getElem? (i := 12) rfl))) (by decide) (backOf (W := 0) (rm3 l Z a0 hw [] b2 d6 p1 (3 : Int32) T6.heap n0 Z6 F6 E6 g_b2 (by omega) (by omega)) hZ (hw _ (List.mem_of_getElem? (i := 12) rfl)) (hw _ (List.mem_of_getElem? (i := 11) rfl)) (by decide) (by decide)) (g := (mkF m 38 #[.val (.int p1), .val (.ref b2), .val (.int d6)] [(.int (3 : Int32)), (.int p1), (.int d6), (.ref b2)])) rfl (by rw [hml]; rfl) (argsL := [(.ref b2), (.int d6), (.int p1), (.int (3 : Int32))]) (rest := []) (lenOf pd__Lcom_example_fsmconv_fsmconv_model_ExpressionLimits_III_I rfl) rfl (by show 2 * 0 + _ ≤ _; exact Nat.le_of_eq rfl) (hb hby at_38) (fun _ _ => ⟨rfl, rfl, (by decide : 1 + 0 ≤ _), (by decide : 2 + 0 ≤ _)⟩)
  dsimp only [Pt.U, Pt.locs, Pt.cells, Pt.slots] at X7 l7 y7 z7 st7 hQ7
  subst l7 y7 z7
  obtain ⟨d7, rfl, N7q, K7, E7, F7, lo7, hi7⟩ := hQ7
  have N7 := Fr.app N6 N7q
  have Z7 : n0 ≤ T7.heap.size := Nat.le_trans Z6 K7.1
  have r7 : ∀ t, Steps p.tables e below (T7.setTop (mkF m 41 #[.val (.int p1), .val (.ref b2), .val (.int d6)] [(.int d7)])) t → Steps p.tables e below (s₁.setTop (mkF m 0 #[.val (.int p1), .unset, .unset] [])) t := fun t k => r6 t (s6 t (st7 _  k))
  have s7 : ∀ t, Steps p.tables e below (T7.setTop (mkF m 46 #[.val (.int p1), .val (.ref b2), .val (.int d7)] [(.int (4 : Int32)), (.int p1), (.int d7), (.ref b2)])) t → Steps p.tables e below (T7.setTop (mkF m 41 #[.val (.int p1), .val (.ref b2), .val (.int d6)] [(.int d7)])) t := by
    intro t k
    show Steps p.tables e below (T7.setTop (mkF m 41 #[.val (.int p1), .val (.ref b2), .val (.int d6)] [(.int d7)])) _
    refine XS.istoreN X7.here hx rfl (hb hby at_41) rfl (l' := #[.val (.int p1), .val (.ref b2), .val (.int d7)]) rfl ?_
    show Steps p.tables e below (T7.setTop (mkF m 42 #[.val (.int p1), .val (.ref b2), .val (.int d7)] [])) _
    refine XS.aloadN X7.here hx rfl (hb hby at_42) rfl rfl ?_
    show Steps p.tables e below (T7.setTop (mkF m 43 #[.val (.int p1), .val (.ref b2), .val (.int d7)] [(.ref b2)])) _
    refine XS.iloadN X7.here hx rfl (hb hby at_43) rfl ?_
    show Steps p.tables e below (T7.setTop (mkF m 44 #[.val (.int p1), .val (.ref b2), .val (.int d7)] [(.int d7), (.ref b2)])) _
    refine XS.iloadN X7.here hx rfl (hb hby at_44) rfl ?_
    show Steps p.tables e below (T7.setTop (mkF m 45 #[.val (.int p1), .val (.ref b2), .val (.int d7)] [(.int p1), (.int d7), (.ref b2)])) _
    refine XS.iconst X7.here hx rfl (hb hby at_45) ?_
    show Steps p.tables e below (T7.setTop (mkF m 46 #[.val (.int p1), .val (.ref b2), .val (.int d7)] [(.int (4 : Int32)), (.int p1), (.int d7), (.ref b2)])) _
    exact k
  obtain ⟨_, _, ⟨T8, L8, k8, n8⟩, -, X8, ⟨Lc8, hQ8, l8, y8, z8⟩, st8⟩ := Jvm.LawKit.callS X7 hx (y := (⟨"com/example/fsmconv/fsmconv/model/ExpressionLimitsDeeperPinLaw", "step", "(Lcom/example/fsmconv/fsmconv/model/ExpressionLimits;III)I"⟩ : MethodName)) hown (mvT hZ (hw _ (List.mem_of_getElem? (i := 9) rfl))) (mvT hZ (hw _ (List.mem_of_getElem? (i := 10) rfl))) (mvT hZ (hw _ (List.mem_of_getElem? (i := 11) rfl))) (mvT hZ (hw _ (List.mem_of_getElem? (i := 12) rfl))) (by decide) (backOf (W := 0) (rm3 l Z a0 hw [] b2 d7 p1 (4 : Int32) T7.heap n0 Z7 F7 E7 g_b2 (by omega) (by omega)) hZ (hw _ (List.mem_of_getElem? (i := 12) rfl)) (hw _ (List.mem_of_getElem? (i := 11) rfl)) (by decide) (by decide)) (g := (mkF m 46 #[.val (.int p1), .val (.ref b2), .val (.int d7)] [(.int (4 : Int32)), (.int p1), (.int d7), (.ref b2)])) rfl (by rw [hml]; rfl) (argsL := [(.ref b2), (.int d7), (.int p1), (.int (4 : Int32))]) (rest := []) (lenOf pd__Lcom_example_fsmconv_fsmconv_model_ExpressionLimits_III_I rfl) rfl (by show 2 * 0 + _ ≤ _; exact Nat.le_of_eq rfl) (hb hby at_46) (fun _ _ => ⟨rfl, rfl, (by decide : 1 + 0 ≤ _), (by decide : 2 + 0 ≤ _)⟩)
  dsimp only [Pt.U, Pt.locs, Pt.cells, Pt.slots] at X8 l8 y8 z8 st8 hQ8
  subst l8 y8 z8
  obtain ⟨d8, rfl, N8q, K8, E8, F8, lo8, hi8⟩ := hQ8
  have N8 := Fr.app N7 N8q
  have Z8 : n0 ≤ T8.heap.size := Nat.le_trans Z7 K8.1
  have r8 : ∀ t, Steps p.tables e below (T8.setTop (mkF m 49 #[.val (.int p1), .val (.ref b2), .val (.int d7)] [(.int d8)])) t → Steps p.tables e below (s₁.setTop (mkF m 0 #[.val (.int p1), .unset, .unset] [])) t := fun t k => r7 t (s7 t (st8 _  k))
  have s8 : ∀ t, Steps p.tables e below (T8.setTop (mkF m 54 #[.val (.int p1), .val (.ref b2), .val (.int d8)] [(.int (5 : Int32)), (.int p1), (.int d8), (.ref b2)])) t → Steps p.tables e below (T8.setTop (mkF m 49 #[.val (.int p1), .val (.ref b2), .val (.int d7)] [(.int d8)])) t := by
    intro t k
    show Steps p.tables e below (T8.setTop (mkF m 49 #[.val (.int p1), .val (.ref b2), .val (.int d7)] [(.int d8)])) _
    refine XS.istoreN X8.here hx rfl (hb hby at_49) rfl (l' := #[.val (.int p1), .val (.ref b2), .val (.int d8)]) rfl ?_
    show Steps p.tables e below (T8.setTop (mkF m 50 #[.val (.int p1), .val (.ref b2), .val (.int d8)] [])) _
    refine XS.aloadN X8.here hx rfl (hb hby at_50) rfl rfl ?_
    show Steps p.tables e below (T8.setTop (mkF m 51 #[.val (.int p1), .val (.ref b2), .val (.int d8)] [(.ref b2)])) _
    refine XS.iloadN X8.here hx rfl (hb hby at_51) rfl ?_
    show Steps p.tables e below (T8.setTop (mkF m 52 #[.val (.int p1), .val (.ref b2), .val (.int d8)] [(.int d8), (.ref b2)])) _
    refine XS.iloadN X8.here hx rfl (hb hby at_52) rfl ?_
    show Steps p.tables e below (T8.setTop (mkF m 53 #[.val (.int p1), .val (.ref b2), .val (.int d8)] [(.int p1), (.int d8), (.ref b2)])) _
    refine XS.iconst X8.here hx rfl (hb hby at_53) ?_
    show Steps p.tables e below (T8.setTop (mkF m 54 #[.val (.int p1), .val (.ref b2), .val (.int d8)] [(.int (5 : Int32)), (.int p1), (.int d8), (.ref b2)])) _
    exact k
  obtain ⟨_, _, ⟨T9, L9, k9, n9⟩, -, X9, ⟨Lc9, hQ9, l9, y9, z9⟩, st9⟩ := Jvm.LawKit.callS X8 hx (y := (⟨"com/example/fsmconv/fsmconv/model/ExpressionLimitsDeeperPinLaw", "step", "(Lcom/example/fsmconv/fsmconv/model/ExpressionLimits;III)I"⟩ : MethodName)) hown (mvT hZ (hw _ (List.mem_of_getElem? (i := 9) rfl))) (mvT hZ (hw _ (List.mem_of_getElem? (i := 10) rfl))) (mvT hZ (hw _ (List.mem_of_getElem? (i := 11) rfl))) (mvT hZ (hw _ (List.mem_of_getElem? (i := 12) rfl))) (by decide) (backOf (W := 0) (rm3 l Z a0 hw [] b2 d8 p1 (5 : Int32) T8.heap n0 Z8 F8 E8 g_b2 (by omega) (by omega)) hZ (hw _ (List.mem_of_getElem? (i := 12) rfl)) (hw _ (List.mem_of_getElem? (i := 11) rfl)) (by decide) (by decide)) (g := (mkF m 54 #[.val (.int p1), .val (.ref b2), .val (.int d8)] [(.int (5 : Int32)), (.int p1), (.int d8), (.ref b2)])) rfl (by rw [hml]; rfl) (argsL := [(.ref b2), (.int d8), (.int p1), (.int (5 : Int32))]) (rest := []) (lenOf pd__Lcom_example_fsmconv_fsmconv_model_ExpressionLimits_III_I rfl) rfl (by show 2 * 0 + _ ≤ _; exact Nat.le_of_eq rfl) (hb hby at_54) (fun _ _ => ⟨rfl, rfl, (by decide : 1 + 0 ≤ _), (by decide : 2 + 0 ≤ _)⟩)
  dsimp only [Pt.U, Pt.locs, Pt.cells, Pt.slots] at X9 l9 y9 z9 st9 hQ9
  subst l9 y9 z9
  obtain ⟨d9, rfl, N9q, K9, E9, F9, lo9, hi9⟩ := hQ9
  have N9 := Fr.app N8 N9q
  have Z9 : n0 ≤ T9.heap.size := Nat.le_trans Z8 K9.1
  have r9 : ∀ t, Steps p.tables e below (T9.setTop (mkF m 57 #[.val (.int p1), .val (.ref b2), .val (.int d8)] [(.int d9)])) t → Steps p.tables e below (s₁.setTop (mkF m 0 #[.val (.int p1), .unset, .unset] [])) t := fun t k => r8 t (s8 t (st9 _  k))
  have s9 : ∀ t, Steps p.tables e below (T9.setTop (mkF m 63 #[.val (.int p1), .val (.ref b2), .val (.int d9)] [(.int (6 : Int32)), (.int p1), (.int d9), (.ref b2)])) t → Steps p.tables e below (T9.setTop (mkF m 57 #[.val (.int p1), .val (.ref b2), .val (.int d8)] [(.int d9)])) t := by
    intro t k
    show Steps p.tables e below (T9.setTop (mkF m 57 #[.val (.int p1), .val (.ref b2), .val (.int d8)] [(.int d9)])) _
    refine XS.istoreN X9.here hx rfl (hb hby at_57) rfl (l' := #[.val (.int p1), .val (.ref b2), .val (.int d9)]) rfl ?_
    show Steps p.tables e below (T9.setTop (mkF m 58 #[.val (.int p1), .val (.ref b2), .val (.int d9)] [])) _
    refine XS.aloadN X9.here hx rfl (hb hby at_58) rfl rfl ?_
    show Steps p.tables e below (T9.setTop (mkF m 59 #[.val (.int p1), .val (.ref b2), .val (.int d9)] [(.ref b2)])) _
    refine XS.iloadN X9.here hx rfl (hb hby at_59) rfl ?_
    show Steps p.tables e below (T9.setTop (mkF m 60 #[.val (.int p1), .val (.ref b2), .val (.int d9)] [(.int d9), (.ref b2)])) _
    refine XS.iloadN X9.here hx rfl (hb hby at_60) rfl ?_
    show Steps p.tables e below (T9.setTop (mkF m 61 #[.val (.int p1), .val (.ref b2), .val (.int d9)] [(.int p1), (.int d9), (.ref b2)])) _
    refine XS.bipush X9.here hx rfl (hb hby at_61) ?_
    show Steps p.tables e below (T9.setTop (mkF m 63 #[.val (.int p1), .val (.ref b2), .val (.int d9)] [(.int (6 : Int32)), (.int p1), (.int d9), (.ref b2)])) _
    exact k
  obtain ⟨_, _, ⟨T10, L10, k10, n10⟩, -, X10, ⟨Lc10, hQ10, l10, y10, z10⟩, st10⟩ := Jvm.LawKit.callS X9 hx (y := (⟨"com/example/fsmconv/fsmconv/model/ExpressionLimitsDeeperPinLaw", "step", "(Lcom/example/fsmconv/fsmconv/model/ExpressionLimits;III)I"⟩ : MethodName)) hown (mvT hZ (hw _ (List.mem_of_getElem? (i := 9) rfl))) (mvT hZ (hw _ (List.mem_of_getElem? (i := 10) rfl))) (mvT hZ (hw _ (List.mem_of_getElem? (i := 11) rfl))) (mvT hZ (hw _ (List.mem_of_getElem? (i := 12) rfl))) (by decide) (backOf (W := 0) (rm3 l Z a0 hw [] b2 d9 p1 (6 : Int32) T9.heap n0 Z9 F9 E9 g_b2 (by omega) (by omega)) hZ (hw _ (List.mem_of_getElem? (i := 12) rfl)) (hw _ (List.mem_of_getElem? (i := 11) rfl)) (by decide) (by decide)) (g := (mkF m 63 #[.val (.int p1), .val (.ref b2), .val (.int d9)] [(.int (6 : Int32)), (.int p1), (.int d9), (.ref b2)])) rfl (by rw [hml]; rfl) (argsL := [(.ref b2), (.int d9), (.int p1), (.int (6 : Int32))]) (rest := []) (lenOf pd__Lcom_example_fsmconv_fsmconv_model_ExpressionLimits_III_I rfl) rfl (by show 2 * 0 + _ ≤ _; exact Nat.le_of_eq rfl) (hb hby at_63) (fun _ _ => ⟨rfl, rfl, (by decide : 1 + 0 ≤ _), (by decide : 2 + 0 ≤ _)⟩)
  dsimp only [Pt.U, Pt.locs, Pt.cells, Pt.slots] at X10 l10 y10 z10 st10 hQ10
  subst l10 y10 z10
  obtain ⟨d10, rfl, N10q, K10, E10, F10, lo10, hi10⟩ := hQ10
  have N10 := Fr.app N9 N10q
  have Z10 : n0 ≤ T10.heap.size := Nat.le_trans Z9 K10.1
  have r10 : ∀ t, Steps p.tables e below (T10.setTop (mkF m 66 #[.val (.int p1), .val (.ref b2), .val (.int d9)] [(.int d10)])) t → Steps p.tables e below (s₁.setTop (mkF m 0 #[.val (.int p1), .unset, .unset] [])) t := fun t k => r9 t (s9 t (st10 _  k))
  have s10 : ∀ t, Steps p.tables e below (T10.setTop (mkF m 72 #[.val (.int p1), .val (.ref b2), .val (.int d10)] [(.int (7 : Int32)), (.int p1), (.int d10), (.ref b2)])) t → Steps p.tables e below (T10.setTop (mkF m 66 #[.val (.int p1), .val (.ref b2), .val (.int d9)] [(.int d10)])) t := by
    intro t k
    show Steps p.tables e below (T10.setTop (mkF m 66 #[.val (.int p1), .val (.ref b2), .val (.int d9)] [(.int d10)])) _
    refine XS.istoreN X10.here hx rfl (hb hby at_66) rfl (l' := #[.val (.int p1), .val (.ref b2), .val (.int d10)]) rfl ?_
    show Steps p.tables e below (T10.setTop (mkF m 67 #[.val (.int p1), .val (.ref b2), .val (.int d10)] [])) _
    refine XS.aloadN X10.here hx rfl (hb hby at_67) rfl rfl ?_
    show Steps p.tables e below (T10.setTop (mkF m 68 #[.val (.int p1), .val (.ref b2), .val (.int d10)] [(.ref b2)])) _
    refine XS.iloadN X10.here hx rfl (hb hby at_68) rfl ?_
    show Steps p.tables e below (T10.setTop (mkF m 69 #[.val (.int p1), .val (.ref b2), .val (.int d10)] [(.int d10), (.ref b2)])) _
    refine XS.iloadN X10.here hx rfl (hb hby at_69) rfl ?_
    show Steps p.tables e below (T10.setTop (mkF m 70 #[.val (.int p1), .val (.ref b2), .val (.int d10)] [(.int p1), (.int d10), (.ref b2)])) _
    refine XS.bipush X10.here hx rfl (hb hby at_70) ?_
    show Steps p.tables e below (T10.setTop (mkF m 72 #[.val (.int p1), .val (.ref b2), .val (.int d10)] [(.int (7 : Int32)), (.int p1), (.int d10), (.ref b2)])) _
    exact k
  obtain ⟨_, _, ⟨T11, L11, k11, n11⟩, -, X11, ⟨Lc11, hQ11, l11, y11, z11⟩, st11⟩ := Jvm.LawKit.callS X10 hx (y := (⟨"com/example/fsmconv/fsmconv/model/ExpressionLimitsDeeperPinLaw", "step", "(Lcom/example/fsmconv/fsmconv/model/ExpressionLimits;III)I"⟩ : MethodName)) hown (mvT hZ (hw _ (List.mem_of_getElem? (i := 9) rfl))) (mvT hZ (hw _ (List.mem_of_getElem? (i := 10) rfl))) (mvT hZ (hw _ (List.mem_of_getElem? (i := 11) rfl))) (mvT hZ (hw _ (List.mem_of_getElem? (i := 12) rfl))) (by decide) (backOf (W := 0) (rm3 l Z a0 hw [] b2 d10 p1 (7 : Int32) T10.heap n0 Z10 F10 E10 g_b2 (by omega) (by omega)) hZ (hw _ (List.mem_of_getElem? (i := 12) rfl)) (hw _ (List.mem_of_getElem? (i := 11) rfl)) (by decide) (by decide)) (g := (mkF m 72 #[.val (.int p1), .val (.ref b2), .val (.int d10)] [(.int (7 : Int32)), (.int p1), (.int d10), (.ref b2)])) rfl (by rw [hml]; rfl) (argsL := [(.ref b2), (.int d10), (.int p1), (.int (7 : Int32))]) (rest := []) (lenOf pd__Lcom_example_fsmconv_fsmconv_model_ExpressionLimits_III_I rfl) rfl (by show 2 * 0 + _ ≤ _; exact Nat.le_of_eq rfl) (hb hby at_72) (fun _ _ => ⟨rfl, rfl, (by decide : 1 + 0 ≤ _), (by decide : 2 + 0 ≤ _)⟩)
  dsimp only [Pt.U, Pt.locs, Pt.cells, Pt.slots] at X11 l11 y11 z11 st11 hQ11
  subst l11 y11 z11
  obtain ⟨d11, rfl, N11q, K11, E11, F11, lo11, hi11⟩ := hQ11
  have N11 := Fr.app N10 N11q
  have Z11 : n0 ≤ T11.heap.size := Nat.le_trans Z10 K11.1
  have r11 : ∀ t, Steps p.tables e below (T11.setTop (mkF m 75 #[.val (.int p1), .val (.ref b2), .val (.int d10)] [(.int d11)])) t → Steps p.tables e below (s₁.setTop (mkF m 0 #[.val (.int p1), .unset, .unset] [])) t := fun t k => r10 t (s10 t (st11 _  k))
  have s11 : ∀ t, Steps p.tables e below (T11.setTop (mkF m 87 #[.val (.int p1), .val (.ref b2), .val (.int d11)] [(.int (1 : Int32))])) t → Steps p.tables e below (T11.setTop (mkF m 75 #[.val (.int p1), .val (.ref b2), .val (.int d10)] [(.int d11)])) t := by
    intro t k
    show Steps p.tables e below (T11.setTop (mkF m 75 #[.val (.int p1), .val (.ref b2), .val (.int d10)] [(.int d11)])) _
    refine XS.istoreN X11.here hx rfl (hb hby at_75) rfl (l' := #[.val (.int p1), .val (.ref b2), .val (.int d11)]) rfl ?_
    show Steps p.tables e below (T11.setTop (mkF m 76 #[.val (.int p1), .val (.ref b2), .val (.int d11)] [])) _
    refine XS.iloadN X11.here hx rfl (hb hby at_76) rfl ?_
    show Steps p.tables e below (T11.setTop (mkF m 77 #[.val (.int p1), .val (.ref b2), .val (.int d11)] [(.int d11)])) _
    refine X11.ldcI hx hown (mvT hZ (hw _ (List.mem_of_getElem? (i := 13) rfl))) (g := (mkF m 77 #[.val (.int p1), .val (.ref b2), .val (.int d11)] [(.int d11)])) rfl (hb hby at_77) ?_
    show Steps p.tables e below (T11.setTop (mkF m 79 #[.val (.int p1), .val (.ref b2), .val (.int d11)] [(.int (-2147483648 : Int32)), (.int d11)])) _
    refine XS.icmpNo X11.here hx rfl (hb hby at_79) rfl (XT.ii_eq_f (own_ne (by omega))) ?_
    show Steps p.tables e below (T11.setTop (mkF m 82 #[.val (.int p1), .val (.ref b2), .val (.int d11)] [])) _
    refine XS.iconst X11.here hx rfl (hb hby at_82) ?_
    show Steps p.tables e below (T11.setTop (mkF m 83 #[.val (.int p1), .val (.ref b2), .val (.int d11)] [(.int (1 : Int32))])) _
    refine XS.goto X11.here hx rfl (pc0 := 83) (pc' := 87) rfl (hb hby at_83) (by decide) (by decide) ?_
    show Steps p.tables e below (T11.setTop (mkF m 87 #[.val (.int p1), .val (.ref b2), .val (.int d11)] [(.int (1 : Int32))])) _
    exact k
  obtain ⟨fs, hr, hrun, hended, hW, hsame⟩ := X11.leave (v := some (.int (1 : Int32))) (fun h => by rw [Bd.returns] at h; cases h)
  refine ⟨_, _, pre0 _ (r11 _ (s11 _ ?_)), hrun, hended, _, _, rfl, ?_, ⟨_, rfl⟩, hW, hsame.mono (by decide) (by decide)⟩
  · exact retN X11 hx (t := .boolean) Bd.returns (by simp) (hb hby at_87) hr
  · exact ⟨rfl, N11⟩
set_option maxRecDepth 65536 in
set_option maxHeartbeats 40000000 in
theorem comes_1 {Post : Tables → Env → Array Value → State → Outcome → State → Prop} (hpost : ∀ tb e args s v u, (limb_1_1.after args s (.returned v) u = true ∧ limb_1_2.after args s (.returned v) u = true ∧ True) → FrameEnd s (.returned v) u (Jvm.fieldLocs frame_1_writes args s ++ Jvm.arrayLocs frame_1_arrays args s ++ Jvm.staticLocs frame_1_statics s) 16 128 → Post tb e args s (.returned v) u) :
    ArmFor flags0 classFile x code maxLocals ret World_1 tables_1 room_1 Calls_1 rest_1 Pre_1 Post := by
  intro l hfl _ _ p e ha hc hk s m args below hf hA hF happ hP
  obtain ⟨hcalls, hrest, hpre⟩ := hP
  obtain ⟨-, -, -, hnamed, -, -, -, hat⟩ := (Spec.applies_iff hf).mp happ
  obtain ⟨hg, hn⟩ := and_e (Cond.before_iff.mp (show (Jvm.Cond.and given_1 narrow_1).before args s = true from hpre))
  obtain ⟨gc, q0⟩ := and_e hg
  obtain ⟨w0, rfl⟩ : ∃ w0 : Value, args = #[w0] := by
    have hs : args.size = 1 := by simpa [Cond.value, given_1] using gc
    obtain ⟨L⟩ := args
    match L, hs with
    | [w0], _ => exact ⟨w0, rfl⟩
  have hw := fun d (hd : d ∈ tables_1) => atoms_spec (ws := Jvm.Cond.code x code maxLocals ret :: tables_1) hat d (List.mem_cons_of_mem _ hd)
  obtain ⟨i0, ei0⟩ := is_v q0
  obtain rfl : w0 = (.int i0) := Option.some.inj ei0
  obtain ⟨n, o, h1, h2, h3, _, L, rfl, ⟨rfl, N⟩, hq⟩ := rm0 l s _ hw tables_1 i0 s.heap s.heap.size (Nat.le_refl _) p e ha hc hk s m _ below hf ((Spec.applies_iff_loose hf).mp happ).1 ⟨rfl, State.Warmed39.refl s, rfl⟩ trivial
  refine ⟨n, _, h1, h2, h3, hpost _ _ _ _ _ _ ⟨Cond.after_iff.mpr rfl, Cond.after_iff.mpr (eq_i res_at (Term.int_eval (1)) rfl), trivial⟩ ⟨hq.1, hq.2.1, (hq.2.2.sift fun y hy => Or.inr (N y hy)).mono (by decide) (by decide)⟩⟩
theorem main_1_1 : Claimed_1_1 := comes_1 fun _ _ _ _ _ _ h hF => ⟨h.1, hF⟩
theorem main_1_2 : Claimed_1_2 := comes_1 fun _ _ _ _ _ _ h hF => ⟨h.2.1, hF⟩
end Jvm.Pilot.@@N@@
namespace Jvm.Pilot.@@N@@
open Jvm Jvm.ClassFile Sem Op Lib Jvm.Free Jvm.Stand Jvm.Pilot.@@N@@.Jvm.D
/-! MADE BY PROGRAM (witnessworld.py) out of the Statement's table words and the real class files: 7 classes; the members and pool entries that the words name. The judged class is class 1, her method 2. -/
namespace start1
open Jvm.ClassFile
def u (s : String) : CpInfo := .utf8 (stringToUtf16 s)
/-- a pool by its gaps: so many unusable entries, then the entry; so many at the end -/
def gap : Nat → List CpInfo → List CpInfo
  | 0, r => r
  | n + 1, r => .unusable :: gap n r
def poolList (es : List (Nat × CpInfo)) (last : Nat) : List CpInfo := es.foldr (fun e r => gap e.1 (e.2 :: r)) (gap last [])
def pool (es : List (Nat × CpInfo)) (last : Nat) : Array CpInfo := ⟨poolList es last⟩
def fileOf (pool : Array CpInfo) (this : Nat) (attrs : Array Attribute := #[]) (ms : Array MethodInfo := #[]) (fl : Nat := 33) (sup : Nat := 0) (ifs : Array Nat := #[]) (fds : Array FieldInfo := #[]) : ClassFile where
  minorVersion := 0
  majorVersion := 65
  constantPool := pool
  accessFlags := fl
  thisClass := this
  superClass := sup
  interfaces := ifs
  fields := fds
  methods := ms
  attributes := attrs
def plain (name : String) (sup : Option ClassId) : Class where
  name := name
  kind := .ordinary
  loader := none
  accessFlags := 33
  super := sup
  interfaces := #[]
  cf := none
  fields := #[]
  methods := #[]
  instanceTypes := #[]
  staticTypes := #[]
  resolved := #[]
  callSites := []
  init := .initialized
  statics := none
  mirror := none

def pool0 : Array CpInfo := pool [(5, u "<init>"), (0, u "()V"), (1, .class_ 10), (1, u "java/lang/Object")] 113

def k0c0 : Code := { maxStack := 0, maxLocals := 1, code := object_method_1_code, exceptionTable := #[], attributes := #[] }
def k0m0 : Method := { name := "<init>", desc := "()V", sig := { parameters := [], returnType := none }, accessFlags := 1, code := some k0c0 }
/-- java/lang/Object -/
def k0 : Class := { plain "java/lang/Object" none with
  accessFlags := 33
  interfaces := #[]
  cf := some (fileOf pool0 8 #[] #[{ accessFlags := 1, nameIndex := 5, descriptorIndex := 6, attributes := #[] }] 33 0 #[] #[])
  fields := #[]
  methods := #[k0m0]
  instanceTypes := #[]
  staticTypes := #[]
  resolved := Array.replicate 124 none
  statics := none }

def pool1 : Array CpInfo := pool [(4, .class_ 6), (0, .nameAndType 7 8), (0, u "java/lang/Object"), (0, u "<init>"), (0, u "()V"), (0, .class_ 10), (0, u "com/example/fsmconv/fsmconv/model/ExpressionLimitsDeeperPinLaw"), (0, .integer 2147483648), (0, .methodref 13 14), (0, .class_ 15), (0, .nameAndType 16 17), (0, u "com/example/fsmconv/fsmconv/model/ExpressionLimits"), (0, u "deeper"), (0, u "()Z"), (0, .methodref 13 19), (0, .nameAndType 20 8), (0, u "shallower"), (0, .methodref 13 5), (0, .methodref 9 23), (0, .nameAndType 24 25), (0, u "step"), (0, u "(Lcom/example/fsmconv/fsmconv/model/ExpressionLimits;III)I"), (0, u "FAIL"), (0, u "I"), (4, u "law"), (0, u "(I)Z")] 2

def k1m0 : Method := { name := "<init>", desc := "()V", sig := { parameters := [], returnType := none }, accessFlags := 1, code := none }
def k1c1 : Code := { maxStack := 2, maxLocals := 7, code := method_2_code, exceptionTable := #[], attributes := #[] }
def k1m1 : Method := { name := "step", desc := "(Lcom/example/fsmconv/fsmconv/model/ExpressionLimits;III)I", sig := { parameters := [(.object "com/example/fsmconv/fsmconv/model/ExpressionLimits"), .int, .int, .int], returnType := some .int }, accessFlags := 10, code := some k1c1 }
def k1c2 : Code := { maxStack := 4, maxLocals := 3, code := code, exceptionTable := #[], attributes := #[] }
def k1m2 : Method := { name := "law", desc := "(I)Z", sig := { parameters := [.int], returnType := some .boolean }, accessFlags := 9, code := some k1c2 }
/-- com/example/fsmconv/fsmconv/model/ExpressionLimitsDeeperPinLaw -/
def k1 : Class := { plain "com/example/fsmconv/fsmconv/model/ExpressionLimitsDeeperPinLaw" (some 0) with
  accessFlags := 49
  interfaces := #[]
  cf := some (fileOf pool1 9 #[] #[{ accessFlags := 1, nameIndex := 7, descriptorIndex := 8, attributes := #[] }, { accessFlags := 10, nameIndex := 24, descriptorIndex := 25, attributes := #[] }, { accessFlags := 9, nameIndex := 32, descriptorIndex := 33, attributes := #[] }] 49 4 #[] #[{ accessFlags := 26, nameIndex := 26, descriptorIndex := 27, attributes := #[] }])
  fields := #[{ name := "FAIL", type := .int, accessFlags := 26, slot := 0, constantValue := 0 }]
  methods := #[k1m0, k1m1, k1m2]
  instanceTypes := #[]
  staticTypes := #[.int]
  resolved := Array.replicate 36 none
  statics := none }

def pool2 : Array CpInfo := pool [(1, .class_ 2), (0, u "com/example/fsmconv/fsmconv/model/ExpressionLimits"), (0, .methodref 4 5), (0, .class_ 6), (0, .nameAndType 7 8), (0, u "java/lang/Object"), (0, u "<init>"), (0, u "()V"), (0, .fieldref 1 10), (0, .nameAndType 11 12), (0, u "depth"), (0, u "I"), (2, u "operators"), (0, u "MAXIMUM_NESTING"), (2, u "MAXIMUM_OPERATORS"), (1, u "NESTS_TOO_DEEP"), (0, u "Ljava/lang/String;"), (2, u "HOLDS_TOO_MANY_OPERATORS"), (2, u "TOO_DEEP"), (2, u "TOO_MANY_OPERATORS"), (6, u "deeper"), (0, u "()Z"), (0, u "shallower")] 3

def k2c0 : Code := { maxStack := 1, maxLocals := 1, code := prog_23_method_1_code, exceptionTable := #[], attributes := #[] }
def k2m0 : Method := { name := "<init>", desc := "()V", sig := { parameters := [], returnType := none }, accessFlags := 1, code := some k2c0 }
def k2c1 : Code := { maxStack := 3, maxLocals := 1, code := prog_23_method_3_code, exceptionTable := #[], attributes := #[] }
def k2m1 : Method := { name := "deeper", desc := "()Z", sig := { parameters := [], returnType := some .boolean }, accessFlags := 1, code := some k2c1 }
def k2c2 : Code := { maxStack := 3, maxLocals := 1, code := prog_23_method_4_code, exceptionTable := #[], attributes := #[] }
def k2m2 : Method := { name := "shallower", desc := "()V", sig := { parameters := [], returnType := none }, accessFlags := 1, code := some k2c2 }
/-- com/example/fsmconv/fsmconv/model/ExpressionLimits -/
def k2 : Class := { plain "com/example/fsmconv/fsmconv/model/ExpressionLimits" (some 0) with
  accessFlags := 49
  interfaces := #[]
  cf := some (fileOf pool2 1 #[] #[{ accessFlags := 1, nameIndex := 7, descriptorIndex := 8, attributes := #[] }, { accessFlags := 1, nameIndex := 38, descriptorIndex := 39, attributes := #[] }, { accessFlags := 1, nameIndex := 40, descriptorIndex := 8, attributes := #[] }] 49 4 #[] #[{ accessFlags := 25, nameIndex := 16, descriptorIndex := 12, attributes := #[] }, { accessFlags := 25, nameIndex := 19, descriptorIndex := 12, attributes := #[] }, { accessFlags := 25, nameIndex := 21, descriptorIndex := 22, attributes := #[] }, { accessFlags := 25, nameIndex := 25, descriptorIndex := 22, attributes := #[] }, { accessFlags := 25, nameIndex := 28, descriptorIndex := 22, attributes := #[] }, { accessFlags := 25, nameIndex := 31, descriptorIndex := 22, attributes := #[] }, { accessFlags := 2, nameIndex := 11, descriptorIndex := 12, attributes := #[] }, { accessFlags := 2, nameIndex := 15, descriptorIndex := 12, attributes := #[] }])
  fields := #[{ name := "MAXIMUM_NESTING", type := .int, accessFlags := 25, slot := 0, constantValue := 0 }, { name := "MAXIMUM_OPERATORS", type := .int, accessFlags := 25, slot := 1, constantValue := 0 }, { name := "NESTS_TOO_DEEP", type := (.object "java/lang/String"), accessFlags := 25, slot := 2, constantValue := 0 }, { name := "HOLDS_TOO_MANY_OPERATORS", type := (.object "java/lang/String"), accessFlags := 25, slot := 3, constantValue := 0 }, { name := "TOO_DEEP", type := (.object "java/lang/String"), accessFlags := 25, slot := 4, constantValue := 0 }, { name := "TOO_MANY_OPERATORS", type := (.object "java/lang/String"), accessFlags := 25, slot := 5, constantValue := 0 }, { name := "depth", type := .int, accessFlags := 2, slot := 0, constantValue := 0 }, { name := "operators", type := .int, accessFlags := 2, slot := 1, constantValue := 0 }]
  methods := #[k2m0, k2m1, k2m2]
  instanceTypes := #[.int, .int]
  staticTypes := #[.int, .int, (.object "java/lang/String"), (.object "java/lang/String"), (.object "java/lang/String"), (.object "java/lang/String")]
  resolved := Array.replicate 44 none
  statics := none }

def pool3 : Array CpInfo := pool [(1, u "java/lang/Cloneable"), (0, .class_ 1), (0, u "java/lang/Object"), (0, .class_ 3)] 3

/-- java/lang/Cloneable -/
def k3 : Class := { plain "java/lang/Cloneable" (some 0) with
  accessFlags := 1537
  interfaces := #[]
  cf := some (fileOf pool3 2 #[] #[] 1537 4 #[] #[])
  fields := #[]
  methods := #[]
  instanceTypes := #[]
  staticTypes := #[]
  resolved := Array.replicate 8 none
  statics := none }

def pool4 : Array CpInfo := pool [(1, u "java/io/Serializable"), (0, .class_ 1), (0, u "java/lang/Object"), (0, .class_ 3)] 3

/-- java/io/Serializable -/
def k4 : Class := { plain "java/io/Serializable" (some 0) with
  accessFlags := 1537
  interfaces := #[]
  cf := some (fileOf pool4 2 #[] #[] 1537 4 #[] #[])
  fields := #[]
  methods := #[]
  instanceTypes := #[]
  staticTypes := #[]
  resolved := Array.replicate 8 none
  statics := none }

/-- the primitive byte -/
def k5 : Class := { plain "byte" none with kind := .primitive 'B', accessFlags := 0x411 }
/-- [B -/
def k6 : Class := { plain "[B" (some 0) with kind := .array 5 .byte, interfaces := #[3, 4], accessFlags := 1041 }

def heap : Heap := #[]
def classes : Array Class := #[k0, k1, k2, k3, k4, k5, k6]
def interned : List (Array UInt16 × Addr) := []
def slotsUsed : Nat := 0
def theMethod : MethodId := ⟨1, 2⟩
def args0 : Array Value := #[.int 5]
def aboutOver (below : List Frame) : State where
  vm := { classes := classes, interned := interned.toArray }
  heap := heap
  slotsUsed := slotsUsed
  threads := #[{ frames := .invoking theMethod args0 :: below }]
def below0 : List Frame := [.native { method := ⟨0, 0⟩, args := #[] }]
def about1 : State := aboutOver below0
def p0 : Program := .bare "" "" ""
def e0 : Env := launch0.env 0 0 0
theorem w_frames : about1.frames = Frame.invoking theMethod args0 :: below0 := rfl
set_option maxRecDepth 65536 in
theorem w_args : argsFit about1.vm theMethod args0 = true := by decide +kernel
set_option maxRecDepth 65536 in
theorem w_heap : heapFits about1 = true := by decide +kernel
set_option maxRecDepth 65536 in
theorem w_runnable : about1.curStatus? = some .runnable := by decide +kernel
set_option maxRecDepth 65536 in
theorem w_alone : about1.alone = true := by decide +kernel
set_option maxRecDepth 65536 in
theorem w_named : about1.methodNamed? x = some theMethod := by decide +kernel
set_option maxRecDepth 65536 in
theorem w_hears : about1.hears theMethod below0 = true := by decide +kernel
set_option maxRecDepth 65536 in
theorem w_ripe : about1.ripe theMethod args0 below0 = true := by decide +kernel
theorem w_running : about1.status = .running := rfl
set_option maxRecDepth 65536 in
theorem w_room : about1.hasRoom e0.platform room_1 = true :=
  launch0.hasRoom_least _ room_1 (by decide +kernel) (by decide +kernel) (by decide +kernel) (by decide +kernel) (by decide +kernel) (by decide +kernel)
theorem allAtoms_all (ts : List Jvm.Cond) (a : Array Jvm.Value) (st : Jvm.State) : (allAtoms ts).before a st = ts.all (fun c => c.before a st) := by
  induction ts with
  | nil => rfl
  | cons c t ih =>
    show (Jvm.Cond.and c (allAtoms t)).before a st = _
    rw [Jvm.Cond.before_and, ih, List.all_cons]
def words1 : List Jvm.Cond := Jvm.Cond.code x code maxLocals ret :: tables_1
/-- a 'code' word, met by the world's own term for the bytes: nothing is compared byte by byte -/
theorem code_word {y : MethodName} {bytes : ByteArray} {mx : Nat} {rt : Option FieldType} {a : Array Value} {s : State} {m : MethodId} {meth : Method} {c : Code} (h1 : s.methodNamed? y = some m) (h2 : s.vm.method? m = some meth) (h3 : meth.code = some c) (h4 : c.code = bytes)
    (h5 : (c.maxLocals == mx && c.exceptionTable.isEmpty && decide (c.maxStack ≤ mostOperands) && decide (meth.sig.returnType = rt) && !meth.locks && decide (parseMethodDescriptor y.desc = some meth.sig)) = true) : (Jvm.Cond.code y bytes mx rt).before a s = true := by
  simp only [Bool.and_eq_true, beq_iff_eq, Bool.not_eq_true', decide_eq_true_eq] at h5
  obtain ⟨⟨⟨⟨⟨g1, g2⟩, g3⟩, g4⟩, g5⟩, g6⟩ := h5
  simp [Cond.before, Cond.holds, Cond.value, h1, h2, h3, h4, g1, g2, g3, g4, g5, g6]
def isCode : Jvm.Cond → Bool
  | .code _ _ _ _ => true
  | _ => false
theorem all_split {L : List Jvm.Cond} {P : Jvm.Cond → Bool} (h1 : L.all (fun c => isCode c || P c) = true) (h2 : ∀ c ∈ L.filter isCode, P c = true) : L.all P = true := by
  refine List.all_eq_true.mpr fun c hc => ?_
  have h := List.all_eq_true.mp h1 c hc
  rcases Bool.eq_false_or_eq_true (isCode c) with hi | hi
  · exact h2 c (List.mem_filter.mpr ⟨hc, hi⟩)
  · simpa [hi] using h
set_option maxRecDepth 65536 in
theorem w_c0 : (Jvm.Cond.code x code maxLocals ret).before args0 about1 = true := code_word (m := ⟨1, 2⟩) (meth := k1m2) (c := k1c2) (by decide +kernel) rfl rfl rfl (by decide +kernel)
set_option maxRecDepth 65536 in
theorem w_c1 : (Jvm.Cond.code ({ cls := "com/example/fsmconv/fsmconv/model/ExpressionLimits", name := "<init>", desc := "()V" } : Jvm.MethodName) prog_23_method_1_code (1 : Nat) (Option.none : Option Jvm.ClassFile.FieldType)).before args0 about1 = true := code_word (m := ⟨2, 0⟩) (meth := k2m0) (c := k2c0) (by decide +kernel) rfl rfl rfl (by decide +kernel)
set_option maxRecDepth 65536 in
theorem w_c2 : (Jvm.Cond.code ({ cls := "java/lang/Object", name := "<init>", desc := "()V" } : Jvm.MethodName) object_method_1_code (1 : Nat) (Option.none : Option Jvm.ClassFile.FieldType)).before args0 about1 = true := code_word (m := ⟨0, 0⟩) (meth := k0m0) (c := k0c0) (by decide +kernel) rfl rfl rfl (by decide +kernel)
set_option maxRecDepth 65536 in
theorem w_c3 : (Jvm.Cond.code ({ cls := "com/example/fsmconv/fsmconv/model/ExpressionLimitsDeeperPinLaw", name := "step", desc := "(Lcom/example/fsmconv/fsmconv/model/ExpressionLimits;III)I" } : Jvm.MethodName) method_2_code (7 : Nat) (Option.some Jvm.ClassFile.FieldType.int)).before args0 about1 = true := code_word (m := ⟨1, 1⟩) (meth := k1m1) (c := k1c1) (by decide +kernel) rfl rfl rfl (by decide +kernel)
set_option maxRecDepth 65536 in
theorem w_c4 : (Jvm.Cond.code ({ cls := "com/example/fsmconv/fsmconv/model/ExpressionLimits", name := "shallower", desc := "()V" } : Jvm.MethodName) prog_23_method_4_code (1 : Nat) (Option.none : Option Jvm.ClassFile.FieldType)).before args0 about1 = true := code_word (m := ⟨2, 2⟩) (meth := k2m2) (c := k2c2) (by decide +kernel) rfl rfl rfl (by decide +kernel)
set_option maxRecDepth 65536 in
theorem w_c5 : (Jvm.Cond.code ({ cls := "com/example/fsmconv/fsmconv/model/ExpressionLimits", name := "deeper", desc := "()Z" } : Jvm.MethodName) prog_23_method_3_code (1 : Nat) (Option.some Jvm.ClassFile.FieldType.boolean)).before args0 about1 = true := code_word (m := ⟨2, 1⟩) (meth := k2m1) (c := k2c1) (by decide +kernel) rfl rfl rfl (by decide +kernel)
def codes1 : List Jvm.Cond := [Jvm.Cond.code x code maxLocals ret, Jvm.Cond.code ({ cls := "com/example/fsmconv/fsmconv/model/ExpressionLimits", name := "<init>", desc := "()V" } : Jvm.MethodName) prog_23_method_1_code (1 : Nat) (Option.none : Option Jvm.ClassFile.FieldType), Jvm.Cond.code ({ cls := "java/lang/Object", name := "<init>", desc := "()V" } : Jvm.MethodName) object_method_1_code (1 : Nat) (Option.none : Option Jvm.ClassFile.FieldType), Jvm.Cond.code ({ cls := "com/example/fsmconv/fsmconv/model/ExpressionLimitsDeeperPinLaw", name := "step", desc := "(Lcom/example/fsmconv/fsmconv/model/ExpressionLimits;III)I" } : Jvm.MethodName) method_2_code (7 : Nat) (Option.some Jvm.ClassFile.FieldType.int), Jvm.Cond.code ({ cls := "com/example/fsmconv/fsmconv/model/ExpressionLimits", name := "shallower", desc := "()V" } : Jvm.MethodName) prog_23_method_4_code (1 : Nat) (Option.none : Option Jvm.ClassFile.FieldType), Jvm.Cond.code ({ cls := "com/example/fsmconv/fsmconv/model/ExpressionLimits", name := "deeper", desc := "()Z" } : Jvm.MethodName) prog_23_method_3_code (1 : Nat) (Option.some Jvm.ClassFile.FieldType.boolean)]
set_option maxRecDepth 65536 in
theorem codes_eq : words1.filter isCode = codes1 := rfl
theorem w_codes : ∀ c ∈ words1.filter isCode, c.before args0 about1 = true := by
  rw [codes_eq]
  intro c hc
  simp only [codes1, List.mem_cons, List.not_mem_nil, or_false] at hc
  rcases hc with rfl | rfl | rfl | rfl | rfl | rfl
  · exact w_c0
  · exact w_c1
  · exact w_c2
  · exact w_c3
  · exact w_c4
  · exact w_c5
set_option maxRecDepth 65536 in
theorem w_t1 : (words1.take 24).all (fun c => isCode c || c.before args0 about1) = true := by decide +kernel
set_option maxRecDepth 65536 in
theorem w_t2 : (words1.drop 24).all (fun c => isCode c || c.before args0 about1) = true := by decide +kernel
theorem w_tables : (allAtoms (Jvm.Cond.code x code maxLocals ret :: tables_1)).before args0 about1 = true := by
  rw [allAtoms_all]
  show words1.all (fun c => c.before args0 about1) = true
  refine all_split ?_ w_codes
  rw [← List.take_append_drop 24 words1, List.all_append, w_t1, w_t2]
  rfl
set_option maxRecDepth 65536 in
theorem w_case : (Jvm.Cond.and given_1 narrow_1).before args0 about1 = true := by decide +kernel
theorem w_applies : (headSpec (Jvm.Cond.code x code maxLocals ret :: tables_1) room_1).applies x e0.platform about1 = true :=
  (Spec.applies_iff w_frames).mpr ⟨w_running, w_runnable, w_alone, w_named, w_hears, w_ripe, w_room, w_tables⟩
theorem atStart : AtStart classFile x code maxLocals ret World_1 tables_1 room_1 Calls_1 rest_1 Pre_1 launch0 p0 e0 about1 theMethod args0 below0 :=
  ⟨lists_1, trivial, launch0.admits_env _ _ _, launch0.least_env, fairChoices_fair.cas, fairChoices_fair.clock, w_frames, w_args, w_heap, w_applies, trivial, trivial, w_case⟩
end start1
theorem witness_1 : WitnessClaimed_1 := ⟨start1.p0, start1.e0, start1.about1, start1.theMethod, start1.args0, start1.below0, start1.atStart⟩
end Jvm.Pilot.@@N@@
