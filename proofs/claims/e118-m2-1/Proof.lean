import JvmDerived
import JvmDerived.Pilot.@@N@@Statement
import JvmDerived.Pilot.@@N@@Code
set_option linter.unusedVariables false
set_option linter.unusedSimpArgs false
namespace Jvm.RoadKit
open Sem ClassFile Op Lib Jvm.Stand Jvm.Free Jvm.LawKit
section New
variable {p : Program} {l : Launch} {e : Env} {R : Room} {s : State} {m : MethodId} {args : Array Value} {below : List Frame} {meth : Method} {c : Code} {T : State} {locs : List Loc} {cells slots : Nat}
theorem retI (X : Stand p l e R s m args below meth c T locs cells slots) (hx : p.tables.exec = Jvm.exec) {pc : Nat} {Ls : Array Slot} {z : Int32} {rest : List Value} (hret : meth.sig.returnType = some .int) (hd : decode c.code pc = .ok (.ireturn, 1)) {fs : List Frame}
    (hl : ∀ (f : JFrame) (acts : List Action), f.method = m → f.locked = none → f.entered = [] → (doReturn e (T.setTop f) acts (some (.int z))).1 = T.setFrames fs) : Steps p.tables e below (T.setTop (mkF m pc Ls (.int z :: rest))) (T.setFrames fs) := by
  have hm' : T.vm.method? m = some meth := X.method'
  have hn : narrow .int (.int z) = .int z := rfl
  show Steps p.tables e below (T.setTop { method := m, pc := pc, locals := Ls, stack := _ :: rest, locked := none }) _
  jvm_step X.here [X.here.top, hx, hd, hm', hret, hn]
  first | (intro acts; rw [hl _ acts rfl rfl rfl]) | rw [hl _ _ rfl rfl rfl]
  exact Steps.refl _
end New
end Jvm.RoadKit
namespace Jvm.Pilot.@@N@@
open Jvm Jvm.ClassFile Sem Op Lib Jvm.Free Jvm.Stand Jvm.LawKit Jvm.RoadKit Bundle Jvm.Pilot.@@N@@.Jvm.D
theorem pd__AB_I : parseMethodDescriptor "([B)I" = some ⟨[(.array .byte)], some .int⟩ := by decide +kernel
theorem pd__I_I : parseMethodDescriptor "(I)I" = some ⟨[.int], some .int⟩ := by decide +kernel
theorem own_lt {i n : Nat} (h : i < n) (hn : n ≤ 255) : Int32.ofNat i < Int32.ofNat n := by
  rw [Int32.lt_iff_toInt_lt, Int32.toInt_ofNat_of_lt (by omega), Int32.toInt_ofNat_of_lt (by omega)]
  omega
theorem own_nn {n : Nat} (hn : n ≤ 255) : ¬ Int32.ofNat n < 0 := by
  rw [Int32.lt_iff_toInt_lt, Int32.toInt_ofNat_of_lt (by omega), show (0 : Int32).toInt = 0 from rfl]
  omega
theorem own_n32 {n : Nat} (hn : n ≤ 255) : (Int32.ofNat n).toNatClampNeg = n := by
  rw [Int32.toNatClampNeg, Int32.toInt_ofNat_of_lt (by omega)]; rfl
theorem own_one (i : Nat) : Int32.ofNat i + (1 : Int32) = Int32.ofNat (i + 1) := (Int32.ofNat_add i 1).symm
theorem own_len {cl : Cell} {N : Nat} (S : cl.slots.size = N) : cl.slots.size.toInt32 = Int32.ofNat N := by rw [S]
theorem own_setSlot (c : Cell) (j : Nat) (v : Value) : (c.setSlot j v).slots = c.slots.setIfInBounds j v := rfl
def own_upd (f : Nat → Int32) (j : Nat) (v : Int32) : Nat → Int32 := fun k => if k = j then v else f k
def own_By (Z : State) (h : Heap) (b : Addr) (N : Nat) (f : Nat → Int32) : Prop := ∃ cl : Cell, Arr Z h b cl .byte ∧ cl.slots.size = N ∧ ∀ k, k < N → cl.slots[k]? = some (.int (f k))
theorem own_By_other {Z : State} {h h' : Heap} {a b : Addr} {N sl : Nat} {f : Nat → Int32} {v : Value} (W : Wr h h' a sl v) (F : own_By Z h b N f) (hne : b ≠ a) : own_By Z h' b N f := by
  obtain ⟨cl, A, r⟩ := F
  exact ⟨cl, A.other W hne, r⟩
theorem own_By_ext {Z : State} {h h' : Heap} {b : Addr} {N : Nat} {f : Nat → Int32} (E : Ext h h') (F : own_By Z h b N f) : own_By Z h' b N f := by
  obtain ⟨cl, A, r⟩ := F
  exact ⟨cl, A.ext E, r⟩
theorem own_By_lt {Z : State} {h : Heap} {b : Addr} {N : Nat} {f : Nat → Int32} (F : own_By Z h b N f) : b < h.size := by
  obtain ⟨cl, A, r⟩ := F
  exact A.lt
theorem own_storeB {p : Program} {l : Launch} {e : Env} {R : Room} {s : State} {m : MethodId} {args : Array Value} {below : List Frame} {meth : Method} {c : Code} {T : State} {locs : List Loc} {cells slots : Nat} {Z : State} {n0 : Nat} {b : Addr} {N : Nat} {f : Nat → Int32} (X : Stand p l e R s m args below meth c T locs cells slots) (hx : p.tables.exec = Jvm.exec) (hZ : Z.Warmed39 s.vm) (F : Fr n0 locs) (gb : n0 ≤ b) (G : own_By Z T.heap b N f) (pc : Nat) (Ls : Array Slot) (rest : List Value) (j v : Int32) (jn : Nat) (hjn : j.toNatClampNeg = jn) (hj : ¬ j < 0) (hj2 : jn < N) (hd : decode c.code pc = .ok (.bastore, 1)) :
    ∃ (T' : State) (locs' : List Loc), Stand p l e R s m args below meth c T' locs' cells slots ∧ Fr n0 locs' ∧ own_By Z T'.heap b N (own_upd f jn v.toInt8.toInt32) ∧ (∃ sl w, Wr T.heap T'.heap b sl w) ∧ ∀ target, Steps p.tables e below (T'.setTop (mkF m (pc + 1) Ls rest)) target → Steps p.tables e below (T.setTop (mkF m pc Ls (.int v :: .int j :: .ref b :: rest))) target := by
  obtain ⟨cl, Ar, S, H⟩ := G
  have hin : ¬ (j < 0 ∨ cl.slots.size ≤ j.toNatClampNeg) := fun q => q.elim hj (fun q => by omega)
  obtain ⟨T', h', X', e', W', st'⟩ := stB X hx hZ rfl Ar (j := j) (x := v) hin (g := mkF m pc Ls (.int v :: .int j :: .ref b :: rest)) rfl rfl hd
  refine ⟨T', _, X', Fr.snoc X' F gb, ?_, ⟨_, _, e' ▸ W'⟩, st'⟩
  rw [e']
  refine ⟨_, Ar.same W', by rw [sz_set]; exact S, fun k hk => ?_⟩
  rw [own_setSlot, Array.getElem?_setIfInBounds, own_upd]
  by_cases q : j.toNatClampNeg = k
  · rw [if_pos q, if_pos (by omega), if_pos (by omega)]
    rfl
  · rw [if_neg q, if_neg (by omega)]
    exact H k hk
theorem own_freshB {Z : State} {h : Heap} {b : Addr} {cA : ClassId} {n : Int32} {N : Nat} (A : Arr Z h b (newA cA .byte n) .byte) (hn : n.toNatClampNeg = N) : own_By Z h b N (fun _ => 0) := by
  refine ⟨_, A, by rw [sz_new]; exact hn, fun k hk => ?_⟩
  show (Array.replicate n.toNatClampNeg (defaultValue .byte))[k]? = some (.int 0)
  rw [Array.getElem?_replicate, if_pos (by omega)]
  rfl
def own_mA (h : Int32) : Int32 := h ^^^ ((h.toUInt32 >>> ((16 : Int32) &&& 31).toUInt32).toInt32)
def own_mB (h : Int32) : Int32 := own_mA h * (-2048144789 : Int32)
def own_mix (h : Int32) : Int32 := own_mB h ^^^ (((own_mB h).toUInt32 >>> ((13 : Int32) &&& 31).toUInt32).toInt32)
def own_uA (h : Int32) : Int32 := (h ^^^ ((h.toUInt32 >>> ((13 : Int32) &&& 31).toUInt32).toInt32)) ^^^ ((h.toUInt32 >>> ((26 : Int32) &&& 31).toUInt32).toInt32)
def own_uB (h : Int32) : Int32 := own_uA h * (-1513385405 : Int32)
def own_unmix (h : Int32) : Int32 := own_uB h ^^^ (((own_uB h).toUInt32 >>> ((16 : Int32) &&& 31).toUInt32).toInt32)
def own_fnv (f : Nat → Int32) : Nat → Int32
  | 0 => (-2128831035 : Int32)
  | i + 1 => (own_fnv f i ^^^ (f i &&& (255 : Int32))) * (16777619 : Int32)
theorem own_fnv_succ (f : Nat → Int32) (i : Nat) : own_fnv f (i + 1) = (own_fnv f i ^^^ (f i &&& (255 : Int32))) * (16777619 : Int32) := rfl
theorem own_fnv_congr {f g : Nat → Int32} {N : Nat} (h : ∀ k, k < N → f k = g k) : own_fnv f N = own_fnv g N := by
  induction N with
  | zero => rfl
  | succ N ih => rw [own_fnv_succ, own_fnv_succ, ih (fun k hk => h k (by omega)), h N (by omega)]
theorem own_sr13 (x : Int32) : ((x.toUInt32 >>> ((13 : Int32) &&& 31).toUInt32).toInt32).toBitVec = x.toBitVec >>> 13 := rfl
theorem own_sr16 (x : Int32) : ((x.toUInt32 >>> ((16 : Int32) &&& 31).toUInt32).toInt32).toBitVec = x.toBitVec >>> 16 := rfl
theorem own_sr26 (x : Int32) : ((x.toUInt32 >>> ((26 : Int32) &&& 31).toUInt32).toInt32).toBitVec = x.toBitVec >>> 26 := rfl
theorem own_x1 (b : BitVec 32) : ((b ^^^ (b >>> 13)) ^^^ ((b ^^^ (b >>> 13)) >>> 13)) ^^^ ((b ^^^ (b >>> 13)) >>> 26) = b := by
  have z : b >>> 39 = 0#32 := BitVec.ushiftRight_eq_zero (by decide)
  rw [BitVec.ushiftRight_xor_distrib, BitVec.ushiftRight_xor_distrib, ← BitVec.shiftRight_add, ← BitVec.shiftRight_add]
  show ((b ^^^ (b >>> 13)) ^^^ ((b >>> 13) ^^^ (b >>> 26))) ^^^ ((b >>> 26) ^^^ (b >>> 39)) = b
  rw [z, BitVec.xor_zero, BitVec.xor_assoc, BitVec.xor_assoc, BitVec.xor_assoc, BitVec.xor_self, BitVec.xor_zero, BitVec.xor_self, BitVec.xor_zero]
theorem own_x2 (b : BitVec 32) : (b ^^^ (b >>> 16)) ^^^ ((b ^^^ (b >>> 16)) >>> 16) = b := by
  have z : b >>> 32 = 0#32 := BitVec.ushiftRight_eq_zero (by decide)
  rw [BitVec.ushiftRight_xor_distrib, ← BitVec.shiftRight_add]
  show (b ^^^ (b >>> 16)) ^^^ ((b >>> 16) ^^^ (b >>> 32)) = b
  rw [z, BitVec.xor_zero, BitVec.xor_assoc, BitVec.xor_self, BitVec.xor_zero]
theorem own_um (x : Int32) : own_unmix (own_mix x) = x := by
  have h1 : own_uA (own_mix x) = own_mB x := by
    apply Int32.toBitVec_inj.mp
    rw [own_uA, own_mix, Int32.toBitVec_xor, Int32.toBitVec_xor, own_sr13, own_sr26, Int32.toBitVec_xor, own_sr13]
    exact own_x1 _
  have h2 : own_uB (own_mix x) = own_mA x := by
    rw [own_uB, h1, own_mB, Int32.mul_assoc, show (-2048144789 : Int32) * (-1513385405 : Int32) = 1 from by decide, Int32.mul_one]
  apply Int32.toBitVec_inj.mp
  rw [own_unmix, h2, Int32.toBitVec_xor, own_sr16, own_mA, Int32.toBitVec_xor, own_sr16]
  exact own_x2 _
theorem own_and3 (x : Int32) : (x &&& (3 : Int32)) = 0 ∨ (x &&& (3 : Int32)) = 1 ∨ (x &&& (3 : Int32)) = 2 ∨ (x &&& (3 : Int32)) = 3 := by
  have h : (x &&& (3 : Int32)).toBitVec.toNat ≤ 3 := by
    rw [Int32.toBitVec_and, BitVec.toNat_and]
    exact Nat.and_le_right
  have e : ∀ k : Nat, (x &&& (3 : Int32)).toBitVec.toNat = k → (x &&& (3 : Int32)) = Int32.ofNat k := fun k hk => by
    apply Int32.toBitVec_inj.mp
    show _ = BitVec.ofNat 32 k
    rw [← hk, BitVec.ofNat_toNat, BitVec.setWidth_eq]
  rcases (by omega : (x &&& (3 : Int32)).toBitVec.toNat = 0 ∨ (x &&& (3 : Int32)).toBitVec.toNat = 1 ∨ (x &&& (3 : Int32)).toBitVec.toNat = 2 ∨ (x &&& (3 : Int32)).toBitVec.toNat = 3) with q | q | q | q
  · exact Or.inl (e _ q)
  · exact Or.inr (Or.inl (e _ q))
  · exact Or.inr (Or.inr (Or.inl (e _ q)))
  · exact Or.inr (Or.inr (Or.inr (e _ q)))
theorem own_by2 (x : Int32) : x.toInt8.toInt32.toInt8.toInt32 = x.toInt8.toInt32 := by rw [Int8.toInt8_toInt32]
theorem own_byff (x : Int32) : (x.toInt8.toInt32 &&& (255 : Int32)) = (x &&& (255 : Int32)) := by
  apply Int32.toBitVec_inj.mp
  rw [Int32.toBitVec_and, Int32.toBitVec_and]
  apply BitVec.eq_of_getLsbD_eq
  intro i hi
  rw [BitVec.getLsbD_and, BitVec.getLsbD_and]
  by_cases h : i < 8
  · have q : (x.toInt8.toInt32).toBitVec.getLsbD i = x.toBitVec.getLsbD i := by
      rw [Int8.toBitVec_toInt32, Int32.toBitVec_toInt8, BitVec.getLsbD_signExtend, if_pos h, BitVec.getLsbD_signExtend, if_pos (by omega)]
      simp [h, hi]
    rw [q]
  · have q : (255 : Int32).toBitVec.getLsbD i = false := by
      exact (by decide : ∀ i : Fin 32, ¬ i.1 < 8 → (255 : Int32).toBitVec.getLsbD i.1 = false) ⟨i, hi⟩ h
    rw [q]
    simp
theorem own_os {z0 z1 z2 z3 z4 : Value} {s5 : Slot} {v : Int32} (h : One s5) : storeLocals #[.val z0, .val z1, .val z2, .val z3, .val z4, s5] 5 (.int v) = some #[.val z0, .val z1, .val z2, .val z3, .val z4, .val (.int v)] := by
  rcases h with rfl | ⟨w, rfl, hw⟩
  · rfl
  · cases w <;> first | rfl | (simp [Value.category] at hw)
theorem d1_0 : decode prog_86_method_16_code 0 = .ok (.ldc 145, 2) := by decide +kernel
theorem d1_2 : decode prog_86_method_16_code 2 = .ok (.istore_n 1, 1) := by decide +kernel
theorem d1_3 : decode prog_86_method_16_code 3 = .ok (.aload_n 0, 1) := by decide +kernel
theorem d1_4 : decode prog_86_method_16_code 4 = .ok (.astore_n 2, 1) := by decide +kernel
theorem d1_5 : decode prog_86_method_16_code 5 = .ok (.aload_n 2, 1) := by decide +kernel
theorem d1_6 : decode prog_86_method_16_code 6 = .ok (.arraylength, 1) := by decide +kernel
theorem d1_7 : decode prog_86_method_16_code 7 = .ok (.istore_n 3, 1) := by decide +kernel
theorem d1_8 : decode prog_86_method_16_code 8 = .ok (.iconst 0, 1) := by decide +kernel
theorem d1_9 : decode prog_86_method_16_code 9 = .ok (.istore 4, 2) := by decide +kernel
theorem d1_11 : decode prog_86_method_16_code 11 = .ok (.iload 4, 2) := by decide +kernel
theorem d1_13 : decode prog_86_method_16_code 13 = .ok (.iload_n 3, 1) := by decide +kernel
theorem d1_14 : decode prog_86_method_16_code 14 = .ok (.if_icmp .ge 27, 3) := by decide +kernel
theorem d1_17 : decode prog_86_method_16_code 17 = .ok (.aload_n 2, 1) := by decide +kernel
theorem d1_18 : decode prog_86_method_16_code 18 = .ok (.iload 4, 2) := by decide +kernel
theorem d1_20 : decode prog_86_method_16_code 20 = .ok (.baload, 1) := by decide +kernel
theorem d1_21 : decode prog_86_method_16_code 21 = .ok (.istore 5, 2) := by decide +kernel
theorem d1_23 : decode prog_86_method_16_code 23 = .ok (.iload_n 1, 1) := by decide +kernel
theorem d1_24 : decode prog_86_method_16_code 24 = .ok (.iload 5, 2) := by decide +kernel
theorem d1_26 : decode prog_86_method_16_code 26 = .ok (.sipush 255, 3) := by decide +kernel
theorem d1_29 : decode prog_86_method_16_code 29 = .ok (.iand, 1) := by decide +kernel
theorem d1_30 : decode prog_86_method_16_code 30 = .ok (.ixor, 1) := by decide +kernel
theorem d1_31 : decode prog_86_method_16_code 31 = .ok (.ldc 146, 2) := by decide +kernel
theorem d1_33 : decode prog_86_method_16_code 33 = .ok (.imul, 1) := by decide +kernel
theorem d1_34 : decode prog_86_method_16_code 34 = .ok (.istore_n 1, 1) := by decide +kernel
theorem d1_35 : decode prog_86_method_16_code 35 = .ok (.iinc 4 1, 3) := by decide +kernel
theorem d1_38 : decode prog_86_method_16_code 38 = .ok (.goto (-27), 3) := by decide +kernel
theorem d1_41 : decode prog_86_method_16_code 41 = .ok (.iload_n 1, 1) := by decide +kernel
theorem d1_42 : decode prog_86_method_16_code 42 = .ok (.iload_n 1, 1) := by decide +kernel
theorem d1_43 : decode prog_86_method_16_code 43 = .ok (.bipush 16, 2) := by decide +kernel
theorem d1_45 : decode prog_86_method_16_code 45 = .ok (.iushr, 1) := by decide +kernel
theorem d1_46 : decode prog_86_method_16_code 46 = .ok (.ixor, 1) := by decide +kernel
theorem d1_47 : decode prog_86_method_16_code 47 = .ok (.istore_n 1, 1) := by decide +kernel
theorem d1_48 : decode prog_86_method_16_code 48 = .ok (.iload_n 1, 1) := by decide +kernel
theorem d1_49 : decode prog_86_method_16_code 49 = .ok (.ldc 147, 2) := by decide +kernel
theorem d1_51 : decode prog_86_method_16_code 51 = .ok (.imul, 1) := by decide +kernel
theorem d1_52 : decode prog_86_method_16_code 52 = .ok (.istore_n 1, 1) := by decide +kernel
theorem d1_53 : decode prog_86_method_16_code 53 = .ok (.iload_n 1, 1) := by decide +kernel
theorem d1_54 : decode prog_86_method_16_code 54 = .ok (.iload_n 1, 1) := by decide +kernel
theorem d1_55 : decode prog_86_method_16_code 55 = .ok (.bipush 13, 2) := by decide +kernel
theorem d1_57 : decode prog_86_method_16_code 57 = .ok (.iushr, 1) := by decide +kernel
theorem d1_58 : decode prog_86_method_16_code 58 = .ok (.ixor, 1) := by decide +kernel
theorem d1_59 : decode prog_86_method_16_code 59 = .ok (.istore_n 1, 1) := by decide +kernel
theorem d1_60 : decode prog_86_method_16_code 60 = .ok (.iload_n 1, 1) := by decide +kernel
theorem d1_61 : decode prog_86_method_16_code 61 = .ok (.ireturn, 1) := by decide +kernel
set_option maxRecDepth 65536 in
set_option maxHeartbeats 40000000 in
theorem own_hloop {p : Program} {l : Launch} {e : Env} {R : Room} {s : State} {m : MethodId} {args : Array Value} {below : List Frame} {meth : Method} {c : Code} {T : State} {locs : List Loc} {cells slots : Nat} {Z : State} {a0 : Array Value} {h0 : Heap} (b : Addr) (f : Nat → Int32) (N : Nat) (hN : N ≤ 100) (X : Stand p l e R s m args below meth c T locs cells slots) (hx : p.tables.exec = Jvm.exec) (hZ : Z.Warmed39 s.vm) (hw : ∀ d ∈ tables_1, d.before a0 Z = true) (hby : c.code = prog_86_method_16_code) (hown : s.vm.findClass "com/example/kellar/kellar/schema/KeyTable" = some m.cls) (e0 : T.heap = h0) (cl : Cell) (Ar : Arr Z h0 b cl .byte) (S : cl.slots.size = N) (H : ∀ k, k < N → cl.slots[k]? = some (.int (f k))) :
    ∀ (k i : Nat) (s5 : Slot), i + k = N → One s5 → ∃ s6 : Slot, ∀ target, Steps p.tables e below (T.setTop (mkF m 41 #[.val (.ref b), .val (.int (own_fnv f N)), .val (.ref b), .val (.int (Int32.ofNat N)), .val (.int (Int32.ofNat N)), s6] [])) target → Steps p.tables e below (T.setTop (mkF m 11 #[.val (.ref b), .val (.int (own_fnv f i)), .val (.ref b), .val (.int (Int32.ofNat N)), .val (.int (Int32.ofNat i)), s5] [])) target := by
  intro k
  induction k with
  | zero =>
    intro i s5 hi hs
    have hi2 : i = N := by omega
    rw [hi2]
    refine ⟨s5, fun t kt => ?_⟩
    show Steps p.tables e below (T.setTop (mkF m 11 #[.val (.ref b), .val (.int (own_fnv f N)), .val (.ref b), .val (.int (Int32.ofNat N)), .val (.int (Int32.ofNat N)), s5] [])) _
    refine XS.iload X.here hx rfl (hb hby d1_11) rfl ?_
    show Steps p.tables e below (T.setTop (mkF m 13 #[.val (.ref b), .val (.int (own_fnv f N)), .val (.ref b), .val (.int (Int32.ofNat N)), .val (.int (Int32.ofNat N)), s5] [(.int (Int32.ofNat N))])) _
    refine XS.iloadN X.here hx rfl (hb hby d1_13) rfl ?_
    show Steps p.tables e below (T.setTop (mkF m 14 #[.val (.ref b), .val (.int (own_fnv f N)), .val (.ref b), .val (.int (Int32.ofNat N)), .val (.int (Int32.ofNat N)), s5] [(.int (Int32.ofNat N)), (.int (Int32.ofNat N))])) _
    refine XS.icmpYes X.here hx rfl (pc0 := 14) (pc' := 41) rfl (hb hby d1_14) rfl (XT.ii_ge_t (Int32.lt_irrefl (a := Int32.ofNat N))) (by decide) (by decide) ?_
    show Steps p.tables e below (T.setTop (mkF m 41 #[.val (.ref b), .val (.int (own_fnv f N)), .val (.ref b), .val (.int (Int32.ofNat N)), .val (.int (Int32.ofNat N)), s5] [])) _
    exact kt
  | succ k ih =>
    intro i s5 hi hs
    have hlt : Int32.ofNat i < Int32.ofNat N := own_lt (by omega) (by omega)
    have hin : ¬ (Int32.ofNat i < 0 ∨ cl.slots.size ≤ (Int32.ofNat i).toNatClampNeg) := by
      rw [S, own_n32 (by omega)]
      exact fun q => q.elim (own_nn (by omega)) (fun q => by omega)
    have hat : cl.slots[(Int32.ofNat i).toNatClampNeg]? = some (.int (f i)) := by rw [own_n32 (by omega)]; exact H i (by omega)
    obtain ⟨s6, st⟩ := ih (i + 1) (.val (.int (f i))) (by omega) (One.val rfl)
    refine ⟨s6, fun t kt => ?_⟩
    show Steps p.tables e below (T.setTop (mkF m 11 #[.val (.ref b), .val (.int (own_fnv f i)), .val (.ref b), .val (.int (Int32.ofNat N)), .val (.int (Int32.ofNat i)), s5] [])) _
    refine XS.iload X.here hx rfl (hb hby d1_11) rfl ?_
    show Steps p.tables e below (T.setTop (mkF m 13 #[.val (.ref b), .val (.int (own_fnv f i)), .val (.ref b), .val (.int (Int32.ofNat N)), .val (.int (Int32.ofNat i)), s5] [(.int (Int32.ofNat i))])) _
    refine XS.iloadN X.here hx rfl (hb hby d1_13) rfl ?_
    show Steps p.tables e below (T.setTop (mkF m 14 #[.val (.ref b), .val (.int (own_fnv f i)), .val (.ref b), .val (.int (Int32.ofNat N)), .val (.int (Int32.ofNat i)), s5] [(.int (Int32.ofNat N)), (.int (Int32.ofNat i))])) _
    refine XS.icmpNo X.here hx rfl (hb hby d1_14) rfl (XT.ii_ge_f hlt) ?_
    show Steps p.tables e below (T.setTop (mkF m 17 #[.val (.ref b), .val (.int (own_fnv f i)), .val (.ref b), .val (.int (Int32.ofNat N)), .val (.int (Int32.ofNat i)), s5] [])) _
    refine XS.aloadN X.here hx rfl (hb hby d1_17) rfl rfl ?_
    show Steps p.tables e below (T.setTop (mkF m 18 #[.val (.ref b), .val (.int (own_fnv f i)), .val (.ref b), .val (.int (Int32.ofNat N)), .val (.int (Int32.ofNat i)), s5] [(.ref b)])) _
    refine XS.iload X.here hx rfl (hb hby d1_18) rfl ?_
    show Steps p.tables e below (T.setTop (mkF m 20 #[.val (.ref b), .val (.int (own_fnv f i)), .val (.ref b), .val (.int (Int32.ofNat N)), .val (.int (Int32.ofNat i)), s5] [(.int (Int32.ofNat i)), (.ref b)])) _
    refine X.baloadBytes hx (j := (Int32.ofNat i)) (v := (.int (f i))) (by rw [e0]; exact Ar.1) (State.isArrayOf_alike hZ.alike Ar.2.1) Ar.2.2 hin hat (g := (mkF m 20 #[.val (.ref b), .val (.int (own_fnv f i)), .val (.ref b), .val (.int (Int32.ofNat N)), .val (.int (Int32.ofNat i)), s5] [(.int (Int32.ofNat i)), (.ref b)])) rfl rfl (hb hby d1_20) _ ?_
    show Steps p.tables e below (T.setTop (mkF m 21 #[.val (.ref b), .val (.int (own_fnv f i)), .val (.ref b), .val (.int (Int32.ofNat N)), .val (.int (Int32.ofNat i)), s5] [(.int (f i))])) _
    refine XS.istore X.here hx rfl (hb hby d1_21) rfl (l' := #[.val (.ref b), .val (.int (own_fnv f i)), .val (.ref b), .val (.int (Int32.ofNat N)), .val (.int (Int32.ofNat i)), .val (.int (f i))]) (own_os hs) ?_
    show Steps p.tables e below (T.setTop (mkF m 23 #[.val (.ref b), .val (.int (own_fnv f i)), .val (.ref b), .val (.int (Int32.ofNat N)), .val (.int (Int32.ofNat i)), .val (.int (f i))] [])) _
    refine XS.iloadN X.here hx rfl (hb hby d1_23) rfl ?_
    show Steps p.tables e below (T.setTop (mkF m 24 #[.val (.ref b), .val (.int (own_fnv f i)), .val (.ref b), .val (.int (Int32.ofNat N)), .val (.int (Int32.ofNat i)), .val (.int (f i))] [(.int (own_fnv f i))])) _
    refine XS.iload X.here hx rfl (hb hby d1_24) rfl ?_
    show Steps p.tables e below (T.setTop (mkF m 26 #[.val (.ref b), .val (.int (own_fnv f i)), .val (.ref b), .val (.int (Int32.ofNat N)), .val (.int (Int32.ofNat i)), .val (.int (f i))] [(.int (f i)), (.int (own_fnv f i))])) _
    refine XS.sipush X.here hx rfl (hb hby d1_26) ?_
    show Steps p.tables e below (T.setTop (mkF m 29 #[.val (.ref b), .val (.int (own_fnv f i)), .val (.ref b), .val (.int (Int32.ofNat N)), .val (.int (Int32.ofNat i)), .val (.int (f i))] [(.int (255 : Int32)), (.int (f i)), (.int (own_fnv f i))])) _
    refine XS.iand X.here hx rfl (hb hby d1_29) rfl ?_
    show Steps p.tables e below (T.setTop (mkF m 30 #[.val (.ref b), .val (.int (own_fnv f i)), .val (.ref b), .val (.int (Int32.ofNat N)), .val (.int (Int32.ofNat i)), .val (.int (f i))] [(.int ((f i) &&& (255 : Int32))), (.int (own_fnv f i))])) _
    refine XS.ixor X.here hx rfl (hb hby d1_30) rfl ?_
    show Steps p.tables e below (T.setTop (mkF m 31 #[.val (.ref b), .val (.int (own_fnv f i)), .val (.ref b), .val (.int (Int32.ofNat N)), .val (.int (Int32.ofNat i)), .val (.int (f i))] [(.int ((own_fnv f i) ^^^ ((f i) &&& (255 : Int32))))])) _
    refine X.ldcI hx hown (mvT hZ (hw _ (List.mem_of_getElem? (i := 12) rfl))) (g := (mkF m 31 #[.val (.ref b), .val (.int (own_fnv f i)), .val (.ref b), .val (.int (Int32.ofNat N)), .val (.int (Int32.ofNat i)), .val (.int (f i))] [(.int ((own_fnv f i) ^^^ ((f i) &&& (255 : Int32))))])) rfl (hb hby d1_31) ?_
    show Steps p.tables e below (T.setTop (mkF m 33 #[.val (.ref b), .val (.int (own_fnv f i)), .val (.ref b), .val (.int (Int32.ofNat N)), .val (.int (Int32.ofNat i)), .val (.int (f i))] [(.int (16777619 : Int32)), (.int ((own_fnv f i) ^^^ ((f i) &&& (255 : Int32))))])) _
    refine XS.imul X.here hx rfl (hb hby d1_33) rfl ?_
    show Steps p.tables e below (T.setTop (mkF m 34 #[.val (.ref b), .val (.int (own_fnv f i)), .val (.ref b), .val (.int (Int32.ofNat N)), .val (.int (Int32.ofNat i)), .val (.int (f i))] [(.int (((own_fnv f i) ^^^ ((f i) &&& (255 : Int32))) * (16777619 : Int32)))])) _
    refine XS.istoreN X.here hx rfl (hb hby d1_34) rfl (l' := #[.val (.ref b), .val (.int (((own_fnv f i) ^^^ ((f i) &&& (255 : Int32))) * (16777619 : Int32))), .val (.ref b), .val (.int (Int32.ofNat N)), .val (.int (Int32.ofNat i)), .val (.int (f i))]) rfl ?_
    show Steps p.tables e below (T.setTop (mkF m 35 #[.val (.ref b), .val (.int (((own_fnv f i) ^^^ ((f i) &&& (255 : Int32))) * (16777619 : Int32))), .val (.ref b), .val (.int (Int32.ofNat N)), .val (.int (Int32.ofNat i)), .val (.int (f i))] [])) _
    refine XS.iinc X.here hx rfl (hb hby d1_35) rfl (l' := #[.val (.ref b), .val (.int (((own_fnv f i) ^^^ ((f i) &&& (255 : Int32))) * (16777619 : Int32))), .val (.ref b), .val (.int (Int32.ofNat N)), .val (.int ((Int32.ofNat i) + (1 : Int32))), .val (.int (f i))]) rfl ?_
    show Steps p.tables e below (T.setTop (mkF m 38 #[.val (.ref b), .val (.int (((own_fnv f i) ^^^ ((f i) &&& (255 : Int32))) * (16777619 : Int32))), .val (.ref b), .val (.int (Int32.ofNat N)), .val (.int ((Int32.ofNat i) + (1 : Int32))), .val (.int (f i))] [])) _
    refine XS.goto X.here hx rfl (pc0 := 38) (pc' := 11) rfl (hb hby d1_38) (by decide) (by decide) ?_
    show Steps p.tables e below (T.setTop (mkF m 11 #[.val (.ref b), .val (.int (((own_fnv f i) ^^^ ((f i) &&& (255 : Int32))) * (16777619 : Int32))), .val (.ref b), .val (.int (Int32.ofNat N)), .val (.int ((Int32.ofNat i) + (1 : Int32))), .val (.int (f i))] [])) _
    rw [own_one]
    exact st t kt
theorem pn_1 : plainName "com/example/kellar/kellar/schema/KeyTable" = true := by first | (simp [plainName, overriddenIn]; done) | decide +kernel
theorem ef_1 (m : MethodId) (x0 : Addr) : entryFrame m #[(.ref x0)] 6 = mkF m 0 #[.val (.ref x0), .unset, .unset, .unset, .unset, .unset] [] := by first | (simp [entryFrame, mkF, argsToLocals, Value.category]; done) | rfl
def Q1 (Z : State) (N : Nat) (f : Nat → Int32) (h0 : Heap) (n0 : Nat) (v : Option Value) (h : Heap) (L : List Loc) : Prop := v = some (.int (own_mix (own_fnv f N))) ∧ Fr n0 L ∧ h = h0
set_option maxRecDepth 65536 in
set_option maxHeartbeats 40000000 in
theorem rm1 (l : Launch) (Z : State) (a0 : Array Value) (hw : ∀ d ∈ tables_1, d.before a0 Z = true) (ws : List Jvm.Cond) (a1 : Addr) (N : Nat) (f : Nat → Int32) (h0 : Heap) (n0 : Nat) (Z0 : n0 ≤ h0.size) (hN : N ≤ 100) (G : own_By Z h0 a1 N f) :
    MetFree l (⟨"com/example/kellar/kellar/schema/KeyTable", "hash", "([B)I"⟩ : MethodName) (head1 (Jvm.Cond.code (⟨"com/example/kellar/kellar/schema/KeyTable", "hash", "([B)I"⟩ : MethodName) prog_86_method_16_code 6 (some .int) :: ws) ({ frames := 0, cells := 0, slots := 0, locals := 0 } : Room)) (fun aa U => aa = #[(.ref a1)] ∧ Z.Warmed39 U.vm ∧ U.heap = h0) (fun _ _ _ _ _ => True) (fun _ U o U' => ∃ v L, o = .returned v ∧ Q1 Z N f h0 n0 v U'.heap L ∧ FrameEnd U o U' L ({ frames := 0, cells := 0, slots := 0, locals := 0 } : Room).cells ({ frames := 0, cells := 0, slots := 0, locals := 0 } : Room).slots) := by
  refine MetFree.of_bodySF (plainFor_of_name pn_1) hisR ?_
  intro p e s m args below meth c s₁ Bd hml0 hP hK
  obtain ⟨rfl, hZ, hh⟩ := hP
  have hx := Bd.exec
  have hby := Bd.bytes
  have hml : c.maxLocals = 6 := hml0
  have hown : s.vm.findClass "com/example/kellar/kellar/schema/KeyTable" = some m.cls := findClass_of_methodNamed Bd.named
  have hnm := (name_of_methodNamed Bd.named Bd.method).1
  have X0 : Stand p l e ({ frames := 0, cells := 0, slots := 0, locals := 0 } : Room) s m #[(.ref a1)] below meth c s₁ [] 0 0 := Stand.of_body Bd
  have e0 : s₁.heap = h0 := by rw [← hh, Bd.state]; rfl
  have N0 := Fr.nil n0
  have pre0 : ∀ t, Steps p.tables e below (s₁.setTop (mkF m 0 #[.val (.ref a1), .unset, .unset, .unset, .unset, .unset] [])) t → Steps p.tables e below (s₁.setTop (entryFrame m #[(.ref a1)] 6)) t := fun t k => castTop (ef_1 m a1) k
  obtain ⟨cl, Ar, S, H⟩ := G
  have s1 : ∀ t, Steps p.tables e below (s₁.setTop (mkF m 11 #[.val (.ref a1), .val (.int (-2128831035 : Int32)), .val (.ref a1), .val (.int (Int32.ofNat N)), .val (.int (0 : Int32)), .unset] [])) t → Steps p.tables e below (s₁.setTop (mkF m 0 #[.val (.ref a1), .unset, .unset, .unset, .unset, .unset] [])) t := by
    intro t k
    show Steps p.tables e below (s₁.setTop (mkF m 0 #[.val (.ref a1), .unset, .unset, .unset, .unset, .unset] [])) _
    refine X0.ldcI hx hown (mvT hZ (hw _ (List.mem_of_getElem? (i := 5) rfl))) (g := (mkF m 0 #[.val (.ref a1), .unset, .unset, .unset, .unset, .unset] [])) rfl (hb hby d1_0) ?_
    show Steps p.tables e below (s₁.setTop (mkF m 2 #[.val (.ref a1), .unset, .unset, .unset, .unset, .unset] [(.int (-2128831035 : Int32))])) _
    refine XS.istoreN X0.here hx rfl (hb hby d1_2) rfl (l' := #[.val (.ref a1), .val (.int (-2128831035 : Int32)), .unset, .unset, .unset, .unset]) rfl ?_
    show Steps p.tables e below (s₁.setTop (mkF m 3 #[.val (.ref a1), .val (.int (-2128831035 : Int32)), .unset, .unset, .unset, .unset] [])) _
    refine XS.aloadN X0.here hx rfl (hb hby d1_3) rfl rfl ?_
    show Steps p.tables e below (s₁.setTop (mkF m 4 #[.val (.ref a1), .val (.int (-2128831035 : Int32)), .unset, .unset, .unset, .unset] [(.ref a1)])) _
    refine XS.astoreN X0.here hx rfl (hb hby d1_4) rfl rfl (l' := #[.val (.ref a1), .val (.int (-2128831035 : Int32)), .val (.ref a1), .unset, .unset, .unset]) rfl ?_
    show Steps p.tables e below (s₁.setTop (mkF m 5 #[.val (.ref a1), .val (.int (-2128831035 : Int32)), .val (.ref a1), .unset, .unset, .unset] [])) _
    refine XS.aloadN X0.here hx rfl (hb hby d1_5) rfl rfl ?_
    show Steps p.tables e below (s₁.setTop (mkF m 6 #[.val (.ref a1), .val (.int (-2128831035 : Int32)), .val (.ref a1), .unset, .unset, .unset] [(.ref a1)])) _
    refine X0.arraylength hx (cell := cl) (by rw [e0]; exact Ar.1) (State.isArrayOf_alike hZ.alike Ar.2.1) (g := (mkF m 6 #[.val (.ref a1), .val (.int (-2128831035 : Int32)), .val (.ref a1), .unset, .unset, .unset] [(.ref a1)])) rfl (rest := []) rfl (hb hby d1_6) _ ?_
    rw [own_len S]
    show Steps p.tables e below (s₁.setTop (mkF m 7 #[.val (.ref a1), .val (.int (-2128831035 : Int32)), .val (.ref a1), .unset, .unset, .unset] [(.int (Int32.ofNat N))])) _
    refine XS.istoreN X0.here hx rfl (hb hby d1_7) rfl (l' := #[.val (.ref a1), .val (.int (-2128831035 : Int32)), .val (.ref a1), .val (.int (Int32.ofNat N)), .unset, .unset]) rfl ?_
    show Steps p.tables e below (s₁.setTop (mkF m 8 #[.val (.ref a1), .val (.int (-2128831035 : Int32)), .val (.ref a1), .val (.int (Int32.ofNat N)), .unset, .unset] [])) _
    refine XS.iconst X0.here hx rfl (hb hby d1_8) ?_
    show Steps p.tables e below (s₁.setTop (mkF m 9 #[.val (.ref a1), .val (.int (-2128831035 : Int32)), .val (.ref a1), .val (.int (Int32.ofNat N)), .unset, .unset] [(.int (0 : Int32))])) _
    refine XS.istore X0.here hx rfl (hb hby d1_9) rfl (l' := #[.val (.ref a1), .val (.int (-2128831035 : Int32)), .val (.ref a1), .val (.int (Int32.ofNat N)), .val (.int (0 : Int32)), .unset]) rfl ?_
    show Steps p.tables e below (s₁.setTop (mkF m 11 #[.val (.ref a1), .val (.int (-2128831035 : Int32)), .val (.ref a1), .val (.int (Int32.ofNat N)), .val (.int (0 : Int32)), .unset] [])) _
    exact k
  obtain ⟨s6, sl⟩ := own_hloop a1 f N hN X0 hx hZ hw hby hown e0 cl Ar S H N 0 .unset (by omega) One.u
  have r2 : ∀ t, Steps p.tables e below (s₁.setTop (mkF m 41 #[.val (.ref a1), .val (.int (own_fnv f N)), .val (.ref a1), .val (.int (Int32.ofNat N)), .val (.int (Int32.ofNat N)), s6] [])) t → Steps p.tables e below (s₁.setTop (mkF m 0 #[.val (.ref a1), .unset, .unset, .unset, .unset, .unset] [])) t := fun t k => s1 t (sl t k)
  have s3 : ∀ t, Steps p.tables e below (s₁.setTop (mkF m 61 #[.val (.ref a1), .val (.int (own_mix (own_fnv f N))), .val (.ref a1), .val (.int (Int32.ofNat N)), .val (.int (Int32.ofNat N)), s6] [(.int (own_mix (own_fnv f N)))])) t → Steps p.tables e below (s₁.setTop (mkF m 41 #[.val (.ref a1), .val (.int (own_fnv f N)), .val (.ref a1), .val (.int (Int32.ofNat N)), .val (.int (Int32.ofNat N)), s6] [])) t := by
    intro t k
    show Steps p.tables e below (s₁.setTop (mkF m 41 #[.val (.ref a1), .val (.int (own_fnv f N)), .val (.ref a1), .val (.int (Int32.ofNat N)), .val (.int (Int32.ofNat N)), s6] [])) _
    refine XS.iloadN X0.here hx rfl (hb hby d1_41) rfl ?_
    show Steps p.tables e below (s₁.setTop (mkF m 42 #[.val (.ref a1), .val (.int (own_fnv f N)), .val (.ref a1), .val (.int (Int32.ofNat N)), .val (.int (Int32.ofNat N)), s6] [(.int (own_fnv f N))])) _
    refine XS.iloadN X0.here hx rfl (hb hby d1_42) rfl ?_
    show Steps p.tables e below (s₁.setTop (mkF m 43 #[.val (.ref a1), .val (.int (own_fnv f N)), .val (.ref a1), .val (.int (Int32.ofNat N)), .val (.int (Int32.ofNat N)), s6] [(.int (own_fnv f N)), (.int (own_fnv f N))])) _
    refine XS.bipush X0.here hx rfl (hb hby d1_43) ?_
    show Steps p.tables e below (s₁.setTop (mkF m 45 #[.val (.ref a1), .val (.int (own_fnv f N)), .val (.ref a1), .val (.int (Int32.ofNat N)), .val (.int (Int32.ofNat N)), s6] [(.int (16 : Int32)), (.int (own_fnv f N)), (.int (own_fnv f N))])) _
    refine XS.iushr X0.here hx rfl (hb hby d1_45) rfl ?_
    show Steps p.tables e below (s₁.setTop (mkF m 46 #[.val (.ref a1), .val (.int (own_fnv f N)), .val (.ref a1), .val (.int (Int32.ofNat N)), .val (.int (Int32.ofNat N)), s6] [(.int (((own_fnv f N).toUInt32 >>> ((16 : Int32) &&& 31).toUInt32).toInt32)), (.int (own_fnv f N))])) _
    refine XS.ixor X0.here hx rfl (hb hby d1_46) rfl ?_
    show Steps p.tables e below (s₁.setTop (mkF m 47 #[.val (.ref a1), .val (.int (own_fnv f N)), .val (.ref a1), .val (.int (Int32.ofNat N)), .val (.int (Int32.ofNat N)), s6] [(.int ((own_fnv f N) ^^^ (((own_fnv f N).toUInt32 >>> ((16 : Int32) &&& 31).toUInt32).toInt32)))])) _
    refine XS.istoreN X0.here hx rfl (hb hby d1_47) rfl (l' := #[.val (.ref a1), .val (.int ((own_fnv f N) ^^^ (((own_fnv f N).toUInt32 >>> ((16 : Int32) &&& 31).toUInt32).toInt32))), .val (.ref a1), .val (.int (Int32.ofNat N)), .val (.int (Int32.ofNat N)), s6]) rfl ?_
    show Steps p.tables e below (s₁.setTop (mkF m 48 #[.val (.ref a1), .val (.int ((own_fnv f N) ^^^ (((own_fnv f N).toUInt32 >>> ((16 : Int32) &&& 31).toUInt32).toInt32))), .val (.ref a1), .val (.int (Int32.ofNat N)), .val (.int (Int32.ofNat N)), s6] [])) _
    show Steps p.tables e below (s₁.setTop (mkF m 48 #[.val (.ref a1), .val (.int (own_mA (own_fnv f N))), .val (.ref a1), .val (.int (Int32.ofNat N)), .val (.int (Int32.ofNat N)), s6] [])) _
    refine XS.iloadN X0.here hx rfl (hb hby d1_48) rfl ?_
    show Steps p.tables e below (s₁.setTop (mkF m 49 #[.val (.ref a1), .val (.int (own_mA (own_fnv f N))), .val (.ref a1), .val (.int (Int32.ofNat N)), .val (.int (Int32.ofNat N)), s6] [(.int (own_mA (own_fnv f N)))])) _
    refine X0.ldcI hx hown (mvT hZ (hw _ (List.mem_of_getElem? (i := 6) rfl))) (g := (mkF m 49 #[.val (.ref a1), .val (.int (own_mA (own_fnv f N))), .val (.ref a1), .val (.int (Int32.ofNat N)), .val (.int (Int32.ofNat N)), s6] [(.int (own_mA (own_fnv f N)))])) rfl (hb hby d1_49) ?_
    show Steps p.tables e below (s₁.setTop (mkF m 51 #[.val (.ref a1), .val (.int (own_mA (own_fnv f N))), .val (.ref a1), .val (.int (Int32.ofNat N)), .val (.int (Int32.ofNat N)), s6] [(.int (-2048144789 : Int32)), (.int (own_mA (own_fnv f N)))])) _
    refine XS.imul X0.here hx rfl (hb hby d1_51) rfl ?_
    show Steps p.tables e below (s₁.setTop (mkF m 52 #[.val (.ref a1), .val (.int (own_mA (own_fnv f N))), .val (.ref a1), .val (.int (Int32.ofNat N)), .val (.int (Int32.ofNat N)), s6] [(.int ((own_mA (own_fnv f N)) * (-2048144789 : Int32)))])) _
    refine XS.istoreN X0.here hx rfl (hb hby d1_52) rfl (l' := #[.val (.ref a1), .val (.int ((own_mA (own_fnv f N)) * (-2048144789 : Int32))), .val (.ref a1), .val (.int (Int32.ofNat N)), .val (.int (Int32.ofNat N)), s6]) rfl ?_
    show Steps p.tables e below (s₁.setTop (mkF m 53 #[.val (.ref a1), .val (.int ((own_mA (own_fnv f N)) * (-2048144789 : Int32))), .val (.ref a1), .val (.int (Int32.ofNat N)), .val (.int (Int32.ofNat N)), s6] [])) _
    show Steps p.tables e below (s₁.setTop (mkF m 53 #[.val (.ref a1), .val (.int (own_mB (own_fnv f N))), .val (.ref a1), .val (.int (Int32.ofNat N)), .val (.int (Int32.ofNat N)), s6] [])) _
    refine XS.iloadN X0.here hx rfl (hb hby d1_53) rfl ?_
    show Steps p.tables e below (s₁.setTop (mkF m 54 #[.val (.ref a1), .val (.int (own_mB (own_fnv f N))), .val (.ref a1), .val (.int (Int32.ofNat N)), .val (.int (Int32.ofNat N)), s6] [(.int (own_mB (own_fnv f N)))])) _
    refine XS.iloadN X0.here hx rfl (hb hby d1_54) rfl ?_
    show Steps p.tables e below (s₁.setTop (mkF m 55 #[.val (.ref a1), .val (.int (own_mB (own_fnv f N))), .val (.ref a1), .val (.int (Int32.ofNat N)), .val (.int (Int32.ofNat N)), s6] [(.int (own_mB (own_fnv f N))), (.int (own_mB (own_fnv f N)))])) _
    refine XS.bipush X0.here hx rfl (hb hby d1_55) ?_
    show Steps p.tables e below (s₁.setTop (mkF m 57 #[.val (.ref a1), .val (.int (own_mB (own_fnv f N))), .val (.ref a1), .val (.int (Int32.ofNat N)), .val (.int (Int32.ofNat N)), s6] [(.int (13 : Int32)), (.int (own_mB (own_fnv f N))), (.int (own_mB (own_fnv f N)))])) _
    refine XS.iushr X0.here hx rfl (hb hby d1_57) rfl ?_
    show Steps p.tables e below (s₁.setTop (mkF m 58 #[.val (.ref a1), .val (.int (own_mB (own_fnv f N))), .val (.ref a1), .val (.int (Int32.ofNat N)), .val (.int (Int32.ofNat N)), s6] [(.int (((own_mB (own_fnv f N)).toUInt32 >>> ((13 : Int32) &&& 31).toUInt32).toInt32)), (.int (own_mB (own_fnv f N)))])) _
    refine XS.ixor X0.here hx rfl (hb hby d1_58) rfl ?_
    show Steps p.tables e below (s₁.setTop (mkF m 59 #[.val (.ref a1), .val (.int (own_mB (own_fnv f N))), .val (.ref a1), .val (.int (Int32.ofNat N)), .val (.int (Int32.ofNat N)), s6] [(.int ((own_mB (own_fnv f N)) ^^^ (((own_mB (own_fnv f N)).toUInt32 >>> ((13 : Int32) &&& 31).toUInt32).toInt32)))])) _
    refine XS.istoreN X0.here hx rfl (hb hby d1_59) rfl (l' := #[.val (.ref a1), .val (.int ((own_mB (own_fnv f N)) ^^^ (((own_mB (own_fnv f N)).toUInt32 >>> ((13 : Int32) &&& 31).toUInt32).toInt32))), .val (.ref a1), .val (.int (Int32.ofNat N)), .val (.int (Int32.ofNat N)), s6]) rfl ?_
    show Steps p.tables e below (s₁.setTop (mkF m 60 #[.val (.ref a1), .val (.int ((own_mB (own_fnv f N)) ^^^ (((own_mB (own_fnv f N)).toUInt32 >>> ((13 : Int32) &&& 31).toUInt32).toInt32))), .val (.ref a1), .val (.int (Int32.ofNat N)), .val (.int (Int32.ofNat N)), s6] [])) _
    show Steps p.tables e below (s₁.setTop (mkF m 60 #[.val (.ref a1), .val (.int (own_mix (own_fnv f N))), .val (.ref a1), .val (.int (Int32.ofNat N)), .val (.int (Int32.ofNat N)), s6] [])) _
    refine XS.iloadN X0.here hx rfl (hb hby d1_60) rfl ?_
    show Steps p.tables e below (s₁.setTop (mkF m 61 #[.val (.ref a1), .val (.int (own_mix (own_fnv f N))), .val (.ref a1), .val (.int (Int32.ofNat N)), .val (.int (Int32.ofNat N)), s6] [(.int (own_mix (own_fnv f N)))])) _
    exact k
  obtain ⟨fs, hr, hrun, hended, hW, hsame⟩ := X0.leave (v := some (.int (own_mix (own_fnv f N)))) (fun h => by rw [Bd.returns] at h; cases h)
  refine ⟨_, _, pre0 _ (r2 _ (s3 _ ?_)), hrun, hended, _, _, rfl, ?_, ⟨_, rfl⟩, hW, hsame.mono (by decide) (by decide)⟩
  · exact retI X0 hx Bd.returns (hb hby d1_61) hr
  · exact ⟨rfl, N0, e0⟩
theorem d2_0 : decode method_2_code 0 = .ok (.iload_n 0, 1) := by decide +kernel
theorem d2_1 : decode method_2_code 1 = .ok (.iload_n 0, 1) := by decide +kernel
theorem d2_2 : decode method_2_code 2 = .ok (.bipush 13, 2) := by decide +kernel
theorem d2_4 : decode method_2_code 4 = .ok (.iushr, 1) := by decide +kernel
theorem d2_5 : decode method_2_code 5 = .ok (.ixor, 1) := by decide +kernel
theorem d2_6 : decode method_2_code 6 = .ok (.iload_n 0, 1) := by decide +kernel
theorem d2_7 : decode method_2_code 7 = .ok (.bipush 26, 2) := by decide +kernel
theorem d2_9 : decode method_2_code 9 = .ok (.iushr, 1) := by decide +kernel
theorem d2_10 : decode method_2_code 10 = .ok (.ixor, 1) := by decide +kernel
theorem d2_11 : decode method_2_code 11 = .ok (.istore_n 1, 1) := by decide +kernel
theorem d2_12 : decode method_2_code 12 = .ok (.iload_n 1, 1) := by decide +kernel
theorem d2_13 : decode method_2_code 13 = .ok (.ldc 7, 2) := by decide +kernel
theorem d2_15 : decode method_2_code 15 = .ok (.imul, 1) := by decide +kernel
theorem d2_16 : decode method_2_code 16 = .ok (.istore_n 1, 1) := by decide +kernel
theorem d2_17 : decode method_2_code 17 = .ok (.iload_n 1, 1) := by decide +kernel
theorem d2_18 : decode method_2_code 18 = .ok (.iload_n 1, 1) := by decide +kernel
theorem d2_19 : decode method_2_code 19 = .ok (.bipush 16, 2) := by decide +kernel
theorem d2_21 : decode method_2_code 21 = .ok (.iushr, 1) := by decide +kernel
theorem d2_22 : decode method_2_code 22 = .ok (.ixor, 1) := by decide +kernel
theorem d2_23 : decode method_2_code 23 = .ok (.istore_n 1, 1) := by decide +kernel
theorem d2_24 : decode method_2_code 24 = .ok (.iload_n 1, 1) := by decide +kernel
theorem d2_25 : decode method_2_code 25 = .ok (.ireturn, 1) := by decide +kernel
theorem pn_2 : plainName "com/example/kellar/kellar/schema/KeyTableHashPinLaw" = true := by first | (simp [plainName, overriddenIn]; done) | decide +kernel
theorem ef_2 (m : MethodId) (x0 : Int32) : entryFrame m #[(.int x0)] 2 = mkF m 0 #[.val (.int x0), .unset] [] := by first | (simp [entryFrame, mkF, argsToLocals, Value.category]; done) | rfl
def Q2 (Z : State) (p1 : Int32) (h0 : Heap) (n0 : Nat) (v : Option Value) (h : Heap) (L : List Loc) : Prop := v = some (.int (own_unmix p1)) ∧ Fr n0 L ∧ h = h0
set_option maxRecDepth 65536 in
set_option maxHeartbeats 40000000 in
theorem rm2 (l : Launch) (Z : State) (a0 : Array Value) (hw : ∀ d ∈ tables_1, d.before a0 Z = true) (ws : List Jvm.Cond) (p1 : Int32) (h0 : Heap) (n0 : Nat) (Z0 : n0 ≤ h0.size)  :
    MetFree l (⟨"com/example/kellar/kellar/schema/KeyTableHashPinLaw", "unmix", "(I)I"⟩ : MethodName) (head1 (Jvm.Cond.code (⟨"com/example/kellar/kellar/schema/KeyTableHashPinLaw", "unmix", "(I)I"⟩ : MethodName) method_2_code 2 (some .int) :: ws) ({ frames := 0, cells := 0, slots := 0, locals := 0 } : Room)) (fun aa U => aa = #[(.int p1)] ∧ Z.Warmed39 U.vm ∧ U.heap = h0) (fun _ _ _ _ _ => True) (fun _ U o U' => ∃ v L, o = .returned v ∧ Q2 Z p1 h0 n0 v U'.heap L ∧ FrameEnd U o U' L ({ frames := 0, cells := 0, slots := 0, locals := 0 } : Room).cells ({ frames := 0, cells := 0, slots := 0, locals := 0 } : Room).slots) := by
  refine MetFree.of_bodySF (plainFor_of_name pn_2) hisR ?_
  intro p e s m args below meth c s₁ Bd hml0 hP hK
  obtain ⟨rfl, hZ, hh⟩ := hP
  have hx := Bd.exec
  have hby := Bd.bytes
  have hml : c.maxLocals = 2 := hml0
  have hown : s.vm.findClass "com/example/kellar/kellar/schema/KeyTableHashPinLaw" = some m.cls := findClass_of_methodNamed Bd.named
  have hnm := (name_of_methodNamed Bd.named Bd.method).1
  have X0 : Stand p l e ({ frames := 0, cells := 0, slots := 0, locals := 0 } : Room) s m #[(.int p1)] below meth c s₁ [] 0 0 := Stand.of_body Bd
  have e0 : s₁.heap = h0 := by rw [← hh, Bd.state]; rfl
  have N0 := Fr.nil n0
  have pre0 : ∀ t, Steps p.tables e below (s₁.setTop (mkF m 0 #[.val (.int p1), .unset] [])) t → Steps p.tables e below (s₁.setTop (entryFrame m #[(.int p1)] 2)) t := fun t k => castTop (ef_2 m p1) k
  have s3 : ∀ t, Steps p.tables e below (s₁.setTop (mkF m 25 #[.val (.int p1), .val (.int (own_unmix p1))] [(.int (own_unmix p1))])) t → Steps p.tables e below (s₁.setTop (mkF m 0 #[.val (.int p1), .unset] [])) t := by
    intro t k
    show Steps p.tables e below (s₁.setTop (mkF m 0 #[.val (.int p1), .unset] [])) _
    refine XS.iloadN X0.here hx rfl (hb hby d2_0) rfl ?_
    show Steps p.tables e below (s₁.setTop (mkF m 1 #[.val (.int p1), .unset] [(.int p1)])) _
    refine XS.iloadN X0.here hx rfl (hb hby d2_1) rfl ?_
    show Steps p.tables e below (s₁.setTop (mkF m 2 #[.val (.int p1), .unset] [(.int p1), (.int p1)])) _
    refine XS.bipush X0.here hx rfl (hb hby d2_2) ?_
    show Steps p.tables e below (s₁.setTop (mkF m 4 #[.val (.int p1), .unset] [(.int (13 : Int32)), (.int p1), (.int p1)])) _
    refine XS.iushr X0.here hx rfl (hb hby d2_4) rfl ?_
    show Steps p.tables e below (s₁.setTop (mkF m 5 #[.val (.int p1), .unset] [(.int ((p1.toUInt32 >>> ((13 : Int32) &&& 31).toUInt32).toInt32)), (.int p1)])) _
    refine XS.ixor X0.here hx rfl (hb hby d2_5) rfl ?_
    show Steps p.tables e below (s₁.setTop (mkF m 6 #[.val (.int p1), .unset] [(.int (p1 ^^^ ((p1.toUInt32 >>> ((13 : Int32) &&& 31).toUInt32).toInt32)))])) _
    refine XS.iloadN X0.here hx rfl (hb hby d2_6) rfl ?_
    show Steps p.tables e below (s₁.setTop (mkF m 7 #[.val (.int p1), .unset] [(.int p1), (.int (p1 ^^^ ((p1.toUInt32 >>> ((13 : Int32) &&& 31).toUInt32).toInt32)))])) _
    refine XS.bipush X0.here hx rfl (hb hby d2_7) ?_
    show Steps p.tables e below (s₁.setTop (mkF m 9 #[.val (.int p1), .unset] [(.int (26 : Int32)), (.int p1), (.int (p1 ^^^ ((p1.toUInt32 >>> ((13 : Int32) &&& 31).toUInt32).toInt32)))])) _
    refine XS.iushr X0.here hx rfl (hb hby d2_9) rfl ?_
    show Steps p.tables e below (s₁.setTop (mkF m 10 #[.val (.int p1), .unset] [(.int ((p1.toUInt32 >>> ((26 : Int32) &&& 31).toUInt32).toInt32)), (.int (p1 ^^^ ((p1.toUInt32 >>> ((13 : Int32) &&& 31).toUInt32).toInt32)))])) _
    refine XS.ixor X0.here hx rfl (hb hby d2_10) rfl ?_
    show Steps p.tables e below (s₁.setTop (mkF m 11 #[.val (.int p1), .unset] [(.int ((p1 ^^^ ((p1.toUInt32 >>> ((13 : Int32) &&& 31).toUInt32).toInt32)) ^^^ ((p1.toUInt32 >>> ((26 : Int32) &&& 31).toUInt32).toInt32)))])) _
    refine XS.istoreN X0.here hx rfl (hb hby d2_11) rfl (l' := #[.val (.int p1), .val (.int ((p1 ^^^ ((p1.toUInt32 >>> ((13 : Int32) &&& 31).toUInt32).toInt32)) ^^^ ((p1.toUInt32 >>> ((26 : Int32) &&& 31).toUInt32).toInt32)))]) rfl ?_
    show Steps p.tables e below (s₁.setTop (mkF m 12 #[.val (.int p1), .val (.int ((p1 ^^^ ((p1.toUInt32 >>> ((13 : Int32) &&& 31).toUInt32).toInt32)) ^^^ ((p1.toUInt32 >>> ((26 : Int32) &&& 31).toUInt32).toInt32)))] [])) _
    show Steps p.tables e below (s₁.setTop (mkF m 12 #[.val (.int p1), .val (.int (own_uA p1))] [])) _
    refine XS.iloadN X0.here hx rfl (hb hby d2_12) rfl ?_
    show Steps p.tables e below (s₁.setTop (mkF m 13 #[.val (.int p1), .val (.int (own_uA p1))] [(.int (own_uA p1))])) _
    refine X0.ldcI hx hown (mvT hZ (hw _ (List.mem_of_getElem? (i := 11) rfl))) (g := (mkF m 13 #[.val (.int p1), .val (.int (own_uA p1))] [(.int (own_uA p1))])) rfl (hb hby d2_13) ?_
    show Steps p.tables e below (s₁.setTop (mkF m 15 #[.val (.int p1), .val (.int (own_uA p1))] [(.int (-1513385405 : Int32)), (.int (own_uA p1))])) _
    refine XS.imul X0.here hx rfl (hb hby d2_15) rfl ?_
    show Steps p.tables e below (s₁.setTop (mkF m 16 #[.val (.int p1), .val (.int (own_uA p1))] [(.int ((own_uA p1) * (-1513385405 : Int32)))])) _
    refine XS.istoreN X0.here hx rfl (hb hby d2_16) rfl (l' := #[.val (.int p1), .val (.int ((own_uA p1) * (-1513385405 : Int32)))]) rfl ?_
    show Steps p.tables e below (s₁.setTop (mkF m 17 #[.val (.int p1), .val (.int ((own_uA p1) * (-1513385405 : Int32)))] [])) _
    show Steps p.tables e below (s₁.setTop (mkF m 17 #[.val (.int p1), .val (.int (own_uB p1))] [])) _
    refine XS.iloadN X0.here hx rfl (hb hby d2_17) rfl ?_
    show Steps p.tables e below (s₁.setTop (mkF m 18 #[.val (.int p1), .val (.int (own_uB p1))] [(.int (own_uB p1))])) _
    refine XS.iloadN X0.here hx rfl (hb hby d2_18) rfl ?_
    show Steps p.tables e below (s₁.setTop (mkF m 19 #[.val (.int p1), .val (.int (own_uB p1))] [(.int (own_uB p1)), (.int (own_uB p1))])) _
    refine XS.bipush X0.here hx rfl (hb hby d2_19) ?_
    show Steps p.tables e below (s₁.setTop (mkF m 21 #[.val (.int p1), .val (.int (own_uB p1))] [(.int (16 : Int32)), (.int (own_uB p1)), (.int (own_uB p1))])) _
    refine XS.iushr X0.here hx rfl (hb hby d2_21) rfl ?_
    show Steps p.tables e below (s₁.setTop (mkF m 22 #[.val (.int p1), .val (.int (own_uB p1))] [(.int (((own_uB p1).toUInt32 >>> ((16 : Int32) &&& 31).toUInt32).toInt32)), (.int (own_uB p1))])) _
    refine XS.ixor X0.here hx rfl (hb hby d2_22) rfl ?_
    show Steps p.tables e below (s₁.setTop (mkF m 23 #[.val (.int p1), .val (.int (own_uB p1))] [(.int ((own_uB p1) ^^^ (((own_uB p1).toUInt32 >>> ((16 : Int32) &&& 31).toUInt32).toInt32)))])) _
    refine XS.istoreN X0.here hx rfl (hb hby d2_23) rfl (l' := #[.val (.int p1), .val (.int ((own_uB p1) ^^^ (((own_uB p1).toUInt32 >>> ((16 : Int32) &&& 31).toUInt32).toInt32)))]) rfl ?_
    show Steps p.tables e below (s₁.setTop (mkF m 24 #[.val (.int p1), .val (.int ((own_uB p1) ^^^ (((own_uB p1).toUInt32 >>> ((16 : Int32) &&& 31).toUInt32).toInt32)))] [])) _
    show Steps p.tables e below (s₁.setTop (mkF m 24 #[.val (.int p1), .val (.int (own_unmix p1))] [])) _
    refine XS.iloadN X0.here hx rfl (hb hby d2_24) rfl ?_
    show Steps p.tables e below (s₁.setTop (mkF m 25 #[.val (.int p1), .val (.int (own_unmix p1))] [(.int (own_unmix p1))])) _
    exact k
  obtain ⟨fs, hr, hrun, hended, hW, hsame⟩ := X0.leave (v := some (.int (own_unmix p1))) (fun h => by rw [Bd.returns] at h; cases h)
  refine ⟨_, _, pre0 _ (s3 _ ?_), hrun, hended, _, _, rfl, ?_, ⟨_, rfl⟩, hW, hsame.mono (by decide) (by decide)⟩
  · exact retI X0 hx Bd.returns (hb hby d2_25) hr
  · exact ⟨rfl, N0, e0⟩
theorem pn_0 : plainName "com/example/kellar/kellar/schema/KeyTableHashPinLaw" = true := by first | (simp [plainName, overriddenIn]; done) | decide +kernel
theorem ef_0 (m : MethodId) (x0 : Int32) (x1 : Int32) (x2 : Int32) (x3 : Int32) (x4 : Int32) : entryFrame m #[(.int x0), (.int x1), (.int x2), (.int x3), (.int x4)] maxLocals = mkF m 0 #[.val (.int x0), .val (.int x1), .val (.int x2), .val (.int x3), .val (.int x4), .unset, .unset, .unset, .unset, .unset, .unset, .unset] [] := by first | (simp [entryFrame, mkF, argsToLocals, Value.category, maxLocals]; done) | rfl
def Q0 (Z : State) (p1 p2 p3 p4 p5 : Int32) (h0 : Heap) (n0 : Nat) (v : Option Value) (h : Heap) (L : List Loc) : Prop := v = some (.int 1) ∧ Fr n0 L
set_option maxRecDepth 65536 in
set_option maxHeartbeats 40000000 in
theorem rm0 (l : Launch) (Z : State) (a0 : Array Value) (hw : ∀ d ∈ tables_1, d.before a0 Z = true) (ws : List Jvm.Cond) (p1 p2 p3 p4 p5 : Int32) (h0 : Heap) (n0 : Nat) (Z0 : n0 ≤ h0.size)  :
    MetFree l x (head1 (Jvm.Cond.code x code maxLocals ret :: ws) room_1) (fun aa U => aa = #[(.int p1), (.int p2), (.int p3), (.int p4), (.int p5)] ∧ Z.Warmed39 U.vm ∧ U.heap = h0) (fun _ _ _ _ _ => True) (fun _ U o U' => ∃ v L, o = .returned v ∧ Q0 Z p1 p2 p3 p4 p5 h0 n0 v U'.heap L ∧ FrameEnd U o U' L room_1.cells room_1.slots) := by
  refine MetFree.of_bodySF (plainFor_of_name pn_0) hisR ?_
  intro p e s m args below meth c s₁ Bd hml0 hP hK
  obtain ⟨rfl, hZ, hh⟩ := hP
  have hx := Bd.exec
  have hby := Bd.bytes
  have hml : c.maxLocals = 12 := hml0
  have hown : s.vm.findClass "com/example/kellar/kellar/schema/KeyTableHashPinLaw" = some m.cls := findClass_of_methodNamed Bd.named
  have hnm := (name_of_methodNamed Bd.named Bd.method).1
  have X0 : Stand p l e room_1 s m #[(.int p1), (.int p2), (.int p3), (.int p4), (.int p5)] below meth c s₁ [] 0 0 := Stand.of_body Bd
  have e0 : s₁.heap = h0 := by rw [← hh, Bd.state]; rfl
  have N0 := Fr.nil n0
  have pre0 : ∀ t, Steps p.tables e below (s₁.setTop (mkF m 0 #[.val (.int p1), .val (.int p2), .val (.int p3), .val (.int p4), .val (.int p5), .unset, .unset, .unset, .unset, .unset, .unset, .unset] [])) t → Steps p.tables e below (s₁.setTop (entryFrame m #[(.int p1), (.int p2), (.int p3), (.int p4), (.int p5)] maxLocals)) t := fun t k => castTop (ef_0 m p1 p2 p3 p4 p5) k
  have s0 : ∀ t, Steps p.tables e below (s₁.setTop (mkF m 5 #[.val (.int p1), .val (.int p2), .val (.int p3), .val (.int p4), .val (.int p5), .val (.int (p1 &&& (3 : Int32))), .unset, .unset, .unset, .unset, .unset, .unset] [])) t → Steps p.tables e below (s₁.setTop (mkF m 0 #[.val (.int p1), .val (.int p2), .val (.int p3), .val (.int p4), .val (.int p5), .unset, .unset, .unset, .unset, .unset, .unset, .unset] [])) t := by
    intro t k
    show Steps p.tables e below (s₁.setTop (mkF m 0 #[.val (.int p1), .val (.int p2), .val (.int p3), .val (.int p4), .val (.int p5), .unset, .unset, .unset, .unset, .unset, .unset, .unset] [])) _
    refine XS.iloadN X0.here hx rfl (hb hby at_0) rfl ?_
    show Steps p.tables e below (s₁.setTop (mkF m 1 #[.val (.int p1), .val (.int p2), .val (.int p3), .val (.int p4), .val (.int p5), .unset, .unset, .unset, .unset, .unset, .unset, .unset] [(.int p1)])) _
    refine XS.iconst X0.here hx rfl (hb hby at_1) ?_
    show Steps p.tables e below (s₁.setTop (mkF m 2 #[.val (.int p1), .val (.int p2), .val (.int p3), .val (.int p4), .val (.int p5), .unset, .unset, .unset, .unset, .unset, .unset, .unset] [(.int (3 : Int32)), (.int p1)])) _
    refine XS.iand X0.here hx rfl (hb hby at_2) rfl ?_
    show Steps p.tables e below (s₁.setTop (mkF m 3 #[.val (.int p1), .val (.int p2), .val (.int p3), .val (.int p4), .val (.int p5), .unset, .unset, .unset, .unset, .unset, .unset, .unset] [(.int (p1 &&& (3 : Int32)))])) _
    refine XS.istore X0.here hx rfl (hb hby at_3) rfl (l' := #[.val (.int p1), .val (.int p2), .val (.int p3), .val (.int p4), .val (.int p5), .val (.int (p1 &&& (3 : Int32))), .unset, .unset, .unset, .unset, .unset, .unset]) rfl ?_
    show Steps p.tables e below (s₁.setTop (mkF m 5 #[.val (.int p1), .val (.int p2), .val (.int p3), .val (.int p4), .val (.int p5), .val (.int (p1 &&& (3 : Int32))), .unset, .unset, .unset, .unset, .unset, .unset] [])) _
    exact k
  rcases own_and3 p1 with hc | hc | hc | hc
  · rw [hc] at s0
    have s1 : ∀ t, Steps p.tables e below (s₁.setTop (mkF m 7 #[.val (.int p1), .val (.int p2), .val (.int p3), .val (.int p4), .val (.int p5), .val (.int (0 : Int32)), .unset, .unset, .unset, .unset, .unset, .unset] [(.int (0 : Int32))])) t → Steps p.tables e below (s₁.setTop (mkF m 5 #[.val (.int p1), .val (.int p2), .val (.int p3), .val (.int p4), .val (.int p5), .val (.int (0 : Int32)), .unset, .unset, .unset, .unset, .unset, .unset] [])) t := by
      intro t k
      show Steps p.tables e below (s₁.setTop (mkF m 5 #[.val (.int p1), .val (.int p2), .val (.int p3), .val (.int p4), .val (.int p5), .val (.int (0 : Int32)), .unset, .unset, .unset, .unset, .unset, .unset] [])) _
      refine XS.iload X0.here hx rfl (hb hby at_5) rfl ?_
      show Steps p.tables e below (s₁.setTop (mkF m 7 #[.val (.int p1), .val (.int p2), .val (.int p3), .val (.int p4), .val (.int p5), .val (.int (0 : Int32)), .unset, .unset, .unset, .unset, .unset, .unset] [(.int (0 : Int32))])) _
      exact k
    obtain ⟨TK, hK, kK, XK, eK, EK, AK, stK⟩ := newP X0 hx hZ (hw _ (List.mem_of_getElem? (i := 0) rfl)) (rfl : s₁.heap = s₁.heap) (g := (mkF m 7 #[.val (.int p1), .val (.int p2), .val (.int p3), .val (.int p4), .val (.int p5), .val (.int (0 : Int32)), .unset, .unset, .unset, .unset, .unset, .unset] [(.int (0 : Int32))])) rfl (hb hby at_7) rfl (by decide) (cap := 0) (by decide) (by decide) (by decide) (by decide)
    obtain ⟨bK, gK⟩ : ∃ z, z = s₁.heap.size := ⟨_, rfl⟩
    rw [← gK] at AK stK
    have gbK : n0 ≤ bK := Nat.le_trans Z0 (by rw [gK, e0]; exact Nat.le_refl _)
    have GK : own_By Z TK.heap bK 0 (fun _ => 0) := by rw [eK]; exact own_freshB AK (by decide)
    have rK : ∀ t, Steps p.tables e below (TK.setTop (mkF m 9 #[.val (.int p1), .val (.int p2), .val (.int p3), .val (.int p4), .val (.int p5), .val (.int (0 : Int32)), .unset, .unset, .unset, .unset, .unset, .unset] [(.ref bK)])) t → Steps p.tables e below (s₁.setTop (mkF m 0 #[.val (.int p1), .val (.int p2), .val (.int p3), .val (.int p4), .val (.int p5), .unset, .unset, .unset, .unset, .unset, .unset, .unset] [])) t := fun t k => s0 t (s1 t (stK t k))
    have sK : ∀ t, Steps p.tables e below (TK.setTop (mkF m 15 #[.val (.int p1), .val (.int p2), .val (.int p3), .val (.int p4), .val (.int p5), .val (.int (0 : Int32)), .val (.ref bK), .unset, .unset, .unset, .unset, .unset] [(.int ((0 : Int32) + (1 : Int32)))])) t → Steps p.tables e below (TK.setTop (mkF m 9 #[.val (.int p1), .val (.int p2), .val (.int p3), .val (.int p4), .val (.int p5), .val (.int (0 : Int32)), .unset, .unset, .unset, .unset, .unset, .unset] [(.ref bK)])) t := by
      intro t k
      show Steps p.tables e below (TK.setTop (mkF m 9 #[.val (.int p1), .val (.int p2), .val (.int p3), .val (.int p4), .val (.int p5), .val (.int (0 : Int32)), .unset, .unset, .unset, .unset, .unset, .unset] [(.ref bK)])) _
      refine XS.astore XK.here hx rfl (hb hby at_9) rfl rfl (l' := #[.val (.int p1), .val (.int p2), .val (.int p3), .val (.int p4), .val (.int p5), .val (.int (0 : Int32)), .val (.ref bK), .unset, .unset, .unset, .unset, .unset]) rfl ?_
      show Steps p.tables e below (TK.setTop (mkF m 11 #[.val (.int p1), .val (.int p2), .val (.int p3), .val (.int p4), .val (.int p5), .val (.int (0 : Int32)), .val (.ref bK), .unset, .unset, .unset, .unset, .unset] [])) _
      refine XS.iload XK.here hx rfl (hb hby at_11) rfl ?_
      show Steps p.tables e below (TK.setTop (mkF m 13 #[.val (.int p1), .val (.int p2), .val (.int p3), .val (.int p4), .val (.int p5), .val (.int (0 : Int32)), .val (.ref bK), .unset, .unset, .unset, .unset, .unset] [(.int (0 : Int32))])) _
      refine XS.iconst XK.here hx rfl (hb hby at_13) ?_
      show Steps p.tables e below (TK.setTop (mkF m 14 #[.val (.int p1), .val (.int p2), .val (.int p3), .val (.int p4), .val (.int p5), .val (.int (0 : Int32)), .val (.ref bK), .unset, .unset, .unset, .unset, .unset] [(.int (1 : Int32)), (.int (0 : Int32))])) _
      refine XS.iadd XK.here hx rfl (hb hby at_14) rfl ?_
      show Steps p.tables e below (TK.setTop (mkF m 15 #[.val (.int p1), .val (.int p2), .val (.int p3), .val (.int p4), .val (.int p5), .val (.int (0 : Int32)), .val (.ref bK), .unset, .unset, .unset, .unset, .unset] [(.int ((0 : Int32) + (1 : Int32)))])) _
      exact k
    obtain ⟨TE, hE, kE, XE, eE, EE, AE, stE⟩ := newP XK hx hZ (hw _ (List.mem_of_getElem? (i := 0) rfl)) (rfl : TK.heap = TK.heap) (g := (mkF m 15 #[.val (.int p1), .val (.int p2), .val (.int p3), .val (.int p4), .val (.int p5), .val (.int (0 : Int32)), .val (.ref bK), .unset, .unset, .unset, .unset, .unset] [(.int ((0 : Int32) + (1 : Int32)))])) rfl (hb hby at_15) rfl (by decide) (cap := 1) (by decide) (by decide) (by decide) (by decide)
    obtain ⟨bE, gE⟩ : ∃ z, z = TK.heap.size := ⟨_, rfl⟩
    rw [← gE] at AE stE
    have gbE : n0 ≤ bE := Nat.le_trans gbK (by rw [gE]; exact Nat.le_of_lt (own_By_lt GK))
    have neKE : bK ≠ bE := Nat.ne_of_lt (by rw [gE]; exact own_By_lt GK)
    have GE : own_By Z TE.heap bE 1 (fun _ => 0) := by rw [eE]; exact own_freshB AE (by decide)
    have GK : own_By Z TE.heap bK 0 (fun _ => 0) := by rw [eE]; exact own_By_ext EE GK
    have rE : ∀ t, Steps p.tables e below (TE.setTop (mkF m 17 #[.val (.int p1), .val (.int p2), .val (.int p3), .val (.int p4), .val (.int p5), .val (.int (0 : Int32)), .val (.ref bK), .unset, .unset, .unset, .unset, .unset] [(.ref bE)])) t → Steps p.tables e below (s₁.setTop (mkF m 0 #[.val (.int p1), .val (.int p2), .val (.int p3), .val (.int p4), .val (.int p5), .unset, .unset, .unset, .unset, .unset, .unset, .unset] [])) t := fun t k => rK t (sK t (stE t k))
    have s2 : ∀ t, Steps p.tables e below (TE.setTop (mkF m 79 #[.val (.int p1), .val (.int p2), .val (.int p3), .val (.int p4), .val (.int p5), .val (.int (0 : Int32)), .val (.ref bK), .val (.ref bE), .unset, .unset, .unset, .unset] [(.int (p5.toInt8.toInt32)), (.int (0 : Int32)), (.ref bE)])) t → Steps p.tables e below (TE.setTop (mkF m 17 #[.val (.int p1), .val (.int p2), .val (.int p3), .val (.int p4), .val (.int p5), .val (.int (0 : Int32)), .val (.ref bK), .unset, .unset, .unset, .unset, .unset] [(.ref bE)])) t := by
      intro t k
      show Steps p.tables e below (TE.setTop (mkF m 17 #[.val (.int p1), .val (.int p2), .val (.int p3), .val (.int p4), .val (.int p5), .val (.int (0 : Int32)), .val (.ref bK), .unset, .unset, .unset, .unset, .unset] [(.ref bE)])) _
      refine XS.astore XE.here hx rfl (hb hby at_17) rfl rfl (l' := #[.val (.int p1), .val (.int p2), .val (.int p3), .val (.int p4), .val (.int p5), .val (.int (0 : Int32)), .val (.ref bK), .val (.ref bE), .unset, .unset, .unset, .unset]) rfl ?_
      show Steps p.tables e below (TE.setTop (mkF m 19 #[.val (.int p1), .val (.int p2), .val (.int p3), .val (.int p4), .val (.int p5), .val (.int (0 : Int32)), .val (.ref bK), .val (.ref bE), .unset, .unset, .unset, .unset] [])) _
      refine XS.iload XE.here hx rfl (hb hby at_19) rfl ?_
      show Steps p.tables e below (TE.setTop (mkF m 21 #[.val (.int p1), .val (.int p2), .val (.int p3), .val (.int p4), .val (.int p5), .val (.int (0 : Int32)), .val (.ref bK), .val (.ref bE), .unset, .unset, .unset, .unset] [(.int (0 : Int32))])) _
      refine XS.ifYes XE.here hx rfl (pc0 := 21) (pc' := 36) rfl (hb hby at_21) rfl (XT.i0_le_t (by decide)) (by decide) (by decide) ?_
      show Steps p.tables e below (TE.setTop (mkF m 36 #[.val (.int p1), .val (.int p2), .val (.int p3), .val (.int p4), .val (.int p5), .val (.int (0 : Int32)), .val (.ref bK), .val (.ref bE), .unset, .unset, .unset, .unset] [])) _
      refine XS.iload XE.here hx rfl (hb hby at_36) rfl ?_
      show Steps p.tables e below (TE.setTop (mkF m 38 #[.val (.int p1), .val (.int p2), .val (.int p3), .val (.int p4), .val (.int p5), .val (.int (0 : Int32)), .val (.ref bK), .val (.ref bE), .unset, .unset, .unset, .unset] [(.int (0 : Int32))])) _
      refine XS.iconst XE.here hx rfl (hb hby at_38) ?_
      show Steps p.tables e below (TE.setTop (mkF m 39 #[.val (.int p1), .val (.int p2), .val (.int p3), .val (.int p4), .val (.int p5), .val (.int (0 : Int32)), .val (.ref bK), .val (.ref bE), .unset, .unset, .unset, .unset] [(.int (1 : Int32)), (.int (0 : Int32))])) _
      refine XS.icmpYes XE.here hx rfl (pc0 := 39) (pc' := 54) rfl (hb hby at_39) rfl (XT.ii_le_t (by decide)) (by decide) (by decide) ?_
      show Steps p.tables e below (TE.setTop (mkF m 54 #[.val (.int p1), .val (.int p2), .val (.int p3), .val (.int p4), .val (.int p5), .val (.int (0 : Int32)), .val (.ref bK), .val (.ref bE), .unset, .unset, .unset, .unset] [])) _
      refine XS.iload XE.here hx rfl (hb hby at_54) rfl ?_
      show Steps p.tables e below (TE.setTop (mkF m 56 #[.val (.int p1), .val (.int p2), .val (.int p3), .val (.int p4), .val (.int p5), .val (.int (0 : Int32)), .val (.ref bK), .val (.ref bE), .unset, .unset, .unset, .unset] [(.int (0 : Int32))])) _
      refine XS.iconst XE.here hx rfl (hb hby at_56) ?_
      show Steps p.tables e below (TE.setTop (mkF m 57 #[.val (.int p1), .val (.int p2), .val (.int p3), .val (.int p4), .val (.int p5), .val (.int (0 : Int32)), .val (.ref bK), .val (.ref bE), .unset, .unset, .unset, .unset] [(.int (2 : Int32)), (.int (0 : Int32))])) _
      refine XS.icmpYes XE.here hx rfl (pc0 := 57) (pc' := 72) rfl (hb hby at_57) rfl (XT.ii_le_t (by decide)) (by decide) (by decide) ?_
      show Steps p.tables e below (TE.setTop (mkF m 72 #[.val (.int p1), .val (.int p2), .val (.int p3), .val (.int p4), .val (.int p5), .val (.int (0 : Int32)), .val (.ref bK), .val (.ref bE), .unset, .unset, .unset, .unset] [])) _
      refine XS.aload XE.here hx rfl (hb hby at_72) rfl rfl ?_
      show Steps p.tables e below (TE.setTop (mkF m 74 #[.val (.int p1), .val (.int p2), .val (.int p3), .val (.int p4), .val (.int p5), .val (.int (0 : Int32)), .val (.ref bK), .val (.ref bE), .unset, .unset, .unset, .unset] [(.ref bE)])) _
      refine XS.iload XE.here hx rfl (hb hby at_74) rfl ?_
      show Steps p.tables e below (TE.setTop (mkF m 76 #[.val (.int p1), .val (.int p2), .val (.int p3), .val (.int p4), .val (.int p5), .val (.int (0 : Int32)), .val (.ref bK), .val (.ref bE), .unset, .unset, .unset, .unset] [(.int (0 : Int32)), (.ref bE)])) _
      refine XS.iload XE.here hx rfl (hb hby at_76) rfl ?_
      show Steps p.tables e below (TE.setTop (mkF m 78 #[.val (.int p1), .val (.int p2), .val (.int p3), .val (.int p4), .val (.int p5), .val (.int (0 : Int32)), .val (.ref bK), .val (.ref bE), .unset, .unset, .unset, .unset] [(.int p5), (.int (0 : Int32)), (.ref bE)])) _
      refine XS.i2b XE.here hx rfl (hb hby at_78) rfl ?_
      show Steps p.tables e below (TE.setTop (mkF m 79 #[.val (.int p1), .val (.int p2), .val (.int p3), .val (.int p4), .val (.int p5), .val (.int (0 : Int32)), .val (.ref bK), .val (.ref bE), .unset, .unset, .unset, .unset] [(.int (p5.toInt8.toInt32)), (.int (0 : Int32)), (.ref bE)])) _
      exact k
    obtain ⟨T2, L2, X2, N2, G2, ⟨sl2, w2, W2⟩, st2⟩ := own_storeB XE hx hZ N0 gbE GE 79 #[.val (.int p1), .val (.int p2), .val (.int p3), .val (.int p4), .val (.int p5), .val (.int (0 : Int32)), .val (.ref bK), .val (.ref bE), .unset, .unset, .unset, .unset] [] (0 : Int32) (p5.toInt8.toInt32) 0 (by decide) (by decide) (by decide) (hb hby at_79)
    have GE := G2
    have GK := own_By_other W2 GK neKE
    have r2 : ∀ t, Steps p.tables e below (T2.setTop (mkF m 80 #[.val (.int p1), .val (.int p2), .val (.int p3), .val (.int p4), .val (.int p5), .val (.int (0 : Int32)), .val (.ref bK), .val (.ref bE), .unset, .unset, .unset, .unset] [])) t → Steps p.tables e below (s₁.setTop (mkF m 0 #[.val (.int p1), .val (.int p2), .val (.int p3), .val (.int p4), .val (.int p5), .unset, .unset, .unset, .unset, .unset, .unset, .unset] [])) t := fun t k => rE t (s2 t (st2 t k))
    have Zq : n0 ≤ T2.heap.size := Nat.le_trans gbK (Nat.le_of_lt (own_By_lt GK))
    have s3 : ∀ t, Steps p.tables e below (T2.setTop (mkF m 82 #[.val (.int p1), .val (.int p2), .val (.int p3), .val (.int p4), .val (.int p5), .val (.int (0 : Int32)), .val (.ref bK), .val (.ref bE), .unset, .unset, .unset, .unset] [(.ref bK)])) t → Steps p.tables e below (T2.setTop (mkF m 80 #[.val (.int p1), .val (.int p2), .val (.int p3), .val (.int p4), .val (.int p5), .val (.int (0 : Int32)), .val (.ref bK), .val (.ref bE), .unset, .unset, .unset, .unset] [])) t := by
      intro t k
      show Steps p.tables e below (T2.setTop (mkF m 80 #[.val (.int p1), .val (.int p2), .val (.int p3), .val (.int p4), .val (.int p5), .val (.int (0 : Int32)), .val (.ref bK), .val (.ref bE), .unset, .unset, .unset, .unset] [])) _
      refine XS.aload X2.here hx rfl (hb hby at_80) rfl rfl ?_
      show Steps p.tables e below (T2.setTop (mkF m 82 #[.val (.int p1), .val (.int p2), .val (.int p3), .val (.int p4), .val (.int p5), .val (.int (0 : Int32)), .val (.ref bK), .val (.ref bE), .unset, .unset, .unset, .unset] [(.ref bK)])) _
      exact k
    obtain ⟨_, _, ⟨T3, L3, k3, n3⟩, -, X3, ⟨Lc3, hQ3, l3, y3, z3⟩, st3⟩ := Jvm.LawKit.callS X2 hx (y := (⟨"com/example/kellar/kellar/schema/KeyTable", "hash", "([B)I"⟩ : MethodName)) hown (mvT hZ (hw _ (List.mem_of_getElem? (i := 1) rfl))) (mvT hZ (hw _ (List.mem_of_getElem? (i := 2) rfl))) (mvT hZ (hw _ (List.mem_of_getElem? (i := 3) rfl))) (mvT hZ (hw _ (List.mem_of_getElem? (i := 4) rfl))) (by decide) (backOf (W := 0) (rm1 l Z a0 hw [] bK 0 (fun _ => 0) T2.heap n0 Zq (by decide) GK) hZ (hw _ (List.mem_of_getElem? (i := 4) rfl)) (hw _ (List.mem_of_getElem? (i := 3) rfl)) (by decide) (by decide)) (g := (mkF m 82 #[.val (.int p1), .val (.int p2), .val (.int p3), .val (.int p4), .val (.int p5), .val (.int (0 : Int32)), .val (.ref bK), .val (.ref bE), .unset, .unset, .unset, .unset] [(.ref bK)])) rfl (by rw [hml]; rfl) (argsL := [(.ref bK)]) (rest := []) (lenOf pd__AB_I rfl) rfl (by show 2 * 0 + _ ≤ _; exact Nat.le_of_eq rfl) (hb hby at_82) (fun _ _ => ⟨rfl, rfl, (by decide : 2 + 0 ≤ _), (by decide : 1 + 0 ≤ _)⟩)
    dsimp only [Pt.U, Pt.locs, Pt.cells, Pt.slots] at X3 l3 y3 z3 st3 hQ3
    subst l3 y3 z3
    obtain ⟨rfl, N3q, e3⟩ := hQ3
    have N3 := Fr.app N2 N3q
    rw [← e3] at Zq GK GE
    have r3 : ∀ t, Steps p.tables e below (T3.setTop (mkF m 85 #[.val (.int p1), .val (.int p2), .val (.int p3), .val (.int p4), .val (.int p5), .val (.int (0 : Int32)), .val (.ref bK), .val (.ref bE), .unset, .unset, .unset, .unset] [(.int (own_mix (own_fnv (fun _ => 0) 0)))])) t → Steps p.tables e below (s₁.setTop (mkF m 0 #[.val (.int p1), .val (.int p2), .val (.int p3), .val (.int p4), .val (.int p5), .unset, .unset, .unset, .unset, .unset, .unset, .unset] [])) t := fun t k => r2 t (s3 t (st3 _  k))
    have s4 : ∀ t, Steps p.tables e below (T3.setTop (mkF m 85 #[.val (.int p1), .val (.int p2), .val (.int p3), .val (.int p4), .val (.int p5), .val (.int (0 : Int32)), .val (.ref bK), .val (.ref bE), .unset, .unset, .unset, .unset] [(.int (own_mix (own_fnv (fun _ => 0) 0)))])) t → Steps p.tables e below (T3.setTop (mkF m 85 #[.val (.int p1), .val (.int p2), .val (.int p3), .val (.int p4), .val (.int p5), .val (.int (0 : Int32)), .val (.ref bK), .val (.ref bE), .unset, .unset, .unset, .unset] [(.int (own_mix (own_fnv (fun _ => 0) 0)))])) t := by
      intro t k
      show Steps p.tables e below (T3.setTop (mkF m 85 #[.val (.int p1), .val (.int p2), .val (.int p3), .val (.int p4), .val (.int p5), .val (.int (0 : Int32)), .val (.ref bK), .val (.ref bE), .unset, .unset, .unset, .unset] [(.int (own_mix (own_fnv (fun _ => 0) 0)))])) _
      exact k
    obtain ⟨_, _, ⟨T4, L4, k4, n4⟩, -, X4, ⟨Lc4, hQ4, l4, y4, z4⟩, st4⟩ := Jvm.LawKit.callS X3 hx (y := (⟨"com/example/kellar/kellar/schema/KeyTableHashPinLaw", "unmix", "(I)I"⟩ : MethodName)) hown (mvT hZ (hw _ (List.mem_of_getElem? (i := 7) rfl))) (mvT hZ (hw _ (List.mem_of_getElem? (i := 8) rfl))) (mvT hZ (hw _ (List.mem_of_getElem? (i := 9) rfl))) (mvT hZ (hw _ (List.mem_of_getElem? (i := 10) rfl))) (by decide) (backOf (W := 0) (rm2 l Z a0 hw [] (own_mix (own_fnv (fun _ => 0) 0)) T3.heap n0 Zq) hZ (hw _ (List.mem_of_getElem? (i := 10) rfl)) (hw _ (List.mem_of_getElem? (i := 9) rfl)) (by decide) (by decide)) (g := (mkF m 85 #[.val (.int p1), .val (.int p2), .val (.int p3), .val (.int p4), .val (.int p5), .val (.int (0 : Int32)), .val (.ref bK), .val (.ref bE), .unset, .unset, .unset, .unset] [(.int (own_mix (own_fnv (fun _ => 0) 0)))])) rfl (by rw [hml]; rfl) (argsL := [(.int (own_mix (own_fnv (fun _ => 0) 0)))]) (rest := []) (lenOf pd__I_I rfl) rfl (by show 2 * 0 + _ ≤ _; exact Nat.le_of_eq rfl) (hb hby at_85) (fun _ _ => ⟨rfl, rfl, (by decide : 2 + 0 ≤ _), (by decide : 1 + 0 ≤ _)⟩)
    dsimp only [Pt.U, Pt.locs, Pt.cells, Pt.slots] at X4 l4 y4 z4 st4 hQ4
    subst l4 y4 z4
    obtain ⟨rfl, N4q, e4⟩ := hQ4
    have N4 := Fr.app N3 N4q
    rw [← e4] at Zq GK GE
    rw [own_um] at st4
    have r4 : ∀ t, Steps p.tables e below (T4.setTop (mkF m 88 #[.val (.int p1), .val (.int p2), .val (.int p3), .val (.int p4), .val (.int p5), .val (.int (0 : Int32)), .val (.ref bK), .val (.ref bE), .unset, .unset, .unset, .unset] [(.int (own_fnv (fun _ => 0) 0))])) t → Steps p.tables e below (s₁.setTop (mkF m 0 #[.val (.int p1), .val (.int p2), .val (.int p3), .val (.int p4), .val (.int p5), .unset, .unset, .unset, .unset, .unset, .unset, .unset] [])) t := fun t k => r3 t (s4 t (st4 _  k))
    have s5 : ∀ t, Steps p.tables e below (T4.setTop (mkF m 92 #[.val (.int p1), .val (.int p2), .val (.int p3), .val (.int p4), .val (.int p5), .val (.int (0 : Int32)), .val (.ref bK), .val (.ref bE), .val (.int (own_fnv (fun _ => 0) 0)), .unset, .unset, .unset] [(.ref bE)])) t → Steps p.tables e below (T4.setTop (mkF m 88 #[.val (.int p1), .val (.int p2), .val (.int p3), .val (.int p4), .val (.int p5), .val (.int (0 : Int32)), .val (.ref bK), .val (.ref bE), .unset, .unset, .unset, .unset] [(.int (own_fnv (fun _ => 0) 0))])) t := by
      intro t k
      show Steps p.tables e below (T4.setTop (mkF m 88 #[.val (.int p1), .val (.int p2), .val (.int p3), .val (.int p4), .val (.int p5), .val (.int (0 : Int32)), .val (.ref bK), .val (.ref bE), .unset, .unset, .unset, .unset] [(.int (own_fnv (fun _ => 0) 0))])) _
      refine XS.istore X4.here hx rfl (hb hby at_88) rfl (l' := #[.val (.int p1), .val (.int p2), .val (.int p3), .val (.int p4), .val (.int p5), .val (.int (0 : Int32)), .val (.ref bK), .val (.ref bE), .val (.int (own_fnv (fun _ => 0) 0)), .unset, .unset, .unset]) rfl ?_
      show Steps p.tables e below (T4.setTop (mkF m 90 #[.val (.int p1), .val (.int p2), .val (.int p3), .val (.int p4), .val (.int p5), .val (.int (0 : Int32)), .val (.ref bK), .val (.ref bE), .val (.int (own_fnv (fun _ => 0) 0)), .unset, .unset, .unset] [])) _
      refine XS.aload X4.here hx rfl (hb hby at_90) rfl rfl ?_
      show Steps p.tables e below (T4.setTop (mkF m 92 #[.val (.int p1), .val (.int p2), .val (.int p3), .val (.int p4), .val (.int p5), .val (.int (0 : Int32)), .val (.ref bK), .val (.ref bE), .val (.int (own_fnv (fun _ => 0) 0)), .unset, .unset, .unset] [(.ref bE)])) _
      exact k
    obtain ⟨_, _, ⟨T5, L5, k5, n5⟩, -, X5, ⟨Lc5, hQ5, l5, y5, z5⟩, st5⟩ := Jvm.LawKit.callS X4 hx (y := (⟨"com/example/kellar/kellar/schema/KeyTable", "hash", "([B)I"⟩ : MethodName)) hown (mvT hZ (hw _ (List.mem_of_getElem? (i := 1) rfl))) (mvT hZ (hw _ (List.mem_of_getElem? (i := 2) rfl))) (mvT hZ (hw _ (List.mem_of_getElem? (i := 3) rfl))) (mvT hZ (hw _ (List.mem_of_getElem? (i := 4) rfl))) (by decide) (backOf (W := 0) (rm1 l Z a0 hw [] bE 1 (own_upd (fun _ => 0) 0 (p5.toInt8.toInt32).toInt8.toInt32) T4.heap n0 Zq (by decide) GE) hZ (hw _ (List.mem_of_getElem? (i := 4) rfl)) (hw _ (List.mem_of_getElem? (i := 3) rfl)) (by decide) (by decide)) (g := (mkF m 92 #[.val (.int p1), .val (.int p2), .val (.int p3), .val (.int p4), .val (.int p5), .val (.int (0 : Int32)), .val (.ref bK), .val (.ref bE), .val (.int (own_fnv (fun _ => 0) 0)), .unset, .unset, .unset] [(.ref bE)])) rfl (by rw [hml]; rfl) (argsL := [(.ref bE)]) (rest := []) (lenOf pd__AB_I rfl) rfl (by show 2 * 0 + _ ≤ _; exact Nat.le_of_eq rfl) (hb hby at_92) (fun _ _ => ⟨rfl, rfl, (by decide : 2 + 0 ≤ _), (by decide : 1 + 0 ≤ _)⟩)
    dsimp only [Pt.U, Pt.locs, Pt.cells, Pt.slots] at X5 l5 y5 z5 st5 hQ5
    subst l5 y5 z5
    obtain ⟨rfl, N5q, e5⟩ := hQ5
    have N5 := Fr.app N4 N5q
    rw [← e5] at Zq GK GE
    have r5 : ∀ t, Steps p.tables e below (T5.setTop (mkF m 95 #[.val (.int p1), .val (.int p2), .val (.int p3), .val (.int p4), .val (.int p5), .val (.int (0 : Int32)), .val (.ref bK), .val (.ref bE), .val (.int (own_fnv (fun _ => 0) 0)), .unset, .unset, .unset] [(.int (own_mix (own_fnv (own_upd (fun _ => 0) 0 (p5.toInt8.toInt32).toInt8.toInt32) 1)))])) t → Steps p.tables e below (s₁.setTop (mkF m 0 #[.val (.int p1), .val (.int p2), .val (.int p3), .val (.int p4), .val (.int p5), .unset, .unset, .unset, .unset, .unset, .unset, .unset] [])) t := fun t k => r4 t (s5 t (st5 _  k))
    have s6 : ∀ t, Steps p.tables e below (T5.setTop (mkF m 95 #[.val (.int p1), .val (.int p2), .val (.int p3), .val (.int p4), .val (.int p5), .val (.int (0 : Int32)), .val (.ref bK), .val (.ref bE), .val (.int (own_fnv (fun _ => 0) 0)), .unset, .unset, .unset] [(.int (own_mix (own_fnv (own_upd (fun _ => 0) 0 (p5.toInt8.toInt32).toInt8.toInt32) 1)))])) t → Steps p.tables e below (T5.setTop (mkF m 95 #[.val (.int p1), .val (.int p2), .val (.int p3), .val (.int p4), .val (.int p5), .val (.int (0 : Int32)), .val (.ref bK), .val (.ref bE), .val (.int (own_fnv (fun _ => 0) 0)), .unset, .unset, .unset] [(.int (own_mix (own_fnv (own_upd (fun _ => 0) 0 (p5.toInt8.toInt32).toInt8.toInt32) 1)))])) t := by
      intro t k
      show Steps p.tables e below (T5.setTop (mkF m 95 #[.val (.int p1), .val (.int p2), .val (.int p3), .val (.int p4), .val (.int p5), .val (.int (0 : Int32)), .val (.ref bK), .val (.ref bE), .val (.int (own_fnv (fun _ => 0) 0)), .unset, .unset, .unset] [(.int (own_mix (own_fnv (own_upd (fun _ => 0) 0 (p5.toInt8.toInt32).toInt8.toInt32) 1)))])) _
      exact k
    obtain ⟨_, _, ⟨T6, L6, k6, n6⟩, -, X6, ⟨Lc6, hQ6, l6, y6, z6⟩, st6⟩ := Jvm.LawKit.callS X5 hx (y := (⟨"com/example/kellar/kellar/schema/KeyTableHashPinLaw", "unmix", "(I)I"⟩ : MethodName)) hown (mvT hZ (hw _ (List.mem_of_getElem? (i := 7) rfl))) (mvT hZ (hw _ (List.mem_of_getElem? (i := 8) rfl))) (mvT hZ (hw _ (List.mem_of_getElem? (i := 9) rfl))) (mvT hZ (hw _ (List.mem_of_getElem? (i := 10) rfl))) (by decide) (backOf (W := 0) (rm2 l Z a0 hw [] (own_mix (own_fnv (own_upd (fun _ => 0) 0 (p5.toInt8.toInt32).toInt8.toInt32) 1)) T5.heap n0 Zq) hZ (hw _ (List.mem_of_getElem? (i := 10) rfl)) (hw _ (List.mem_of_getElem? (i := 9) rfl)) (by decide) (by decide)) (g := (mkF m 95 #[.val (.int p1), .val (.int p2), .val (.int p3), .val (.int p4), .val (.int p5), .val (.int (0 : Int32)), .val (.ref bK), .val (.ref bE), .val (.int (own_fnv (fun _ => 0) 0)), .unset, .unset, .unset] [(.int (own_mix (own_fnv (own_upd (fun _ => 0) 0 (p5.toInt8.toInt32).toInt8.toInt32) 1)))])) rfl (by rw [hml]; rfl) (argsL := [(.int (own_mix (own_fnv (own_upd (fun _ => 0) 0 (p5.toInt8.toInt32).toInt8.toInt32) 1)))]) (rest := []) (lenOf pd__I_I rfl) rfl (by show 2 * 0 + _ ≤ _; exact Nat.le_of_eq rfl) (hb hby at_95) (fun _ _ => ⟨rfl, rfl, (by decide : 2 + 0 ≤ _), (by decide : 1 + 0 ≤ _)⟩)
    dsimp only [Pt.U, Pt.locs, Pt.cells, Pt.slots] at X6 l6 y6 z6 st6 hQ6
    subst l6 y6 z6
    obtain ⟨rfl, N6q, e6⟩ := hQ6
    have N6 := Fr.app N5 N6q
    rw [← e6] at Zq GK GE
    rw [own_um] at st6
    have r6 : ∀ t, Steps p.tables e below (T6.setTop (mkF m 98 #[.val (.int p1), .val (.int p2), .val (.int p3), .val (.int p4), .val (.int p5), .val (.int (0 : Int32)), .val (.ref bK), .val (.ref bE), .val (.int (own_fnv (fun _ => 0) 0)), .unset, .unset, .unset] [(.int (own_fnv (own_upd (fun _ => 0) 0 (p5.toInt8.toInt32).toInt8.toInt32) 1))])) t → Steps p.tables e below (s₁.setTop (mkF m 0 #[.val (.int p1), .val (.int p2), .val (.int p3), .val (.int p4), .val (.int p5), .unset, .unset, .unset, .unset, .unset, .unset, .unset] [])) t := fun t k => r5 t (s6 t (st6 _  k))
    have hstep : (own_fnv (own_upd (fun _ => 0) 0 (p5.toInt8.toInt32).toInt8.toInt32) 1) = (((own_fnv (fun _ => 0) 0) ^^^ (p5 &&& (255 : Int32))) * (16777619 : Int32)) := by
      rw [own_fnv_succ, own_fnv_congr (N := 0) (g := (fun _ => 0)) (fun k hk => absurd hk (Nat.not_lt_zero k)), show (own_upd (fun _ => 0) 0 (p5.toInt8.toInt32).toInt8.toInt32) 0 = (p5.toInt8.toInt32).toInt8.toInt32 from by simp [own_upd], own_by2 p5, own_byff p5]
    have s7 : ∀ t, Steps p.tables e below (T6.setTop (mkF m 158 #[.val (.int p1), .val (.int p2), .val (.int p3), .val (.int p4), .val (.int p5), .val (.int (0 : Int32)), .val (.ref bK), .val (.ref bE), .val (.int (own_fnv (fun _ => 0) 0)), .val (.int (own_fnv (own_upd (fun _ => 0) 0 (p5.toInt8.toInt32).toInt8.toInt32) 1)), .val (.int (1 : Int32)), .val (.int (1 : Int32))] [(.int (1 : Int32))])) t → Steps p.tables e below (T6.setTop (mkF m 98 #[.val (.int p1), .val (.int p2), .val (.int p3), .val (.int p4), .val (.int p5), .val (.int (0 : Int32)), .val (.ref bK), .val (.ref bE), .val (.int (own_fnv (fun _ => 0) 0)), .unset, .unset, .unset] [(.int (own_fnv (own_upd (fun _ => 0) 0 (p5.toInt8.toInt32).toInt8.toInt32) 1))])) t := by
      intro t k
      show Steps p.tables e below (T6.setTop (mkF m 98 #[.val (.int p1), .val (.int p2), .val (.int p3), .val (.int p4), .val (.int p5), .val (.int (0 : Int32)), .val (.ref bK), .val (.ref bE), .val (.int (own_fnv (fun _ => 0) 0)), .unset, .unset, .unset] [(.int (own_fnv (own_upd (fun _ => 0) 0 (p5.toInt8.toInt32).toInt8.toInt32) 1))])) _
      refine XS.istore X6.here hx rfl (hb hby at_98) rfl (l' := #[.val (.int p1), .val (.int p2), .val (.int p3), .val (.int p4), .val (.int p5), .val (.int (0 : Int32)), .val (.ref bK), .val (.ref bE), .val (.int (own_fnv (fun _ => 0) 0)), .val (.int (own_fnv (own_upd (fun _ => 0) 0 (p5.toInt8.toInt32).toInt8.toInt32) 1)), .unset, .unset]) rfl ?_
      show Steps p.tables e below (T6.setTop (mkF m 100 #[.val (.int p1), .val (.int p2), .val (.int p3), .val (.int p4), .val (.int p5), .val (.int (0 : Int32)), .val (.ref bK), .val (.ref bE), .val (.int (own_fnv (fun _ => 0) 0)), .val (.int (own_fnv (own_upd (fun _ => 0) 0 (p5.toInt8.toInt32).toInt8.toInt32) 1)), .unset, .unset] [])) _
      refine XS.iload X6.here hx rfl (hb hby at_100) rfl ?_
      show Steps p.tables e below (T6.setTop (mkF m 102 #[.val (.int p1), .val (.int p2), .val (.int p3), .val (.int p4), .val (.int p5), .val (.int (0 : Int32)), .val (.ref bK), .val (.ref bE), .val (.int (own_fnv (fun _ => 0) 0)), .val (.int (own_fnv (own_upd (fun _ => 0) 0 (p5.toInt8.toInt32).toInt8.toInt32) 1)), .unset, .unset] [(.int (0 : Int32))])) _
      refine XS.ifNo X6.here hx rfl (hb hby at_102) rfl (XT.i0_ne_f (by decide)) ?_
      show Steps p.tables e below (T6.setTop (mkF m 105 #[.val (.int p1), .val (.int p2), .val (.int p3), .val (.int p4), .val (.int p5), .val (.int (0 : Int32)), .val (.ref bK), .val (.ref bE), .val (.int (own_fnv (fun _ => 0) 0)), .val (.int (own_fnv (own_upd (fun _ => 0) 0 (p5.toInt8.toInt32).toInt8.toInt32) 1)), .unset, .unset] [])) _
      refine XS.iload X6.here hx rfl (hb hby at_105) rfl ?_
      show Steps p.tables e below (T6.setTop (mkF m 107 #[.val (.int p1), .val (.int p2), .val (.int p3), .val (.int p4), .val (.int p5), .val (.int (0 : Int32)), .val (.ref bK), .val (.ref bE), .val (.int (own_fnv (fun _ => 0) 0)), .val (.int (own_fnv (own_upd (fun _ => 0) 0 (p5.toInt8.toInt32).toInt8.toInt32) 1)), .unset, .unset] [(.int (own_fnv (fun _ => 0) 0))])) _
      refine X6.ldcI hx hown (mvT hZ (hw _ (List.mem_of_getElem? (i := 13) rfl))) (g := (mkF m 107 #[.val (.int p1), .val (.int p2), .val (.int p3), .val (.int p4), .val (.int p5), .val (.int (0 : Int32)), .val (.ref bK), .val (.ref bE), .val (.int (own_fnv (fun _ => 0) 0)), .val (.int (own_fnv (own_upd (fun _ => 0) 0 (p5.toInt8.toInt32).toInt8.toInt32) 1)), .unset, .unset] [(.int (own_fnv (fun _ => 0) 0))])) rfl (hb hby at_107) ?_
      show Steps p.tables e below (T6.setTop (mkF m 109 #[.val (.int p1), .val (.int p2), .val (.int p3), .val (.int p4), .val (.int p5), .val (.int (0 : Int32)), .val (.ref bK), .val (.ref bE), .val (.int (own_fnv (fun _ => 0) 0)), .val (.int (own_fnv (own_upd (fun _ => 0) 0 (p5.toInt8.toInt32).toInt8.toInt32) 1)), .unset, .unset] [(.int (-2128831035 : Int32)), (.int (own_fnv (fun _ => 0) 0))])) _
      refine XS.icmpNo X6.here hx rfl (hb hby at_109) rfl (XT.ii_ne_f (rfl : (own_fnv (fun _ => 0) 0) = (-2128831035 : Int32))) ?_
      show Steps p.tables e below (T6.setTop (mkF m 112 #[.val (.int p1), .val (.int p2), .val (.int p3), .val (.int p4), .val (.int p5), .val (.int (0 : Int32)), .val (.ref bK), .val (.ref bE), .val (.int (own_fnv (fun _ => 0) 0)), .val (.int (own_fnv (own_upd (fun _ => 0) 0 (p5.toInt8.toInt32).toInt8.toInt32) 1)), .unset, .unset] [])) _
      refine XS.iconst X6.here hx rfl (hb hby at_112) ?_
      show Steps p.tables e below (T6.setTop (mkF m 113 #[.val (.int p1), .val (.int p2), .val (.int p3), .val (.int p4), .val (.int p5), .val (.int (0 : Int32)), .val (.ref bK), .val (.ref bE), .val (.int (own_fnv (fun _ => 0) 0)), .val (.int (own_fnv (own_upd (fun _ => 0) 0 (p5.toInt8.toInt32).toInt8.toInt32) 1)), .unset, .unset] [(.int (1 : Int32))])) _
      refine XS.goto X6.here hx rfl (pc0 := 113) (pc' := 117) rfl (hb hby at_113) (by decide) (by decide) ?_
      show Steps p.tables e below (T6.setTop (mkF m 117 #[.val (.int p1), .val (.int p2), .val (.int p3), .val (.int p4), .val (.int p5), .val (.int (0 : Int32)), .val (.ref bK), .val (.ref bE), .val (.int (own_fnv (fun _ => 0) 0)), .val (.int (own_fnv (own_upd (fun _ => 0) 0 (p5.toInt8.toInt32).toInt8.toInt32) 1)), .unset, .unset] [(.int (1 : Int32))])) _
      refine XS.istore X6.here hx rfl (hb hby at_117) rfl (l' := #[.val (.int p1), .val (.int p2), .val (.int p3), .val (.int p4), .val (.int p5), .val (.int (0 : Int32)), .val (.ref bK), .val (.ref bE), .val (.int (own_fnv (fun _ => 0) 0)), .val (.int (own_fnv (own_upd (fun _ => 0) 0 (p5.toInt8.toInt32).toInt8.toInt32) 1)), .val (.int (1 : Int32)), .unset]) rfl ?_
      show Steps p.tables e below (T6.setTop (mkF m 119 #[.val (.int p1), .val (.int p2), .val (.int p3), .val (.int p4), .val (.int p5), .val (.int (0 : Int32)), .val (.ref bK), .val (.ref bE), .val (.int (own_fnv (fun _ => 0) 0)), .val (.int (own_fnv (own_upd (fun _ => 0) 0 (p5.toInt8.toInt32).toInt8.toInt32) 1)), .val (.int (1 : Int32)), .unset] [])) _
      refine XS.iload X6.here hx rfl (hb hby at_119) rfl ?_
      show Steps p.tables e below (T6.setTop (mkF m 121 #[.val (.int p1), .val (.int p2), .val (.int p3), .val (.int p4), .val (.int p5), .val (.int (0 : Int32)), .val (.ref bK), .val (.ref bE), .val (.int (own_fnv (fun _ => 0) 0)), .val (.int (own_fnv (own_upd (fun _ => 0) 0 (p5.toInt8.toInt32).toInt8.toInt32) 1)), .val (.int (1 : Int32)), .unset] [(.int (own_fnv (own_upd (fun _ => 0) 0 (p5.toInt8.toInt32).toInt8.toInt32) 1))])) _
      refine XS.iload X6.here hx rfl (hb hby at_121) rfl ?_
      show Steps p.tables e below (T6.setTop (mkF m 123 #[.val (.int p1), .val (.int p2), .val (.int p3), .val (.int p4), .val (.int p5), .val (.int (0 : Int32)), .val (.ref bK), .val (.ref bE), .val (.int (own_fnv (fun _ => 0) 0)), .val (.int (own_fnv (own_upd (fun _ => 0) 0 (p5.toInt8.toInt32).toInt8.toInt32) 1)), .val (.int (1 : Int32)), .unset] [(.int (own_fnv (fun _ => 0) 0)), (.int (own_fnv (own_upd (fun _ => 0) 0 (p5.toInt8.toInt32).toInt8.toInt32) 1))])) _
      refine XS.iload X6.here hx rfl (hb hby at_123) rfl ?_
      show Steps p.tables e below (T6.setTop (mkF m 125 #[.val (.int p1), .val (.int p2), .val (.int p3), .val (.int p4), .val (.int p5), .val (.int (0 : Int32)), .val (.ref bK), .val (.ref bE), .val (.int (own_fnv (fun _ => 0) 0)), .val (.int (own_fnv (own_upd (fun _ => 0) 0 (p5.toInt8.toInt32).toInt8.toInt32) 1)), .val (.int (1 : Int32)), .unset] [(.int p5), (.int (own_fnv (fun _ => 0) 0)), (.int (own_fnv (own_upd (fun _ => 0) 0 (p5.toInt8.toInt32).toInt8.toInt32) 1))])) _
      refine XS.sipush X6.here hx rfl (hb hby at_125) ?_
      show Steps p.tables e below (T6.setTop (mkF m 128 #[.val (.int p1), .val (.int p2), .val (.int p3), .val (.int p4), .val (.int p5), .val (.int (0 : Int32)), .val (.ref bK), .val (.ref bE), .val (.int (own_fnv (fun _ => 0) 0)), .val (.int (own_fnv (own_upd (fun _ => 0) 0 (p5.toInt8.toInt32).toInt8.toInt32) 1)), .val (.int (1 : Int32)), .unset] [(.int (255 : Int32)), (.int p5), (.int (own_fnv (fun _ => 0) 0)), (.int (own_fnv (own_upd (fun _ => 0) 0 (p5.toInt8.toInt32).toInt8.toInt32) 1))])) _
      refine XS.iand X6.here hx rfl (hb hby at_128) rfl ?_
      show Steps p.tables e below (T6.setTop (mkF m 129 #[.val (.int p1), .val (.int p2), .val (.int p3), .val (.int p4), .val (.int p5), .val (.int (0 : Int32)), .val (.ref bK), .val (.ref bE), .val (.int (own_fnv (fun _ => 0) 0)), .val (.int (own_fnv (own_upd (fun _ => 0) 0 (p5.toInt8.toInt32).toInt8.toInt32) 1)), .val (.int (1 : Int32)), .unset] [(.int (p5 &&& (255 : Int32))), (.int (own_fnv (fun _ => 0) 0)), (.int (own_fnv (own_upd (fun _ => 0) 0 (p5.toInt8.toInt32).toInt8.toInt32) 1))])) _
      refine XS.ixor X6.here hx rfl (hb hby at_129) rfl ?_
      show Steps p.tables e below (T6.setTop (mkF m 130 #[.val (.int p1), .val (.int p2), .val (.int p3), .val (.int p4), .val (.int p5), .val (.int (0 : Int32)), .val (.ref bK), .val (.ref bE), .val (.int (own_fnv (fun _ => 0) 0)), .val (.int (own_fnv (own_upd (fun _ => 0) 0 (p5.toInt8.toInt32).toInt8.toInt32) 1)), .val (.int (1 : Int32)), .unset] [(.int ((own_fnv (fun _ => 0) 0) ^^^ (p5 &&& (255 : Int32)))), (.int (own_fnv (own_upd (fun _ => 0) 0 (p5.toInt8.toInt32).toInt8.toInt32) 1))])) _
      refine X6.ldcI hx hown (mvT hZ (hw _ (List.mem_of_getElem? (i := 14) rfl))) (g := (mkF m 130 #[.val (.int p1), .val (.int p2), .val (.int p3), .val (.int p4), .val (.int p5), .val (.int (0 : Int32)), .val (.ref bK), .val (.ref bE), .val (.int (own_fnv (fun _ => 0) 0)), .val (.int (own_fnv (own_upd (fun _ => 0) 0 (p5.toInt8.toInt32).toInt8.toInt32) 1)), .val (.int (1 : Int32)), .unset] [(.int ((own_fnv (fun _ => 0) 0) ^^^ (p5 &&& (255 : Int32)))), (.int (own_fnv (own_upd (fun _ => 0) 0 (p5.toInt8.toInt32).toInt8.toInt32) 1))])) rfl (hb hby at_130) ?_
      show Steps p.tables e below (T6.setTop (mkF m 132 #[.val (.int p1), .val (.int p2), .val (.int p3), .val (.int p4), .val (.int p5), .val (.int (0 : Int32)), .val (.ref bK), .val (.ref bE), .val (.int (own_fnv (fun _ => 0) 0)), .val (.int (own_fnv (own_upd (fun _ => 0) 0 (p5.toInt8.toInt32).toInt8.toInt32) 1)), .val (.int (1 : Int32)), .unset] [(.int (16777619 : Int32)), (.int ((own_fnv (fun _ => 0) 0) ^^^ (p5 &&& (255 : Int32)))), (.int (own_fnv (own_upd (fun _ => 0) 0 (p5.toInt8.toInt32).toInt8.toInt32) 1))])) _
      refine XS.imul X6.here hx rfl (hb hby at_132) rfl ?_
      show Steps p.tables e below (T6.setTop (mkF m 133 #[.val (.int p1), .val (.int p2), .val (.int p3), .val (.int p4), .val (.int p5), .val (.int (0 : Int32)), .val (.ref bK), .val (.ref bE), .val (.int (own_fnv (fun _ => 0) 0)), .val (.int (own_fnv (own_upd (fun _ => 0) 0 (p5.toInt8.toInt32).toInt8.toInt32) 1)), .val (.int (1 : Int32)), .unset] [(.int (((own_fnv (fun _ => 0) 0) ^^^ (p5 &&& (255 : Int32))) * (16777619 : Int32))), (.int (own_fnv (own_upd (fun _ => 0) 0 (p5.toInt8.toInt32).toInt8.toInt32) 1))])) _
      refine XS.icmpNo X6.here hx rfl (hb hby at_133) rfl (XT.ii_ne_f hstep) ?_
      show Steps p.tables e below (T6.setTop (mkF m 136 #[.val (.int p1), .val (.int p2), .val (.int p3), .val (.int p4), .val (.int p5), .val (.int (0 : Int32)), .val (.ref bK), .val (.ref bE), .val (.int (own_fnv (fun _ => 0) 0)), .val (.int (own_fnv (own_upd (fun _ => 0) 0 (p5.toInt8.toInt32).toInt8.toInt32) 1)), .val (.int (1 : Int32)), .unset] [])) _
      refine XS.iconst X6.here hx rfl (hb hby at_136) ?_
      show Steps p.tables e below (T6.setTop (mkF m 137 #[.val (.int p1), .val (.int p2), .val (.int p3), .val (.int p4), .val (.int p5), .val (.int (0 : Int32)), .val (.ref bK), .val (.ref bE), .val (.int (own_fnv (fun _ => 0) 0)), .val (.int (own_fnv (own_upd (fun _ => 0) 0 (p5.toInt8.toInt32).toInt8.toInt32) 1)), .val (.int (1 : Int32)), .unset] [(.int (1 : Int32))])) _
      refine XS.goto X6.here hx rfl (pc0 := 137) (pc' := 141) rfl (hb hby at_137) (by decide) (by decide) ?_
      show Steps p.tables e below (T6.setTop (mkF m 141 #[.val (.int p1), .val (.int p2), .val (.int p3), .val (.int p4), .val (.int p5), .val (.int (0 : Int32)), .val (.ref bK), .val (.ref bE), .val (.int (own_fnv (fun _ => 0) 0)), .val (.int (own_fnv (own_upd (fun _ => 0) 0 (p5.toInt8.toInt32).toInt8.toInt32) 1)), .val (.int (1 : Int32)), .unset] [(.int (1 : Int32))])) _
      refine XS.istore X6.here hx rfl (hb hby at_141) rfl (l' := #[.val (.int p1), .val (.int p2), .val (.int p3), .val (.int p4), .val (.int p5), .val (.int (0 : Int32)), .val (.ref bK), .val (.ref bE), .val (.int (own_fnv (fun _ => 0) 0)), .val (.int (own_fnv (own_upd (fun _ => 0) 0 (p5.toInt8.toInt32).toInt8.toInt32) 1)), .val (.int (1 : Int32)), .val (.int (1 : Int32))]) rfl ?_
      show Steps p.tables e below (T6.setTop (mkF m 143 #[.val (.int p1), .val (.int p2), .val (.int p3), .val (.int p4), .val (.int p5), .val (.int (0 : Int32)), .val (.ref bK), .val (.ref bE), .val (.int (own_fnv (fun _ => 0) 0)), .val (.int (own_fnv (own_upd (fun _ => 0) 0 (p5.toInt8.toInt32).toInt8.toInt32) 1)), .val (.int (1 : Int32)), .val (.int (1 : Int32))] [])) _
      refine XS.iload X6.here hx rfl (hb hby at_143) rfl ?_
      show Steps p.tables e below (T6.setTop (mkF m 145 #[.val (.int p1), .val (.int p2), .val (.int p3), .val (.int p4), .val (.int p5), .val (.int (0 : Int32)), .val (.ref bK), .val (.ref bE), .val (.int (own_fnv (fun _ => 0) 0)), .val (.int (own_fnv (own_upd (fun _ => 0) 0 (p5.toInt8.toInt32).toInt8.toInt32) 1)), .val (.int (1 : Int32)), .val (.int (1 : Int32))] [(.int (1 : Int32))])) _
      refine XS.ifNo X6.here hx rfl (hb hby at_145) rfl (XT.i0_eq_f (by decide)) ?_
      show Steps p.tables e below (T6.setTop (mkF m 148 #[.val (.int p1), .val (.int p2), .val (.int p3), .val (.int p4), .val (.int p5), .val (.int (0 : Int32)), .val (.ref bK), .val (.ref bE), .val (.int (own_fnv (fun _ => 0) 0)), .val (.int (own_fnv (own_upd (fun _ => 0) 0 (p5.toInt8.toInt32).toInt8.toInt32) 1)), .val (.int (1 : Int32)), .val (.int (1 : Int32))] [])) _
      refine XS.iload X6.here hx rfl (hb hby at_148) rfl ?_
      show Steps p.tables e below (T6.setTop (mkF m 150 #[.val (.int p1), .val (.int p2), .val (.int p3), .val (.int p4), .val (.int p5), .val (.int (0 : Int32)), .val (.ref bK), .val (.ref bE), .val (.int (own_fnv (fun _ => 0) 0)), .val (.int (own_fnv (own_upd (fun _ => 0) 0 (p5.toInt8.toInt32).toInt8.toInt32) 1)), .val (.int (1 : Int32)), .val (.int (1 : Int32))] [(.int (1 : Int32))])) _
      refine XS.ifNo X6.here hx rfl (hb hby at_150) rfl (XT.i0_eq_f (by decide)) ?_
      show Steps p.tables e below (T6.setTop (mkF m 153 #[.val (.int p1), .val (.int p2), .val (.int p3), .val (.int p4), .val (.int p5), .val (.int (0 : Int32)), .val (.ref bK), .val (.ref bE), .val (.int (own_fnv (fun _ => 0) 0)), .val (.int (own_fnv (own_upd (fun _ => 0) 0 (p5.toInt8.toInt32).toInt8.toInt32) 1)), .val (.int (1 : Int32)), .val (.int (1 : Int32))] [])) _
      refine XS.iconst X6.here hx rfl (hb hby at_153) ?_
      show Steps p.tables e below (T6.setTop (mkF m 154 #[.val (.int p1), .val (.int p2), .val (.int p3), .val (.int p4), .val (.int p5), .val (.int (0 : Int32)), .val (.ref bK), .val (.ref bE), .val (.int (own_fnv (fun _ => 0) 0)), .val (.int (own_fnv (own_upd (fun _ => 0) 0 (p5.toInt8.toInt32).toInt8.toInt32) 1)), .val (.int (1 : Int32)), .val (.int (1 : Int32))] [(.int (1 : Int32))])) _
      refine XS.goto X6.here hx rfl (pc0 := 154) (pc' := 158) rfl (hb hby at_154) (by decide) (by decide) ?_
      show Steps p.tables e below (T6.setTop (mkF m 158 #[.val (.int p1), .val (.int p2), .val (.int p3), .val (.int p4), .val (.int p5), .val (.int (0 : Int32)), .val (.ref bK), .val (.ref bE), .val (.int (own_fnv (fun _ => 0) 0)), .val (.int (own_fnv (own_upd (fun _ => 0) 0 (p5.toInt8.toInt32).toInt8.toInt32) 1)), .val (.int (1 : Int32)), .val (.int (1 : Int32))] [(.int (1 : Int32))])) _
      exact k
    obtain ⟨fs, hr, hrun, hended, hW, hsame⟩ := X6.leave (v := some (.int (1 : Int32))) (fun h => by rw [Bd.returns] at h; cases h)
    refine ⟨_, _, pre0 _ (r6 _ (s7 _ ?_)), hrun, hended, _, _, rfl, ?_, ⟨_, rfl⟩, hW, hsame.mono (by decide) (by decide)⟩
    · exact retN X6 hx (t := .boolean) Bd.returns (by simp) (hb hby at_158) hr
    · exact ⟨rfl, N6⟩
  · rw [hc] at s0
    have s1 : ∀ t, Steps p.tables e below (s₁.setTop (mkF m 7 #[.val (.int p1), .val (.int p2), .val (.int p3), .val (.int p4), .val (.int p5), .val (.int (1 : Int32)), .unset, .unset, .unset, .unset, .unset, .unset] [(.int (1 : Int32))])) t → Steps p.tables e below (s₁.setTop (mkF m 5 #[.val (.int p1), .val (.int p2), .val (.int p3), .val (.int p4), .val (.int p5), .val (.int (1 : Int32)), .unset, .unset, .unset, .unset, .unset, .unset] [])) t := by
      intro t k
      show Steps p.tables e below (s₁.setTop (mkF m 5 #[.val (.int p1), .val (.int p2), .val (.int p3), .val (.int p4), .val (.int p5), .val (.int (1 : Int32)), .unset, .unset, .unset, .unset, .unset, .unset] [])) _
      refine XS.iload X0.here hx rfl (hb hby at_5) rfl ?_
      show Steps p.tables e below (s₁.setTop (mkF m 7 #[.val (.int p1), .val (.int p2), .val (.int p3), .val (.int p4), .val (.int p5), .val (.int (1 : Int32)), .unset, .unset, .unset, .unset, .unset, .unset] [(.int (1 : Int32))])) _
      exact k
    obtain ⟨TK, hK, kK, XK, eK, EK, AK, stK⟩ := newP X0 hx hZ (hw _ (List.mem_of_getElem? (i := 0) rfl)) (rfl : s₁.heap = s₁.heap) (g := (mkF m 7 #[.val (.int p1), .val (.int p2), .val (.int p3), .val (.int p4), .val (.int p5), .val (.int (1 : Int32)), .unset, .unset, .unset, .unset, .unset, .unset] [(.int (1 : Int32))])) rfl (hb hby at_7) rfl (by decide) (cap := 1) (by decide) (by decide) (by decide) (by decide)
    obtain ⟨bK, gK⟩ : ∃ z, z = s₁.heap.size := ⟨_, rfl⟩
    rw [← gK] at AK stK
    have gbK : n0 ≤ bK := Nat.le_trans Z0 (by rw [gK, e0]; exact Nat.le_refl _)
    have GK : own_By Z TK.heap bK 1 (fun _ => 0) := by rw [eK]; exact own_freshB AK (by decide)
    have rK : ∀ t, Steps p.tables e below (TK.setTop (mkF m 9 #[.val (.int p1), .val (.int p2), .val (.int p3), .val (.int p4), .val (.int p5), .val (.int (1 : Int32)), .unset, .unset, .unset, .unset, .unset, .unset] [(.ref bK)])) t → Steps p.tables e below (s₁.setTop (mkF m 0 #[.val (.int p1), .val (.int p2), .val (.int p3), .val (.int p4), .val (.int p5), .unset, .unset, .unset, .unset, .unset, .unset, .unset] [])) t := fun t k => s0 t (s1 t (stK t k))
    have sK : ∀ t, Steps p.tables e below (TK.setTop (mkF m 15 #[.val (.int p1), .val (.int p2), .val (.int p3), .val (.int p4), .val (.int p5), .val (.int (1 : Int32)), .val (.ref bK), .unset, .unset, .unset, .unset, .unset] [(.int ((1 : Int32) + (1 : Int32)))])) t → Steps p.tables e below (TK.setTop (mkF m 9 #[.val (.int p1), .val (.int p2), .val (.int p3), .val (.int p4), .val (.int p5), .val (.int (1 : Int32)), .unset, .unset, .unset, .unset, .unset, .unset] [(.ref bK)])) t := by
      intro t k
      show Steps p.tables e below (TK.setTop (mkF m 9 #[.val (.int p1), .val (.int p2), .val (.int p3), .val (.int p4), .val (.int p5), .val (.int (1 : Int32)), .unset, .unset, .unset, .unset, .unset, .unset] [(.ref bK)])) _
      refine XS.astore XK.here hx rfl (hb hby at_9) rfl rfl (l' := #[.val (.int p1), .val (.int p2), .val (.int p3), .val (.int p4), .val (.int p5), .val (.int (1 : Int32)), .val (.ref bK), .unset, .unset, .unset, .unset, .unset]) rfl ?_
      show Steps p.tables e below (TK.setTop (mkF m 11 #[.val (.int p1), .val (.int p2), .val (.int p3), .val (.int p4), .val (.int p5), .val (.int (1 : Int32)), .val (.ref bK), .unset, .unset, .unset, .unset, .unset] [])) _
      refine XS.iload XK.here hx rfl (hb hby at_11) rfl ?_
      show Steps p.tables e below (TK.setTop (mkF m 13 #[.val (.int p1), .val (.int p2), .val (.int p3), .val (.int p4), .val (.int p5), .val (.int (1 : Int32)), .val (.ref bK), .unset, .unset, .unset, .unset, .unset] [(.int (1 : Int32))])) _
      refine XS.iconst XK.here hx rfl (hb hby at_13) ?_
      show Steps p.tables e below (TK.setTop (mkF m 14 #[.val (.int p1), .val (.int p2), .val (.int p3), .val (.int p4), .val (.int p5), .val (.int (1 : Int32)), .val (.ref bK), .unset, .unset, .unset, .unset, .unset] [(.int (1 : Int32)), (.int (1 : Int32))])) _
      refine XS.iadd XK.here hx rfl (hb hby at_14) rfl ?_
      show Steps p.tables e below (TK.setTop (mkF m 15 #[.val (.int p1), .val (.int p2), .val (.int p3), .val (.int p4), .val (.int p5), .val (.int (1 : Int32)), .val (.ref bK), .unset, .unset, .unset, .unset, .unset] [(.int ((1 : Int32) + (1 : Int32)))])) _
      exact k
    obtain ⟨TE, hE, kE, XE, eE, EE, AE, stE⟩ := newP XK hx hZ (hw _ (List.mem_of_getElem? (i := 0) rfl)) (rfl : TK.heap = TK.heap) (g := (mkF m 15 #[.val (.int p1), .val (.int p2), .val (.int p3), .val (.int p4), .val (.int p5), .val (.int (1 : Int32)), .val (.ref bK), .unset, .unset, .unset, .unset, .unset] [(.int ((1 : Int32) + (1 : Int32)))])) rfl (hb hby at_15) rfl (by decide) (cap := 2) (by decide) (by decide) (by decide) (by decide)
    obtain ⟨bE, gE⟩ : ∃ z, z = TK.heap.size := ⟨_, rfl⟩
    rw [← gE] at AE stE
    have gbE : n0 ≤ bE := Nat.le_trans gbK (by rw [gE]; exact Nat.le_of_lt (own_By_lt GK))
    have neKE : bK ≠ bE := Nat.ne_of_lt (by rw [gE]; exact own_By_lt GK)
    have GE : own_By Z TE.heap bE 2 (fun _ => 0) := by rw [eE]; exact own_freshB AE (by decide)
    have GK : own_By Z TE.heap bK 1 (fun _ => 0) := by rw [eE]; exact own_By_ext EE GK
    have rE : ∀ t, Steps p.tables e below (TE.setTop (mkF m 17 #[.val (.int p1), .val (.int p2), .val (.int p3), .val (.int p4), .val (.int p5), .val (.int (1 : Int32)), .val (.ref bK), .unset, .unset, .unset, .unset, .unset] [(.ref bE)])) t → Steps p.tables e below (s₁.setTop (mkF m 0 #[.val (.int p1), .val (.int p2), .val (.int p3), .val (.int p4), .val (.int p5), .unset, .unset, .unset, .unset, .unset, .unset, .unset] [])) t := fun t k => rK t (sK t (stE t k))
    have s2 : ∀ t, Steps p.tables e below (TE.setTop (mkF m 29 #[.val (.int p1), .val (.int p2), .val (.int p3), .val (.int p4), .val (.int p5), .val (.int (1 : Int32)), .val (.ref bK), .val (.ref bE), .unset, .unset, .unset, .unset] [(.int (p2.toInt8.toInt32)), (.int (0 : Int32)), (.ref bK)])) t → Steps p.tables e below (TE.setTop (mkF m 17 #[.val (.int p1), .val (.int p2), .val (.int p3), .val (.int p4), .val (.int p5), .val (.int (1 : Int32)), .val (.ref bK), .unset, .unset, .unset, .unset, .unset] [(.ref bE)])) t := by
      intro t k
      show Steps p.tables e below (TE.setTop (mkF m 17 #[.val (.int p1), .val (.int p2), .val (.int p3), .val (.int p4), .val (.int p5), .val (.int (1 : Int32)), .val (.ref bK), .unset, .unset, .unset, .unset, .unset] [(.ref bE)])) _
      refine XS.astore XE.here hx rfl (hb hby at_17) rfl rfl (l' := #[.val (.int p1), .val (.int p2), .val (.int p3), .val (.int p4), .val (.int p5), .val (.int (1 : Int32)), .val (.ref bK), .val (.ref bE), .unset, .unset, .unset, .unset]) rfl ?_
      show Steps p.tables e below (TE.setTop (mkF m 19 #[.val (.int p1), .val (.int p2), .val (.int p3), .val (.int p4), .val (.int p5), .val (.int (1 : Int32)), .val (.ref bK), .val (.ref bE), .unset, .unset, .unset, .unset] [])) _
      refine XS.iload XE.here hx rfl (hb hby at_19) rfl ?_
      show Steps p.tables e below (TE.setTop (mkF m 21 #[.val (.int p1), .val (.int p2), .val (.int p3), .val (.int p4), .val (.int p5), .val (.int (1 : Int32)), .val (.ref bK), .val (.ref bE), .unset, .unset, .unset, .unset] [(.int (1 : Int32))])) _
      refine XS.ifNo XE.here hx rfl (hb hby at_21) rfl (XT.i0_le_f (by decide)) ?_
      show Steps p.tables e below (TE.setTop (mkF m 24 #[.val (.int p1), .val (.int p2), .val (.int p3), .val (.int p4), .val (.int p5), .val (.int (1 : Int32)), .val (.ref bK), .val (.ref bE), .unset, .unset, .unset, .unset] [])) _
      refine XS.aload XE.here hx rfl (hb hby at_24) rfl rfl ?_
      show Steps p.tables e below (TE.setTop (mkF m 26 #[.val (.int p1), .val (.int p2), .val (.int p3), .val (.int p4), .val (.int p5), .val (.int (1 : Int32)), .val (.ref bK), .val (.ref bE), .unset, .unset, .unset, .unset] [(.ref bK)])) _
      refine XS.iconst XE.here hx rfl (hb hby at_26) ?_
      show Steps p.tables e below (TE.setTop (mkF m 27 #[.val (.int p1), .val (.int p2), .val (.int p3), .val (.int p4), .val (.int p5), .val (.int (1 : Int32)), .val (.ref bK), .val (.ref bE), .unset, .unset, .unset, .unset] [(.int (0 : Int32)), (.ref bK)])) _
      refine XS.iloadN XE.here hx rfl (hb hby at_27) rfl ?_
      show Steps p.tables e below (TE.setTop (mkF m 28 #[.val (.int p1), .val (.int p2), .val (.int p3), .val (.int p4), .val (.int p5), .val (.int (1 : Int32)), .val (.ref bK), .val (.ref bE), .unset, .unset, .unset, .unset] [(.int p2), (.int (0 : Int32)), (.ref bK)])) _
      refine XS.i2b XE.here hx rfl (hb hby at_28) rfl ?_
      show Steps p.tables e below (TE.setTop (mkF m 29 #[.val (.int p1), .val (.int p2), .val (.int p3), .val (.int p4), .val (.int p5), .val (.int (1 : Int32)), .val (.ref bK), .val (.ref bE), .unset, .unset, .unset, .unset] [(.int (p2.toInt8.toInt32)), (.int (0 : Int32)), (.ref bK)])) _
      exact k
    obtain ⟨T2, L2, X2, N2, G2, ⟨sl2, w2, W2⟩, st2⟩ := own_storeB XE hx hZ N0 gbK GK 29 #[.val (.int p1), .val (.int p2), .val (.int p3), .val (.int p4), .val (.int p5), .val (.int (1 : Int32)), .val (.ref bK), .val (.ref bE), .unset, .unset, .unset, .unset] [] (0 : Int32) (p2.toInt8.toInt32) 0 (by decide) (by decide) (by decide) (hb hby at_29)
    have GK := G2
    have GE := own_By_other W2 GE neKE.symm
    have r2 : ∀ t, Steps p.tables e below (T2.setTop (mkF m 30 #[.val (.int p1), .val (.int p2), .val (.int p3), .val (.int p4), .val (.int p5), .val (.int (1 : Int32)), .val (.ref bK), .val (.ref bE), .unset, .unset, .unset, .unset] [])) t → Steps p.tables e below (s₁.setTop (mkF m 0 #[.val (.int p1), .val (.int p2), .val (.int p3), .val (.int p4), .val (.int p5), .unset, .unset, .unset, .unset, .unset, .unset, .unset] [])) t := fun t k => rE t (s2 t (st2 t k))
    have s3 : ∀ t, Steps p.tables e below (T2.setTop (mkF m 35 #[.val (.int p1), .val (.int p2), .val (.int p3), .val (.int p4), .val (.int p5), .val (.int (1 : Int32)), .val (.ref bK), .val (.ref bE), .unset, .unset, .unset, .unset] [(.int (p2.toInt8.toInt32)), (.int (0 : Int32)), (.ref bE)])) t → Steps p.tables e below (T2.setTop (mkF m 30 #[.val (.int p1), .val (.int p2), .val (.int p3), .val (.int p4), .val (.int p5), .val (.int (1 : Int32)), .val (.ref bK), .val (.ref bE), .unset, .unset, .unset, .unset] [])) t := by
      intro t k
      show Steps p.tables e below (T2.setTop (mkF m 30 #[.val (.int p1), .val (.int p2), .val (.int p3), .val (.int p4), .val (.int p5), .val (.int (1 : Int32)), .val (.ref bK), .val (.ref bE), .unset, .unset, .unset, .unset] [])) _
      refine XS.aload X2.here hx rfl (hb hby at_30) rfl rfl ?_
      show Steps p.tables e below (T2.setTop (mkF m 32 #[.val (.int p1), .val (.int p2), .val (.int p3), .val (.int p4), .val (.int p5), .val (.int (1 : Int32)), .val (.ref bK), .val (.ref bE), .unset, .unset, .unset, .unset] [(.ref bE)])) _
      refine XS.iconst X2.here hx rfl (hb hby at_32) ?_
      show Steps p.tables e below (T2.setTop (mkF m 33 #[.val (.int p1), .val (.int p2), .val (.int p3), .val (.int p4), .val (.int p5), .val (.int (1 : Int32)), .val (.ref bK), .val (.ref bE), .unset, .unset, .unset, .unset] [(.int (0 : Int32)), (.ref bE)])) _
      refine XS.iloadN X2.here hx rfl (hb hby at_33) rfl ?_
      show Steps p.tables e below (T2.setTop (mkF m 34 #[.val (.int p1), .val (.int p2), .val (.int p3), .val (.int p4), .val (.int p5), .val (.int (1 : Int32)), .val (.ref bK), .val (.ref bE), .unset, .unset, .unset, .unset] [(.int p2), (.int (0 : Int32)), (.ref bE)])) _
      refine XS.i2b X2.here hx rfl (hb hby at_34) rfl ?_
      show Steps p.tables e below (T2.setTop (mkF m 35 #[.val (.int p1), .val (.int p2), .val (.int p3), .val (.int p4), .val (.int p5), .val (.int (1 : Int32)), .val (.ref bK), .val (.ref bE), .unset, .unset, .unset, .unset] [(.int (p2.toInt8.toInt32)), (.int (0 : Int32)), (.ref bE)])) _
      exact k
    obtain ⟨T3, L3, X3, N3, G3, ⟨sl3, w3, W3⟩, st3⟩ := own_storeB X2 hx hZ N2 gbE GE 35 #[.val (.int p1), .val (.int p2), .val (.int p3), .val (.int p4), .val (.int p5), .val (.int (1 : Int32)), .val (.ref bK), .val (.ref bE), .unset, .unset, .unset, .unset] [] (0 : Int32) (p2.toInt8.toInt32) 0 (by decide) (by decide) (by decide) (hb hby at_35)
    have GE := G3
    have GK := own_By_other W3 GK neKE
    have r3 : ∀ t, Steps p.tables e below (T3.setTop (mkF m 36 #[.val (.int p1), .val (.int p2), .val (.int p3), .val (.int p4), .val (.int p5), .val (.int (1 : Int32)), .val (.ref bK), .val (.ref bE), .unset, .unset, .unset, .unset] [])) t → Steps p.tables e below (s₁.setTop (mkF m 0 #[.val (.int p1), .val (.int p2), .val (.int p3), .val (.int p4), .val (.int p5), .unset, .unset, .unset, .unset, .unset, .unset, .unset] [])) t := fun t k => r2 t (s3 t (st3 t k))
    have s4 : ∀ t, Steps p.tables e below (T3.setTop (mkF m 79 #[.val (.int p1), .val (.int p2), .val (.int p3), .val (.int p4), .val (.int p5), .val (.int (1 : Int32)), .val (.ref bK), .val (.ref bE), .unset, .unset, .unset, .unset] [(.int (p5.toInt8.toInt32)), (.int (1 : Int32)), (.ref bE)])) t → Steps p.tables e below (T3.setTop (mkF m 36 #[.val (.int p1), .val (.int p2), .val (.int p3), .val (.int p4), .val (.int p5), .val (.int (1 : Int32)), .val (.ref bK), .val (.ref bE), .unset, .unset, .unset, .unset] [])) t := by
      intro t k
      show Steps p.tables e below (T3.setTop (mkF m 36 #[.val (.int p1), .val (.int p2), .val (.int p3), .val (.int p4), .val (.int p5), .val (.int (1 : Int32)), .val (.ref bK), .val (.ref bE), .unset, .unset, .unset, .unset] [])) _
      refine XS.iload X3.here hx rfl (hb hby at_36) rfl ?_
      show Steps p.tables e below (T3.setTop (mkF m 38 #[.val (.int p1), .val (.int p2), .val (.int p3), .val (.int p4), .val (.int p5), .val (.int (1 : Int32)), .val (.ref bK), .val (.ref bE), .unset, .unset, .unset, .unset] [(.int (1 : Int32))])) _
      refine XS.iconst X3.here hx rfl (hb hby at_38) ?_
      show Steps p.tables e below (T3.setTop (mkF m 39 #[.val (.int p1), .val (.int p2), .val (.int p3), .val (.int p4), .val (.int p5), .val (.int (1 : Int32)), .val (.ref bK), .val (.ref bE), .unset, .unset, .unset, .unset] [(.int (1 : Int32)), (.int (1 : Int32))])) _
      refine XS.icmpYes X3.here hx rfl (pc0 := 39) (pc' := 54) rfl (hb hby at_39) rfl (XT.ii_le_t (by decide)) (by decide) (by decide) ?_
      show Steps p.tables e below (T3.setTop (mkF m 54 #[.val (.int p1), .val (.int p2), .val (.int p3), .val (.int p4), .val (.int p5), .val (.int (1 : Int32)), .val (.ref bK), .val (.ref bE), .unset, .unset, .unset, .unset] [])) _
      refine XS.iload X3.here hx rfl (hb hby at_54) rfl ?_
      show Steps p.tables e below (T3.setTop (mkF m 56 #[.val (.int p1), .val (.int p2), .val (.int p3), .val (.int p4), .val (.int p5), .val (.int (1 : Int32)), .val (.ref bK), .val (.ref bE), .unset, .unset, .unset, .unset] [(.int (1 : Int32))])) _
      refine XS.iconst X3.here hx rfl (hb hby at_56) ?_
      show Steps p.tables e below (T3.setTop (mkF m 57 #[.val (.int p1), .val (.int p2), .val (.int p3), .val (.int p4), .val (.int p5), .val (.int (1 : Int32)), .val (.ref bK), .val (.ref bE), .unset, .unset, .unset, .unset] [(.int (2 : Int32)), (.int (1 : Int32))])) _
      refine XS.icmpYes X3.here hx rfl (pc0 := 57) (pc' := 72) rfl (hb hby at_57) rfl (XT.ii_le_t (by decide)) (by decide) (by decide) ?_
      show Steps p.tables e below (T3.setTop (mkF m 72 #[.val (.int p1), .val (.int p2), .val (.int p3), .val (.int p4), .val (.int p5), .val (.int (1 : Int32)), .val (.ref bK), .val (.ref bE), .unset, .unset, .unset, .unset] [])) _
      refine XS.aload X3.here hx rfl (hb hby at_72) rfl rfl ?_
      show Steps p.tables e below (T3.setTop (mkF m 74 #[.val (.int p1), .val (.int p2), .val (.int p3), .val (.int p4), .val (.int p5), .val (.int (1 : Int32)), .val (.ref bK), .val (.ref bE), .unset, .unset, .unset, .unset] [(.ref bE)])) _
      refine XS.iload X3.here hx rfl (hb hby at_74) rfl ?_
      show Steps p.tables e below (T3.setTop (mkF m 76 #[.val (.int p1), .val (.int p2), .val (.int p3), .val (.int p4), .val (.int p5), .val (.int (1 : Int32)), .val (.ref bK), .val (.ref bE), .unset, .unset, .unset, .unset] [(.int (1 : Int32)), (.ref bE)])) _
      refine XS.iload X3.here hx rfl (hb hby at_76) rfl ?_
      show Steps p.tables e below (T3.setTop (mkF m 78 #[.val (.int p1), .val (.int p2), .val (.int p3), .val (.int p4), .val (.int p5), .val (.int (1 : Int32)), .val (.ref bK), .val (.ref bE), .unset, .unset, .unset, .unset] [(.int p5), (.int (1 : Int32)), (.ref bE)])) _
      refine XS.i2b X3.here hx rfl (hb hby at_78) rfl ?_
      show Steps p.tables e below (T3.setTop (mkF m 79 #[.val (.int p1), .val (.int p2), .val (.int p3), .val (.int p4), .val (.int p5), .val (.int (1 : Int32)), .val (.ref bK), .val (.ref bE), .unset, .unset, .unset, .unset] [(.int (p5.toInt8.toInt32)), (.int (1 : Int32)), (.ref bE)])) _
      exact k
    obtain ⟨T4, L4, X4, N4, G4, ⟨sl4, w4, W4⟩, st4⟩ := own_storeB X3 hx hZ N3 gbE GE 79 #[.val (.int p1), .val (.int p2), .val (.int p3), .val (.int p4), .val (.int p5), .val (.int (1 : Int32)), .val (.ref bK), .val (.ref bE), .unset, .unset, .unset, .unset] [] (1 : Int32) (p5.toInt8.toInt32) 1 (by decide) (by decide) (by decide) (hb hby at_79)
    have GE := G4
    have GK := own_By_other W4 GK neKE
    have r4 : ∀ t, Steps p.tables e below (T4.setTop (mkF m 80 #[.val (.int p1), .val (.int p2), .val (.int p3), .val (.int p4), .val (.int p5), .val (.int (1 : Int32)), .val (.ref bK), .val (.ref bE), .unset, .unset, .unset, .unset] [])) t → Steps p.tables e below (s₁.setTop (mkF m 0 #[.val (.int p1), .val (.int p2), .val (.int p3), .val (.int p4), .val (.int p5), .unset, .unset, .unset, .unset, .unset, .unset, .unset] [])) t := fun t k => r3 t (s4 t (st4 t k))
    have Zq : n0 ≤ T4.heap.size := Nat.le_trans gbK (Nat.le_of_lt (own_By_lt GK))
    have s5 : ∀ t, Steps p.tables e below (T4.setTop (mkF m 82 #[.val (.int p1), .val (.int p2), .val (.int p3), .val (.int p4), .val (.int p5), .val (.int (1 : Int32)), .val (.ref bK), .val (.ref bE), .unset, .unset, .unset, .unset] [(.ref bK)])) t → Steps p.tables e below (T4.setTop (mkF m 80 #[.val (.int p1), .val (.int p2), .val (.int p3), .val (.int p4), .val (.int p5), .val (.int (1 : Int32)), .val (.ref bK), .val (.ref bE), .unset, .unset, .unset, .unset] [])) t := by
      intro t k
      show Steps p.tables e below (T4.setTop (mkF m 80 #[.val (.int p1), .val (.int p2), .val (.int p3), .val (.int p4), .val (.int p5), .val (.int (1 : Int32)), .val (.ref bK), .val (.ref bE), .unset, .unset, .unset, .unset] [])) _
      refine XS.aload X4.here hx rfl (hb hby at_80) rfl rfl ?_
      show Steps p.tables e below (T4.setTop (mkF m 82 #[.val (.int p1), .val (.int p2), .val (.int p3), .val (.int p4), .val (.int p5), .val (.int (1 : Int32)), .val (.ref bK), .val (.ref bE), .unset, .unset, .unset, .unset] [(.ref bK)])) _
      exact k
    obtain ⟨_, _, ⟨T5, L5, k5, n5⟩, -, X5, ⟨Lc5, hQ5, l5, y5, z5⟩, st5⟩ := Jvm.LawKit.callS X4 hx (y := (⟨"com/example/kellar/kellar/schema/KeyTable", "hash", "([B)I"⟩ : MethodName)) hown (mvT hZ (hw _ (List.mem_of_getElem? (i := 1) rfl))) (mvT hZ (hw _ (List.mem_of_getElem? (i := 2) rfl))) (mvT hZ (hw _ (List.mem_of_getElem? (i := 3) rfl))) (mvT hZ (hw _ (List.mem_of_getElem? (i := 4) rfl))) (by decide) (backOf (W := 0) (rm1 l Z a0 hw [] bK 1 (own_upd (fun _ => 0) 0 (p2.toInt8.toInt32).toInt8.toInt32) T4.heap n0 Zq (by decide) GK) hZ (hw _ (List.mem_of_getElem? (i := 4) rfl)) (hw _ (List.mem_of_getElem? (i := 3) rfl)) (by decide) (by decide)) (g := (mkF m 82 #[.val (.int p1), .val (.int p2), .val (.int p3), .val (.int p4), .val (.int p5), .val (.int (1 : Int32)), .val (.ref bK), .val (.ref bE), .unset, .unset, .unset, .unset] [(.ref bK)])) rfl (by rw [hml]; rfl) (argsL := [(.ref bK)]) (rest := []) (lenOf pd__AB_I rfl) rfl (by show 2 * 0 + _ ≤ _; exact Nat.le_of_eq rfl) (hb hby at_82) (fun _ _ => ⟨rfl, rfl, (by decide : 2 + 0 ≤ _), (by decide : 3 + 0 ≤ _)⟩)
    dsimp only [Pt.U, Pt.locs, Pt.cells, Pt.slots] at X5 l5 y5 z5 st5 hQ5
    subst l5 y5 z5
    obtain ⟨rfl, N5q, e5⟩ := hQ5
    have N5 := Fr.app N4 N5q
    rw [← e5] at Zq GK GE
    have r5 : ∀ t, Steps p.tables e below (T5.setTop (mkF m 85 #[.val (.int p1), .val (.int p2), .val (.int p3), .val (.int p4), .val (.int p5), .val (.int (1 : Int32)), .val (.ref bK), .val (.ref bE), .unset, .unset, .unset, .unset] [(.int (own_mix (own_fnv (own_upd (fun _ => 0) 0 (p2.toInt8.toInt32).toInt8.toInt32) 1)))])) t → Steps p.tables e below (s₁.setTop (mkF m 0 #[.val (.int p1), .val (.int p2), .val (.int p3), .val (.int p4), .val (.int p5), .unset, .unset, .unset, .unset, .unset, .unset, .unset] [])) t := fun t k => r4 t (s5 t (st5 _  k))
    have s6 : ∀ t, Steps p.tables e below (T5.setTop (mkF m 85 #[.val (.int p1), .val (.int p2), .val (.int p3), .val (.int p4), .val (.int p5), .val (.int (1 : Int32)), .val (.ref bK), .val (.ref bE), .unset, .unset, .unset, .unset] [(.int (own_mix (own_fnv (own_upd (fun _ => 0) 0 (p2.toInt8.toInt32).toInt8.toInt32) 1)))])) t → Steps p.tables e below (T5.setTop (mkF m 85 #[.val (.int p1), .val (.int p2), .val (.int p3), .val (.int p4), .val (.int p5), .val (.int (1 : Int32)), .val (.ref bK), .val (.ref bE), .unset, .unset, .unset, .unset] [(.int (own_mix (own_fnv (own_upd (fun _ => 0) 0 (p2.toInt8.toInt32).toInt8.toInt32) 1)))])) t := by
      intro t k
      show Steps p.tables e below (T5.setTop (mkF m 85 #[.val (.int p1), .val (.int p2), .val (.int p3), .val (.int p4), .val (.int p5), .val (.int (1 : Int32)), .val (.ref bK), .val (.ref bE), .unset, .unset, .unset, .unset] [(.int (own_mix (own_fnv (own_upd (fun _ => 0) 0 (p2.toInt8.toInt32).toInt8.toInt32) 1)))])) _
      exact k
    obtain ⟨_, _, ⟨T6, L6, k6, n6⟩, -, X6, ⟨Lc6, hQ6, l6, y6, z6⟩, st6⟩ := Jvm.LawKit.callS X5 hx (y := (⟨"com/example/kellar/kellar/schema/KeyTableHashPinLaw", "unmix", "(I)I"⟩ : MethodName)) hown (mvT hZ (hw _ (List.mem_of_getElem? (i := 7) rfl))) (mvT hZ (hw _ (List.mem_of_getElem? (i := 8) rfl))) (mvT hZ (hw _ (List.mem_of_getElem? (i := 9) rfl))) (mvT hZ (hw _ (List.mem_of_getElem? (i := 10) rfl))) (by decide) (backOf (W := 0) (rm2 l Z a0 hw [] (own_mix (own_fnv (own_upd (fun _ => 0) 0 (p2.toInt8.toInt32).toInt8.toInt32) 1)) T5.heap n0 Zq) hZ (hw _ (List.mem_of_getElem? (i := 10) rfl)) (hw _ (List.mem_of_getElem? (i := 9) rfl)) (by decide) (by decide)) (g := (mkF m 85 #[.val (.int p1), .val (.int p2), .val (.int p3), .val (.int p4), .val (.int p5), .val (.int (1 : Int32)), .val (.ref bK), .val (.ref bE), .unset, .unset, .unset, .unset] [(.int (own_mix (own_fnv (own_upd (fun _ => 0) 0 (p2.toInt8.toInt32).toInt8.toInt32) 1)))])) rfl (by rw [hml]; rfl) (argsL := [(.int (own_mix (own_fnv (own_upd (fun _ => 0) 0 (p2.toInt8.toInt32).toInt8.toInt32) 1)))]) (rest := []) (lenOf pd__I_I rfl) rfl (by show 2 * 0 + _ ≤ _; exact Nat.le_of_eq rfl) (hb hby at_85) (fun _ _ => ⟨rfl, rfl, (by decide : 2 + 0 ≤ _), (by decide : 3 + 0 ≤ _)⟩)
    dsimp only [Pt.U, Pt.locs, Pt.cells, Pt.slots] at X6 l6 y6 z6 st6 hQ6
    subst l6 y6 z6
    obtain ⟨rfl, N6q, e6⟩ := hQ6
    have N6 := Fr.app N5 N6q
    rw [← e6] at Zq GK GE
    rw [own_um] at st6
    have r6 : ∀ t, Steps p.tables e below (T6.setTop (mkF m 88 #[.val (.int p1), .val (.int p2), .val (.int p3), .val (.int p4), .val (.int p5), .val (.int (1 : Int32)), .val (.ref bK), .val (.ref bE), .unset, .unset, .unset, .unset] [(.int (own_fnv (own_upd (fun _ => 0) 0 (p2.toInt8.toInt32).toInt8.toInt32) 1))])) t → Steps p.tables e below (s₁.setTop (mkF m 0 #[.val (.int p1), .val (.int p2), .val (.int p3), .val (.int p4), .val (.int p5), .unset, .unset, .unset, .unset, .unset, .unset, .unset] [])) t := fun t k => r5 t (s6 t (st6 _  k))
    have s7 : ∀ t, Steps p.tables e below (T6.setTop (mkF m 92 #[.val (.int p1), .val (.int p2), .val (.int p3), .val (.int p4), .val (.int p5), .val (.int (1 : Int32)), .val (.ref bK), .val (.ref bE), .val (.int (own_fnv (own_upd (fun _ => 0) 0 (p2.toInt8.toInt32).toInt8.toInt32) 1)), .unset, .unset, .unset] [(.ref bE)])) t → Steps p.tables e below (T6.setTop (mkF m 88 #[.val (.int p1), .val (.int p2), .val (.int p3), .val (.int p4), .val (.int p5), .val (.int (1 : Int32)), .val (.ref bK), .val (.ref bE), .unset, .unset, .unset, .unset] [(.int (own_fnv (own_upd (fun _ => 0) 0 (p2.toInt8.toInt32).toInt8.toInt32) 1))])) t := by
      intro t k
      show Steps p.tables e below (T6.setTop (mkF m 88 #[.val (.int p1), .val (.int p2), .val (.int p3), .val (.int p4), .val (.int p5), .val (.int (1 : Int32)), .val (.ref bK), .val (.ref bE), .unset, .unset, .unset, .unset] [(.int (own_fnv (own_upd (fun _ => 0) 0 (p2.toInt8.toInt32).toInt8.toInt32) 1))])) _
      refine XS.istore X6.here hx rfl (hb hby at_88) rfl (l' := #[.val (.int p1), .val (.int p2), .val (.int p3), .val (.int p4), .val (.int p5), .val (.int (1 : Int32)), .val (.ref bK), .val (.ref bE), .val (.int (own_fnv (own_upd (fun _ => 0) 0 (p2.toInt8.toInt32).toInt8.toInt32) 1)), .unset, .unset, .unset]) rfl ?_
      show Steps p.tables e below (T6.setTop (mkF m 90 #[.val (.int p1), .val (.int p2), .val (.int p3), .val (.int p4), .val (.int p5), .val (.int (1 : Int32)), .val (.ref bK), .val (.ref bE), .val (.int (own_fnv (own_upd (fun _ => 0) 0 (p2.toInt8.toInt32).toInt8.toInt32) 1)), .unset, .unset, .unset] [])) _
      refine XS.aload X6.here hx rfl (hb hby at_90) rfl rfl ?_
      show Steps p.tables e below (T6.setTop (mkF m 92 #[.val (.int p1), .val (.int p2), .val (.int p3), .val (.int p4), .val (.int p5), .val (.int (1 : Int32)), .val (.ref bK), .val (.ref bE), .val (.int (own_fnv (own_upd (fun _ => 0) 0 (p2.toInt8.toInt32).toInt8.toInt32) 1)), .unset, .unset, .unset] [(.ref bE)])) _
      exact k
    obtain ⟨_, _, ⟨T7, L7, k7, n7⟩, -, X7, ⟨Lc7, hQ7, l7, y7, z7⟩, st7⟩ := Jvm.LawKit.callS X6 hx (y := (⟨"com/example/kellar/kellar/schema/KeyTable", "hash", "([B)I"⟩ : MethodName)) hown (mvT hZ (hw _ (List.mem_of_getElem? (i := 1) rfl))) (mvT hZ (hw _ (List.mem_of_getElem? (i := 2) rfl))) (mvT hZ (hw _ (List.mem_of_getElem? (i := 3) rfl))) (mvT hZ (hw _ (List.mem_of_getElem? (i := 4) rfl))) (by decide) (backOf (W := 0) (rm1 l Z a0 hw [] bE 2 (own_upd (own_upd (fun _ => 0) 0 (p2.toInt8.toInt32).toInt8.toInt32) 1 (p5.toInt8.toInt32).toInt8.toInt32) T6.heap n0 Zq (by decide) GE) hZ (hw _ (List.mem_of_getElem? (i := 4) rfl)) (hw _ (List.mem_of_getElem? (i := 3) rfl)) (by decide) (by decide)) (g := (mkF m 92 #[.val (.int p1), .val (.int p2), .val (.int p3), .val (.int p4), .val (.int p5), .val (.int (1 : Int32)), .val (.ref bK), .val (.ref bE), .val (.int (own_fnv (own_upd (fun _ => 0) 0 (p2.toInt8.toInt32).toInt8.toInt32) 1)), .unset, .unset, .unset] [(.ref bE)])) rfl (by rw [hml]; rfl) (argsL := [(.ref bE)]) (rest := []) (lenOf pd__AB_I rfl) rfl (by show 2 * 0 + _ ≤ _; exact Nat.le_of_eq rfl) (hb hby at_92) (fun _ _ => ⟨rfl, rfl, (by decide : 2 + 0 ≤ _), (by decide : 3 + 0 ≤ _)⟩)
    dsimp only [Pt.U, Pt.locs, Pt.cells, Pt.slots] at X7 l7 y7 z7 st7 hQ7
    subst l7 y7 z7
    obtain ⟨rfl, N7q, e7⟩ := hQ7
    have N7 := Fr.app N6 N7q
    rw [← e7] at Zq GK GE
    have r7 : ∀ t, Steps p.tables e below (T7.setTop (mkF m 95 #[.val (.int p1), .val (.int p2), .val (.int p3), .val (.int p4), .val (.int p5), .val (.int (1 : Int32)), .val (.ref bK), .val (.ref bE), .val (.int (own_fnv (own_upd (fun _ => 0) 0 (p2.toInt8.toInt32).toInt8.toInt32) 1)), .unset, .unset, .unset] [(.int (own_mix (own_fnv (own_upd (own_upd (fun _ => 0) 0 (p2.toInt8.toInt32).toInt8.toInt32) 1 (p5.toInt8.toInt32).toInt8.toInt32) 2)))])) t → Steps p.tables e below (s₁.setTop (mkF m 0 #[.val (.int p1), .val (.int p2), .val (.int p3), .val (.int p4), .val (.int p5), .unset, .unset, .unset, .unset, .unset, .unset, .unset] [])) t := fun t k => r6 t (s7 t (st7 _  k))
    have s8 : ∀ t, Steps p.tables e below (T7.setTop (mkF m 95 #[.val (.int p1), .val (.int p2), .val (.int p3), .val (.int p4), .val (.int p5), .val (.int (1 : Int32)), .val (.ref bK), .val (.ref bE), .val (.int (own_fnv (own_upd (fun _ => 0) 0 (p2.toInt8.toInt32).toInt8.toInt32) 1)), .unset, .unset, .unset] [(.int (own_mix (own_fnv (own_upd (own_upd (fun _ => 0) 0 (p2.toInt8.toInt32).toInt8.toInt32) 1 (p5.toInt8.toInt32).toInt8.toInt32) 2)))])) t → Steps p.tables e below (T7.setTop (mkF m 95 #[.val (.int p1), .val (.int p2), .val (.int p3), .val (.int p4), .val (.int p5), .val (.int (1 : Int32)), .val (.ref bK), .val (.ref bE), .val (.int (own_fnv (own_upd (fun _ => 0) 0 (p2.toInt8.toInt32).toInt8.toInt32) 1)), .unset, .unset, .unset] [(.int (own_mix (own_fnv (own_upd (own_upd (fun _ => 0) 0 (p2.toInt8.toInt32).toInt8.toInt32) 1 (p5.toInt8.toInt32).toInt8.toInt32) 2)))])) t := by
      intro t k
      show Steps p.tables e below (T7.setTop (mkF m 95 #[.val (.int p1), .val (.int p2), .val (.int p3), .val (.int p4), .val (.int p5), .val (.int (1 : Int32)), .val (.ref bK), .val (.ref bE), .val (.int (own_fnv (own_upd (fun _ => 0) 0 (p2.toInt8.toInt32).toInt8.toInt32) 1)), .unset, .unset, .unset] [(.int (own_mix (own_fnv (own_upd (own_upd (fun _ => 0) 0 (p2.toInt8.toInt32).toInt8.toInt32) 1 (p5.toInt8.toInt32).toInt8.toInt32) 2)))])) _
      exact k
    obtain ⟨_, _, ⟨T8, L8, k8, n8⟩, -, X8, ⟨Lc8, hQ8, l8, y8, z8⟩, st8⟩ := Jvm.LawKit.callS X7 hx (y := (⟨"com/example/kellar/kellar/schema/KeyTableHashPinLaw", "unmix", "(I)I"⟩ : MethodName)) hown (mvT hZ (hw _ (List.mem_of_getElem? (i := 7) rfl))) (mvT hZ (hw _ (List.mem_of_getElem? (i := 8) rfl))) (mvT hZ (hw _ (List.mem_of_getElem? (i := 9) rfl))) (mvT hZ (hw _ (List.mem_of_getElem? (i := 10) rfl))) (by decide) (backOf (W := 0) (rm2 l Z a0 hw [] (own_mix (own_fnv (own_upd (own_upd (fun _ => 0) 0 (p2.toInt8.toInt32).toInt8.toInt32) 1 (p5.toInt8.toInt32).toInt8.toInt32) 2)) T7.heap n0 Zq) hZ (hw _ (List.mem_of_getElem? (i := 10) rfl)) (hw _ (List.mem_of_getElem? (i := 9) rfl)) (by decide) (by decide)) (g := (mkF m 95 #[.val (.int p1), .val (.int p2), .val (.int p3), .val (.int p4), .val (.int p5), .val (.int (1 : Int32)), .val (.ref bK), .val (.ref bE), .val (.int (own_fnv (own_upd (fun _ => 0) 0 (p2.toInt8.toInt32).toInt8.toInt32) 1)), .unset, .unset, .unset] [(.int (own_mix (own_fnv (own_upd (own_upd (fun _ => 0) 0 (p2.toInt8.toInt32).toInt8.toInt32) 1 (p5.toInt8.toInt32).toInt8.toInt32) 2)))])) rfl (by rw [hml]; rfl) (argsL := [(.int (own_mix (own_fnv (own_upd (own_upd (fun _ => 0) 0 (p2.toInt8.toInt32).toInt8.toInt32) 1 (p5.toInt8.toInt32).toInt8.toInt32) 2)))]) (rest := []) (lenOf pd__I_I rfl) rfl (by show 2 * 0 + _ ≤ _; exact Nat.le_of_eq rfl) (hb hby at_95) (fun _ _ => ⟨rfl, rfl, (by decide : 2 + 0 ≤ _), (by decide : 3 + 0 ≤ _)⟩)
    dsimp only [Pt.U, Pt.locs, Pt.cells, Pt.slots] at X8 l8 y8 z8 st8 hQ8
    subst l8 y8 z8
    obtain ⟨rfl, N8q, e8⟩ := hQ8
    have N8 := Fr.app N7 N8q
    rw [← e8] at Zq GK GE
    rw [own_um] at st8
    have r8 : ∀ t, Steps p.tables e below (T8.setTop (mkF m 98 #[.val (.int p1), .val (.int p2), .val (.int p3), .val (.int p4), .val (.int p5), .val (.int (1 : Int32)), .val (.ref bK), .val (.ref bE), .val (.int (own_fnv (own_upd (fun _ => 0) 0 (p2.toInt8.toInt32).toInt8.toInt32) 1)), .unset, .unset, .unset] [(.int (own_fnv (own_upd (own_upd (fun _ => 0) 0 (p2.toInt8.toInt32).toInt8.toInt32) 1 (p5.toInt8.toInt32).toInt8.toInt32) 2))])) t → Steps p.tables e below (s₁.setTop (mkF m 0 #[.val (.int p1), .val (.int p2), .val (.int p3), .val (.int p4), .val (.int p5), .unset, .unset, .unset, .unset, .unset, .unset, .unset] [])) t := fun t k => r7 t (s8 t (st8 _  k))
    have hstep : (own_fnv (own_upd (own_upd (fun _ => 0) 0 (p2.toInt8.toInt32).toInt8.toInt32) 1 (p5.toInt8.toInt32).toInt8.toInt32) 2) = (((own_fnv (own_upd (fun _ => 0) 0 (p2.toInt8.toInt32).toInt8.toInt32) 1) ^^^ (p5 &&& (255 : Int32))) * (16777619 : Int32)) := by
      rw [own_fnv_succ, own_fnv_congr (N := 1) (g := (own_upd (fun _ => 0) 0 (p2.toInt8.toInt32).toInt8.toInt32)) (fun k hk => by
        match k, hk with
        | 0, _ => simp [own_upd]
        ), show (own_upd (own_upd (fun _ => 0) 0 (p2.toInt8.toInt32).toInt8.toInt32) 1 (p5.toInt8.toInt32).toInt8.toInt32) 1 = (p5.toInt8.toInt32).toInt8.toInt32 from by simp [own_upd], own_by2 p5, own_byff p5]
    have s9 : ∀ t, Steps p.tables e below (T8.setTop (mkF m 158 #[.val (.int p1), .val (.int p2), .val (.int p3), .val (.int p4), .val (.int p5), .val (.int (1 : Int32)), .val (.ref bK), .val (.ref bE), .val (.int (own_fnv (own_upd (fun _ => 0) 0 (p2.toInt8.toInt32).toInt8.toInt32) 1)), .val (.int (own_fnv (own_upd (own_upd (fun _ => 0) 0 (p2.toInt8.toInt32).toInt8.toInt32) 1 (p5.toInt8.toInt32).toInt8.toInt32) 2)), .val (.int (1 : Int32)), .val (.int (1 : Int32))] [(.int (1 : Int32))])) t → Steps p.tables e below (T8.setTop (mkF m 98 #[.val (.int p1), .val (.int p2), .val (.int p3), .val (.int p4), .val (.int p5), .val (.int (1 : Int32)), .val (.ref bK), .val (.ref bE), .val (.int (own_fnv (own_upd (fun _ => 0) 0 (p2.toInt8.toInt32).toInt8.toInt32) 1)), .unset, .unset, .unset] [(.int (own_fnv (own_upd (own_upd (fun _ => 0) 0 (p2.toInt8.toInt32).toInt8.toInt32) 1 (p5.toInt8.toInt32).toInt8.toInt32) 2))])) t := by
      intro t k
      show Steps p.tables e below (T8.setTop (mkF m 98 #[.val (.int p1), .val (.int p2), .val (.int p3), .val (.int p4), .val (.int p5), .val (.int (1 : Int32)), .val (.ref bK), .val (.ref bE), .val (.int (own_fnv (own_upd (fun _ => 0) 0 (p2.toInt8.toInt32).toInt8.toInt32) 1)), .unset, .unset, .unset] [(.int (own_fnv (own_upd (own_upd (fun _ => 0) 0 (p2.toInt8.toInt32).toInt8.toInt32) 1 (p5.toInt8.toInt32).toInt8.toInt32) 2))])) _
      refine XS.istore X8.here hx rfl (hb hby at_98) rfl (l' := #[.val (.int p1), .val (.int p2), .val (.int p3), .val (.int p4), .val (.int p5), .val (.int (1 : Int32)), .val (.ref bK), .val (.ref bE), .val (.int (own_fnv (own_upd (fun _ => 0) 0 (p2.toInt8.toInt32).toInt8.toInt32) 1)), .val (.int (own_fnv (own_upd (own_upd (fun _ => 0) 0 (p2.toInt8.toInt32).toInt8.toInt32) 1 (p5.toInt8.toInt32).toInt8.toInt32) 2)), .unset, .unset]) rfl ?_
      show Steps p.tables e below (T8.setTop (mkF m 100 #[.val (.int p1), .val (.int p2), .val (.int p3), .val (.int p4), .val (.int p5), .val (.int (1 : Int32)), .val (.ref bK), .val (.ref bE), .val (.int (own_fnv (own_upd (fun _ => 0) 0 (p2.toInt8.toInt32).toInt8.toInt32) 1)), .val (.int (own_fnv (own_upd (own_upd (fun _ => 0) 0 (p2.toInt8.toInt32).toInt8.toInt32) 1 (p5.toInt8.toInt32).toInt8.toInt32) 2)), .unset, .unset] [])) _
      refine XS.iload X8.here hx rfl (hb hby at_100) rfl ?_
      show Steps p.tables e below (T8.setTop (mkF m 102 #[.val (.int p1), .val (.int p2), .val (.int p3), .val (.int p4), .val (.int p5), .val (.int (1 : Int32)), .val (.ref bK), .val (.ref bE), .val (.int (own_fnv (own_upd (fun _ => 0) 0 (p2.toInt8.toInt32).toInt8.toInt32) 1)), .val (.int (own_fnv (own_upd (own_upd (fun _ => 0) 0 (p2.toInt8.toInt32).toInt8.toInt32) 1 (p5.toInt8.toInt32).toInt8.toInt32) 2)), .unset, .unset] [(.int (1 : Int32))])) _
      refine XS.ifYes X8.here hx rfl (pc0 := 102) (pc' := 112) rfl (hb hby at_102) rfl (XT.i0_ne_t (by decide)) (by decide) (by decide) ?_
      show Steps p.tables e below (T8.setTop (mkF m 112 #[.val (.int p1), .val (.int p2), .val (.int p3), .val (.int p4), .val (.int p5), .val (.int (1 : Int32)), .val (.ref bK), .val (.ref bE), .val (.int (own_fnv (own_upd (fun _ => 0) 0 (p2.toInt8.toInt32).toInt8.toInt32) 1)), .val (.int (own_fnv (own_upd (own_upd (fun _ => 0) 0 (p2.toInt8.toInt32).toInt8.toInt32) 1 (p5.toInt8.toInt32).toInt8.toInt32) 2)), .unset, .unset] [])) _
      refine XS.iconst X8.here hx rfl (hb hby at_112) ?_
      show Steps p.tables e below (T8.setTop (mkF m 113 #[.val (.int p1), .val (.int p2), .val (.int p3), .val (.int p4), .val (.int p5), .val (.int (1 : Int32)), .val (.ref bK), .val (.ref bE), .val (.int (own_fnv (own_upd (fun _ => 0) 0 (p2.toInt8.toInt32).toInt8.toInt32) 1)), .val (.int (own_fnv (own_upd (own_upd (fun _ => 0) 0 (p2.toInt8.toInt32).toInt8.toInt32) 1 (p5.toInt8.toInt32).toInt8.toInt32) 2)), .unset, .unset] [(.int (1 : Int32))])) _
      refine XS.goto X8.here hx rfl (pc0 := 113) (pc' := 117) rfl (hb hby at_113) (by decide) (by decide) ?_
      show Steps p.tables e below (T8.setTop (mkF m 117 #[.val (.int p1), .val (.int p2), .val (.int p3), .val (.int p4), .val (.int p5), .val (.int (1 : Int32)), .val (.ref bK), .val (.ref bE), .val (.int (own_fnv (own_upd (fun _ => 0) 0 (p2.toInt8.toInt32).toInt8.toInt32) 1)), .val (.int (own_fnv (own_upd (own_upd (fun _ => 0) 0 (p2.toInt8.toInt32).toInt8.toInt32) 1 (p5.toInt8.toInt32).toInt8.toInt32) 2)), .unset, .unset] [(.int (1 : Int32))])) _
      refine XS.istore X8.here hx rfl (hb hby at_117) rfl (l' := #[.val (.int p1), .val (.int p2), .val (.int p3), .val (.int p4), .val (.int p5), .val (.int (1 : Int32)), .val (.ref bK), .val (.ref bE), .val (.int (own_fnv (own_upd (fun _ => 0) 0 (p2.toInt8.toInt32).toInt8.toInt32) 1)), .val (.int (own_fnv (own_upd (own_upd (fun _ => 0) 0 (p2.toInt8.toInt32).toInt8.toInt32) 1 (p5.toInt8.toInt32).toInt8.toInt32) 2)), .val (.int (1 : Int32)), .unset]) rfl ?_
      show Steps p.tables e below (T8.setTop (mkF m 119 #[.val (.int p1), .val (.int p2), .val (.int p3), .val (.int p4), .val (.int p5), .val (.int (1 : Int32)), .val (.ref bK), .val (.ref bE), .val (.int (own_fnv (own_upd (fun _ => 0) 0 (p2.toInt8.toInt32).toInt8.toInt32) 1)), .val (.int (own_fnv (own_upd (own_upd (fun _ => 0) 0 (p2.toInt8.toInt32).toInt8.toInt32) 1 (p5.toInt8.toInt32).toInt8.toInt32) 2)), .val (.int (1 : Int32)), .unset] [])) _
      refine XS.iload X8.here hx rfl (hb hby at_119) rfl ?_
      show Steps p.tables e below (T8.setTop (mkF m 121 #[.val (.int p1), .val (.int p2), .val (.int p3), .val (.int p4), .val (.int p5), .val (.int (1 : Int32)), .val (.ref bK), .val (.ref bE), .val (.int (own_fnv (own_upd (fun _ => 0) 0 (p2.toInt8.toInt32).toInt8.toInt32) 1)), .val (.int (own_fnv (own_upd (own_upd (fun _ => 0) 0 (p2.toInt8.toInt32).toInt8.toInt32) 1 (p5.toInt8.toInt32).toInt8.toInt32) 2)), .val (.int (1 : Int32)), .unset] [(.int (own_fnv (own_upd (own_upd (fun _ => 0) 0 (p2.toInt8.toInt32).toInt8.toInt32) 1 (p5.toInt8.toInt32).toInt8.toInt32) 2))])) _
      refine XS.iload X8.here hx rfl (hb hby at_121) rfl ?_
      show Steps p.tables e below (T8.setTop (mkF m 123 #[.val (.int p1), .val (.int p2), .val (.int p3), .val (.int p4), .val (.int p5), .val (.int (1 : Int32)), .val (.ref bK), .val (.ref bE), .val (.int (own_fnv (own_upd (fun _ => 0) 0 (p2.toInt8.toInt32).toInt8.toInt32) 1)), .val (.int (own_fnv (own_upd (own_upd (fun _ => 0) 0 (p2.toInt8.toInt32).toInt8.toInt32) 1 (p5.toInt8.toInt32).toInt8.toInt32) 2)), .val (.int (1 : Int32)), .unset] [(.int (own_fnv (own_upd (fun _ => 0) 0 (p2.toInt8.toInt32).toInt8.toInt32) 1)), (.int (own_fnv (own_upd (own_upd (fun _ => 0) 0 (p2.toInt8.toInt32).toInt8.toInt32) 1 (p5.toInt8.toInt32).toInt8.toInt32) 2))])) _
      refine XS.iload X8.here hx rfl (hb hby at_123) rfl ?_
      show Steps p.tables e below (T8.setTop (mkF m 125 #[.val (.int p1), .val (.int p2), .val (.int p3), .val (.int p4), .val (.int p5), .val (.int (1 : Int32)), .val (.ref bK), .val (.ref bE), .val (.int (own_fnv (own_upd (fun _ => 0) 0 (p2.toInt8.toInt32).toInt8.toInt32) 1)), .val (.int (own_fnv (own_upd (own_upd (fun _ => 0) 0 (p2.toInt8.toInt32).toInt8.toInt32) 1 (p5.toInt8.toInt32).toInt8.toInt32) 2)), .val (.int (1 : Int32)), .unset] [(.int p5), (.int (own_fnv (own_upd (fun _ => 0) 0 (p2.toInt8.toInt32).toInt8.toInt32) 1)), (.int (own_fnv (own_upd (own_upd (fun _ => 0) 0 (p2.toInt8.toInt32).toInt8.toInt32) 1 (p5.toInt8.toInt32).toInt8.toInt32) 2))])) _
      refine XS.sipush X8.here hx rfl (hb hby at_125) ?_
      show Steps p.tables e below (T8.setTop (mkF m 128 #[.val (.int p1), .val (.int p2), .val (.int p3), .val (.int p4), .val (.int p5), .val (.int (1 : Int32)), .val (.ref bK), .val (.ref bE), .val (.int (own_fnv (own_upd (fun _ => 0) 0 (p2.toInt8.toInt32).toInt8.toInt32) 1)), .val (.int (own_fnv (own_upd (own_upd (fun _ => 0) 0 (p2.toInt8.toInt32).toInt8.toInt32) 1 (p5.toInt8.toInt32).toInt8.toInt32) 2)), .val (.int (1 : Int32)), .unset] [(.int (255 : Int32)), (.int p5), (.int (own_fnv (own_upd (fun _ => 0) 0 (p2.toInt8.toInt32).toInt8.toInt32) 1)), (.int (own_fnv (own_upd (own_upd (fun _ => 0) 0 (p2.toInt8.toInt32).toInt8.toInt32) 1 (p5.toInt8.toInt32).toInt8.toInt32) 2))])) _
      refine XS.iand X8.here hx rfl (hb hby at_128) rfl ?_
      show Steps p.tables e below (T8.setTop (mkF m 129 #[.val (.int p1), .val (.int p2), .val (.int p3), .val (.int p4), .val (.int p5), .val (.int (1 : Int32)), .val (.ref bK), .val (.ref bE), .val (.int (own_fnv (own_upd (fun _ => 0) 0 (p2.toInt8.toInt32).toInt8.toInt32) 1)), .val (.int (own_fnv (own_upd (own_upd (fun _ => 0) 0 (p2.toInt8.toInt32).toInt8.toInt32) 1 (p5.toInt8.toInt32).toInt8.toInt32) 2)), .val (.int (1 : Int32)), .unset] [(.int (p5 &&& (255 : Int32))), (.int (own_fnv (own_upd (fun _ => 0) 0 (p2.toInt8.toInt32).toInt8.toInt32) 1)), (.int (own_fnv (own_upd (own_upd (fun _ => 0) 0 (p2.toInt8.toInt32).toInt8.toInt32) 1 (p5.toInt8.toInt32).toInt8.toInt32) 2))])) _
      refine XS.ixor X8.here hx rfl (hb hby at_129) rfl ?_
      show Steps p.tables e below (T8.setTop (mkF m 130 #[.val (.int p1), .val (.int p2), .val (.int p3), .val (.int p4), .val (.int p5), .val (.int (1 : Int32)), .val (.ref bK), .val (.ref bE), .val (.int (own_fnv (own_upd (fun _ => 0) 0 (p2.toInt8.toInt32).toInt8.toInt32) 1)), .val (.int (own_fnv (own_upd (own_upd (fun _ => 0) 0 (p2.toInt8.toInt32).toInt8.toInt32) 1 (p5.toInt8.toInt32).toInt8.toInt32) 2)), .val (.int (1 : Int32)), .unset] [(.int ((own_fnv (own_upd (fun _ => 0) 0 (p2.toInt8.toInt32).toInt8.toInt32) 1) ^^^ (p5 &&& (255 : Int32)))), (.int (own_fnv (own_upd (own_upd (fun _ => 0) 0 (p2.toInt8.toInt32).toInt8.toInt32) 1 (p5.toInt8.toInt32).toInt8.toInt32) 2))])) _
      refine X8.ldcI hx hown (mvT hZ (hw _ (List.mem_of_getElem? (i := 14) rfl))) (g := (mkF m 130 #[.val (.int p1), .val (.int p2), .val (.int p3), .val (.int p4), .val (.int p5), .val (.int (1 : Int32)), .val (.ref bK), .val (.ref bE), .val (.int (own_fnv (own_upd (fun _ => 0) 0 (p2.toInt8.toInt32).toInt8.toInt32) 1)), .val (.int (own_fnv (own_upd (own_upd (fun _ => 0) 0 (p2.toInt8.toInt32).toInt8.toInt32) 1 (p5.toInt8.toInt32).toInt8.toInt32) 2)), .val (.int (1 : Int32)), .unset] [(.int ((own_fnv (own_upd (fun _ => 0) 0 (p2.toInt8.toInt32).toInt8.toInt32) 1) ^^^ (p5 &&& (255 : Int32)))), (.int (own_fnv (own_upd (own_upd (fun _ => 0) 0 (p2.toInt8.toInt32).toInt8.toInt32) 1 (p5.toInt8.toInt32).toInt8.toInt32) 2))])) rfl (hb hby at_130) ?_
      show Steps p.tables e below (T8.setTop (mkF m 132 #[.val (.int p1), .val (.int p2), .val (.int p3), .val (.int p4), .val (.int p5), .val (.int (1 : Int32)), .val (.ref bK), .val (.ref bE), .val (.int (own_fnv (own_upd (fun _ => 0) 0 (p2.toInt8.toInt32).toInt8.toInt32) 1)), .val (.int (own_fnv (own_upd (own_upd (fun _ => 0) 0 (p2.toInt8.toInt32).toInt8.toInt32) 1 (p5.toInt8.toInt32).toInt8.toInt32) 2)), .val (.int (1 : Int32)), .unset] [(.int (16777619 : Int32)), (.int ((own_fnv (own_upd (fun _ => 0) 0 (p2.toInt8.toInt32).toInt8.toInt32) 1) ^^^ (p5 &&& (255 : Int32)))), (.int (own_fnv (own_upd (own_upd (fun _ => 0) 0 (p2.toInt8.toInt32).toInt8.toInt32) 1 (p5.toInt8.toInt32).toInt8.toInt32) 2))])) _
      refine XS.imul X8.here hx rfl (hb hby at_132) rfl ?_
      show Steps p.tables e below (T8.setTop (mkF m 133 #[.val (.int p1), .val (.int p2), .val (.int p3), .val (.int p4), .val (.int p5), .val (.int (1 : Int32)), .val (.ref bK), .val (.ref bE), .val (.int (own_fnv (own_upd (fun _ => 0) 0 (p2.toInt8.toInt32).toInt8.toInt32) 1)), .val (.int (own_fnv (own_upd (own_upd (fun _ => 0) 0 (p2.toInt8.toInt32).toInt8.toInt32) 1 (p5.toInt8.toInt32).toInt8.toInt32) 2)), .val (.int (1 : Int32)), .unset] [(.int (((own_fnv (own_upd (fun _ => 0) 0 (p2.toInt8.toInt32).toInt8.toInt32) 1) ^^^ (p5 &&& (255 : Int32))) * (16777619 : Int32))), (.int (own_fnv (own_upd (own_upd (fun _ => 0) 0 (p2.toInt8.toInt32).toInt8.toInt32) 1 (p5.toInt8.toInt32).toInt8.toInt32) 2))])) _
      refine XS.icmpNo X8.here hx rfl (hb hby at_133) rfl (XT.ii_ne_f hstep) ?_
      show Steps p.tables e below (T8.setTop (mkF m 136 #[.val (.int p1), .val (.int p2), .val (.int p3), .val (.int p4), .val (.int p5), .val (.int (1 : Int32)), .val (.ref bK), .val (.ref bE), .val (.int (own_fnv (own_upd (fun _ => 0) 0 (p2.toInt8.toInt32).toInt8.toInt32) 1)), .val (.int (own_fnv (own_upd (own_upd (fun _ => 0) 0 (p2.toInt8.toInt32).toInt8.toInt32) 1 (p5.toInt8.toInt32).toInt8.toInt32) 2)), .val (.int (1 : Int32)), .unset] [])) _
      refine XS.iconst X8.here hx rfl (hb hby at_136) ?_
      show Steps p.tables e below (T8.setTop (mkF m 137 #[.val (.int p1), .val (.int p2), .val (.int p3), .val (.int p4), .val (.int p5), .val (.int (1 : Int32)), .val (.ref bK), .val (.ref bE), .val (.int (own_fnv (own_upd (fun _ => 0) 0 (p2.toInt8.toInt32).toInt8.toInt32) 1)), .val (.int (own_fnv (own_upd (own_upd (fun _ => 0) 0 (p2.toInt8.toInt32).toInt8.toInt32) 1 (p5.toInt8.toInt32).toInt8.toInt32) 2)), .val (.int (1 : Int32)), .unset] [(.int (1 : Int32))])) _
      refine XS.goto X8.here hx rfl (pc0 := 137) (pc' := 141) rfl (hb hby at_137) (by decide) (by decide) ?_
      show Steps p.tables e below (T8.setTop (mkF m 141 #[.val (.int p1), .val (.int p2), .val (.int p3), .val (.int p4), .val (.int p5), .val (.int (1 : Int32)), .val (.ref bK), .val (.ref bE), .val (.int (own_fnv (own_upd (fun _ => 0) 0 (p2.toInt8.toInt32).toInt8.toInt32) 1)), .val (.int (own_fnv (own_upd (own_upd (fun _ => 0) 0 (p2.toInt8.toInt32).toInt8.toInt32) 1 (p5.toInt8.toInt32).toInt8.toInt32) 2)), .val (.int (1 : Int32)), .unset] [(.int (1 : Int32))])) _
      refine XS.istore X8.here hx rfl (hb hby at_141) rfl (l' := #[.val (.int p1), .val (.int p2), .val (.int p3), .val (.int p4), .val (.int p5), .val (.int (1 : Int32)), .val (.ref bK), .val (.ref bE), .val (.int (own_fnv (own_upd (fun _ => 0) 0 (p2.toInt8.toInt32).toInt8.toInt32) 1)), .val (.int (own_fnv (own_upd (own_upd (fun _ => 0) 0 (p2.toInt8.toInt32).toInt8.toInt32) 1 (p5.toInt8.toInt32).toInt8.toInt32) 2)), .val (.int (1 : Int32)), .val (.int (1 : Int32))]) rfl ?_
      show Steps p.tables e below (T8.setTop (mkF m 143 #[.val (.int p1), .val (.int p2), .val (.int p3), .val (.int p4), .val (.int p5), .val (.int (1 : Int32)), .val (.ref bK), .val (.ref bE), .val (.int (own_fnv (own_upd (fun _ => 0) 0 (p2.toInt8.toInt32).toInt8.toInt32) 1)), .val (.int (own_fnv (own_upd (own_upd (fun _ => 0) 0 (p2.toInt8.toInt32).toInt8.toInt32) 1 (p5.toInt8.toInt32).toInt8.toInt32) 2)), .val (.int (1 : Int32)), .val (.int (1 : Int32))] [])) _
      refine XS.iload X8.here hx rfl (hb hby at_143) rfl ?_
      show Steps p.tables e below (T8.setTop (mkF m 145 #[.val (.int p1), .val (.int p2), .val (.int p3), .val (.int p4), .val (.int p5), .val (.int (1 : Int32)), .val (.ref bK), .val (.ref bE), .val (.int (own_fnv (own_upd (fun _ => 0) 0 (p2.toInt8.toInt32).toInt8.toInt32) 1)), .val (.int (own_fnv (own_upd (own_upd (fun _ => 0) 0 (p2.toInt8.toInt32).toInt8.toInt32) 1 (p5.toInt8.toInt32).toInt8.toInt32) 2)), .val (.int (1 : Int32)), .val (.int (1 : Int32))] [(.int (1 : Int32))])) _
      refine XS.ifNo X8.here hx rfl (hb hby at_145) rfl (XT.i0_eq_f (by decide)) ?_
      show Steps p.tables e below (T8.setTop (mkF m 148 #[.val (.int p1), .val (.int p2), .val (.int p3), .val (.int p4), .val (.int p5), .val (.int (1 : Int32)), .val (.ref bK), .val (.ref bE), .val (.int (own_fnv (own_upd (fun _ => 0) 0 (p2.toInt8.toInt32).toInt8.toInt32) 1)), .val (.int (own_fnv (own_upd (own_upd (fun _ => 0) 0 (p2.toInt8.toInt32).toInt8.toInt32) 1 (p5.toInt8.toInt32).toInt8.toInt32) 2)), .val (.int (1 : Int32)), .val (.int (1 : Int32))] [])) _
      refine XS.iload X8.here hx rfl (hb hby at_148) rfl ?_
      show Steps p.tables e below (T8.setTop (mkF m 150 #[.val (.int p1), .val (.int p2), .val (.int p3), .val (.int p4), .val (.int p5), .val (.int (1 : Int32)), .val (.ref bK), .val (.ref bE), .val (.int (own_fnv (own_upd (fun _ => 0) 0 (p2.toInt8.toInt32).toInt8.toInt32) 1)), .val (.int (own_fnv (own_upd (own_upd (fun _ => 0) 0 (p2.toInt8.toInt32).toInt8.toInt32) 1 (p5.toInt8.toInt32).toInt8.toInt32) 2)), .val (.int (1 : Int32)), .val (.int (1 : Int32))] [(.int (1 : Int32))])) _
      refine XS.ifNo X8.here hx rfl (hb hby at_150) rfl (XT.i0_eq_f (by decide)) ?_
      show Steps p.tables e below (T8.setTop (mkF m 153 #[.val (.int p1), .val (.int p2), .val (.int p3), .val (.int p4), .val (.int p5), .val (.int (1 : Int32)), .val (.ref bK), .val (.ref bE), .val (.int (own_fnv (own_upd (fun _ => 0) 0 (p2.toInt8.toInt32).toInt8.toInt32) 1)), .val (.int (own_fnv (own_upd (own_upd (fun _ => 0) 0 (p2.toInt8.toInt32).toInt8.toInt32) 1 (p5.toInt8.toInt32).toInt8.toInt32) 2)), .val (.int (1 : Int32)), .val (.int (1 : Int32))] [])) _
      refine XS.iconst X8.here hx rfl (hb hby at_153) ?_
      show Steps p.tables e below (T8.setTop (mkF m 154 #[.val (.int p1), .val (.int p2), .val (.int p3), .val (.int p4), .val (.int p5), .val (.int (1 : Int32)), .val (.ref bK), .val (.ref bE), .val (.int (own_fnv (own_upd (fun _ => 0) 0 (p2.toInt8.toInt32).toInt8.toInt32) 1)), .val (.int (own_fnv (own_upd (own_upd (fun _ => 0) 0 (p2.toInt8.toInt32).toInt8.toInt32) 1 (p5.toInt8.toInt32).toInt8.toInt32) 2)), .val (.int (1 : Int32)), .val (.int (1 : Int32))] [(.int (1 : Int32))])) _
      refine XS.goto X8.here hx rfl (pc0 := 154) (pc' := 158) rfl (hb hby at_154) (by decide) (by decide) ?_
      show Steps p.tables e below (T8.setTop (mkF m 158 #[.val (.int p1), .val (.int p2), .val (.int p3), .val (.int p4), .val (.int p5), .val (.int (1 : Int32)), .val (.ref bK), .val (.ref bE), .val (.int (own_fnv (own_upd (fun _ => 0) 0 (p2.toInt8.toInt32).toInt8.toInt32) 1)), .val (.int (own_fnv (own_upd (own_upd (fun _ => 0) 0 (p2.toInt8.toInt32).toInt8.toInt32) 1 (p5.toInt8.toInt32).toInt8.toInt32) 2)), .val (.int (1 : Int32)), .val (.int (1 : Int32))] [(.int (1 : Int32))])) _
      exact k
    obtain ⟨fs, hr, hrun, hended, hW, hsame⟩ := X8.leave (v := some (.int (1 : Int32))) (fun h => by rw [Bd.returns] at h; cases h)
    refine ⟨_, _, pre0 _ (r8 _ (s9 _ ?_)), hrun, hended, _, _, rfl, ?_, ⟨_, rfl⟩, hW, hsame.mono (by decide) (by decide)⟩
    · exact retN X8 hx (t := .boolean) Bd.returns (by simp) (hb hby at_158) hr
    · exact ⟨rfl, N8⟩
  · rw [hc] at s0
    have s1 : ∀ t, Steps p.tables e below (s₁.setTop (mkF m 7 #[.val (.int p1), .val (.int p2), .val (.int p3), .val (.int p4), .val (.int p5), .val (.int (2 : Int32)), .unset, .unset, .unset, .unset, .unset, .unset] [(.int (2 : Int32))])) t → Steps p.tables e below (s₁.setTop (mkF m 5 #[.val (.int p1), .val (.int p2), .val (.int p3), .val (.int p4), .val (.int p5), .val (.int (2 : Int32)), .unset, .unset, .unset, .unset, .unset, .unset] [])) t := by
      intro t k
      show Steps p.tables e below (s₁.setTop (mkF m 5 #[.val (.int p1), .val (.int p2), .val (.int p3), .val (.int p4), .val (.int p5), .val (.int (2 : Int32)), .unset, .unset, .unset, .unset, .unset, .unset] [])) _
      refine XS.iload X0.here hx rfl (hb hby at_5) rfl ?_
      show Steps p.tables e below (s₁.setTop (mkF m 7 #[.val (.int p1), .val (.int p2), .val (.int p3), .val (.int p4), .val (.int p5), .val (.int (2 : Int32)), .unset, .unset, .unset, .unset, .unset, .unset] [(.int (2 : Int32))])) _
      exact k
    obtain ⟨TK, hK, kK, XK, eK, EK, AK, stK⟩ := newP X0 hx hZ (hw _ (List.mem_of_getElem? (i := 0) rfl)) (rfl : s₁.heap = s₁.heap) (g := (mkF m 7 #[.val (.int p1), .val (.int p2), .val (.int p3), .val (.int p4), .val (.int p5), .val (.int (2 : Int32)), .unset, .unset, .unset, .unset, .unset, .unset] [(.int (2 : Int32))])) rfl (hb hby at_7) rfl (by decide) (cap := 2) (by decide) (by decide) (by decide) (by decide)
    obtain ⟨bK, gK⟩ : ∃ z, z = s₁.heap.size := ⟨_, rfl⟩
    rw [← gK] at AK stK
    have gbK : n0 ≤ bK := Nat.le_trans Z0 (by rw [gK, e0]; exact Nat.le_refl _)
    have GK : own_By Z TK.heap bK 2 (fun _ => 0) := by rw [eK]; exact own_freshB AK (by decide)
    have rK : ∀ t, Steps p.tables e below (TK.setTop (mkF m 9 #[.val (.int p1), .val (.int p2), .val (.int p3), .val (.int p4), .val (.int p5), .val (.int (2 : Int32)), .unset, .unset, .unset, .unset, .unset, .unset] [(.ref bK)])) t → Steps p.tables e below (s₁.setTop (mkF m 0 #[.val (.int p1), .val (.int p2), .val (.int p3), .val (.int p4), .val (.int p5), .unset, .unset, .unset, .unset, .unset, .unset, .unset] [])) t := fun t k => s0 t (s1 t (stK t k))
    have sK : ∀ t, Steps p.tables e below (TK.setTop (mkF m 15 #[.val (.int p1), .val (.int p2), .val (.int p3), .val (.int p4), .val (.int p5), .val (.int (2 : Int32)), .val (.ref bK), .unset, .unset, .unset, .unset, .unset] [(.int ((2 : Int32) + (1 : Int32)))])) t → Steps p.tables e below (TK.setTop (mkF m 9 #[.val (.int p1), .val (.int p2), .val (.int p3), .val (.int p4), .val (.int p5), .val (.int (2 : Int32)), .unset, .unset, .unset, .unset, .unset, .unset] [(.ref bK)])) t := by
      intro t k
      show Steps p.tables e below (TK.setTop (mkF m 9 #[.val (.int p1), .val (.int p2), .val (.int p3), .val (.int p4), .val (.int p5), .val (.int (2 : Int32)), .unset, .unset, .unset, .unset, .unset, .unset] [(.ref bK)])) _
      refine XS.astore XK.here hx rfl (hb hby at_9) rfl rfl (l' := #[.val (.int p1), .val (.int p2), .val (.int p3), .val (.int p4), .val (.int p5), .val (.int (2 : Int32)), .val (.ref bK), .unset, .unset, .unset, .unset, .unset]) rfl ?_
      show Steps p.tables e below (TK.setTop (mkF m 11 #[.val (.int p1), .val (.int p2), .val (.int p3), .val (.int p4), .val (.int p5), .val (.int (2 : Int32)), .val (.ref bK), .unset, .unset, .unset, .unset, .unset] [])) _
      refine XS.iload XK.here hx rfl (hb hby at_11) rfl ?_
      show Steps p.tables e below (TK.setTop (mkF m 13 #[.val (.int p1), .val (.int p2), .val (.int p3), .val (.int p4), .val (.int p5), .val (.int (2 : Int32)), .val (.ref bK), .unset, .unset, .unset, .unset, .unset] [(.int (2 : Int32))])) _
      refine XS.iconst XK.here hx rfl (hb hby at_13) ?_
      show Steps p.tables e below (TK.setTop (mkF m 14 #[.val (.int p1), .val (.int p2), .val (.int p3), .val (.int p4), .val (.int p5), .val (.int (2 : Int32)), .val (.ref bK), .unset, .unset, .unset, .unset, .unset] [(.int (1 : Int32)), (.int (2 : Int32))])) _
      refine XS.iadd XK.here hx rfl (hb hby at_14) rfl ?_
      show Steps p.tables e below (TK.setTop (mkF m 15 #[.val (.int p1), .val (.int p2), .val (.int p3), .val (.int p4), .val (.int p5), .val (.int (2 : Int32)), .val (.ref bK), .unset, .unset, .unset, .unset, .unset] [(.int ((2 : Int32) + (1 : Int32)))])) _
      exact k
    obtain ⟨TE, hE, kE, XE, eE, EE, AE, stE⟩ := newP XK hx hZ (hw _ (List.mem_of_getElem? (i := 0) rfl)) (rfl : TK.heap = TK.heap) (g := (mkF m 15 #[.val (.int p1), .val (.int p2), .val (.int p3), .val (.int p4), .val (.int p5), .val (.int (2 : Int32)), .val (.ref bK), .unset, .unset, .unset, .unset, .unset] [(.int ((2 : Int32) + (1 : Int32)))])) rfl (hb hby at_15) rfl (by decide) (cap := 3) (by decide) (by decide) (by decide) (by decide)
    obtain ⟨bE, gE⟩ : ∃ z, z = TK.heap.size := ⟨_, rfl⟩
    rw [← gE] at AE stE
    have gbE : n0 ≤ bE := Nat.le_trans gbK (by rw [gE]; exact Nat.le_of_lt (own_By_lt GK))
    have neKE : bK ≠ bE := Nat.ne_of_lt (by rw [gE]; exact own_By_lt GK)
    have GE : own_By Z TE.heap bE 3 (fun _ => 0) := by rw [eE]; exact own_freshB AE (by decide)
    have GK : own_By Z TE.heap bK 2 (fun _ => 0) := by rw [eE]; exact own_By_ext EE GK
    have rE : ∀ t, Steps p.tables e below (TE.setTop (mkF m 17 #[.val (.int p1), .val (.int p2), .val (.int p3), .val (.int p4), .val (.int p5), .val (.int (2 : Int32)), .val (.ref bK), .unset, .unset, .unset, .unset, .unset] [(.ref bE)])) t → Steps p.tables e below (s₁.setTop (mkF m 0 #[.val (.int p1), .val (.int p2), .val (.int p3), .val (.int p4), .val (.int p5), .unset, .unset, .unset, .unset, .unset, .unset, .unset] [])) t := fun t k => rK t (sK t (stE t k))
    have s2 : ∀ t, Steps p.tables e below (TE.setTop (mkF m 29 #[.val (.int p1), .val (.int p2), .val (.int p3), .val (.int p4), .val (.int p5), .val (.int (2 : Int32)), .val (.ref bK), .val (.ref bE), .unset, .unset, .unset, .unset] [(.int (p2.toInt8.toInt32)), (.int (0 : Int32)), (.ref bK)])) t → Steps p.tables e below (TE.setTop (mkF m 17 #[.val (.int p1), .val (.int p2), .val (.int p3), .val (.int p4), .val (.int p5), .val (.int (2 : Int32)), .val (.ref bK), .unset, .unset, .unset, .unset, .unset] [(.ref bE)])) t := by
      intro t k
      show Steps p.tables e below (TE.setTop (mkF m 17 #[.val (.int p1), .val (.int p2), .val (.int p3), .val (.int p4), .val (.int p5), .val (.int (2 : Int32)), .val (.ref bK), .unset, .unset, .unset, .unset, .unset] [(.ref bE)])) _
      refine XS.astore XE.here hx rfl (hb hby at_17) rfl rfl (l' := #[.val (.int p1), .val (.int p2), .val (.int p3), .val (.int p4), .val (.int p5), .val (.int (2 : Int32)), .val (.ref bK), .val (.ref bE), .unset, .unset, .unset, .unset]) rfl ?_
      show Steps p.tables e below (TE.setTop (mkF m 19 #[.val (.int p1), .val (.int p2), .val (.int p3), .val (.int p4), .val (.int p5), .val (.int (2 : Int32)), .val (.ref bK), .val (.ref bE), .unset, .unset, .unset, .unset] [])) _
      refine XS.iload XE.here hx rfl (hb hby at_19) rfl ?_
      show Steps p.tables e below (TE.setTop (mkF m 21 #[.val (.int p1), .val (.int p2), .val (.int p3), .val (.int p4), .val (.int p5), .val (.int (2 : Int32)), .val (.ref bK), .val (.ref bE), .unset, .unset, .unset, .unset] [(.int (2 : Int32))])) _
      refine XS.ifNo XE.here hx rfl (hb hby at_21) rfl (XT.i0_le_f (by decide)) ?_
      show Steps p.tables e below (TE.setTop (mkF m 24 #[.val (.int p1), .val (.int p2), .val (.int p3), .val (.int p4), .val (.int p5), .val (.int (2 : Int32)), .val (.ref bK), .val (.ref bE), .unset, .unset, .unset, .unset] [])) _
      refine XS.aload XE.here hx rfl (hb hby at_24) rfl rfl ?_
      show Steps p.tables e below (TE.setTop (mkF m 26 #[.val (.int p1), .val (.int p2), .val (.int p3), .val (.int p4), .val (.int p5), .val (.int (2 : Int32)), .val (.ref bK), .val (.ref bE), .unset, .unset, .unset, .unset] [(.ref bK)])) _
      refine XS.iconst XE.here hx rfl (hb hby at_26) ?_
      show Steps p.tables e below (TE.setTop (mkF m 27 #[.val (.int p1), .val (.int p2), .val (.int p3), .val (.int p4), .val (.int p5), .val (.int (2 : Int32)), .val (.ref bK), .val (.ref bE), .unset, .unset, .unset, .unset] [(.int (0 : Int32)), (.ref bK)])) _
      refine XS.iloadN XE.here hx rfl (hb hby at_27) rfl ?_
      show Steps p.tables e below (TE.setTop (mkF m 28 #[.val (.int p1), .val (.int p2), .val (.int p3), .val (.int p4), .val (.int p5), .val (.int (2 : Int32)), .val (.ref bK), .val (.ref bE), .unset, .unset, .unset, .unset] [(.int p2), (.int (0 : Int32)), (.ref bK)])) _
      refine XS.i2b XE.here hx rfl (hb hby at_28) rfl ?_
      show Steps p.tables e below (TE.setTop (mkF m 29 #[.val (.int p1), .val (.int p2), .val (.int p3), .val (.int p4), .val (.int p5), .val (.int (2 : Int32)), .val (.ref bK), .val (.ref bE), .unset, .unset, .unset, .unset] [(.int (p2.toInt8.toInt32)), (.int (0 : Int32)), (.ref bK)])) _
      exact k
    obtain ⟨T2, L2, X2, N2, G2, ⟨sl2, w2, W2⟩, st2⟩ := own_storeB XE hx hZ N0 gbK GK 29 #[.val (.int p1), .val (.int p2), .val (.int p3), .val (.int p4), .val (.int p5), .val (.int (2 : Int32)), .val (.ref bK), .val (.ref bE), .unset, .unset, .unset, .unset] [] (0 : Int32) (p2.toInt8.toInt32) 0 (by decide) (by decide) (by decide) (hb hby at_29)
    have GK := G2
    have GE := own_By_other W2 GE neKE.symm
    have r2 : ∀ t, Steps p.tables e below (T2.setTop (mkF m 30 #[.val (.int p1), .val (.int p2), .val (.int p3), .val (.int p4), .val (.int p5), .val (.int (2 : Int32)), .val (.ref bK), .val (.ref bE), .unset, .unset, .unset, .unset] [])) t → Steps p.tables e below (s₁.setTop (mkF m 0 #[.val (.int p1), .val (.int p2), .val (.int p3), .val (.int p4), .val (.int p5), .unset, .unset, .unset, .unset, .unset, .unset, .unset] [])) t := fun t k => rE t (s2 t (st2 t k))
    have s3 : ∀ t, Steps p.tables e below (T2.setTop (mkF m 35 #[.val (.int p1), .val (.int p2), .val (.int p3), .val (.int p4), .val (.int p5), .val (.int (2 : Int32)), .val (.ref bK), .val (.ref bE), .unset, .unset, .unset, .unset] [(.int (p2.toInt8.toInt32)), (.int (0 : Int32)), (.ref bE)])) t → Steps p.tables e below (T2.setTop (mkF m 30 #[.val (.int p1), .val (.int p2), .val (.int p3), .val (.int p4), .val (.int p5), .val (.int (2 : Int32)), .val (.ref bK), .val (.ref bE), .unset, .unset, .unset, .unset] [])) t := by
      intro t k
      show Steps p.tables e below (T2.setTop (mkF m 30 #[.val (.int p1), .val (.int p2), .val (.int p3), .val (.int p4), .val (.int p5), .val (.int (2 : Int32)), .val (.ref bK), .val (.ref bE), .unset, .unset, .unset, .unset] [])) _
      refine XS.aload X2.here hx rfl (hb hby at_30) rfl rfl ?_
      show Steps p.tables e below (T2.setTop (mkF m 32 #[.val (.int p1), .val (.int p2), .val (.int p3), .val (.int p4), .val (.int p5), .val (.int (2 : Int32)), .val (.ref bK), .val (.ref bE), .unset, .unset, .unset, .unset] [(.ref bE)])) _
      refine XS.iconst X2.here hx rfl (hb hby at_32) ?_
      show Steps p.tables e below (T2.setTop (mkF m 33 #[.val (.int p1), .val (.int p2), .val (.int p3), .val (.int p4), .val (.int p5), .val (.int (2 : Int32)), .val (.ref bK), .val (.ref bE), .unset, .unset, .unset, .unset] [(.int (0 : Int32)), (.ref bE)])) _
      refine XS.iloadN X2.here hx rfl (hb hby at_33) rfl ?_
      show Steps p.tables e below (T2.setTop (mkF m 34 #[.val (.int p1), .val (.int p2), .val (.int p3), .val (.int p4), .val (.int p5), .val (.int (2 : Int32)), .val (.ref bK), .val (.ref bE), .unset, .unset, .unset, .unset] [(.int p2), (.int (0 : Int32)), (.ref bE)])) _
      refine XS.i2b X2.here hx rfl (hb hby at_34) rfl ?_
      show Steps p.tables e below (T2.setTop (mkF m 35 #[.val (.int p1), .val (.int p2), .val (.int p3), .val (.int p4), .val (.int p5), .val (.int (2 : Int32)), .val (.ref bK), .val (.ref bE), .unset, .unset, .unset, .unset] [(.int (p2.toInt8.toInt32)), (.int (0 : Int32)), (.ref bE)])) _
      exact k
    obtain ⟨T3, L3, X3, N3, G3, ⟨sl3, w3, W3⟩, st3⟩ := own_storeB X2 hx hZ N2 gbE GE 35 #[.val (.int p1), .val (.int p2), .val (.int p3), .val (.int p4), .val (.int p5), .val (.int (2 : Int32)), .val (.ref bK), .val (.ref bE), .unset, .unset, .unset, .unset] [] (0 : Int32) (p2.toInt8.toInt32) 0 (by decide) (by decide) (by decide) (hb hby at_35)
    have GE := G3
    have GK := own_By_other W3 GK neKE
    have r3 : ∀ t, Steps p.tables e below (T3.setTop (mkF m 36 #[.val (.int p1), .val (.int p2), .val (.int p3), .val (.int p4), .val (.int p5), .val (.int (2 : Int32)), .val (.ref bK), .val (.ref bE), .unset, .unset, .unset, .unset] [])) t → Steps p.tables e below (s₁.setTop (mkF m 0 #[.val (.int p1), .val (.int p2), .val (.int p3), .val (.int p4), .val (.int p5), .unset, .unset, .unset, .unset, .unset, .unset, .unset] [])) t := fun t k => r2 t (s3 t (st3 t k))
    have s4 : ∀ t, Steps p.tables e below (T3.setTop (mkF m 47 #[.val (.int p1), .val (.int p2), .val (.int p3), .val (.int p4), .val (.int p5), .val (.int (2 : Int32)), .val (.ref bK), .val (.ref bE), .unset, .unset, .unset, .unset] [(.int (p3.toInt8.toInt32)), (.int (1 : Int32)), (.ref bK)])) t → Steps p.tables e below (T3.setTop (mkF m 36 #[.val (.int p1), .val (.int p2), .val (.int p3), .val (.int p4), .val (.int p5), .val (.int (2 : Int32)), .val (.ref bK), .val (.ref bE), .unset, .unset, .unset, .unset] [])) t := by
      intro t k
      show Steps p.tables e below (T3.setTop (mkF m 36 #[.val (.int p1), .val (.int p2), .val (.int p3), .val (.int p4), .val (.int p5), .val (.int (2 : Int32)), .val (.ref bK), .val (.ref bE), .unset, .unset, .unset, .unset] [])) _
      refine XS.iload X3.here hx rfl (hb hby at_36) rfl ?_
      show Steps p.tables e below (T3.setTop (mkF m 38 #[.val (.int p1), .val (.int p2), .val (.int p3), .val (.int p4), .val (.int p5), .val (.int (2 : Int32)), .val (.ref bK), .val (.ref bE), .unset, .unset, .unset, .unset] [(.int (2 : Int32))])) _
      refine XS.iconst X3.here hx rfl (hb hby at_38) ?_
      show Steps p.tables e below (T3.setTop (mkF m 39 #[.val (.int p1), .val (.int p2), .val (.int p3), .val (.int p4), .val (.int p5), .val (.int (2 : Int32)), .val (.ref bK), .val (.ref bE), .unset, .unset, .unset, .unset] [(.int (1 : Int32)), (.int (2 : Int32))])) _
      refine XS.icmpNo X3.here hx rfl (hb hby at_39) rfl (XT.ii_le_f (by decide)) ?_
      show Steps p.tables e below (T3.setTop (mkF m 42 #[.val (.int p1), .val (.int p2), .val (.int p3), .val (.int p4), .val (.int p5), .val (.int (2 : Int32)), .val (.ref bK), .val (.ref bE), .unset, .unset, .unset, .unset] [])) _
      refine XS.aload X3.here hx rfl (hb hby at_42) rfl rfl ?_
      show Steps p.tables e below (T3.setTop (mkF m 44 #[.val (.int p1), .val (.int p2), .val (.int p3), .val (.int p4), .val (.int p5), .val (.int (2 : Int32)), .val (.ref bK), .val (.ref bE), .unset, .unset, .unset, .unset] [(.ref bK)])) _
      refine XS.iconst X3.here hx rfl (hb hby at_44) ?_
      show Steps p.tables e below (T3.setTop (mkF m 45 #[.val (.int p1), .val (.int p2), .val (.int p3), .val (.int p4), .val (.int p5), .val (.int (2 : Int32)), .val (.ref bK), .val (.ref bE), .unset, .unset, .unset, .unset] [(.int (1 : Int32)), (.ref bK)])) _
      refine XS.iloadN X3.here hx rfl (hb hby at_45) rfl ?_
      show Steps p.tables e below (T3.setTop (mkF m 46 #[.val (.int p1), .val (.int p2), .val (.int p3), .val (.int p4), .val (.int p5), .val (.int (2 : Int32)), .val (.ref bK), .val (.ref bE), .unset, .unset, .unset, .unset] [(.int p3), (.int (1 : Int32)), (.ref bK)])) _
      refine XS.i2b X3.here hx rfl (hb hby at_46) rfl ?_
      show Steps p.tables e below (T3.setTop (mkF m 47 #[.val (.int p1), .val (.int p2), .val (.int p3), .val (.int p4), .val (.int p5), .val (.int (2 : Int32)), .val (.ref bK), .val (.ref bE), .unset, .unset, .unset, .unset] [(.int (p3.toInt8.toInt32)), (.int (1 : Int32)), (.ref bK)])) _
      exact k
    obtain ⟨T4, L4, X4, N4, G4, ⟨sl4, w4, W4⟩, st4⟩ := own_storeB X3 hx hZ N3 gbK GK 47 #[.val (.int p1), .val (.int p2), .val (.int p3), .val (.int p4), .val (.int p5), .val (.int (2 : Int32)), .val (.ref bK), .val (.ref bE), .unset, .unset, .unset, .unset] [] (1 : Int32) (p3.toInt8.toInt32) 1 (by decide) (by decide) (by decide) (hb hby at_47)
    have GK := G4
    have GE := own_By_other W4 GE neKE.symm
    have r4 : ∀ t, Steps p.tables e below (T4.setTop (mkF m 48 #[.val (.int p1), .val (.int p2), .val (.int p3), .val (.int p4), .val (.int p5), .val (.int (2 : Int32)), .val (.ref bK), .val (.ref bE), .unset, .unset, .unset, .unset] [])) t → Steps p.tables e below (s₁.setTop (mkF m 0 #[.val (.int p1), .val (.int p2), .val (.int p3), .val (.int p4), .val (.int p5), .unset, .unset, .unset, .unset, .unset, .unset, .unset] [])) t := fun t k => r3 t (s4 t (st4 t k))
    have s5 : ∀ t, Steps p.tables e below (T4.setTop (mkF m 53 #[.val (.int p1), .val (.int p2), .val (.int p3), .val (.int p4), .val (.int p5), .val (.int (2 : Int32)), .val (.ref bK), .val (.ref bE), .unset, .unset, .unset, .unset] [(.int (p3.toInt8.toInt32)), (.int (1 : Int32)), (.ref bE)])) t → Steps p.tables e below (T4.setTop (mkF m 48 #[.val (.int p1), .val (.int p2), .val (.int p3), .val (.int p4), .val (.int p5), .val (.int (2 : Int32)), .val (.ref bK), .val (.ref bE), .unset, .unset, .unset, .unset] [])) t := by
      intro t k
      show Steps p.tables e below (T4.setTop (mkF m 48 #[.val (.int p1), .val (.int p2), .val (.int p3), .val (.int p4), .val (.int p5), .val (.int (2 : Int32)), .val (.ref bK), .val (.ref bE), .unset, .unset, .unset, .unset] [])) _
      refine XS.aload X4.here hx rfl (hb hby at_48) rfl rfl ?_
      show Steps p.tables e below (T4.setTop (mkF m 50 #[.val (.int p1), .val (.int p2), .val (.int p3), .val (.int p4), .val (.int p5), .val (.int (2 : Int32)), .val (.ref bK), .val (.ref bE), .unset, .unset, .unset, .unset] [(.ref bE)])) _
      refine XS.iconst X4.here hx rfl (hb hby at_50) ?_
      show Steps p.tables e below (T4.setTop (mkF m 51 #[.val (.int p1), .val (.int p2), .val (.int p3), .val (.int p4), .val (.int p5), .val (.int (2 : Int32)), .val (.ref bK), .val (.ref bE), .unset, .unset, .unset, .unset] [(.int (1 : Int32)), (.ref bE)])) _
      refine XS.iloadN X4.here hx rfl (hb hby at_51) rfl ?_
      show Steps p.tables e below (T4.setTop (mkF m 52 #[.val (.int p1), .val (.int p2), .val (.int p3), .val (.int p4), .val (.int p5), .val (.int (2 : Int32)), .val (.ref bK), .val (.ref bE), .unset, .unset, .unset, .unset] [(.int p3), (.int (1 : Int32)), (.ref bE)])) _
      refine XS.i2b X4.here hx rfl (hb hby at_52) rfl ?_
      show Steps p.tables e below (T4.setTop (mkF m 53 #[.val (.int p1), .val (.int p2), .val (.int p3), .val (.int p4), .val (.int p5), .val (.int (2 : Int32)), .val (.ref bK), .val (.ref bE), .unset, .unset, .unset, .unset] [(.int (p3.toInt8.toInt32)), (.int (1 : Int32)), (.ref bE)])) _
      exact k
    obtain ⟨T5, L5, X5, N5, G5, ⟨sl5, w5, W5⟩, st5⟩ := own_storeB X4 hx hZ N4 gbE GE 53 #[.val (.int p1), .val (.int p2), .val (.int p3), .val (.int p4), .val (.int p5), .val (.int (2 : Int32)), .val (.ref bK), .val (.ref bE), .unset, .unset, .unset, .unset] [] (1 : Int32) (p3.toInt8.toInt32) 1 (by decide) (by decide) (by decide) (hb hby at_53)
    have GE := G5
    have GK := own_By_other W5 GK neKE
    have r5 : ∀ t, Steps p.tables e below (T5.setTop (mkF m 54 #[.val (.int p1), .val (.int p2), .val (.int p3), .val (.int p4), .val (.int p5), .val (.int (2 : Int32)), .val (.ref bK), .val (.ref bE), .unset, .unset, .unset, .unset] [])) t → Steps p.tables e below (s₁.setTop (mkF m 0 #[.val (.int p1), .val (.int p2), .val (.int p3), .val (.int p4), .val (.int p5), .unset, .unset, .unset, .unset, .unset, .unset, .unset] [])) t := fun t k => r4 t (s5 t (st5 t k))
    have s6 : ∀ t, Steps p.tables e below (T5.setTop (mkF m 79 #[.val (.int p1), .val (.int p2), .val (.int p3), .val (.int p4), .val (.int p5), .val (.int (2 : Int32)), .val (.ref bK), .val (.ref bE), .unset, .unset, .unset, .unset] [(.int (p5.toInt8.toInt32)), (.int (2 : Int32)), (.ref bE)])) t → Steps p.tables e below (T5.setTop (mkF m 54 #[.val (.int p1), .val (.int p2), .val (.int p3), .val (.int p4), .val (.int p5), .val (.int (2 : Int32)), .val (.ref bK), .val (.ref bE), .unset, .unset, .unset, .unset] [])) t := by
      intro t k
      show Steps p.tables e below (T5.setTop (mkF m 54 #[.val (.int p1), .val (.int p2), .val (.int p3), .val (.int p4), .val (.int p5), .val (.int (2 : Int32)), .val (.ref bK), .val (.ref bE), .unset, .unset, .unset, .unset] [])) _
      refine XS.iload X5.here hx rfl (hb hby at_54) rfl ?_
      show Steps p.tables e below (T5.setTop (mkF m 56 #[.val (.int p1), .val (.int p2), .val (.int p3), .val (.int p4), .val (.int p5), .val (.int (2 : Int32)), .val (.ref bK), .val (.ref bE), .unset, .unset, .unset, .unset] [(.int (2 : Int32))])) _
      refine XS.iconst X5.here hx rfl (hb hby at_56) ?_
      show Steps p.tables e below (T5.setTop (mkF m 57 #[.val (.int p1), .val (.int p2), .val (.int p3), .val (.int p4), .val (.int p5), .val (.int (2 : Int32)), .val (.ref bK), .val (.ref bE), .unset, .unset, .unset, .unset] [(.int (2 : Int32)), (.int (2 : Int32))])) _
      refine XS.icmpYes X5.here hx rfl (pc0 := 57) (pc' := 72) rfl (hb hby at_57) rfl (XT.ii_le_t (by decide)) (by decide) (by decide) ?_
      show Steps p.tables e below (T5.setTop (mkF m 72 #[.val (.int p1), .val (.int p2), .val (.int p3), .val (.int p4), .val (.int p5), .val (.int (2 : Int32)), .val (.ref bK), .val (.ref bE), .unset, .unset, .unset, .unset] [])) _
      refine XS.aload X5.here hx rfl (hb hby at_72) rfl rfl ?_
      show Steps p.tables e below (T5.setTop (mkF m 74 #[.val (.int p1), .val (.int p2), .val (.int p3), .val (.int p4), .val (.int p5), .val (.int (2 : Int32)), .val (.ref bK), .val (.ref bE), .unset, .unset, .unset, .unset] [(.ref bE)])) _
      refine XS.iload X5.here hx rfl (hb hby at_74) rfl ?_
      show Steps p.tables e below (T5.setTop (mkF m 76 #[.val (.int p1), .val (.int p2), .val (.int p3), .val (.int p4), .val (.int p5), .val (.int (2 : Int32)), .val (.ref bK), .val (.ref bE), .unset, .unset, .unset, .unset] [(.int (2 : Int32)), (.ref bE)])) _
      refine XS.iload X5.here hx rfl (hb hby at_76) rfl ?_
      show Steps p.tables e below (T5.setTop (mkF m 78 #[.val (.int p1), .val (.int p2), .val (.int p3), .val (.int p4), .val (.int p5), .val (.int (2 : Int32)), .val (.ref bK), .val (.ref bE), .unset, .unset, .unset, .unset] [(.int p5), (.int (2 : Int32)), (.ref bE)])) _
      refine XS.i2b X5.here hx rfl (hb hby at_78) rfl ?_
      show Steps p.tables e below (T5.setTop (mkF m 79 #[.val (.int p1), .val (.int p2), .val (.int p3), .val (.int p4), .val (.int p5), .val (.int (2 : Int32)), .val (.ref bK), .val (.ref bE), .unset, .unset, .unset, .unset] [(.int (p5.toInt8.toInt32)), (.int (2 : Int32)), (.ref bE)])) _
      exact k
    obtain ⟨T6, L6, X6, N6, G6, ⟨sl6, w6, W6⟩, st6⟩ := own_storeB X5 hx hZ N5 gbE GE 79 #[.val (.int p1), .val (.int p2), .val (.int p3), .val (.int p4), .val (.int p5), .val (.int (2 : Int32)), .val (.ref bK), .val (.ref bE), .unset, .unset, .unset, .unset] [] (2 : Int32) (p5.toInt8.toInt32) 2 (by decide) (by decide) (by decide) (hb hby at_79)
    have GE := G6
    have GK := own_By_other W6 GK neKE
    have r6 : ∀ t, Steps p.tables e below (T6.setTop (mkF m 80 #[.val (.int p1), .val (.int p2), .val (.int p3), .val (.int p4), .val (.int p5), .val (.int (2 : Int32)), .val (.ref bK), .val (.ref bE), .unset, .unset, .unset, .unset] [])) t → Steps p.tables e below (s₁.setTop (mkF m 0 #[.val (.int p1), .val (.int p2), .val (.int p3), .val (.int p4), .val (.int p5), .unset, .unset, .unset, .unset, .unset, .unset, .unset] [])) t := fun t k => r5 t (s6 t (st6 t k))
    have Zq : n0 ≤ T6.heap.size := Nat.le_trans gbK (Nat.le_of_lt (own_By_lt GK))
    have s7 : ∀ t, Steps p.tables e below (T6.setTop (mkF m 82 #[.val (.int p1), .val (.int p2), .val (.int p3), .val (.int p4), .val (.int p5), .val (.int (2 : Int32)), .val (.ref bK), .val (.ref bE), .unset, .unset, .unset, .unset] [(.ref bK)])) t → Steps p.tables e below (T6.setTop (mkF m 80 #[.val (.int p1), .val (.int p2), .val (.int p3), .val (.int p4), .val (.int p5), .val (.int (2 : Int32)), .val (.ref bK), .val (.ref bE), .unset, .unset, .unset, .unset] [])) t := by
      intro t k
      show Steps p.tables e below (T6.setTop (mkF m 80 #[.val (.int p1), .val (.int p2), .val (.int p3), .val (.int p4), .val (.int p5), .val (.int (2 : Int32)), .val (.ref bK), .val (.ref bE), .unset, .unset, .unset, .unset] [])) _
      refine XS.aload X6.here hx rfl (hb hby at_80) rfl rfl ?_
      show Steps p.tables e below (T6.setTop (mkF m 82 #[.val (.int p1), .val (.int p2), .val (.int p3), .val (.int p4), .val (.int p5), .val (.int (2 : Int32)), .val (.ref bK), .val (.ref bE), .unset, .unset, .unset, .unset] [(.ref bK)])) _
      exact k
    obtain ⟨_, _, ⟨T7, L7, k7, n7⟩, -, X7, ⟨Lc7, hQ7, l7, y7, z7⟩, st7⟩ := Jvm.LawKit.callS X6 hx (y := (⟨"com/example/kellar/kellar/schema/KeyTable", "hash", "([B)I"⟩ : MethodName)) hown (mvT hZ (hw _ (List.mem_of_getElem? (i := 1) rfl))) (mvT hZ (hw _ (List.mem_of_getElem? (i := 2) rfl))) (mvT hZ (hw _ (List.mem_of_getElem? (i := 3) rfl))) (mvT hZ (hw _ (List.mem_of_getElem? (i := 4) rfl))) (by decide) (backOf (W := 0) (rm1 l Z a0 hw [] bK 2 (own_upd (own_upd (fun _ => 0) 0 (p2.toInt8.toInt32).toInt8.toInt32) 1 (p3.toInt8.toInt32).toInt8.toInt32) T6.heap n0 Zq (by decide) GK) hZ (hw _ (List.mem_of_getElem? (i := 4) rfl)) (hw _ (List.mem_of_getElem? (i := 3) rfl)) (by decide) (by decide)) (g := (mkF m 82 #[.val (.int p1), .val (.int p2), .val (.int p3), .val (.int p4), .val (.int p5), .val (.int (2 : Int32)), .val (.ref bK), .val (.ref bE), .unset, .unset, .unset, .unset] [(.ref bK)])) rfl (by rw [hml]; rfl) (argsL := [(.ref bK)]) (rest := []) (lenOf pd__AB_I rfl) rfl (by show 2 * 0 + _ ≤ _; exact Nat.le_of_eq rfl) (hb hby at_82) (fun _ _ => ⟨rfl, rfl, (by decide : 2 + 0 ≤ _), (by decide : 5 + 0 ≤ _)⟩)
    dsimp only [Pt.U, Pt.locs, Pt.cells, Pt.slots] at X7 l7 y7 z7 st7 hQ7
    subst l7 y7 z7
    obtain ⟨rfl, N7q, e7⟩ := hQ7
    have N7 := Fr.app N6 N7q
    rw [← e7] at Zq GK GE
    have r7 : ∀ t, Steps p.tables e below (T7.setTop (mkF m 85 #[.val (.int p1), .val (.int p2), .val (.int p3), .val (.int p4), .val (.int p5), .val (.int (2 : Int32)), .val (.ref bK), .val (.ref bE), .unset, .unset, .unset, .unset] [(.int (own_mix (own_fnv (own_upd (own_upd (fun _ => 0) 0 (p2.toInt8.toInt32).toInt8.toInt32) 1 (p3.toInt8.toInt32).toInt8.toInt32) 2)))])) t → Steps p.tables e below (s₁.setTop (mkF m 0 #[.val (.int p1), .val (.int p2), .val (.int p3), .val (.int p4), .val (.int p5), .unset, .unset, .unset, .unset, .unset, .unset, .unset] [])) t := fun t k => r6 t (s7 t (st7 _  k))
    have s8 : ∀ t, Steps p.tables e below (T7.setTop (mkF m 85 #[.val (.int p1), .val (.int p2), .val (.int p3), .val (.int p4), .val (.int p5), .val (.int (2 : Int32)), .val (.ref bK), .val (.ref bE), .unset, .unset, .unset, .unset] [(.int (own_mix (own_fnv (own_upd (own_upd (fun _ => 0) 0 (p2.toInt8.toInt32).toInt8.toInt32) 1 (p3.toInt8.toInt32).toInt8.toInt32) 2)))])) t → Steps p.tables e below (T7.setTop (mkF m 85 #[.val (.int p1), .val (.int p2), .val (.int p3), .val (.int p4), .val (.int p5), .val (.int (2 : Int32)), .val (.ref bK), .val (.ref bE), .unset, .unset, .unset, .unset] [(.int (own_mix (own_fnv (own_upd (own_upd (fun _ => 0) 0 (p2.toInt8.toInt32).toInt8.toInt32) 1 (p3.toInt8.toInt32).toInt8.toInt32) 2)))])) t := by
      intro t k
      show Steps p.tables e below (T7.setTop (mkF m 85 #[.val (.int p1), .val (.int p2), .val (.int p3), .val (.int p4), .val (.int p5), .val (.int (2 : Int32)), .val (.ref bK), .val (.ref bE), .unset, .unset, .unset, .unset] [(.int (own_mix (own_fnv (own_upd (own_upd (fun _ => 0) 0 (p2.toInt8.toInt32).toInt8.toInt32) 1 (p3.toInt8.toInt32).toInt8.toInt32) 2)))])) _
      exact k
    obtain ⟨_, _, ⟨T8, L8, k8, n8⟩, -, X8, ⟨Lc8, hQ8, l8, y8, z8⟩, st8⟩ := Jvm.LawKit.callS X7 hx (y := (⟨"com/example/kellar/kellar/schema/KeyTableHashPinLaw", "unmix", "(I)I"⟩ : MethodName)) hown (mvT hZ (hw _ (List.mem_of_getElem? (i := 7) rfl))) (mvT hZ (hw _ (List.mem_of_getElem? (i := 8) rfl))) (mvT hZ (hw _ (List.mem_of_getElem? (i := 9) rfl))) (mvT hZ (hw _ (List.mem_of_getElem? (i := 10) rfl))) (by decide) (backOf (W := 0) (rm2 l Z a0 hw [] (own_mix (own_fnv (own_upd (own_upd (fun _ => 0) 0 (p2.toInt8.toInt32).toInt8.toInt32) 1 (p3.toInt8.toInt32).toInt8.toInt32) 2)) T7.heap n0 Zq) hZ (hw _ (List.mem_of_getElem? (i := 10) rfl)) (hw _ (List.mem_of_getElem? (i := 9) rfl)) (by decide) (by decide)) (g := (mkF m 85 #[.val (.int p1), .val (.int p2), .val (.int p3), .val (.int p4), .val (.int p5), .val (.int (2 : Int32)), .val (.ref bK), .val (.ref bE), .unset, .unset, .unset, .unset] [(.int (own_mix (own_fnv (own_upd (own_upd (fun _ => 0) 0 (p2.toInt8.toInt32).toInt8.toInt32) 1 (p3.toInt8.toInt32).toInt8.toInt32) 2)))])) rfl (by rw [hml]; rfl) (argsL := [(.int (own_mix (own_fnv (own_upd (own_upd (fun _ => 0) 0 (p2.toInt8.toInt32).toInt8.toInt32) 1 (p3.toInt8.toInt32).toInt8.toInt32) 2)))]) (rest := []) (lenOf pd__I_I rfl) rfl (by show 2 * 0 + _ ≤ _; exact Nat.le_of_eq rfl) (hb hby at_85) (fun _ _ => ⟨rfl, rfl, (by decide : 2 + 0 ≤ _), (by decide : 5 + 0 ≤ _)⟩)
    dsimp only [Pt.U, Pt.locs, Pt.cells, Pt.slots] at X8 l8 y8 z8 st8 hQ8
    subst l8 y8 z8
    obtain ⟨rfl, N8q, e8⟩ := hQ8
    have N8 := Fr.app N7 N8q
    rw [← e8] at Zq GK GE
    rw [own_um] at st8
    have r8 : ∀ t, Steps p.tables e below (T8.setTop (mkF m 88 #[.val (.int p1), .val (.int p2), .val (.int p3), .val (.int p4), .val (.int p5), .val (.int (2 : Int32)), .val (.ref bK), .val (.ref bE), .unset, .unset, .unset, .unset] [(.int (own_fnv (own_upd (own_upd (fun _ => 0) 0 (p2.toInt8.toInt32).toInt8.toInt32) 1 (p3.toInt8.toInt32).toInt8.toInt32) 2))])) t → Steps p.tables e below (s₁.setTop (mkF m 0 #[.val (.int p1), .val (.int p2), .val (.int p3), .val (.int p4), .val (.int p5), .unset, .unset, .unset, .unset, .unset, .unset, .unset] [])) t := fun t k => r7 t (s8 t (st8 _  k))
    have s9 : ∀ t, Steps p.tables e below (T8.setTop (mkF m 92 #[.val (.int p1), .val (.int p2), .val (.int p3), .val (.int p4), .val (.int p5), .val (.int (2 : Int32)), .val (.ref bK), .val (.ref bE), .val (.int (own_fnv (own_upd (own_upd (fun _ => 0) 0 (p2.toInt8.toInt32).toInt8.toInt32) 1 (p3.toInt8.toInt32).toInt8.toInt32) 2)), .unset, .unset, .unset] [(.ref bE)])) t → Steps p.tables e below (T8.setTop (mkF m 88 #[.val (.int p1), .val (.int p2), .val (.int p3), .val (.int p4), .val (.int p5), .val (.int (2 : Int32)), .val (.ref bK), .val (.ref bE), .unset, .unset, .unset, .unset] [(.int (own_fnv (own_upd (own_upd (fun _ => 0) 0 (p2.toInt8.toInt32).toInt8.toInt32) 1 (p3.toInt8.toInt32).toInt8.toInt32) 2))])) t := by
      intro t k
      show Steps p.tables e below (T8.setTop (mkF m 88 #[.val (.int p1), .val (.int p2), .val (.int p3), .val (.int p4), .val (.int p5), .val (.int (2 : Int32)), .val (.ref bK), .val (.ref bE), .unset, .unset, .unset, .unset] [(.int (own_fnv (own_upd (own_upd (fun _ => 0) 0 (p2.toInt8.toInt32).toInt8.toInt32) 1 (p3.toInt8.toInt32).toInt8.toInt32) 2))])) _
      refine XS.istore X8.here hx rfl (hb hby at_88) rfl (l' := #[.val (.int p1), .val (.int p2), .val (.int p3), .val (.int p4), .val (.int p5), .val (.int (2 : Int32)), .val (.ref bK), .val (.ref bE), .val (.int (own_fnv (own_upd (own_upd (fun _ => 0) 0 (p2.toInt8.toInt32).toInt8.toInt32) 1 (p3.toInt8.toInt32).toInt8.toInt32) 2)), .unset, .unset, .unset]) rfl ?_
      show Steps p.tables e below (T8.setTop (mkF m 90 #[.val (.int p1), .val (.int p2), .val (.int p3), .val (.int p4), .val (.int p5), .val (.int (2 : Int32)), .val (.ref bK), .val (.ref bE), .val (.int (own_fnv (own_upd (own_upd (fun _ => 0) 0 (p2.toInt8.toInt32).toInt8.toInt32) 1 (p3.toInt8.toInt32).toInt8.toInt32) 2)), .unset, .unset, .unset] [])) _
      refine XS.aload X8.here hx rfl (hb hby at_90) rfl rfl ?_
      show Steps p.tables e below (T8.setTop (mkF m 92 #[.val (.int p1), .val (.int p2), .val (.int p3), .val (.int p4), .val (.int p5), .val (.int (2 : Int32)), .val (.ref bK), .val (.ref bE), .val (.int (own_fnv (own_upd (own_upd (fun _ => 0) 0 (p2.toInt8.toInt32).toInt8.toInt32) 1 (p3.toInt8.toInt32).toInt8.toInt32) 2)), .unset, .unset, .unset] [(.ref bE)])) _
      exact k
    obtain ⟨_, _, ⟨T9, L9, k9, n9⟩, -, X9, ⟨Lc9, hQ9, l9, y9, z9⟩, st9⟩ := Jvm.LawKit.callS X8 hx (y := (⟨"com/example/kellar/kellar/schema/KeyTable", "hash", "([B)I"⟩ : MethodName)) hown (mvT hZ (hw _ (List.mem_of_getElem? (i := 1) rfl))) (mvT hZ (hw _ (List.mem_of_getElem? (i := 2) rfl))) (mvT hZ (hw _ (List.mem_of_getElem? (i := 3) rfl))) (mvT hZ (hw _ (List.mem_of_getElem? (i := 4) rfl))) (by decide) (backOf (W := 0) (rm1 l Z a0 hw [] bE 3 (own_upd (own_upd (own_upd (fun _ => 0) 0 (p2.toInt8.toInt32).toInt8.toInt32) 1 (p3.toInt8.toInt32).toInt8.toInt32) 2 (p5.toInt8.toInt32).toInt8.toInt32) T8.heap n0 Zq (by decide) GE) hZ (hw _ (List.mem_of_getElem? (i := 4) rfl)) (hw _ (List.mem_of_getElem? (i := 3) rfl)) (by decide) (by decide)) (g := (mkF m 92 #[.val (.int p1), .val (.int p2), .val (.int p3), .val (.int p4), .val (.int p5), .val (.int (2 : Int32)), .val (.ref bK), .val (.ref bE), .val (.int (own_fnv (own_upd (own_upd (fun _ => 0) 0 (p2.toInt8.toInt32).toInt8.toInt32) 1 (p3.toInt8.toInt32).toInt8.toInt32) 2)), .unset, .unset, .unset] [(.ref bE)])) rfl (by rw [hml]; rfl) (argsL := [(.ref bE)]) (rest := []) (lenOf pd__AB_I rfl) rfl (by show 2 * 0 + _ ≤ _; exact Nat.le_of_eq rfl) (hb hby at_92) (fun _ _ => ⟨rfl, rfl, (by decide : 2 + 0 ≤ _), (by decide : 5 + 0 ≤ _)⟩)
    dsimp only [Pt.U, Pt.locs, Pt.cells, Pt.slots] at X9 l9 y9 z9 st9 hQ9
    subst l9 y9 z9
    obtain ⟨rfl, N9q, e9⟩ := hQ9
    have N9 := Fr.app N8 N9q
    rw [← e9] at Zq GK GE
    have r9 : ∀ t, Steps p.tables e below (T9.setTop (mkF m 95 #[.val (.int p1), .val (.int p2), .val (.int p3), .val (.int p4), .val (.int p5), .val (.int (2 : Int32)), .val (.ref bK), .val (.ref bE), .val (.int (own_fnv (own_upd (own_upd (fun _ => 0) 0 (p2.toInt8.toInt32).toInt8.toInt32) 1 (p3.toInt8.toInt32).toInt8.toInt32) 2)), .unset, .unset, .unset] [(.int (own_mix (own_fnv (own_upd (own_upd (own_upd (fun _ => 0) 0 (p2.toInt8.toInt32).toInt8.toInt32) 1 (p3.toInt8.toInt32).toInt8.toInt32) 2 (p5.toInt8.toInt32).toInt8.toInt32) 3)))])) t → Steps p.tables e below (s₁.setTop (mkF m 0 #[.val (.int p1), .val (.int p2), .val (.int p3), .val (.int p4), .val (.int p5), .unset, .unset, .unset, .unset, .unset, .unset, .unset] [])) t := fun t k => r8 t (s9 t (st9 _  k))
    have s10 : ∀ t, Steps p.tables e below (T9.setTop (mkF m 95 #[.val (.int p1), .val (.int p2), .val (.int p3), .val (.int p4), .val (.int p5), .val (.int (2 : Int32)), .val (.ref bK), .val (.ref bE), .val (.int (own_fnv (own_upd (own_upd (fun _ => 0) 0 (p2.toInt8.toInt32).toInt8.toInt32) 1 (p3.toInt8.toInt32).toInt8.toInt32) 2)), .unset, .unset, .unset] [(.int (own_mix (own_fnv (own_upd (own_upd (own_upd (fun _ => 0) 0 (p2.toInt8.toInt32).toInt8.toInt32) 1 (p3.toInt8.toInt32).toInt8.toInt32) 2 (p5.toInt8.toInt32).toInt8.toInt32) 3)))])) t → Steps p.tables e below (T9.setTop (mkF m 95 #[.val (.int p1), .val (.int p2), .val (.int p3), .val (.int p4), .val (.int p5), .val (.int (2 : Int32)), .val (.ref bK), .val (.ref bE), .val (.int (own_fnv (own_upd (own_upd (fun _ => 0) 0 (p2.toInt8.toInt32).toInt8.toInt32) 1 (p3.toInt8.toInt32).toInt8.toInt32) 2)), .unset, .unset, .unset] [(.int (own_mix (own_fnv (own_upd (own_upd (own_upd (fun _ => 0) 0 (p2.toInt8.toInt32).toInt8.toInt32) 1 (p3.toInt8.toInt32).toInt8.toInt32) 2 (p5.toInt8.toInt32).toInt8.toInt32) 3)))])) t := by
      intro t k
      show Steps p.tables e below (T9.setTop (mkF m 95 #[.val (.int p1), .val (.int p2), .val (.int p3), .val (.int p4), .val (.int p5), .val (.int (2 : Int32)), .val (.ref bK), .val (.ref bE), .val (.int (own_fnv (own_upd (own_upd (fun _ => 0) 0 (p2.toInt8.toInt32).toInt8.toInt32) 1 (p3.toInt8.toInt32).toInt8.toInt32) 2)), .unset, .unset, .unset] [(.int (own_mix (own_fnv (own_upd (own_upd (own_upd (fun _ => 0) 0 (p2.toInt8.toInt32).toInt8.toInt32) 1 (p3.toInt8.toInt32).toInt8.toInt32) 2 (p5.toInt8.toInt32).toInt8.toInt32) 3)))])) _
      exact k
    obtain ⟨_, _, ⟨T10, L10, k10, n10⟩, -, X10, ⟨Lc10, hQ10, l10, y10, z10⟩, st10⟩ := Jvm.LawKit.callS X9 hx (y := (⟨"com/example/kellar/kellar/schema/KeyTableHashPinLaw", "unmix", "(I)I"⟩ : MethodName)) hown (mvT hZ (hw _ (List.mem_of_getElem? (i := 7) rfl))) (mvT hZ (hw _ (List.mem_of_getElem? (i := 8) rfl))) (mvT hZ (hw _ (List.mem_of_getElem? (i := 9) rfl))) (mvT hZ (hw _ (List.mem_of_getElem? (i := 10) rfl))) (by decide) (backOf (W := 0) (rm2 l Z a0 hw [] (own_mix (own_fnv (own_upd (own_upd (own_upd (fun _ => 0) 0 (p2.toInt8.toInt32).toInt8.toInt32) 1 (p3.toInt8.toInt32).toInt8.toInt32) 2 (p5.toInt8.toInt32).toInt8.toInt32) 3)) T9.heap n0 Zq) hZ (hw _ (List.mem_of_getElem? (i := 10) rfl)) (hw _ (List.mem_of_getElem? (i := 9) rfl)) (by decide) (by decide)) (g := (mkF m 95 #[.val (.int p1), .val (.int p2), .val (.int p3), .val (.int p4), .val (.int p5), .val (.int (2 : Int32)), .val (.ref bK), .val (.ref bE), .val (.int (own_fnv (own_upd (own_upd (fun _ => 0) 0 (p2.toInt8.toInt32).toInt8.toInt32) 1 (p3.toInt8.toInt32).toInt8.toInt32) 2)), .unset, .unset, .unset] [(.int (own_mix (own_fnv (own_upd (own_upd (own_upd (fun _ => 0) 0 (p2.toInt8.toInt32).toInt8.toInt32) 1 (p3.toInt8.toInt32).toInt8.toInt32) 2 (p5.toInt8.toInt32).toInt8.toInt32) 3)))])) rfl (by rw [hml]; rfl) (argsL := [(.int (own_mix (own_fnv (own_upd (own_upd (own_upd (fun _ => 0) 0 (p2.toInt8.toInt32).toInt8.toInt32) 1 (p3.toInt8.toInt32).toInt8.toInt32) 2 (p5.toInt8.toInt32).toInt8.toInt32) 3)))]) (rest := []) (lenOf pd__I_I rfl) rfl (by show 2 * 0 + _ ≤ _; exact Nat.le_of_eq rfl) (hb hby at_95) (fun _ _ => ⟨rfl, rfl, (by decide : 2 + 0 ≤ _), (by decide : 5 + 0 ≤ _)⟩)
    dsimp only [Pt.U, Pt.locs, Pt.cells, Pt.slots] at X10 l10 y10 z10 st10 hQ10
    subst l10 y10 z10
    obtain ⟨rfl, N10q, e10⟩ := hQ10
    have N10 := Fr.app N9 N10q
    rw [← e10] at Zq GK GE
    rw [own_um] at st10
    have r10 : ∀ t, Steps p.tables e below (T10.setTop (mkF m 98 #[.val (.int p1), .val (.int p2), .val (.int p3), .val (.int p4), .val (.int p5), .val (.int (2 : Int32)), .val (.ref bK), .val (.ref bE), .val (.int (own_fnv (own_upd (own_upd (fun _ => 0) 0 (p2.toInt8.toInt32).toInt8.toInt32) 1 (p3.toInt8.toInt32).toInt8.toInt32) 2)), .unset, .unset, .unset] [(.int (own_fnv (own_upd (own_upd (own_upd (fun _ => 0) 0 (p2.toInt8.toInt32).toInt8.toInt32) 1 (p3.toInt8.toInt32).toInt8.toInt32) 2 (p5.toInt8.toInt32).toInt8.toInt32) 3))])) t → Steps p.tables e below (s₁.setTop (mkF m 0 #[.val (.int p1), .val (.int p2), .val (.int p3), .val (.int p4), .val (.int p5), .unset, .unset, .unset, .unset, .unset, .unset, .unset] [])) t := fun t k => r9 t (s10 t (st10 _  k))
    have hstep : (own_fnv (own_upd (own_upd (own_upd (fun _ => 0) 0 (p2.toInt8.toInt32).toInt8.toInt32) 1 (p3.toInt8.toInt32).toInt8.toInt32) 2 (p5.toInt8.toInt32).toInt8.toInt32) 3) = (((own_fnv (own_upd (own_upd (fun _ => 0) 0 (p2.toInt8.toInt32).toInt8.toInt32) 1 (p3.toInt8.toInt32).toInt8.toInt32) 2) ^^^ (p5 &&& (255 : Int32))) * (16777619 : Int32)) := by
      rw [own_fnv_succ, own_fnv_congr (N := 2) (g := (own_upd (own_upd (fun _ => 0) 0 (p2.toInt8.toInt32).toInt8.toInt32) 1 (p3.toInt8.toInt32).toInt8.toInt32)) (fun k hk => by
        match k, hk with
        | 0, _ => simp [own_upd]
        | 1, _ => simp [own_upd]
        ), show (own_upd (own_upd (own_upd (fun _ => 0) 0 (p2.toInt8.toInt32).toInt8.toInt32) 1 (p3.toInt8.toInt32).toInt8.toInt32) 2 (p5.toInt8.toInt32).toInt8.toInt32) 2 = (p5.toInt8.toInt32).toInt8.toInt32 from by simp [own_upd], own_by2 p5, own_byff p5]
    have s11 : ∀ t, Steps p.tables e below (T10.setTop (mkF m 158 #[.val (.int p1), .val (.int p2), .val (.int p3), .val (.int p4), .val (.int p5), .val (.int (2 : Int32)), .val (.ref bK), .val (.ref bE), .val (.int (own_fnv (own_upd (own_upd (fun _ => 0) 0 (p2.toInt8.toInt32).toInt8.toInt32) 1 (p3.toInt8.toInt32).toInt8.toInt32) 2)), .val (.int (own_fnv (own_upd (own_upd (own_upd (fun _ => 0) 0 (p2.toInt8.toInt32).toInt8.toInt32) 1 (p3.toInt8.toInt32).toInt8.toInt32) 2 (p5.toInt8.toInt32).toInt8.toInt32) 3)), .val (.int (1 : Int32)), .val (.int (1 : Int32))] [(.int (1 : Int32))])) t → Steps p.tables e below (T10.setTop (mkF m 98 #[.val (.int p1), .val (.int p2), .val (.int p3), .val (.int p4), .val (.int p5), .val (.int (2 : Int32)), .val (.ref bK), .val (.ref bE), .val (.int (own_fnv (own_upd (own_upd (fun _ => 0) 0 (p2.toInt8.toInt32).toInt8.toInt32) 1 (p3.toInt8.toInt32).toInt8.toInt32) 2)), .unset, .unset, .unset] [(.int (own_fnv (own_upd (own_upd (own_upd (fun _ => 0) 0 (p2.toInt8.toInt32).toInt8.toInt32) 1 (p3.toInt8.toInt32).toInt8.toInt32) 2 (p5.toInt8.toInt32).toInt8.toInt32) 3))])) t := by
      intro t k
      show Steps p.tables e below (T10.setTop (mkF m 98 #[.val (.int p1), .val (.int p2), .val (.int p3), .val (.int p4), .val (.int p5), .val (.int (2 : Int32)), .val (.ref bK), .val (.ref bE), .val (.int (own_fnv (own_upd (own_upd (fun _ => 0) 0 (p2.toInt8.toInt32).toInt8.toInt32) 1 (p3.toInt8.toInt32).toInt8.toInt32) 2)), .unset, .unset, .unset] [(.int (own_fnv (own_upd (own_upd (own_upd (fun _ => 0) 0 (p2.toInt8.toInt32).toInt8.toInt32) 1 (p3.toInt8.toInt32).toInt8.toInt32) 2 (p5.toInt8.toInt32).toInt8.toInt32) 3))])) _
      refine XS.istore X10.here hx rfl (hb hby at_98) rfl (l' := #[.val (.int p1), .val (.int p2), .val (.int p3), .val (.int p4), .val (.int p5), .val (.int (2 : Int32)), .val (.ref bK), .val (.ref bE), .val (.int (own_fnv (own_upd (own_upd (fun _ => 0) 0 (p2.toInt8.toInt32).toInt8.toInt32) 1 (p3.toInt8.toInt32).toInt8.toInt32) 2)), .val (.int (own_fnv (own_upd (own_upd (own_upd (fun _ => 0) 0 (p2.toInt8.toInt32).toInt8.toInt32) 1 (p3.toInt8.toInt32).toInt8.toInt32) 2 (p5.toInt8.toInt32).toInt8.toInt32) 3)), .unset, .unset]) rfl ?_
      show Steps p.tables e below (T10.setTop (mkF m 100 #[.val (.int p1), .val (.int p2), .val (.int p3), .val (.int p4), .val (.int p5), .val (.int (2 : Int32)), .val (.ref bK), .val (.ref bE), .val (.int (own_fnv (own_upd (own_upd (fun _ => 0) 0 (p2.toInt8.toInt32).toInt8.toInt32) 1 (p3.toInt8.toInt32).toInt8.toInt32) 2)), .val (.int (own_fnv (own_upd (own_upd (own_upd (fun _ => 0) 0 (p2.toInt8.toInt32).toInt8.toInt32) 1 (p3.toInt8.toInt32).toInt8.toInt32) 2 (p5.toInt8.toInt32).toInt8.toInt32) 3)), .unset, .unset] [])) _
      refine XS.iload X10.here hx rfl (hb hby at_100) rfl ?_
      show Steps p.tables e below (T10.setTop (mkF m 102 #[.val (.int p1), .val (.int p2), .val (.int p3), .val (.int p4), .val (.int p5), .val (.int (2 : Int32)), .val (.ref bK), .val (.ref bE), .val (.int (own_fnv (own_upd (own_upd (fun _ => 0) 0 (p2.toInt8.toInt32).toInt8.toInt32) 1 (p3.toInt8.toInt32).toInt8.toInt32) 2)), .val (.int (own_fnv (own_upd (own_upd (own_upd (fun _ => 0) 0 (p2.toInt8.toInt32).toInt8.toInt32) 1 (p3.toInt8.toInt32).toInt8.toInt32) 2 (p5.toInt8.toInt32).toInt8.toInt32) 3)), .unset, .unset] [(.int (2 : Int32))])) _
      refine XS.ifYes X10.here hx rfl (pc0 := 102) (pc' := 112) rfl (hb hby at_102) rfl (XT.i0_ne_t (by decide)) (by decide) (by decide) ?_
      show Steps p.tables e below (T10.setTop (mkF m 112 #[.val (.int p1), .val (.int p2), .val (.int p3), .val (.int p4), .val (.int p5), .val (.int (2 : Int32)), .val (.ref bK), .val (.ref bE), .val (.int (own_fnv (own_upd (own_upd (fun _ => 0) 0 (p2.toInt8.toInt32).toInt8.toInt32) 1 (p3.toInt8.toInt32).toInt8.toInt32) 2)), .val (.int (own_fnv (own_upd (own_upd (own_upd (fun _ => 0) 0 (p2.toInt8.toInt32).toInt8.toInt32) 1 (p3.toInt8.toInt32).toInt8.toInt32) 2 (p5.toInt8.toInt32).toInt8.toInt32) 3)), .unset, .unset] [])) _
      refine XS.iconst X10.here hx rfl (hb hby at_112) ?_
      show Steps p.tables e below (T10.setTop (mkF m 113 #[.val (.int p1), .val (.int p2), .val (.int p3), .val (.int p4), .val (.int p5), .val (.int (2 : Int32)), .val (.ref bK), .val (.ref bE), .val (.int (own_fnv (own_upd (own_upd (fun _ => 0) 0 (p2.toInt8.toInt32).toInt8.toInt32) 1 (p3.toInt8.toInt32).toInt8.toInt32) 2)), .val (.int (own_fnv (own_upd (own_upd (own_upd (fun _ => 0) 0 (p2.toInt8.toInt32).toInt8.toInt32) 1 (p3.toInt8.toInt32).toInt8.toInt32) 2 (p5.toInt8.toInt32).toInt8.toInt32) 3)), .unset, .unset] [(.int (1 : Int32))])) _
      refine XS.goto X10.here hx rfl (pc0 := 113) (pc' := 117) rfl (hb hby at_113) (by decide) (by decide) ?_
      show Steps p.tables e below (T10.setTop (mkF m 117 #[.val (.int p1), .val (.int p2), .val (.int p3), .val (.int p4), .val (.int p5), .val (.int (2 : Int32)), .val (.ref bK), .val (.ref bE), .val (.int (own_fnv (own_upd (own_upd (fun _ => 0) 0 (p2.toInt8.toInt32).toInt8.toInt32) 1 (p3.toInt8.toInt32).toInt8.toInt32) 2)), .val (.int (own_fnv (own_upd (own_upd (own_upd (fun _ => 0) 0 (p2.toInt8.toInt32).toInt8.toInt32) 1 (p3.toInt8.toInt32).toInt8.toInt32) 2 (p5.toInt8.toInt32).toInt8.toInt32) 3)), .unset, .unset] [(.int (1 : Int32))])) _
      refine XS.istore X10.here hx rfl (hb hby at_117) rfl (l' := #[.val (.int p1), .val (.int p2), .val (.int p3), .val (.int p4), .val (.int p5), .val (.int (2 : Int32)), .val (.ref bK), .val (.ref bE), .val (.int (own_fnv (own_upd (own_upd (fun _ => 0) 0 (p2.toInt8.toInt32).toInt8.toInt32) 1 (p3.toInt8.toInt32).toInt8.toInt32) 2)), .val (.int (own_fnv (own_upd (own_upd (own_upd (fun _ => 0) 0 (p2.toInt8.toInt32).toInt8.toInt32) 1 (p3.toInt8.toInt32).toInt8.toInt32) 2 (p5.toInt8.toInt32).toInt8.toInt32) 3)), .val (.int (1 : Int32)), .unset]) rfl ?_
      show Steps p.tables e below (T10.setTop (mkF m 119 #[.val (.int p1), .val (.int p2), .val (.int p3), .val (.int p4), .val (.int p5), .val (.int (2 : Int32)), .val (.ref bK), .val (.ref bE), .val (.int (own_fnv (own_upd (own_upd (fun _ => 0) 0 (p2.toInt8.toInt32).toInt8.toInt32) 1 (p3.toInt8.toInt32).toInt8.toInt32) 2)), .val (.int (own_fnv (own_upd (own_upd (own_upd (fun _ => 0) 0 (p2.toInt8.toInt32).toInt8.toInt32) 1 (p3.toInt8.toInt32).toInt8.toInt32) 2 (p5.toInt8.toInt32).toInt8.toInt32) 3)), .val (.int (1 : Int32)), .unset] [])) _
      refine XS.iload X10.here hx rfl (hb hby at_119) rfl ?_
      show Steps p.tables e below (T10.setTop (mkF m 121 #[.val (.int p1), .val (.int p2), .val (.int p3), .val (.int p4), .val (.int p5), .val (.int (2 : Int32)), .val (.ref bK), .val (.ref bE), .val (.int (own_fnv (own_upd (own_upd (fun _ => 0) 0 (p2.toInt8.toInt32).toInt8.toInt32) 1 (p3.toInt8.toInt32).toInt8.toInt32) 2)), .val (.int (own_fnv (own_upd (own_upd (own_upd (fun _ => 0) 0 (p2.toInt8.toInt32).toInt8.toInt32) 1 (p3.toInt8.toInt32).toInt8.toInt32) 2 (p5.toInt8.toInt32).toInt8.toInt32) 3)), .val (.int (1 : Int32)), .unset] [(.int (own_fnv (own_upd (own_upd (own_upd (fun _ => 0) 0 (p2.toInt8.toInt32).toInt8.toInt32) 1 (p3.toInt8.toInt32).toInt8.toInt32) 2 (p5.toInt8.toInt32).toInt8.toInt32) 3))])) _
      refine XS.iload X10.here hx rfl (hb hby at_121) rfl ?_
      show Steps p.tables e below (T10.setTop (mkF m 123 #[.val (.int p1), .val (.int p2), .val (.int p3), .val (.int p4), .val (.int p5), .val (.int (2 : Int32)), .val (.ref bK), .val (.ref bE), .val (.int (own_fnv (own_upd (own_upd (fun _ => 0) 0 (p2.toInt8.toInt32).toInt8.toInt32) 1 (p3.toInt8.toInt32).toInt8.toInt32) 2)), .val (.int (own_fnv (own_upd (own_upd (own_upd (fun _ => 0) 0 (p2.toInt8.toInt32).toInt8.toInt32) 1 (p3.toInt8.toInt32).toInt8.toInt32) 2 (p5.toInt8.toInt32).toInt8.toInt32) 3)), .val (.int (1 : Int32)), .unset] [(.int (own_fnv (own_upd (own_upd (fun _ => 0) 0 (p2.toInt8.toInt32).toInt8.toInt32) 1 (p3.toInt8.toInt32).toInt8.toInt32) 2)), (.int (own_fnv (own_upd (own_upd (own_upd (fun _ => 0) 0 (p2.toInt8.toInt32).toInt8.toInt32) 1 (p3.toInt8.toInt32).toInt8.toInt32) 2 (p5.toInt8.toInt32).toInt8.toInt32) 3))])) _
      refine XS.iload X10.here hx rfl (hb hby at_123) rfl ?_
      show Steps p.tables e below (T10.setTop (mkF m 125 #[.val (.int p1), .val (.int p2), .val (.int p3), .val (.int p4), .val (.int p5), .val (.int (2 : Int32)), .val (.ref bK), .val (.ref bE), .val (.int (own_fnv (own_upd (own_upd (fun _ => 0) 0 (p2.toInt8.toInt32).toInt8.toInt32) 1 (p3.toInt8.toInt32).toInt8.toInt32) 2)), .val (.int (own_fnv (own_upd (own_upd (own_upd (fun _ => 0) 0 (p2.toInt8.toInt32).toInt8.toInt32) 1 (p3.toInt8.toInt32).toInt8.toInt32) 2 (p5.toInt8.toInt32).toInt8.toInt32) 3)), .val (.int (1 : Int32)), .unset] [(.int p5), (.int (own_fnv (own_upd (own_upd (fun _ => 0) 0 (p2.toInt8.toInt32).toInt8.toInt32) 1 (p3.toInt8.toInt32).toInt8.toInt32) 2)), (.int (own_fnv (own_upd (own_upd (own_upd (fun _ => 0) 0 (p2.toInt8.toInt32).toInt8.toInt32) 1 (p3.toInt8.toInt32).toInt8.toInt32) 2 (p5.toInt8.toInt32).toInt8.toInt32) 3))])) _
      refine XS.sipush X10.here hx rfl (hb hby at_125) ?_
      show Steps p.tables e below (T10.setTop (mkF m 128 #[.val (.int p1), .val (.int p2), .val (.int p3), .val (.int p4), .val (.int p5), .val (.int (2 : Int32)), .val (.ref bK), .val (.ref bE), .val (.int (own_fnv (own_upd (own_upd (fun _ => 0) 0 (p2.toInt8.toInt32).toInt8.toInt32) 1 (p3.toInt8.toInt32).toInt8.toInt32) 2)), .val (.int (own_fnv (own_upd (own_upd (own_upd (fun _ => 0) 0 (p2.toInt8.toInt32).toInt8.toInt32) 1 (p3.toInt8.toInt32).toInt8.toInt32) 2 (p5.toInt8.toInt32).toInt8.toInt32) 3)), .val (.int (1 : Int32)), .unset] [(.int (255 : Int32)), (.int p5), (.int (own_fnv (own_upd (own_upd (fun _ => 0) 0 (p2.toInt8.toInt32).toInt8.toInt32) 1 (p3.toInt8.toInt32).toInt8.toInt32) 2)), (.int (own_fnv (own_upd (own_upd (own_upd (fun _ => 0) 0 (p2.toInt8.toInt32).toInt8.toInt32) 1 (p3.toInt8.toInt32).toInt8.toInt32) 2 (p5.toInt8.toInt32).toInt8.toInt32) 3))])) _
      refine XS.iand X10.here hx rfl (hb hby at_128) rfl ?_
      show Steps p.tables e below (T10.setTop (mkF m 129 #[.val (.int p1), .val (.int p2), .val (.int p3), .val (.int p4), .val (.int p5), .val (.int (2 : Int32)), .val (.ref bK), .val (.ref bE), .val (.int (own_fnv (own_upd (own_upd (fun _ => 0) 0 (p2.toInt8.toInt32).toInt8.toInt32) 1 (p3.toInt8.toInt32).toInt8.toInt32) 2)), .val (.int (own_fnv (own_upd (own_upd (own_upd (fun _ => 0) 0 (p2.toInt8.toInt32).toInt8.toInt32) 1 (p3.toInt8.toInt32).toInt8.toInt32) 2 (p5.toInt8.toInt32).toInt8.toInt32) 3)), .val (.int (1 : Int32)), .unset] [(.int (p5 &&& (255 : Int32))), (.int (own_fnv (own_upd (own_upd (fun _ => 0) 0 (p2.toInt8.toInt32).toInt8.toInt32) 1 (p3.toInt8.toInt32).toInt8.toInt32) 2)), (.int (own_fnv (own_upd (own_upd (own_upd (fun _ => 0) 0 (p2.toInt8.toInt32).toInt8.toInt32) 1 (p3.toInt8.toInt32).toInt8.toInt32) 2 (p5.toInt8.toInt32).toInt8.toInt32) 3))])) _
      refine XS.ixor X10.here hx rfl (hb hby at_129) rfl ?_
      show Steps p.tables e below (T10.setTop (mkF m 130 #[.val (.int p1), .val (.int p2), .val (.int p3), .val (.int p4), .val (.int p5), .val (.int (2 : Int32)), .val (.ref bK), .val (.ref bE), .val (.int (own_fnv (own_upd (own_upd (fun _ => 0) 0 (p2.toInt8.toInt32).toInt8.toInt32) 1 (p3.toInt8.toInt32).toInt8.toInt32) 2)), .val (.int (own_fnv (own_upd (own_upd (own_upd (fun _ => 0) 0 (p2.toInt8.toInt32).toInt8.toInt32) 1 (p3.toInt8.toInt32).toInt8.toInt32) 2 (p5.toInt8.toInt32).toInt8.toInt32) 3)), .val (.int (1 : Int32)), .unset] [(.int ((own_fnv (own_upd (own_upd (fun _ => 0) 0 (p2.toInt8.toInt32).toInt8.toInt32) 1 (p3.toInt8.toInt32).toInt8.toInt32) 2) ^^^ (p5 &&& (255 : Int32)))), (.int (own_fnv (own_upd (own_upd (own_upd (fun _ => 0) 0 (p2.toInt8.toInt32).toInt8.toInt32) 1 (p3.toInt8.toInt32).toInt8.toInt32) 2 (p5.toInt8.toInt32).toInt8.toInt32) 3))])) _
      refine X10.ldcI hx hown (mvT hZ (hw _ (List.mem_of_getElem? (i := 14) rfl))) (g := (mkF m 130 #[.val (.int p1), .val (.int p2), .val (.int p3), .val (.int p4), .val (.int p5), .val (.int (2 : Int32)), .val (.ref bK), .val (.ref bE), .val (.int (own_fnv (own_upd (own_upd (fun _ => 0) 0 (p2.toInt8.toInt32).toInt8.toInt32) 1 (p3.toInt8.toInt32).toInt8.toInt32) 2)), .val (.int (own_fnv (own_upd (own_upd (own_upd (fun _ => 0) 0 (p2.toInt8.toInt32).toInt8.toInt32) 1 (p3.toInt8.toInt32).toInt8.toInt32) 2 (p5.toInt8.toInt32).toInt8.toInt32) 3)), .val (.int (1 : Int32)), .unset] [(.int ((own_fnv (own_upd (own_upd (fun _ => 0) 0 (p2.toInt8.toInt32).toInt8.toInt32) 1 (p3.toInt8.toInt32).toInt8.toInt32) 2) ^^^ (p5 &&& (255 : Int32)))), (.int (own_fnv (own_upd (own_upd (own_upd (fun _ => 0) 0 (p2.toInt8.toInt32).toInt8.toInt32) 1 (p3.toInt8.toInt32).toInt8.toInt32) 2 (p5.toInt8.toInt32).toInt8.toInt32) 3))])) rfl (hb hby at_130) ?_
      show Steps p.tables e below (T10.setTop (mkF m 132 #[.val (.int p1), .val (.int p2), .val (.int p3), .val (.int p4), .val (.int p5), .val (.int (2 : Int32)), .val (.ref bK), .val (.ref bE), .val (.int (own_fnv (own_upd (own_upd (fun _ => 0) 0 (p2.toInt8.toInt32).toInt8.toInt32) 1 (p3.toInt8.toInt32).toInt8.toInt32) 2)), .val (.int (own_fnv (own_upd (own_upd (own_upd (fun _ => 0) 0 (p2.toInt8.toInt32).toInt8.toInt32) 1 (p3.toInt8.toInt32).toInt8.toInt32) 2 (p5.toInt8.toInt32).toInt8.toInt32) 3)), .val (.int (1 : Int32)), .unset] [(.int (16777619 : Int32)), (.int ((own_fnv (own_upd (own_upd (fun _ => 0) 0 (p2.toInt8.toInt32).toInt8.toInt32) 1 (p3.toInt8.toInt32).toInt8.toInt32) 2) ^^^ (p5 &&& (255 : Int32)))), (.int (own_fnv (own_upd (own_upd (own_upd (fun _ => 0) 0 (p2.toInt8.toInt32).toInt8.toInt32) 1 (p3.toInt8.toInt32).toInt8.toInt32) 2 (p5.toInt8.toInt32).toInt8.toInt32) 3))])) _
      refine XS.imul X10.here hx rfl (hb hby at_132) rfl ?_
      show Steps p.tables e below (T10.setTop (mkF m 133 #[.val (.int p1), .val (.int p2), .val (.int p3), .val (.int p4), .val (.int p5), .val (.int (2 : Int32)), .val (.ref bK), .val (.ref bE), .val (.int (own_fnv (own_upd (own_upd (fun _ => 0) 0 (p2.toInt8.toInt32).toInt8.toInt32) 1 (p3.toInt8.toInt32).toInt8.toInt32) 2)), .val (.int (own_fnv (own_upd (own_upd (own_upd (fun _ => 0) 0 (p2.toInt8.toInt32).toInt8.toInt32) 1 (p3.toInt8.toInt32).toInt8.toInt32) 2 (p5.toInt8.toInt32).toInt8.toInt32) 3)), .val (.int (1 : Int32)), .unset] [(.int (((own_fnv (own_upd (own_upd (fun _ => 0) 0 (p2.toInt8.toInt32).toInt8.toInt32) 1 (p3.toInt8.toInt32).toInt8.toInt32) 2) ^^^ (p5 &&& (255 : Int32))) * (16777619 : Int32))), (.int (own_fnv (own_upd (own_upd (own_upd (fun _ => 0) 0 (p2.toInt8.toInt32).toInt8.toInt32) 1 (p3.toInt8.toInt32).toInt8.toInt32) 2 (p5.toInt8.toInt32).toInt8.toInt32) 3))])) _
      refine XS.icmpNo X10.here hx rfl (hb hby at_133) rfl (XT.ii_ne_f hstep) ?_
      show Steps p.tables e below (T10.setTop (mkF m 136 #[.val (.int p1), .val (.int p2), .val (.int p3), .val (.int p4), .val (.int p5), .val (.int (2 : Int32)), .val (.ref bK), .val (.ref bE), .val (.int (own_fnv (own_upd (own_upd (fun _ => 0) 0 (p2.toInt8.toInt32).toInt8.toInt32) 1 (p3.toInt8.toInt32).toInt8.toInt32) 2)), .val (.int (own_fnv (own_upd (own_upd (own_upd (fun _ => 0) 0 (p2.toInt8.toInt32).toInt8.toInt32) 1 (p3.toInt8.toInt32).toInt8.toInt32) 2 (p5.toInt8.toInt32).toInt8.toInt32) 3)), .val (.int (1 : Int32)), .unset] [])) _
      refine XS.iconst X10.here hx rfl (hb hby at_136) ?_
      show Steps p.tables e below (T10.setTop (mkF m 137 #[.val (.int p1), .val (.int p2), .val (.int p3), .val (.int p4), .val (.int p5), .val (.int (2 : Int32)), .val (.ref bK), .val (.ref bE), .val (.int (own_fnv (own_upd (own_upd (fun _ => 0) 0 (p2.toInt8.toInt32).toInt8.toInt32) 1 (p3.toInt8.toInt32).toInt8.toInt32) 2)), .val (.int (own_fnv (own_upd (own_upd (own_upd (fun _ => 0) 0 (p2.toInt8.toInt32).toInt8.toInt32) 1 (p3.toInt8.toInt32).toInt8.toInt32) 2 (p5.toInt8.toInt32).toInt8.toInt32) 3)), .val (.int (1 : Int32)), .unset] [(.int (1 : Int32))])) _
      refine XS.goto X10.here hx rfl (pc0 := 137) (pc' := 141) rfl (hb hby at_137) (by decide) (by decide) ?_
      show Steps p.tables e below (T10.setTop (mkF m 141 #[.val (.int p1), .val (.int p2), .val (.int p3), .val (.int p4), .val (.int p5), .val (.int (2 : Int32)), .val (.ref bK), .val (.ref bE), .val (.int (own_fnv (own_upd (own_upd (fun _ => 0) 0 (p2.toInt8.toInt32).toInt8.toInt32) 1 (p3.toInt8.toInt32).toInt8.toInt32) 2)), .val (.int (own_fnv (own_upd (own_upd (own_upd (fun _ => 0) 0 (p2.toInt8.toInt32).toInt8.toInt32) 1 (p3.toInt8.toInt32).toInt8.toInt32) 2 (p5.toInt8.toInt32).toInt8.toInt32) 3)), .val (.int (1 : Int32)), .unset] [(.int (1 : Int32))])) _
      refine XS.istore X10.here hx rfl (hb hby at_141) rfl (l' := #[.val (.int p1), .val (.int p2), .val (.int p3), .val (.int p4), .val (.int p5), .val (.int (2 : Int32)), .val (.ref bK), .val (.ref bE), .val (.int (own_fnv (own_upd (own_upd (fun _ => 0) 0 (p2.toInt8.toInt32).toInt8.toInt32) 1 (p3.toInt8.toInt32).toInt8.toInt32) 2)), .val (.int (own_fnv (own_upd (own_upd (own_upd (fun _ => 0) 0 (p2.toInt8.toInt32).toInt8.toInt32) 1 (p3.toInt8.toInt32).toInt8.toInt32) 2 (p5.toInt8.toInt32).toInt8.toInt32) 3)), .val (.int (1 : Int32)), .val (.int (1 : Int32))]) rfl ?_
      show Steps p.tables e below (T10.setTop (mkF m 143 #[.val (.int p1), .val (.int p2), .val (.int p3), .val (.int p4), .val (.int p5), .val (.int (2 : Int32)), .val (.ref bK), .val (.ref bE), .val (.int (own_fnv (own_upd (own_upd (fun _ => 0) 0 (p2.toInt8.toInt32).toInt8.toInt32) 1 (p3.toInt8.toInt32).toInt8.toInt32) 2)), .val (.int (own_fnv (own_upd (own_upd (own_upd (fun _ => 0) 0 (p2.toInt8.toInt32).toInt8.toInt32) 1 (p3.toInt8.toInt32).toInt8.toInt32) 2 (p5.toInt8.toInt32).toInt8.toInt32) 3)), .val (.int (1 : Int32)), .val (.int (1 : Int32))] [])) _
      refine XS.iload X10.here hx rfl (hb hby at_143) rfl ?_
      show Steps p.tables e below (T10.setTop (mkF m 145 #[.val (.int p1), .val (.int p2), .val (.int p3), .val (.int p4), .val (.int p5), .val (.int (2 : Int32)), .val (.ref bK), .val (.ref bE), .val (.int (own_fnv (own_upd (own_upd (fun _ => 0) 0 (p2.toInt8.toInt32).toInt8.toInt32) 1 (p3.toInt8.toInt32).toInt8.toInt32) 2)), .val (.int (own_fnv (own_upd (own_upd (own_upd (fun _ => 0) 0 (p2.toInt8.toInt32).toInt8.toInt32) 1 (p3.toInt8.toInt32).toInt8.toInt32) 2 (p5.toInt8.toInt32).toInt8.toInt32) 3)), .val (.int (1 : Int32)), .val (.int (1 : Int32))] [(.int (1 : Int32))])) _
      refine XS.ifNo X10.here hx rfl (hb hby at_145) rfl (XT.i0_eq_f (by decide)) ?_
      show Steps p.tables e below (T10.setTop (mkF m 148 #[.val (.int p1), .val (.int p2), .val (.int p3), .val (.int p4), .val (.int p5), .val (.int (2 : Int32)), .val (.ref bK), .val (.ref bE), .val (.int (own_fnv (own_upd (own_upd (fun _ => 0) 0 (p2.toInt8.toInt32).toInt8.toInt32) 1 (p3.toInt8.toInt32).toInt8.toInt32) 2)), .val (.int (own_fnv (own_upd (own_upd (own_upd (fun _ => 0) 0 (p2.toInt8.toInt32).toInt8.toInt32) 1 (p3.toInt8.toInt32).toInt8.toInt32) 2 (p5.toInt8.toInt32).toInt8.toInt32) 3)), .val (.int (1 : Int32)), .val (.int (1 : Int32))] [])) _
      refine XS.iload X10.here hx rfl (hb hby at_148) rfl ?_
      show Steps p.tables e below (T10.setTop (mkF m 150 #[.val (.int p1), .val (.int p2), .val (.int p3), .val (.int p4), .val (.int p5), .val (.int (2 : Int32)), .val (.ref bK), .val (.ref bE), .val (.int (own_fnv (own_upd (own_upd (fun _ => 0) 0 (p2.toInt8.toInt32).toInt8.toInt32) 1 (p3.toInt8.toInt32).toInt8.toInt32) 2)), .val (.int (own_fnv (own_upd (own_upd (own_upd (fun _ => 0) 0 (p2.toInt8.toInt32).toInt8.toInt32) 1 (p3.toInt8.toInt32).toInt8.toInt32) 2 (p5.toInt8.toInt32).toInt8.toInt32) 3)), .val (.int (1 : Int32)), .val (.int (1 : Int32))] [(.int (1 : Int32))])) _
      refine XS.ifNo X10.here hx rfl (hb hby at_150) rfl (XT.i0_eq_f (by decide)) ?_
      show Steps p.tables e below (T10.setTop (mkF m 153 #[.val (.int p1), .val (.int p2), .val (.int p3), .val (.int p4), .val (.int p5), .val (.int (2 : Int32)), .val (.ref bK), .val (.ref bE), .val (.int (own_fnv (own_upd (own_upd (fun _ => 0) 0 (p2.toInt8.toInt32).toInt8.toInt32) 1 (p3.toInt8.toInt32).toInt8.toInt32) 2)), .val (.int (own_fnv (own_upd (own_upd (own_upd (fun _ => 0) 0 (p2.toInt8.toInt32).toInt8.toInt32) 1 (p3.toInt8.toInt32).toInt8.toInt32) 2 (p5.toInt8.toInt32).toInt8.toInt32) 3)), .val (.int (1 : Int32)), .val (.int (1 : Int32))] [])) _
      refine XS.iconst X10.here hx rfl (hb hby at_153) ?_
      show Steps p.tables e below (T10.setTop (mkF m 154 #[.val (.int p1), .val (.int p2), .val (.int p3), .val (.int p4), .val (.int p5), .val (.int (2 : Int32)), .val (.ref bK), .val (.ref bE), .val (.int (own_fnv (own_upd (own_upd (fun _ => 0) 0 (p2.toInt8.toInt32).toInt8.toInt32) 1 (p3.toInt8.toInt32).toInt8.toInt32) 2)), .val (.int (own_fnv (own_upd (own_upd (own_upd (fun _ => 0) 0 (p2.toInt8.toInt32).toInt8.toInt32) 1 (p3.toInt8.toInt32).toInt8.toInt32) 2 (p5.toInt8.toInt32).toInt8.toInt32) 3)), .val (.int (1 : Int32)), .val (.int (1 : Int32))] [(.int (1 : Int32))])) _
      refine XS.goto X10.here hx rfl (pc0 := 154) (pc' := 158) rfl (hb hby at_154) (by decide) (by decide) ?_
      show Steps p.tables e below (T10.setTop (mkF m 158 #[.val (.int p1), .val (.int p2), .val (.int p3), .val (.int p4), .val (.int p5), .val (.int (2 : Int32)), .val (.ref bK), .val (.ref bE), .val (.int (own_fnv (own_upd (own_upd (fun _ => 0) 0 (p2.toInt8.toInt32).toInt8.toInt32) 1 (p3.toInt8.toInt32).toInt8.toInt32) 2)), .val (.int (own_fnv (own_upd (own_upd (own_upd (fun _ => 0) 0 (p2.toInt8.toInt32).toInt8.toInt32) 1 (p3.toInt8.toInt32).toInt8.toInt32) 2 (p5.toInt8.toInt32).toInt8.toInt32) 3)), .val (.int (1 : Int32)), .val (.int (1 : Int32))] [(.int (1 : Int32))])) _
      exact k
    obtain ⟨fs, hr, hrun, hended, hW, hsame⟩ := X10.leave (v := some (.int (1 : Int32))) (fun h => by rw [Bd.returns] at h; cases h)
    refine ⟨_, _, pre0 _ (r10 _ (s11 _ ?_)), hrun, hended, _, _, rfl, ?_, ⟨_, rfl⟩, hW, hsame.mono (by decide) (by decide)⟩
    · exact retN X10 hx (t := .boolean) Bd.returns (by simp) (hb hby at_158) hr
    · exact ⟨rfl, N10⟩
  · rw [hc] at s0
    have s1 : ∀ t, Steps p.tables e below (s₁.setTop (mkF m 7 #[.val (.int p1), .val (.int p2), .val (.int p3), .val (.int p4), .val (.int p5), .val (.int (3 : Int32)), .unset, .unset, .unset, .unset, .unset, .unset] [(.int (3 : Int32))])) t → Steps p.tables e below (s₁.setTop (mkF m 5 #[.val (.int p1), .val (.int p2), .val (.int p3), .val (.int p4), .val (.int p5), .val (.int (3 : Int32)), .unset, .unset, .unset, .unset, .unset, .unset] [])) t := by
      intro t k
      show Steps p.tables e below (s₁.setTop (mkF m 5 #[.val (.int p1), .val (.int p2), .val (.int p3), .val (.int p4), .val (.int p5), .val (.int (3 : Int32)), .unset, .unset, .unset, .unset, .unset, .unset] [])) _
      refine XS.iload X0.here hx rfl (hb hby at_5) rfl ?_
      show Steps p.tables e below (s₁.setTop (mkF m 7 #[.val (.int p1), .val (.int p2), .val (.int p3), .val (.int p4), .val (.int p5), .val (.int (3 : Int32)), .unset, .unset, .unset, .unset, .unset, .unset] [(.int (3 : Int32))])) _
      exact k
    obtain ⟨TK, hK, kK, XK, eK, EK, AK, stK⟩ := newP X0 hx hZ (hw _ (List.mem_of_getElem? (i := 0) rfl)) (rfl : s₁.heap = s₁.heap) (g := (mkF m 7 #[.val (.int p1), .val (.int p2), .val (.int p3), .val (.int p4), .val (.int p5), .val (.int (3 : Int32)), .unset, .unset, .unset, .unset, .unset, .unset] [(.int (3 : Int32))])) rfl (hb hby at_7) rfl (by decide) (cap := 3) (by decide) (by decide) (by decide) (by decide)
    obtain ⟨bK, gK⟩ : ∃ z, z = s₁.heap.size := ⟨_, rfl⟩
    rw [← gK] at AK stK
    have gbK : n0 ≤ bK := Nat.le_trans Z0 (by rw [gK, e0]; exact Nat.le_refl _)
    have GK : own_By Z TK.heap bK 3 (fun _ => 0) := by rw [eK]; exact own_freshB AK (by decide)
    have rK : ∀ t, Steps p.tables e below (TK.setTop (mkF m 9 #[.val (.int p1), .val (.int p2), .val (.int p3), .val (.int p4), .val (.int p5), .val (.int (3 : Int32)), .unset, .unset, .unset, .unset, .unset, .unset] [(.ref bK)])) t → Steps p.tables e below (s₁.setTop (mkF m 0 #[.val (.int p1), .val (.int p2), .val (.int p3), .val (.int p4), .val (.int p5), .unset, .unset, .unset, .unset, .unset, .unset, .unset] [])) t := fun t k => s0 t (s1 t (stK t k))
    have sK : ∀ t, Steps p.tables e below (TK.setTop (mkF m 15 #[.val (.int p1), .val (.int p2), .val (.int p3), .val (.int p4), .val (.int p5), .val (.int (3 : Int32)), .val (.ref bK), .unset, .unset, .unset, .unset, .unset] [(.int ((3 : Int32) + (1 : Int32)))])) t → Steps p.tables e below (TK.setTop (mkF m 9 #[.val (.int p1), .val (.int p2), .val (.int p3), .val (.int p4), .val (.int p5), .val (.int (3 : Int32)), .unset, .unset, .unset, .unset, .unset, .unset] [(.ref bK)])) t := by
      intro t k
      show Steps p.tables e below (TK.setTop (mkF m 9 #[.val (.int p1), .val (.int p2), .val (.int p3), .val (.int p4), .val (.int p5), .val (.int (3 : Int32)), .unset, .unset, .unset, .unset, .unset, .unset] [(.ref bK)])) _
      refine XS.astore XK.here hx rfl (hb hby at_9) rfl rfl (l' := #[.val (.int p1), .val (.int p2), .val (.int p3), .val (.int p4), .val (.int p5), .val (.int (3 : Int32)), .val (.ref bK), .unset, .unset, .unset, .unset, .unset]) rfl ?_
      show Steps p.tables e below (TK.setTop (mkF m 11 #[.val (.int p1), .val (.int p2), .val (.int p3), .val (.int p4), .val (.int p5), .val (.int (3 : Int32)), .val (.ref bK), .unset, .unset, .unset, .unset, .unset] [])) _
      refine XS.iload XK.here hx rfl (hb hby at_11) rfl ?_
      show Steps p.tables e below (TK.setTop (mkF m 13 #[.val (.int p1), .val (.int p2), .val (.int p3), .val (.int p4), .val (.int p5), .val (.int (3 : Int32)), .val (.ref bK), .unset, .unset, .unset, .unset, .unset] [(.int (3 : Int32))])) _
      refine XS.iconst XK.here hx rfl (hb hby at_13) ?_
      show Steps p.tables e below (TK.setTop (mkF m 14 #[.val (.int p1), .val (.int p2), .val (.int p3), .val (.int p4), .val (.int p5), .val (.int (3 : Int32)), .val (.ref bK), .unset, .unset, .unset, .unset, .unset] [(.int (1 : Int32)), (.int (3 : Int32))])) _
      refine XS.iadd XK.here hx rfl (hb hby at_14) rfl ?_
      show Steps p.tables e below (TK.setTop (mkF m 15 #[.val (.int p1), .val (.int p2), .val (.int p3), .val (.int p4), .val (.int p5), .val (.int (3 : Int32)), .val (.ref bK), .unset, .unset, .unset, .unset, .unset] [(.int ((3 : Int32) + (1 : Int32)))])) _
      exact k
    obtain ⟨TE, hE, kE, XE, eE, EE, AE, stE⟩ := newP XK hx hZ (hw _ (List.mem_of_getElem? (i := 0) rfl)) (rfl : TK.heap = TK.heap) (g := (mkF m 15 #[.val (.int p1), .val (.int p2), .val (.int p3), .val (.int p4), .val (.int p5), .val (.int (3 : Int32)), .val (.ref bK), .unset, .unset, .unset, .unset, .unset] [(.int ((3 : Int32) + (1 : Int32)))])) rfl (hb hby at_15) rfl (by decide) (cap := 4) (by decide) (by decide) (by decide) (by decide)
    obtain ⟨bE, gE⟩ : ∃ z, z = TK.heap.size := ⟨_, rfl⟩
    rw [← gE] at AE stE
    have gbE : n0 ≤ bE := Nat.le_trans gbK (by rw [gE]; exact Nat.le_of_lt (own_By_lt GK))
    have neKE : bK ≠ bE := Nat.ne_of_lt (by rw [gE]; exact own_By_lt GK)
    have GE : own_By Z TE.heap bE 4 (fun _ => 0) := by rw [eE]; exact own_freshB AE (by decide)
    have GK : own_By Z TE.heap bK 3 (fun _ => 0) := by rw [eE]; exact own_By_ext EE GK
    have rE : ∀ t, Steps p.tables e below (TE.setTop (mkF m 17 #[.val (.int p1), .val (.int p2), .val (.int p3), .val (.int p4), .val (.int p5), .val (.int (3 : Int32)), .val (.ref bK), .unset, .unset, .unset, .unset, .unset] [(.ref bE)])) t → Steps p.tables e below (s₁.setTop (mkF m 0 #[.val (.int p1), .val (.int p2), .val (.int p3), .val (.int p4), .val (.int p5), .unset, .unset, .unset, .unset, .unset, .unset, .unset] [])) t := fun t k => rK t (sK t (stE t k))
    have s2 : ∀ t, Steps p.tables e below (TE.setTop (mkF m 29 #[.val (.int p1), .val (.int p2), .val (.int p3), .val (.int p4), .val (.int p5), .val (.int (3 : Int32)), .val (.ref bK), .val (.ref bE), .unset, .unset, .unset, .unset] [(.int (p2.toInt8.toInt32)), (.int (0 : Int32)), (.ref bK)])) t → Steps p.tables e below (TE.setTop (mkF m 17 #[.val (.int p1), .val (.int p2), .val (.int p3), .val (.int p4), .val (.int p5), .val (.int (3 : Int32)), .val (.ref bK), .unset, .unset, .unset, .unset, .unset] [(.ref bE)])) t := by
      intro t k
      show Steps p.tables e below (TE.setTop (mkF m 17 #[.val (.int p1), .val (.int p2), .val (.int p3), .val (.int p4), .val (.int p5), .val (.int (3 : Int32)), .val (.ref bK), .unset, .unset, .unset, .unset, .unset] [(.ref bE)])) _
      refine XS.astore XE.here hx rfl (hb hby at_17) rfl rfl (l' := #[.val (.int p1), .val (.int p2), .val (.int p3), .val (.int p4), .val (.int p5), .val (.int (3 : Int32)), .val (.ref bK), .val (.ref bE), .unset, .unset, .unset, .unset]) rfl ?_
      show Steps p.tables e below (TE.setTop (mkF m 19 #[.val (.int p1), .val (.int p2), .val (.int p3), .val (.int p4), .val (.int p5), .val (.int (3 : Int32)), .val (.ref bK), .val (.ref bE), .unset, .unset, .unset, .unset] [])) _
      refine XS.iload XE.here hx rfl (hb hby at_19) rfl ?_
      show Steps p.tables e below (TE.setTop (mkF m 21 #[.val (.int p1), .val (.int p2), .val (.int p3), .val (.int p4), .val (.int p5), .val (.int (3 : Int32)), .val (.ref bK), .val (.ref bE), .unset, .unset, .unset, .unset] [(.int (3 : Int32))])) _
      refine XS.ifNo XE.here hx rfl (hb hby at_21) rfl (XT.i0_le_f (by decide)) ?_
      show Steps p.tables e below (TE.setTop (mkF m 24 #[.val (.int p1), .val (.int p2), .val (.int p3), .val (.int p4), .val (.int p5), .val (.int (3 : Int32)), .val (.ref bK), .val (.ref bE), .unset, .unset, .unset, .unset] [])) _
      refine XS.aload XE.here hx rfl (hb hby at_24) rfl rfl ?_
      show Steps p.tables e below (TE.setTop (mkF m 26 #[.val (.int p1), .val (.int p2), .val (.int p3), .val (.int p4), .val (.int p5), .val (.int (3 : Int32)), .val (.ref bK), .val (.ref bE), .unset, .unset, .unset, .unset] [(.ref bK)])) _
      refine XS.iconst XE.here hx rfl (hb hby at_26) ?_
      show Steps p.tables e below (TE.setTop (mkF m 27 #[.val (.int p1), .val (.int p2), .val (.int p3), .val (.int p4), .val (.int p5), .val (.int (3 : Int32)), .val (.ref bK), .val (.ref bE), .unset, .unset, .unset, .unset] [(.int (0 : Int32)), (.ref bK)])) _
      refine XS.iloadN XE.here hx rfl (hb hby at_27) rfl ?_
      show Steps p.tables e below (TE.setTop (mkF m 28 #[.val (.int p1), .val (.int p2), .val (.int p3), .val (.int p4), .val (.int p5), .val (.int (3 : Int32)), .val (.ref bK), .val (.ref bE), .unset, .unset, .unset, .unset] [(.int p2), (.int (0 : Int32)), (.ref bK)])) _
      refine XS.i2b XE.here hx rfl (hb hby at_28) rfl ?_
      show Steps p.tables e below (TE.setTop (mkF m 29 #[.val (.int p1), .val (.int p2), .val (.int p3), .val (.int p4), .val (.int p5), .val (.int (3 : Int32)), .val (.ref bK), .val (.ref bE), .unset, .unset, .unset, .unset] [(.int (p2.toInt8.toInt32)), (.int (0 : Int32)), (.ref bK)])) _
      exact k
    obtain ⟨T2, L2, X2, N2, G2, ⟨sl2, w2, W2⟩, st2⟩ := own_storeB XE hx hZ N0 gbK GK 29 #[.val (.int p1), .val (.int p2), .val (.int p3), .val (.int p4), .val (.int p5), .val (.int (3 : Int32)), .val (.ref bK), .val (.ref bE), .unset, .unset, .unset, .unset] [] (0 : Int32) (p2.toInt8.toInt32) 0 (by decide) (by decide) (by decide) (hb hby at_29)
    have GK := G2
    have GE := own_By_other W2 GE neKE.symm
    have r2 : ∀ t, Steps p.tables e below (T2.setTop (mkF m 30 #[.val (.int p1), .val (.int p2), .val (.int p3), .val (.int p4), .val (.int p5), .val (.int (3 : Int32)), .val (.ref bK), .val (.ref bE), .unset, .unset, .unset, .unset] [])) t → Steps p.tables e below (s₁.setTop (mkF m 0 #[.val (.int p1), .val (.int p2), .val (.int p3), .val (.int p4), .val (.int p5), .unset, .unset, .unset, .unset, .unset, .unset, .unset] [])) t := fun t k => rE t (s2 t (st2 t k))
    have s3 : ∀ t, Steps p.tables e below (T2.setTop (mkF m 35 #[.val (.int p1), .val (.int p2), .val (.int p3), .val (.int p4), .val (.int p5), .val (.int (3 : Int32)), .val (.ref bK), .val (.ref bE), .unset, .unset, .unset, .unset] [(.int (p2.toInt8.toInt32)), (.int (0 : Int32)), (.ref bE)])) t → Steps p.tables e below (T2.setTop (mkF m 30 #[.val (.int p1), .val (.int p2), .val (.int p3), .val (.int p4), .val (.int p5), .val (.int (3 : Int32)), .val (.ref bK), .val (.ref bE), .unset, .unset, .unset, .unset] [])) t := by
      intro t k
      show Steps p.tables e below (T2.setTop (mkF m 30 #[.val (.int p1), .val (.int p2), .val (.int p3), .val (.int p4), .val (.int p5), .val (.int (3 : Int32)), .val (.ref bK), .val (.ref bE), .unset, .unset, .unset, .unset] [])) _
      refine XS.aload X2.here hx rfl (hb hby at_30) rfl rfl ?_
      show Steps p.tables e below (T2.setTop (mkF m 32 #[.val (.int p1), .val (.int p2), .val (.int p3), .val (.int p4), .val (.int p5), .val (.int (3 : Int32)), .val (.ref bK), .val (.ref bE), .unset, .unset, .unset, .unset] [(.ref bE)])) _
      refine XS.iconst X2.here hx rfl (hb hby at_32) ?_
      show Steps p.tables e below (T2.setTop (mkF m 33 #[.val (.int p1), .val (.int p2), .val (.int p3), .val (.int p4), .val (.int p5), .val (.int (3 : Int32)), .val (.ref bK), .val (.ref bE), .unset, .unset, .unset, .unset] [(.int (0 : Int32)), (.ref bE)])) _
      refine XS.iloadN X2.here hx rfl (hb hby at_33) rfl ?_
      show Steps p.tables e below (T2.setTop (mkF m 34 #[.val (.int p1), .val (.int p2), .val (.int p3), .val (.int p4), .val (.int p5), .val (.int (3 : Int32)), .val (.ref bK), .val (.ref bE), .unset, .unset, .unset, .unset] [(.int p2), (.int (0 : Int32)), (.ref bE)])) _
      refine XS.i2b X2.here hx rfl (hb hby at_34) rfl ?_
      show Steps p.tables e below (T2.setTop (mkF m 35 #[.val (.int p1), .val (.int p2), .val (.int p3), .val (.int p4), .val (.int p5), .val (.int (3 : Int32)), .val (.ref bK), .val (.ref bE), .unset, .unset, .unset, .unset] [(.int (p2.toInt8.toInt32)), (.int (0 : Int32)), (.ref bE)])) _
      exact k
    obtain ⟨T3, L3, X3, N3, G3, ⟨sl3, w3, W3⟩, st3⟩ := own_storeB X2 hx hZ N2 gbE GE 35 #[.val (.int p1), .val (.int p2), .val (.int p3), .val (.int p4), .val (.int p5), .val (.int (3 : Int32)), .val (.ref bK), .val (.ref bE), .unset, .unset, .unset, .unset] [] (0 : Int32) (p2.toInt8.toInt32) 0 (by decide) (by decide) (by decide) (hb hby at_35)
    have GE := G3
    have GK := own_By_other W3 GK neKE
    have r3 : ∀ t, Steps p.tables e below (T3.setTop (mkF m 36 #[.val (.int p1), .val (.int p2), .val (.int p3), .val (.int p4), .val (.int p5), .val (.int (3 : Int32)), .val (.ref bK), .val (.ref bE), .unset, .unset, .unset, .unset] [])) t → Steps p.tables e below (s₁.setTop (mkF m 0 #[.val (.int p1), .val (.int p2), .val (.int p3), .val (.int p4), .val (.int p5), .unset, .unset, .unset, .unset, .unset, .unset, .unset] [])) t := fun t k => r2 t (s3 t (st3 t k))
    have s4 : ∀ t, Steps p.tables e below (T3.setTop (mkF m 47 #[.val (.int p1), .val (.int p2), .val (.int p3), .val (.int p4), .val (.int p5), .val (.int (3 : Int32)), .val (.ref bK), .val (.ref bE), .unset, .unset, .unset, .unset] [(.int (p3.toInt8.toInt32)), (.int (1 : Int32)), (.ref bK)])) t → Steps p.tables e below (T3.setTop (mkF m 36 #[.val (.int p1), .val (.int p2), .val (.int p3), .val (.int p4), .val (.int p5), .val (.int (3 : Int32)), .val (.ref bK), .val (.ref bE), .unset, .unset, .unset, .unset] [])) t := by
      intro t k
      show Steps p.tables e below (T3.setTop (mkF m 36 #[.val (.int p1), .val (.int p2), .val (.int p3), .val (.int p4), .val (.int p5), .val (.int (3 : Int32)), .val (.ref bK), .val (.ref bE), .unset, .unset, .unset, .unset] [])) _
      refine XS.iload X3.here hx rfl (hb hby at_36) rfl ?_
      show Steps p.tables e below (T3.setTop (mkF m 38 #[.val (.int p1), .val (.int p2), .val (.int p3), .val (.int p4), .val (.int p5), .val (.int (3 : Int32)), .val (.ref bK), .val (.ref bE), .unset, .unset, .unset, .unset] [(.int (3 : Int32))])) _
      refine XS.iconst X3.here hx rfl (hb hby at_38) ?_
      show Steps p.tables e below (T3.setTop (mkF m 39 #[.val (.int p1), .val (.int p2), .val (.int p3), .val (.int p4), .val (.int p5), .val (.int (3 : Int32)), .val (.ref bK), .val (.ref bE), .unset, .unset, .unset, .unset] [(.int (1 : Int32)), (.int (3 : Int32))])) _
      refine XS.icmpNo X3.here hx rfl (hb hby at_39) rfl (XT.ii_le_f (by decide)) ?_
      show Steps p.tables e below (T3.setTop (mkF m 42 #[.val (.int p1), .val (.int p2), .val (.int p3), .val (.int p4), .val (.int p5), .val (.int (3 : Int32)), .val (.ref bK), .val (.ref bE), .unset, .unset, .unset, .unset] [])) _
      refine XS.aload X3.here hx rfl (hb hby at_42) rfl rfl ?_
      show Steps p.tables e below (T3.setTop (mkF m 44 #[.val (.int p1), .val (.int p2), .val (.int p3), .val (.int p4), .val (.int p5), .val (.int (3 : Int32)), .val (.ref bK), .val (.ref bE), .unset, .unset, .unset, .unset] [(.ref bK)])) _
      refine XS.iconst X3.here hx rfl (hb hby at_44) ?_
      show Steps p.tables e below (T3.setTop (mkF m 45 #[.val (.int p1), .val (.int p2), .val (.int p3), .val (.int p4), .val (.int p5), .val (.int (3 : Int32)), .val (.ref bK), .val (.ref bE), .unset, .unset, .unset, .unset] [(.int (1 : Int32)), (.ref bK)])) _
      refine XS.iloadN X3.here hx rfl (hb hby at_45) rfl ?_
      show Steps p.tables e below (T3.setTop (mkF m 46 #[.val (.int p1), .val (.int p2), .val (.int p3), .val (.int p4), .val (.int p5), .val (.int (3 : Int32)), .val (.ref bK), .val (.ref bE), .unset, .unset, .unset, .unset] [(.int p3), (.int (1 : Int32)), (.ref bK)])) _
      refine XS.i2b X3.here hx rfl (hb hby at_46) rfl ?_
      show Steps p.tables e below (T3.setTop (mkF m 47 #[.val (.int p1), .val (.int p2), .val (.int p3), .val (.int p4), .val (.int p5), .val (.int (3 : Int32)), .val (.ref bK), .val (.ref bE), .unset, .unset, .unset, .unset] [(.int (p3.toInt8.toInt32)), (.int (1 : Int32)), (.ref bK)])) _
      exact k
    obtain ⟨T4, L4, X4, N4, G4, ⟨sl4, w4, W4⟩, st4⟩ := own_storeB X3 hx hZ N3 gbK GK 47 #[.val (.int p1), .val (.int p2), .val (.int p3), .val (.int p4), .val (.int p5), .val (.int (3 : Int32)), .val (.ref bK), .val (.ref bE), .unset, .unset, .unset, .unset] [] (1 : Int32) (p3.toInt8.toInt32) 1 (by decide) (by decide) (by decide) (hb hby at_47)
    have GK := G4
    have GE := own_By_other W4 GE neKE.symm
    have r4 : ∀ t, Steps p.tables e below (T4.setTop (mkF m 48 #[.val (.int p1), .val (.int p2), .val (.int p3), .val (.int p4), .val (.int p5), .val (.int (3 : Int32)), .val (.ref bK), .val (.ref bE), .unset, .unset, .unset, .unset] [])) t → Steps p.tables e below (s₁.setTop (mkF m 0 #[.val (.int p1), .val (.int p2), .val (.int p3), .val (.int p4), .val (.int p5), .unset, .unset, .unset, .unset, .unset, .unset, .unset] [])) t := fun t k => r3 t (s4 t (st4 t k))
    have s5 : ∀ t, Steps p.tables e below (T4.setTop (mkF m 53 #[.val (.int p1), .val (.int p2), .val (.int p3), .val (.int p4), .val (.int p5), .val (.int (3 : Int32)), .val (.ref bK), .val (.ref bE), .unset, .unset, .unset, .unset] [(.int (p3.toInt8.toInt32)), (.int (1 : Int32)), (.ref bE)])) t → Steps p.tables e below (T4.setTop (mkF m 48 #[.val (.int p1), .val (.int p2), .val (.int p3), .val (.int p4), .val (.int p5), .val (.int (3 : Int32)), .val (.ref bK), .val (.ref bE), .unset, .unset, .unset, .unset] [])) t := by
      intro t k
      show Steps p.tables e below (T4.setTop (mkF m 48 #[.val (.int p1), .val (.int p2), .val (.int p3), .val (.int p4), .val (.int p5), .val (.int (3 : Int32)), .val (.ref bK), .val (.ref bE), .unset, .unset, .unset, .unset] [])) _
      refine XS.aload X4.here hx rfl (hb hby at_48) rfl rfl ?_
      show Steps p.tables e below (T4.setTop (mkF m 50 #[.val (.int p1), .val (.int p2), .val (.int p3), .val (.int p4), .val (.int p5), .val (.int (3 : Int32)), .val (.ref bK), .val (.ref bE), .unset, .unset, .unset, .unset] [(.ref bE)])) _
      refine XS.iconst X4.here hx rfl (hb hby at_50) ?_
      show Steps p.tables e below (T4.setTop (mkF m 51 #[.val (.int p1), .val (.int p2), .val (.int p3), .val (.int p4), .val (.int p5), .val (.int (3 : Int32)), .val (.ref bK), .val (.ref bE), .unset, .unset, .unset, .unset] [(.int (1 : Int32)), (.ref bE)])) _
      refine XS.iloadN X4.here hx rfl (hb hby at_51) rfl ?_
      show Steps p.tables e below (T4.setTop (mkF m 52 #[.val (.int p1), .val (.int p2), .val (.int p3), .val (.int p4), .val (.int p5), .val (.int (3 : Int32)), .val (.ref bK), .val (.ref bE), .unset, .unset, .unset, .unset] [(.int p3), (.int (1 : Int32)), (.ref bE)])) _
      refine XS.i2b X4.here hx rfl (hb hby at_52) rfl ?_
      show Steps p.tables e below (T4.setTop (mkF m 53 #[.val (.int p1), .val (.int p2), .val (.int p3), .val (.int p4), .val (.int p5), .val (.int (3 : Int32)), .val (.ref bK), .val (.ref bE), .unset, .unset, .unset, .unset] [(.int (p3.toInt8.toInt32)), (.int (1 : Int32)), (.ref bE)])) _
      exact k
    obtain ⟨T5, L5, X5, N5, G5, ⟨sl5, w5, W5⟩, st5⟩ := own_storeB X4 hx hZ N4 gbE GE 53 #[.val (.int p1), .val (.int p2), .val (.int p3), .val (.int p4), .val (.int p5), .val (.int (3 : Int32)), .val (.ref bK), .val (.ref bE), .unset, .unset, .unset, .unset] [] (1 : Int32) (p3.toInt8.toInt32) 1 (by decide) (by decide) (by decide) (hb hby at_53)
    have GE := G5
    have GK := own_By_other W5 GK neKE
    have r5 : ∀ t, Steps p.tables e below (T5.setTop (mkF m 54 #[.val (.int p1), .val (.int p2), .val (.int p3), .val (.int p4), .val (.int p5), .val (.int (3 : Int32)), .val (.ref bK), .val (.ref bE), .unset, .unset, .unset, .unset] [])) t → Steps p.tables e below (s₁.setTop (mkF m 0 #[.val (.int p1), .val (.int p2), .val (.int p3), .val (.int p4), .val (.int p5), .unset, .unset, .unset, .unset, .unset, .unset, .unset] [])) t := fun t k => r4 t (s5 t (st5 t k))
    have s6 : ∀ t, Steps p.tables e below (T5.setTop (mkF m 65 #[.val (.int p1), .val (.int p2), .val (.int p3), .val (.int p4), .val (.int p5), .val (.int (3 : Int32)), .val (.ref bK), .val (.ref bE), .unset, .unset, .unset, .unset] [(.int (p4.toInt8.toInt32)), (.int (2 : Int32)), (.ref bK)])) t → Steps p.tables e below (T5.setTop (mkF m 54 #[.val (.int p1), .val (.int p2), .val (.int p3), .val (.int p4), .val (.int p5), .val (.int (3 : Int32)), .val (.ref bK), .val (.ref bE), .unset, .unset, .unset, .unset] [])) t := by
      intro t k
      show Steps p.tables e below (T5.setTop (mkF m 54 #[.val (.int p1), .val (.int p2), .val (.int p3), .val (.int p4), .val (.int p5), .val (.int (3 : Int32)), .val (.ref bK), .val (.ref bE), .unset, .unset, .unset, .unset] [])) _
      refine XS.iload X5.here hx rfl (hb hby at_54) rfl ?_
      show Steps p.tables e below (T5.setTop (mkF m 56 #[.val (.int p1), .val (.int p2), .val (.int p3), .val (.int p4), .val (.int p5), .val (.int (3 : Int32)), .val (.ref bK), .val (.ref bE), .unset, .unset, .unset, .unset] [(.int (3 : Int32))])) _
      refine XS.iconst X5.here hx rfl (hb hby at_56) ?_
      show Steps p.tables e below (T5.setTop (mkF m 57 #[.val (.int p1), .val (.int p2), .val (.int p3), .val (.int p4), .val (.int p5), .val (.int (3 : Int32)), .val (.ref bK), .val (.ref bE), .unset, .unset, .unset, .unset] [(.int (2 : Int32)), (.int (3 : Int32))])) _
      refine XS.icmpNo X5.here hx rfl (hb hby at_57) rfl (XT.ii_le_f (by decide)) ?_
      show Steps p.tables e below (T5.setTop (mkF m 60 #[.val (.int p1), .val (.int p2), .val (.int p3), .val (.int p4), .val (.int p5), .val (.int (3 : Int32)), .val (.ref bK), .val (.ref bE), .unset, .unset, .unset, .unset] [])) _
      refine XS.aload X5.here hx rfl (hb hby at_60) rfl rfl ?_
      show Steps p.tables e below (T5.setTop (mkF m 62 #[.val (.int p1), .val (.int p2), .val (.int p3), .val (.int p4), .val (.int p5), .val (.int (3 : Int32)), .val (.ref bK), .val (.ref bE), .unset, .unset, .unset, .unset] [(.ref bK)])) _
      refine XS.iconst X5.here hx rfl (hb hby at_62) ?_
      show Steps p.tables e below (T5.setTop (mkF m 63 #[.val (.int p1), .val (.int p2), .val (.int p3), .val (.int p4), .val (.int p5), .val (.int (3 : Int32)), .val (.ref bK), .val (.ref bE), .unset, .unset, .unset, .unset] [(.int (2 : Int32)), (.ref bK)])) _
      refine XS.iloadN X5.here hx rfl (hb hby at_63) rfl ?_
      show Steps p.tables e below (T5.setTop (mkF m 64 #[.val (.int p1), .val (.int p2), .val (.int p3), .val (.int p4), .val (.int p5), .val (.int (3 : Int32)), .val (.ref bK), .val (.ref bE), .unset, .unset, .unset, .unset] [(.int p4), (.int (2 : Int32)), (.ref bK)])) _
      refine XS.i2b X5.here hx rfl (hb hby at_64) rfl ?_
      show Steps p.tables e below (T5.setTop (mkF m 65 #[.val (.int p1), .val (.int p2), .val (.int p3), .val (.int p4), .val (.int p5), .val (.int (3 : Int32)), .val (.ref bK), .val (.ref bE), .unset, .unset, .unset, .unset] [(.int (p4.toInt8.toInt32)), (.int (2 : Int32)), (.ref bK)])) _
      exact k
    obtain ⟨T6, L6, X6, N6, G6, ⟨sl6, w6, W6⟩, st6⟩ := own_storeB X5 hx hZ N5 gbK GK 65 #[.val (.int p1), .val (.int p2), .val (.int p3), .val (.int p4), .val (.int p5), .val (.int (3 : Int32)), .val (.ref bK), .val (.ref bE), .unset, .unset, .unset, .unset] [] (2 : Int32) (p4.toInt8.toInt32) 2 (by decide) (by decide) (by decide) (hb hby at_65)
    have GK := G6
    have GE := own_By_other W6 GE neKE.symm
    have r6 : ∀ t, Steps p.tables e below (T6.setTop (mkF m 66 #[.val (.int p1), .val (.int p2), .val (.int p3), .val (.int p4), .val (.int p5), .val (.int (3 : Int32)), .val (.ref bK), .val (.ref bE), .unset, .unset, .unset, .unset] [])) t → Steps p.tables e below (s₁.setTop (mkF m 0 #[.val (.int p1), .val (.int p2), .val (.int p3), .val (.int p4), .val (.int p5), .unset, .unset, .unset, .unset, .unset, .unset, .unset] [])) t := fun t k => r5 t (s6 t (st6 t k))
    have s7 : ∀ t, Steps p.tables e below (T6.setTop (mkF m 71 #[.val (.int p1), .val (.int p2), .val (.int p3), .val (.int p4), .val (.int p5), .val (.int (3 : Int32)), .val (.ref bK), .val (.ref bE), .unset, .unset, .unset, .unset] [(.int (p4.toInt8.toInt32)), (.int (2 : Int32)), (.ref bE)])) t → Steps p.tables e below (T6.setTop (mkF m 66 #[.val (.int p1), .val (.int p2), .val (.int p3), .val (.int p4), .val (.int p5), .val (.int (3 : Int32)), .val (.ref bK), .val (.ref bE), .unset, .unset, .unset, .unset] [])) t := by
      intro t k
      show Steps p.tables e below (T6.setTop (mkF m 66 #[.val (.int p1), .val (.int p2), .val (.int p3), .val (.int p4), .val (.int p5), .val (.int (3 : Int32)), .val (.ref bK), .val (.ref bE), .unset, .unset, .unset, .unset] [])) _
      refine XS.aload X6.here hx rfl (hb hby at_66) rfl rfl ?_
      show Steps p.tables e below (T6.setTop (mkF m 68 #[.val (.int p1), .val (.int p2), .val (.int p3), .val (.int p4), .val (.int p5), .val (.int (3 : Int32)), .val (.ref bK), .val (.ref bE), .unset, .unset, .unset, .unset] [(.ref bE)])) _
      refine XS.iconst X6.here hx rfl (hb hby at_68) ?_
      show Steps p.tables e below (T6.setTop (mkF m 69 #[.val (.int p1), .val (.int p2), .val (.int p3), .val (.int p4), .val (.int p5), .val (.int (3 : Int32)), .val (.ref bK), .val (.ref bE), .unset, .unset, .unset, .unset] [(.int (2 : Int32)), (.ref bE)])) _
      refine XS.iloadN X6.here hx rfl (hb hby at_69) rfl ?_
      show Steps p.tables e below (T6.setTop (mkF m 70 #[.val (.int p1), .val (.int p2), .val (.int p3), .val (.int p4), .val (.int p5), .val (.int (3 : Int32)), .val (.ref bK), .val (.ref bE), .unset, .unset, .unset, .unset] [(.int p4), (.int (2 : Int32)), (.ref bE)])) _
      refine XS.i2b X6.here hx rfl (hb hby at_70) rfl ?_
      show Steps p.tables e below (T6.setTop (mkF m 71 #[.val (.int p1), .val (.int p2), .val (.int p3), .val (.int p4), .val (.int p5), .val (.int (3 : Int32)), .val (.ref bK), .val (.ref bE), .unset, .unset, .unset, .unset] [(.int (p4.toInt8.toInt32)), (.int (2 : Int32)), (.ref bE)])) _
      exact k
    obtain ⟨T7, L7, X7, N7, G7, ⟨sl7, w7, W7⟩, st7⟩ := own_storeB X6 hx hZ N6 gbE GE 71 #[.val (.int p1), .val (.int p2), .val (.int p3), .val (.int p4), .val (.int p5), .val (.int (3 : Int32)), .val (.ref bK), .val (.ref bE), .unset, .unset, .unset, .unset] [] (2 : Int32) (p4.toInt8.toInt32) 2 (by decide) (by decide) (by decide) (hb hby at_71)
    have GE := G7
    have GK := own_By_other W7 GK neKE
    have r7 : ∀ t, Steps p.tables e below (T7.setTop (mkF m 72 #[.val (.int p1), .val (.int p2), .val (.int p3), .val (.int p4), .val (.int p5), .val (.int (3 : Int32)), .val (.ref bK), .val (.ref bE), .unset, .unset, .unset, .unset] [])) t → Steps p.tables e below (s₁.setTop (mkF m 0 #[.val (.int p1), .val (.int p2), .val (.int p3), .val (.int p4), .val (.int p5), .unset, .unset, .unset, .unset, .unset, .unset, .unset] [])) t := fun t k => r6 t (s7 t (st7 t k))
    have s8 : ∀ t, Steps p.tables e below (T7.setTop (mkF m 79 #[.val (.int p1), .val (.int p2), .val (.int p3), .val (.int p4), .val (.int p5), .val (.int (3 : Int32)), .val (.ref bK), .val (.ref bE), .unset, .unset, .unset, .unset] [(.int (p5.toInt8.toInt32)), (.int (3 : Int32)), (.ref bE)])) t → Steps p.tables e below (T7.setTop (mkF m 72 #[.val (.int p1), .val (.int p2), .val (.int p3), .val (.int p4), .val (.int p5), .val (.int (3 : Int32)), .val (.ref bK), .val (.ref bE), .unset, .unset, .unset, .unset] [])) t := by
      intro t k
      show Steps p.tables e below (T7.setTop (mkF m 72 #[.val (.int p1), .val (.int p2), .val (.int p3), .val (.int p4), .val (.int p5), .val (.int (3 : Int32)), .val (.ref bK), .val (.ref bE), .unset, .unset, .unset, .unset] [])) _
      refine XS.aload X7.here hx rfl (hb hby at_72) rfl rfl ?_
      show Steps p.tables e below (T7.setTop (mkF m 74 #[.val (.int p1), .val (.int p2), .val (.int p3), .val (.int p4), .val (.int p5), .val (.int (3 : Int32)), .val (.ref bK), .val (.ref bE), .unset, .unset, .unset, .unset] [(.ref bE)])) _
      refine XS.iload X7.here hx rfl (hb hby at_74) rfl ?_
      show Steps p.tables e below (T7.setTop (mkF m 76 #[.val (.int p1), .val (.int p2), .val (.int p3), .val (.int p4), .val (.int p5), .val (.int (3 : Int32)), .val (.ref bK), .val (.ref bE), .unset, .unset, .unset, .unset] [(.int (3 : Int32)), (.ref bE)])) _
      refine XS.iload X7.here hx rfl (hb hby at_76) rfl ?_
      show Steps p.tables e below (T7.setTop (mkF m 78 #[.val (.int p1), .val (.int p2), .val (.int p3), .val (.int p4), .val (.int p5), .val (.int (3 : Int32)), .val (.ref bK), .val (.ref bE), .unset, .unset, .unset, .unset] [(.int p5), (.int (3 : Int32)), (.ref bE)])) _
      refine XS.i2b X7.here hx rfl (hb hby at_78) rfl ?_
      show Steps p.tables e below (T7.setTop (mkF m 79 #[.val (.int p1), .val (.int p2), .val (.int p3), .val (.int p4), .val (.int p5), .val (.int (3 : Int32)), .val (.ref bK), .val (.ref bE), .unset, .unset, .unset, .unset] [(.int (p5.toInt8.toInt32)), (.int (3 : Int32)), (.ref bE)])) _
      exact k
    obtain ⟨T8, L8, X8, N8, G8, ⟨sl8, w8, W8⟩, st8⟩ := own_storeB X7 hx hZ N7 gbE GE 79 #[.val (.int p1), .val (.int p2), .val (.int p3), .val (.int p4), .val (.int p5), .val (.int (3 : Int32)), .val (.ref bK), .val (.ref bE), .unset, .unset, .unset, .unset] [] (3 : Int32) (p5.toInt8.toInt32) 3 (by decide) (by decide) (by decide) (hb hby at_79)
    have GE := G8
    have GK := own_By_other W8 GK neKE
    have r8 : ∀ t, Steps p.tables e below (T8.setTop (mkF m 80 #[.val (.int p1), .val (.int p2), .val (.int p3), .val (.int p4), .val (.int p5), .val (.int (3 : Int32)), .val (.ref bK), .val (.ref bE), .unset, .unset, .unset, .unset] [])) t → Steps p.tables e below (s₁.setTop (mkF m 0 #[.val (.int p1), .val (.int p2), .val (.int p3), .val (.int p4), .val (.int p5), .unset, .unset, .unset, .unset, .unset, .unset, .unset] [])) t := fun t k => r7 t (s8 t (st8 t k))
    have Zq : n0 ≤ T8.heap.size := Nat.le_trans gbK (Nat.le_of_lt (own_By_lt GK))
    have s9 : ∀ t, Steps p.tables e below (T8.setTop (mkF m 82 #[.val (.int p1), .val (.int p2), .val (.int p3), .val (.int p4), .val (.int p5), .val (.int (3 : Int32)), .val (.ref bK), .val (.ref bE), .unset, .unset, .unset, .unset] [(.ref bK)])) t → Steps p.tables e below (T8.setTop (mkF m 80 #[.val (.int p1), .val (.int p2), .val (.int p3), .val (.int p4), .val (.int p5), .val (.int (3 : Int32)), .val (.ref bK), .val (.ref bE), .unset, .unset, .unset, .unset] [])) t := by
      intro t k
      show Steps p.tables e below (T8.setTop (mkF m 80 #[.val (.int p1), .val (.int p2), .val (.int p3), .val (.int p4), .val (.int p5), .val (.int (3 : Int32)), .val (.ref bK), .val (.ref bE), .unset, .unset, .unset, .unset] [])) _
      refine XS.aload X8.here hx rfl (hb hby at_80) rfl rfl ?_
      show Steps p.tables e below (T8.setTop (mkF m 82 #[.val (.int p1), .val (.int p2), .val (.int p3), .val (.int p4), .val (.int p5), .val (.int (3 : Int32)), .val (.ref bK), .val (.ref bE), .unset, .unset, .unset, .unset] [(.ref bK)])) _
      exact k
    obtain ⟨_, _, ⟨T9, L9, k9, n9⟩, -, X9, ⟨Lc9, hQ9, l9, y9, z9⟩, st9⟩ := Jvm.LawKit.callS X8 hx (y := (⟨"com/example/kellar/kellar/schema/KeyTable", "hash", "([B)I"⟩ : MethodName)) hown (mvT hZ (hw _ (List.mem_of_getElem? (i := 1) rfl))) (mvT hZ (hw _ (List.mem_of_getElem? (i := 2) rfl))) (mvT hZ (hw _ (List.mem_of_getElem? (i := 3) rfl))) (mvT hZ (hw _ (List.mem_of_getElem? (i := 4) rfl))) (by decide) (backOf (W := 0) (rm1 l Z a0 hw [] bK 3 (own_upd (own_upd (own_upd (fun _ => 0) 0 (p2.toInt8.toInt32).toInt8.toInt32) 1 (p3.toInt8.toInt32).toInt8.toInt32) 2 (p4.toInt8.toInt32).toInt8.toInt32) T8.heap n0 Zq (by decide) GK) hZ (hw _ (List.mem_of_getElem? (i := 4) rfl)) (hw _ (List.mem_of_getElem? (i := 3) rfl)) (by decide) (by decide)) (g := (mkF m 82 #[.val (.int p1), .val (.int p2), .val (.int p3), .val (.int p4), .val (.int p5), .val (.int (3 : Int32)), .val (.ref bK), .val (.ref bE), .unset, .unset, .unset, .unset] [(.ref bK)])) rfl (by rw [hml]; rfl) (argsL := [(.ref bK)]) (rest := []) (lenOf pd__AB_I rfl) rfl (by show 2 * 0 + _ ≤ _; exact Nat.le_of_eq rfl) (hb hby at_82) (fun _ _ => ⟨rfl, rfl, (by decide : 2 + 0 ≤ _), (by decide : 7 + 0 ≤ _)⟩)
    dsimp only [Pt.U, Pt.locs, Pt.cells, Pt.slots] at X9 l9 y9 z9 st9 hQ9
    subst l9 y9 z9
    obtain ⟨rfl, N9q, e9⟩ := hQ9
    have N9 := Fr.app N8 N9q
    rw [← e9] at Zq GK GE
    have r9 : ∀ t, Steps p.tables e below (T9.setTop (mkF m 85 #[.val (.int p1), .val (.int p2), .val (.int p3), .val (.int p4), .val (.int p5), .val (.int (3 : Int32)), .val (.ref bK), .val (.ref bE), .unset, .unset, .unset, .unset] [(.int (own_mix (own_fnv (own_upd (own_upd (own_upd (fun _ => 0) 0 (p2.toInt8.toInt32).toInt8.toInt32) 1 (p3.toInt8.toInt32).toInt8.toInt32) 2 (p4.toInt8.toInt32).toInt8.toInt32) 3)))])) t → Steps p.tables e below (s₁.setTop (mkF m 0 #[.val (.int p1), .val (.int p2), .val (.int p3), .val (.int p4), .val (.int p5), .unset, .unset, .unset, .unset, .unset, .unset, .unset] [])) t := fun t k => r8 t (s9 t (st9 _  k))
    have s10 : ∀ t, Steps p.tables e below (T9.setTop (mkF m 85 #[.val (.int p1), .val (.int p2), .val (.int p3), .val (.int p4), .val (.int p5), .val (.int (3 : Int32)), .val (.ref bK), .val (.ref bE), .unset, .unset, .unset, .unset] [(.int (own_mix (own_fnv (own_upd (own_upd (own_upd (fun _ => 0) 0 (p2.toInt8.toInt32).toInt8.toInt32) 1 (p3.toInt8.toInt32).toInt8.toInt32) 2 (p4.toInt8.toInt32).toInt8.toInt32) 3)))])) t → Steps p.tables e below (T9.setTop (mkF m 85 #[.val (.int p1), .val (.int p2), .val (.int p3), .val (.int p4), .val (.int p5), .val (.int (3 : Int32)), .val (.ref bK), .val (.ref bE), .unset, .unset, .unset, .unset] [(.int (own_mix (own_fnv (own_upd (own_upd (own_upd (fun _ => 0) 0 (p2.toInt8.toInt32).toInt8.toInt32) 1 (p3.toInt8.toInt32).toInt8.toInt32) 2 (p4.toInt8.toInt32).toInt8.toInt32) 3)))])) t := by
      intro t k
      show Steps p.tables e below (T9.setTop (mkF m 85 #[.val (.int p1), .val (.int p2), .val (.int p3), .val (.int p4), .val (.int p5), .val (.int (3 : Int32)), .val (.ref bK), .val (.ref bE), .unset, .unset, .unset, .unset] [(.int (own_mix (own_fnv (own_upd (own_upd (own_upd (fun _ => 0) 0 (p2.toInt8.toInt32).toInt8.toInt32) 1 (p3.toInt8.toInt32).toInt8.toInt32) 2 (p4.toInt8.toInt32).toInt8.toInt32) 3)))])) _
      exact k
    obtain ⟨_, _, ⟨T10, L10, k10, n10⟩, -, X10, ⟨Lc10, hQ10, l10, y10, z10⟩, st10⟩ := Jvm.LawKit.callS X9 hx (y := (⟨"com/example/kellar/kellar/schema/KeyTableHashPinLaw", "unmix", "(I)I"⟩ : MethodName)) hown (mvT hZ (hw _ (List.mem_of_getElem? (i := 7) rfl))) (mvT hZ (hw _ (List.mem_of_getElem? (i := 8) rfl))) (mvT hZ (hw _ (List.mem_of_getElem? (i := 9) rfl))) (mvT hZ (hw _ (List.mem_of_getElem? (i := 10) rfl))) (by decide) (backOf (W := 0) (rm2 l Z a0 hw [] (own_mix (own_fnv (own_upd (own_upd (own_upd (fun _ => 0) 0 (p2.toInt8.toInt32).toInt8.toInt32) 1 (p3.toInt8.toInt32).toInt8.toInt32) 2 (p4.toInt8.toInt32).toInt8.toInt32) 3)) T9.heap n0 Zq) hZ (hw _ (List.mem_of_getElem? (i := 10) rfl)) (hw _ (List.mem_of_getElem? (i := 9) rfl)) (by decide) (by decide)) (g := (mkF m 85 #[.val (.int p1), .val (.int p2), .val (.int p3), .val (.int p4), .val (.int p5), .val (.int (3 : Int32)), .val (.ref bK), .val (.ref bE), .unset, .unset, .unset, .unset] [(.int (own_mix (own_fnv (own_upd (own_upd (own_upd (fun _ => 0) 0 (p2.toInt8.toInt32).toInt8.toInt32) 1 (p3.toInt8.toInt32).toInt8.toInt32) 2 (p4.toInt8.toInt32).toInt8.toInt32) 3)))])) rfl (by rw [hml]; rfl) (argsL := [(.int (own_mix (own_fnv (own_upd (own_upd (own_upd (fun _ => 0) 0 (p2.toInt8.toInt32).toInt8.toInt32) 1 (p3.toInt8.toInt32).toInt8.toInt32) 2 (p4.toInt8.toInt32).toInt8.toInt32) 3)))]) (rest := []) (lenOf pd__I_I rfl) rfl (by show 2 * 0 + _ ≤ _; exact Nat.le_of_eq rfl) (hb hby at_85) (fun _ _ => ⟨rfl, rfl, (by decide : 2 + 0 ≤ _), (by decide : 7 + 0 ≤ _)⟩)
    dsimp only [Pt.U, Pt.locs, Pt.cells, Pt.slots] at X10 l10 y10 z10 st10 hQ10
    subst l10 y10 z10
    obtain ⟨rfl, N10q, e10⟩ := hQ10
    have N10 := Fr.app N9 N10q
    rw [← e10] at Zq GK GE
    rw [own_um] at st10
    have r10 : ∀ t, Steps p.tables e below (T10.setTop (mkF m 88 #[.val (.int p1), .val (.int p2), .val (.int p3), .val (.int p4), .val (.int p5), .val (.int (3 : Int32)), .val (.ref bK), .val (.ref bE), .unset, .unset, .unset, .unset] [(.int (own_fnv (own_upd (own_upd (own_upd (fun _ => 0) 0 (p2.toInt8.toInt32).toInt8.toInt32) 1 (p3.toInt8.toInt32).toInt8.toInt32) 2 (p4.toInt8.toInt32).toInt8.toInt32) 3))])) t → Steps p.tables e below (s₁.setTop (mkF m 0 #[.val (.int p1), .val (.int p2), .val (.int p3), .val (.int p4), .val (.int p5), .unset, .unset, .unset, .unset, .unset, .unset, .unset] [])) t := fun t k => r9 t (s10 t (st10 _  k))
    have s11 : ∀ t, Steps p.tables e below (T10.setTop (mkF m 92 #[.val (.int p1), .val (.int p2), .val (.int p3), .val (.int p4), .val (.int p5), .val (.int (3 : Int32)), .val (.ref bK), .val (.ref bE), .val (.int (own_fnv (own_upd (own_upd (own_upd (fun _ => 0) 0 (p2.toInt8.toInt32).toInt8.toInt32) 1 (p3.toInt8.toInt32).toInt8.toInt32) 2 (p4.toInt8.toInt32).toInt8.toInt32) 3)), .unset, .unset, .unset] [(.ref bE)])) t → Steps p.tables e below (T10.setTop (mkF m 88 #[.val (.int p1), .val (.int p2), .val (.int p3), .val (.int p4), .val (.int p5), .val (.int (3 : Int32)), .val (.ref bK), .val (.ref bE), .unset, .unset, .unset, .unset] [(.int (own_fnv (own_upd (own_upd (own_upd (fun _ => 0) 0 (p2.toInt8.toInt32).toInt8.toInt32) 1 (p3.toInt8.toInt32).toInt8.toInt32) 2 (p4.toInt8.toInt32).toInt8.toInt32) 3))])) t := by
      intro t k
      show Steps p.tables e below (T10.setTop (mkF m 88 #[.val (.int p1), .val (.int p2), .val (.int p3), .val (.int p4), .val (.int p5), .val (.int (3 : Int32)), .val (.ref bK), .val (.ref bE), .unset, .unset, .unset, .unset] [(.int (own_fnv (own_upd (own_upd (own_upd (fun _ => 0) 0 (p2.toInt8.toInt32).toInt8.toInt32) 1 (p3.toInt8.toInt32).toInt8.toInt32) 2 (p4.toInt8.toInt32).toInt8.toInt32) 3))])) _
      refine XS.istore X10.here hx rfl (hb hby at_88) rfl (l' := #[.val (.int p1), .val (.int p2), .val (.int p3), .val (.int p4), .val (.int p5), .val (.int (3 : Int32)), .val (.ref bK), .val (.ref bE), .val (.int (own_fnv (own_upd (own_upd (own_upd (fun _ => 0) 0 (p2.toInt8.toInt32).toInt8.toInt32) 1 (p3.toInt8.toInt32).toInt8.toInt32) 2 (p4.toInt8.toInt32).toInt8.toInt32) 3)), .unset, .unset, .unset]) rfl ?_
      show Steps p.tables e below (T10.setTop (mkF m 90 #[.val (.int p1), .val (.int p2), .val (.int p3), .val (.int p4), .val (.int p5), .val (.int (3 : Int32)), .val (.ref bK), .val (.ref bE), .val (.int (own_fnv (own_upd (own_upd (own_upd (fun _ => 0) 0 (p2.toInt8.toInt32).toInt8.toInt32) 1 (p3.toInt8.toInt32).toInt8.toInt32) 2 (p4.toInt8.toInt32).toInt8.toInt32) 3)), .unset, .unset, .unset] [])) _
      refine XS.aload X10.here hx rfl (hb hby at_90) rfl rfl ?_
      show Steps p.tables e below (T10.setTop (mkF m 92 #[.val (.int p1), .val (.int p2), .val (.int p3), .val (.int p4), .val (.int p5), .val (.int (3 : Int32)), .val (.ref bK), .val (.ref bE), .val (.int (own_fnv (own_upd (own_upd (own_upd (fun _ => 0) 0 (p2.toInt8.toInt32).toInt8.toInt32) 1 (p3.toInt8.toInt32).toInt8.toInt32) 2 (p4.toInt8.toInt32).toInt8.toInt32) 3)), .unset, .unset, .unset] [(.ref bE)])) _
      exact k
    obtain ⟨_, _, ⟨T11, L11, k11, n11⟩, -, X11, ⟨Lc11, hQ11, l11, y11, z11⟩, st11⟩ := Jvm.LawKit.callS X10 hx (y := (⟨"com/example/kellar/kellar/schema/KeyTable", "hash", "([B)I"⟩ : MethodName)) hown (mvT hZ (hw _ (List.mem_of_getElem? (i := 1) rfl))) (mvT hZ (hw _ (List.mem_of_getElem? (i := 2) rfl))) (mvT hZ (hw _ (List.mem_of_getElem? (i := 3) rfl))) (mvT hZ (hw _ (List.mem_of_getElem? (i := 4) rfl))) (by decide) (backOf (W := 0) (rm1 l Z a0 hw [] bE 4 (own_upd (own_upd (own_upd (own_upd (fun _ => 0) 0 (p2.toInt8.toInt32).toInt8.toInt32) 1 (p3.toInt8.toInt32).toInt8.toInt32) 2 (p4.toInt8.toInt32).toInt8.toInt32) 3 (p5.toInt8.toInt32).toInt8.toInt32) T10.heap n0 Zq (by decide) GE) hZ (hw _ (List.mem_of_getElem? (i := 4) rfl)) (hw _ (List.mem_of_getElem? (i := 3) rfl)) (by decide) (by decide)) (g := (mkF m 92 #[.val (.int p1), .val (.int p2), .val (.int p3), .val (.int p4), .val (.int p5), .val (.int (3 : Int32)), .val (.ref bK), .val (.ref bE), .val (.int (own_fnv (own_upd (own_upd (own_upd (fun _ => 0) 0 (p2.toInt8.toInt32).toInt8.toInt32) 1 (p3.toInt8.toInt32).toInt8.toInt32) 2 (p4.toInt8.toInt32).toInt8.toInt32) 3)), .unset, .unset, .unset] [(.ref bE)])) rfl (by rw [hml]; rfl) (argsL := [(.ref bE)]) (rest := []) (lenOf pd__AB_I rfl) rfl (by show 2 * 0 + _ ≤ _; exact Nat.le_of_eq rfl) (hb hby at_92) (fun _ _ => ⟨rfl, rfl, (by decide : 2 + 0 ≤ _), (by decide : 7 + 0 ≤ _)⟩)
    dsimp only [Pt.U, Pt.locs, Pt.cells, Pt.slots] at X11 l11 y11 z11 st11 hQ11
    subst l11 y11 z11
    obtain ⟨rfl, N11q, e11⟩ := hQ11
    have N11 := Fr.app N10 N11q
    rw [← e11] at Zq GK GE
    have r11 : ∀ t, Steps p.tables e below (T11.setTop (mkF m 95 #[.val (.int p1), .val (.int p2), .val (.int p3), .val (.int p4), .val (.int p5), .val (.int (3 : Int32)), .val (.ref bK), .val (.ref bE), .val (.int (own_fnv (own_upd (own_upd (own_upd (fun _ => 0) 0 (p2.toInt8.toInt32).toInt8.toInt32) 1 (p3.toInt8.toInt32).toInt8.toInt32) 2 (p4.toInt8.toInt32).toInt8.toInt32) 3)), .unset, .unset, .unset] [(.int (own_mix (own_fnv (own_upd (own_upd (own_upd (own_upd (fun _ => 0) 0 (p2.toInt8.toInt32).toInt8.toInt32) 1 (p3.toInt8.toInt32).toInt8.toInt32) 2 (p4.toInt8.toInt32).toInt8.toInt32) 3 (p5.toInt8.toInt32).toInt8.toInt32) 4)))])) t → Steps p.tables e below (s₁.setTop (mkF m 0 #[.val (.int p1), .val (.int p2), .val (.int p3), .val (.int p4), .val (.int p5), .unset, .unset, .unset, .unset, .unset, .unset, .unset] [])) t := fun t k => r10 t (s11 t (st11 _  k))
    have s12 : ∀ t, Steps p.tables e below (T11.setTop (mkF m 95 #[.val (.int p1), .val (.int p2), .val (.int p3), .val (.int p4), .val (.int p5), .val (.int (3 : Int32)), .val (.ref bK), .val (.ref bE), .val (.int (own_fnv (own_upd (own_upd (own_upd (fun _ => 0) 0 (p2.toInt8.toInt32).toInt8.toInt32) 1 (p3.toInt8.toInt32).toInt8.toInt32) 2 (p4.toInt8.toInt32).toInt8.toInt32) 3)), .unset, .unset, .unset] [(.int (own_mix (own_fnv (own_upd (own_upd (own_upd (own_upd (fun _ => 0) 0 (p2.toInt8.toInt32).toInt8.toInt32) 1 (p3.toInt8.toInt32).toInt8.toInt32) 2 (p4.toInt8.toInt32).toInt8.toInt32) 3 (p5.toInt8.toInt32).toInt8.toInt32) 4)))])) t → Steps p.tables e below (T11.setTop (mkF m 95 #[.val (.int p1), .val (.int p2), .val (.int p3), .val (.int p4), .val (.int p5), .val (.int (3 : Int32)), .val (.ref bK), .val (.ref bE), .val (.int (own_fnv (own_upd (own_upd (own_upd (fun _ => 0) 0 (p2.toInt8.toInt32).toInt8.toInt32) 1 (p3.toInt8.toInt32).toInt8.toInt32) 2 (p4.toInt8.toInt32).toInt8.toInt32) 3)), .unset, .unset, .unset] [(.int (own_mix (own_fnv (own_upd (own_upd (own_upd (own_upd (fun _ => 0) 0 (p2.toInt8.toInt32).toInt8.toInt32) 1 (p3.toInt8.toInt32).toInt8.toInt32) 2 (p4.toInt8.toInt32).toInt8.toInt32) 3 (p5.toInt8.toInt32).toInt8.toInt32) 4)))])) t := by
      intro t k
      show Steps p.tables e below (T11.setTop (mkF m 95 #[.val (.int p1), .val (.int p2), .val (.int p3), .val (.int p4), .val (.int p5), .val (.int (3 : Int32)), .val (.ref bK), .val (.ref bE), .val (.int (own_fnv (own_upd (own_upd (own_upd (fun _ => 0) 0 (p2.toInt8.toInt32).toInt8.toInt32) 1 (p3.toInt8.toInt32).toInt8.toInt32) 2 (p4.toInt8.toInt32).toInt8.toInt32) 3)), .unset, .unset, .unset] [(.int (own_mix (own_fnv (own_upd (own_upd (own_upd (own_upd (fun _ => 0) 0 (p2.toInt8.toInt32).toInt8.toInt32) 1 (p3.toInt8.toInt32).toInt8.toInt32) 2 (p4.toInt8.toInt32).toInt8.toInt32) 3 (p5.toInt8.toInt32).toInt8.toInt32) 4)))])) _
      exact k
    obtain ⟨_, _, ⟨T12, L12, k12, n12⟩, -, X12, ⟨Lc12, hQ12, l12, y12, z12⟩, st12⟩ := Jvm.LawKit.callS X11 hx (y := (⟨"com/example/kellar/kellar/schema/KeyTableHashPinLaw", "unmix", "(I)I"⟩ : MethodName)) hown (mvT hZ (hw _ (List.mem_of_getElem? (i := 7) rfl))) (mvT hZ (hw _ (List.mem_of_getElem? (i := 8) rfl))) (mvT hZ (hw _ (List.mem_of_getElem? (i := 9) rfl))) (mvT hZ (hw _ (List.mem_of_getElem? (i := 10) rfl))) (by decide) (backOf (W := 0) (rm2 l Z a0 hw [] (own_mix (own_fnv (own_upd (own_upd (own_upd (own_upd (fun _ => 0) 0 (p2.toInt8.toInt32).toInt8.toInt32) 1 (p3.toInt8.toInt32).toInt8.toInt32) 2 (p4.toInt8.toInt32).toInt8.toInt32) 3 (p5.toInt8.toInt32).toInt8.toInt32) 4)) T11.heap n0 Zq) hZ (hw _ (List.mem_of_getElem? (i := 10) rfl)) (hw _ (List.mem_of_getElem? (i := 9) rfl)) (by decide) (by decide)) (g := (mkF m 95 #[.val (.int p1), .val (.int p2), .val (.int p3), .val (.int p4), .val (.int p5), .val (.int (3 : Int32)), .val (.ref bK), .val (.ref bE), .val (.int (own_fnv (own_upd (own_upd (own_upd (fun _ => 0) 0 (p2.toInt8.toInt32).toInt8.toInt32) 1 (p3.toInt8.toInt32).toInt8.toInt32) 2 (p4.toInt8.toInt32).toInt8.toInt32) 3)), .unset, .unset, .unset] [(.int (own_mix (own_fnv (own_upd (own_upd (own_upd (own_upd (fun _ => 0) 0 (p2.toInt8.toInt32).toInt8.toInt32) 1 (p3.toInt8.toInt32).toInt8.toInt32) 2 (p4.toInt8.toInt32).toInt8.toInt32) 3 (p5.toInt8.toInt32).toInt8.toInt32) 4)))])) rfl (by rw [hml]; rfl) (argsL := [(.int (own_mix (own_fnv (own_upd (own_upd (own_upd (own_upd (fun _ => 0) 0 (p2.toInt8.toInt32).toInt8.toInt32) 1 (p3.toInt8.toInt32).toInt8.toInt32) 2 (p4.toInt8.toInt32).toInt8.toInt32) 3 (p5.toInt8.toInt32).toInt8.toInt32) 4)))]) (rest := []) (lenOf pd__I_I rfl) rfl (by show 2 * 0 + _ ≤ _; exact Nat.le_of_eq rfl) (hb hby at_95) (fun _ _ => ⟨rfl, rfl, (by decide : 2 + 0 ≤ _), (by decide : 7 + 0 ≤ _)⟩)
    dsimp only [Pt.U, Pt.locs, Pt.cells, Pt.slots] at X12 l12 y12 z12 st12 hQ12
    subst l12 y12 z12
    obtain ⟨rfl, N12q, e12⟩ := hQ12
    have N12 := Fr.app N11 N12q
    rw [← e12] at Zq GK GE
    rw [own_um] at st12
    have r12 : ∀ t, Steps p.tables e below (T12.setTop (mkF m 98 #[.val (.int p1), .val (.int p2), .val (.int p3), .val (.int p4), .val (.int p5), .val (.int (3 : Int32)), .val (.ref bK), .val (.ref bE), .val (.int (own_fnv (own_upd (own_upd (own_upd (fun _ => 0) 0 (p2.toInt8.toInt32).toInt8.toInt32) 1 (p3.toInt8.toInt32).toInt8.toInt32) 2 (p4.toInt8.toInt32).toInt8.toInt32) 3)), .unset, .unset, .unset] [(.int (own_fnv (own_upd (own_upd (own_upd (own_upd (fun _ => 0) 0 (p2.toInt8.toInt32).toInt8.toInt32) 1 (p3.toInt8.toInt32).toInt8.toInt32) 2 (p4.toInt8.toInt32).toInt8.toInt32) 3 (p5.toInt8.toInt32).toInt8.toInt32) 4))])) t → Steps p.tables e below (s₁.setTop (mkF m 0 #[.val (.int p1), .val (.int p2), .val (.int p3), .val (.int p4), .val (.int p5), .unset, .unset, .unset, .unset, .unset, .unset, .unset] [])) t := fun t k => r11 t (s12 t (st12 _  k))
    have hstep : (own_fnv (own_upd (own_upd (own_upd (own_upd (fun _ => 0) 0 (p2.toInt8.toInt32).toInt8.toInt32) 1 (p3.toInt8.toInt32).toInt8.toInt32) 2 (p4.toInt8.toInt32).toInt8.toInt32) 3 (p5.toInt8.toInt32).toInt8.toInt32) 4) = (((own_fnv (own_upd (own_upd (own_upd (fun _ => 0) 0 (p2.toInt8.toInt32).toInt8.toInt32) 1 (p3.toInt8.toInt32).toInt8.toInt32) 2 (p4.toInt8.toInt32).toInt8.toInt32) 3) ^^^ (p5 &&& (255 : Int32))) * (16777619 : Int32)) := by
      rw [own_fnv_succ, own_fnv_congr (N := 3) (g := (own_upd (own_upd (own_upd (fun _ => 0) 0 (p2.toInt8.toInt32).toInt8.toInt32) 1 (p3.toInt8.toInt32).toInt8.toInt32) 2 (p4.toInt8.toInt32).toInt8.toInt32)) (fun k hk => by
        match k, hk with
        | 0, _ => simp [own_upd]
        | 1, _ => simp [own_upd]
        | 2, _ => simp [own_upd]
        ), show (own_upd (own_upd (own_upd (own_upd (fun _ => 0) 0 (p2.toInt8.toInt32).toInt8.toInt32) 1 (p3.toInt8.toInt32).toInt8.toInt32) 2 (p4.toInt8.toInt32).toInt8.toInt32) 3 (p5.toInt8.toInt32).toInt8.toInt32) 3 = (p5.toInt8.toInt32).toInt8.toInt32 from by simp [own_upd], own_by2 p5, own_byff p5]
    have s13 : ∀ t, Steps p.tables e below (T12.setTop (mkF m 158 #[.val (.int p1), .val (.int p2), .val (.int p3), .val (.int p4), .val (.int p5), .val (.int (3 : Int32)), .val (.ref bK), .val (.ref bE), .val (.int (own_fnv (own_upd (own_upd (own_upd (fun _ => 0) 0 (p2.toInt8.toInt32).toInt8.toInt32) 1 (p3.toInt8.toInt32).toInt8.toInt32) 2 (p4.toInt8.toInt32).toInt8.toInt32) 3)), .val (.int (own_fnv (own_upd (own_upd (own_upd (own_upd (fun _ => 0) 0 (p2.toInt8.toInt32).toInt8.toInt32) 1 (p3.toInt8.toInt32).toInt8.toInt32) 2 (p4.toInt8.toInt32).toInt8.toInt32) 3 (p5.toInt8.toInt32).toInt8.toInt32) 4)), .val (.int (1 : Int32)), .val (.int (1 : Int32))] [(.int (1 : Int32))])) t → Steps p.tables e below (T12.setTop (mkF m 98 #[.val (.int p1), .val (.int p2), .val (.int p3), .val (.int p4), .val (.int p5), .val (.int (3 : Int32)), .val (.ref bK), .val (.ref bE), .val (.int (own_fnv (own_upd (own_upd (own_upd (fun _ => 0) 0 (p2.toInt8.toInt32).toInt8.toInt32) 1 (p3.toInt8.toInt32).toInt8.toInt32) 2 (p4.toInt8.toInt32).toInt8.toInt32) 3)), .unset, .unset, .unset] [(.int (own_fnv (own_upd (own_upd (own_upd (own_upd (fun _ => 0) 0 (p2.toInt8.toInt32).toInt8.toInt32) 1 (p3.toInt8.toInt32).toInt8.toInt32) 2 (p4.toInt8.toInt32).toInt8.toInt32) 3 (p5.toInt8.toInt32).toInt8.toInt32) 4))])) t := by
      intro t k
      show Steps p.tables e below (T12.setTop (mkF m 98 #[.val (.int p1), .val (.int p2), .val (.int p3), .val (.int p4), .val (.int p5), .val (.int (3 : Int32)), .val (.ref bK), .val (.ref bE), .val (.int (own_fnv (own_upd (own_upd (own_upd (fun _ => 0) 0 (p2.toInt8.toInt32).toInt8.toInt32) 1 (p3.toInt8.toInt32).toInt8.toInt32) 2 (p4.toInt8.toInt32).toInt8.toInt32) 3)), .unset, .unset, .unset] [(.int (own_fnv (own_upd (own_upd (own_upd (own_upd (fun _ => 0) 0 (p2.toInt8.toInt32).toInt8.toInt32) 1 (p3.toInt8.toInt32).toInt8.toInt32) 2 (p4.toInt8.toInt32).toInt8.toInt32) 3 (p5.toInt8.toInt32).toInt8.toInt32) 4))])) _
      refine XS.istore X12.here hx rfl (hb hby at_98) rfl (l' := #[.val (.int p1), .val (.int p2), .val (.int p3), .val (.int p4), .val (.int p5), .val (.int (3 : Int32)), .val (.ref bK), .val (.ref bE), .val (.int (own_fnv (own_upd (own_upd (own_upd (fun _ => 0) 0 (p2.toInt8.toInt32).toInt8.toInt32) 1 (p3.toInt8.toInt32).toInt8.toInt32) 2 (p4.toInt8.toInt32).toInt8.toInt32) 3)), .val (.int (own_fnv (own_upd (own_upd (own_upd (own_upd (fun _ => 0) 0 (p2.toInt8.toInt32).toInt8.toInt32) 1 (p3.toInt8.toInt32).toInt8.toInt32) 2 (p4.toInt8.toInt32).toInt8.toInt32) 3 (p5.toInt8.toInt32).toInt8.toInt32) 4)), .unset, .unset]) rfl ?_
      show Steps p.tables e below (T12.setTop (mkF m 100 #[.val (.int p1), .val (.int p2), .val (.int p3), .val (.int p4), .val (.int p5), .val (.int (3 : Int32)), .val (.ref bK), .val (.ref bE), .val (.int (own_fnv (own_upd (own_upd (own_upd (fun _ => 0) 0 (p2.toInt8.toInt32).toInt8.toInt32) 1 (p3.toInt8.toInt32).toInt8.toInt32) 2 (p4.toInt8.toInt32).toInt8.toInt32) 3)), .val (.int (own_fnv (own_upd (own_upd (own_upd (own_upd (fun _ => 0) 0 (p2.toInt8.toInt32).toInt8.toInt32) 1 (p3.toInt8.toInt32).toInt8.toInt32) 2 (p4.toInt8.toInt32).toInt8.toInt32) 3 (p5.toInt8.toInt32).toInt8.toInt32) 4)), .unset, .unset] [])) _
      refine XS.iload X12.here hx rfl (hb hby at_100) rfl ?_
      show Steps p.tables e below (T12.setTop (mkF m 102 #[.val (.int p1), .val (.int p2), .val (.int p3), .val (.int p4), .val (.int p5), .val (.int (3 : Int32)), .val (.ref bK), .val (.ref bE), .val (.int (own_fnv (own_upd (own_upd (own_upd (fun _ => 0) 0 (p2.toInt8.toInt32).toInt8.toInt32) 1 (p3.toInt8.toInt32).toInt8.toInt32) 2 (p4.toInt8.toInt32).toInt8.toInt32) 3)), .val (.int (own_fnv (own_upd (own_upd (own_upd (own_upd (fun _ => 0) 0 (p2.toInt8.toInt32).toInt8.toInt32) 1 (p3.toInt8.toInt32).toInt8.toInt32) 2 (p4.toInt8.toInt32).toInt8.toInt32) 3 (p5.toInt8.toInt32).toInt8.toInt32) 4)), .unset, .unset] [(.int (3 : Int32))])) _
      refine XS.ifYes X12.here hx rfl (pc0 := 102) (pc' := 112) rfl (hb hby at_102) rfl (XT.i0_ne_t (by decide)) (by decide) (by decide) ?_
      show Steps p.tables e below (T12.setTop (mkF m 112 #[.val (.int p1), .val (.int p2), .val (.int p3), .val (.int p4), .val (.int p5), .val (.int (3 : Int32)), .val (.ref bK), .val (.ref bE), .val (.int (own_fnv (own_upd (own_upd (own_upd (fun _ => 0) 0 (p2.toInt8.toInt32).toInt8.toInt32) 1 (p3.toInt8.toInt32).toInt8.toInt32) 2 (p4.toInt8.toInt32).toInt8.toInt32) 3)), .val (.int (own_fnv (own_upd (own_upd (own_upd (own_upd (fun _ => 0) 0 (p2.toInt8.toInt32).toInt8.toInt32) 1 (p3.toInt8.toInt32).toInt8.toInt32) 2 (p4.toInt8.toInt32).toInt8.toInt32) 3 (p5.toInt8.toInt32).toInt8.toInt32) 4)), .unset, .unset] [])) _
      refine XS.iconst X12.here hx rfl (hb hby at_112) ?_
      show Steps p.tables e below (T12.setTop (mkF m 113 #[.val (.int p1), .val (.int p2), .val (.int p3), .val (.int p4), .val (.int p5), .val (.int (3 : Int32)), .val (.ref bK), .val (.ref bE), .val (.int (own_fnv (own_upd (own_upd (own_upd (fun _ => 0) 0 (p2.toInt8.toInt32).toInt8.toInt32) 1 (p3.toInt8.toInt32).toInt8.toInt32) 2 (p4.toInt8.toInt32).toInt8.toInt32) 3)), .val (.int (own_fnv (own_upd (own_upd (own_upd (own_upd (fun _ => 0) 0 (p2.toInt8.toInt32).toInt8.toInt32) 1 (p3.toInt8.toInt32).toInt8.toInt32) 2 (p4.toInt8.toInt32).toInt8.toInt32) 3 (p5.toInt8.toInt32).toInt8.toInt32) 4)), .unset, .unset] [(.int (1 : Int32))])) _
      refine XS.goto X12.here hx rfl (pc0 := 113) (pc' := 117) rfl (hb hby at_113) (by decide) (by decide) ?_
      show Steps p.tables e below (T12.setTop (mkF m 117 #[.val (.int p1), .val (.int p2), .val (.int p3), .val (.int p4), .val (.int p5), .val (.int (3 : Int32)), .val (.ref bK), .val (.ref bE), .val (.int (own_fnv (own_upd (own_upd (own_upd (fun _ => 0) 0 (p2.toInt8.toInt32).toInt8.toInt32) 1 (p3.toInt8.toInt32).toInt8.toInt32) 2 (p4.toInt8.toInt32).toInt8.toInt32) 3)), .val (.int (own_fnv (own_upd (own_upd (own_upd (own_upd (fun _ => 0) 0 (p2.toInt8.toInt32).toInt8.toInt32) 1 (p3.toInt8.toInt32).toInt8.toInt32) 2 (p4.toInt8.toInt32).toInt8.toInt32) 3 (p5.toInt8.toInt32).toInt8.toInt32) 4)), .unset, .unset] [(.int (1 : Int32))])) _
      refine XS.istore X12.here hx rfl (hb hby at_117) rfl (l' := #[.val (.int p1), .val (.int p2), .val (.int p3), .val (.int p4), .val (.int p5), .val (.int (3 : Int32)), .val (.ref bK), .val (.ref bE), .val (.int (own_fnv (own_upd (own_upd (own_upd (fun _ => 0) 0 (p2.toInt8.toInt32).toInt8.toInt32) 1 (p3.toInt8.toInt32).toInt8.toInt32) 2 (p4.toInt8.toInt32).toInt8.toInt32) 3)), .val (.int (own_fnv (own_upd (own_upd (own_upd (own_upd (fun _ => 0) 0 (p2.toInt8.toInt32).toInt8.toInt32) 1 (p3.toInt8.toInt32).toInt8.toInt32) 2 (p4.toInt8.toInt32).toInt8.toInt32) 3 (p5.toInt8.toInt32).toInt8.toInt32) 4)), .val (.int (1 : Int32)), .unset]) rfl ?_
      show Steps p.tables e below (T12.setTop (mkF m 119 #[.val (.int p1), .val (.int p2), .val (.int p3), .val (.int p4), .val (.int p5), .val (.int (3 : Int32)), .val (.ref bK), .val (.ref bE), .val (.int (own_fnv (own_upd (own_upd (own_upd (fun _ => 0) 0 (p2.toInt8.toInt32).toInt8.toInt32) 1 (p3.toInt8.toInt32).toInt8.toInt32) 2 (p4.toInt8.toInt32).toInt8.toInt32) 3)), .val (.int (own_fnv (own_upd (own_upd (own_upd (own_upd (fun _ => 0) 0 (p2.toInt8.toInt32).toInt8.toInt32) 1 (p3.toInt8.toInt32).toInt8.toInt32) 2 (p4.toInt8.toInt32).toInt8.toInt32) 3 (p5.toInt8.toInt32).toInt8.toInt32) 4)), .val (.int (1 : Int32)), .unset] [])) _
      refine XS.iload X12.here hx rfl (hb hby at_119) rfl ?_
      show Steps p.tables e below (T12.setTop (mkF m 121 #[.val (.int p1), .val (.int p2), .val (.int p3), .val (.int p4), .val (.int p5), .val (.int (3 : Int32)), .val (.ref bK), .val (.ref bE), .val (.int (own_fnv (own_upd (own_upd (own_upd (fun _ => 0) 0 (p2.toInt8.toInt32).toInt8.toInt32) 1 (p3.toInt8.toInt32).toInt8.toInt32) 2 (p4.toInt8.toInt32).toInt8.toInt32) 3)), .val (.int (own_fnv (own_upd (own_upd (own_upd (own_upd (fun _ => 0) 0 (p2.toInt8.toInt32).toInt8.toInt32) 1 (p3.toInt8.toInt32).toInt8.toInt32) 2 (p4.toInt8.toInt32).toInt8.toInt32) 3 (p5.toInt8.toInt32).toInt8.toInt32) 4)), .val (.int (1 : Int32)), .unset] [(.int (own_fnv (own_upd (own_upd (own_upd (own_upd (fun _ => 0) 0 (p2.toInt8.toInt32).toInt8.toInt32) 1 (p3.toInt8.toInt32).toInt8.toInt32) 2 (p4.toInt8.toInt32).toInt8.toInt32) 3 (p5.toInt8.toInt32).toInt8.toInt32) 4))])) _
      refine XS.iload X12.here hx rfl (hb hby at_121) rfl ?_
      show Steps p.tables e below (T12.setTop (mkF m 123 #[.val (.int p1), .val (.int p2), .val (.int p3), .val (.int p4), .val (.int p5), .val (.int (3 : Int32)), .val (.ref bK), .val (.ref bE), .val (.int (own_fnv (own_upd (own_upd (own_upd (fun _ => 0) 0 (p2.toInt8.toInt32).toInt8.toInt32) 1 (p3.toInt8.toInt32).toInt8.toInt32) 2 (p4.toInt8.toInt32).toInt8.toInt32) 3)), .val (.int (own_fnv (own_upd (own_upd (own_upd (own_upd (fun _ => 0) 0 (p2.toInt8.toInt32).toInt8.toInt32) 1 (p3.toInt8.toInt32).toInt8.toInt32) 2 (p4.toInt8.toInt32).toInt8.toInt32) 3 (p5.toInt8.toInt32).toInt8.toInt32) 4)), .val (.int (1 : Int32)), .unset] [(.int (own_fnv (own_upd (own_upd (own_upd (fun _ => 0) 0 (p2.toInt8.toInt32).toInt8.toInt32) 1 (p3.toInt8.toInt32).toInt8.toInt32) 2 (p4.toInt8.toInt32).toInt8.toInt32) 3)), (.int (own_fnv (own_upd (own_upd (own_upd (own_upd (fun _ => 0) 0 (p2.toInt8.toInt32).toInt8.toInt32) 1 (p3.toInt8.toInt32).toInt8.toInt32) 2 (p4.toInt8.toInt32).toInt8.toInt32) 3 (p5.toInt8.toInt32).toInt8.toInt32) 4))])) _
      refine XS.iload X12.here hx rfl (hb hby at_123) rfl ?_
      show Steps p.tables e below (T12.setTop (mkF m 125 #[.val (.int p1), .val (.int p2), .val (.int p3), .val (.int p4), .val (.int p5), .val (.int (3 : Int32)), .val (.ref bK), .val (.ref bE), .val (.int (own_fnv (own_upd (own_upd (own_upd (fun _ => 0) 0 (p2.toInt8.toInt32).toInt8.toInt32) 1 (p3.toInt8.toInt32).toInt8.toInt32) 2 (p4.toInt8.toInt32).toInt8.toInt32) 3)), .val (.int (own_fnv (own_upd (own_upd (own_upd (own_upd (fun _ => 0) 0 (p2.toInt8.toInt32).toInt8.toInt32) 1 (p3.toInt8.toInt32).toInt8.toInt32) 2 (p4.toInt8.toInt32).toInt8.toInt32) 3 (p5.toInt8.toInt32).toInt8.toInt32) 4)), .val (.int (1 : Int32)), .unset] [(.int p5), (.int (own_fnv (own_upd (own_upd (own_upd (fun _ => 0) 0 (p2.toInt8.toInt32).toInt8.toInt32) 1 (p3.toInt8.toInt32).toInt8.toInt32) 2 (p4.toInt8.toInt32).toInt8.toInt32) 3)), (.int (own_fnv (own_upd (own_upd (own_upd (own_upd (fun _ => 0) 0 (p2.toInt8.toInt32).toInt8.toInt32) 1 (p3.toInt8.toInt32).toInt8.toInt32) 2 (p4.toInt8.toInt32).toInt8.toInt32) 3 (p5.toInt8.toInt32).toInt8.toInt32) 4))])) _
      refine XS.sipush X12.here hx rfl (hb hby at_125) ?_
      show Steps p.tables e below (T12.setTop (mkF m 128 #[.val (.int p1), .val (.int p2), .val (.int p3), .val (.int p4), .val (.int p5), .val (.int (3 : Int32)), .val (.ref bK), .val (.ref bE), .val (.int (own_fnv (own_upd (own_upd (own_upd (fun _ => 0) 0 (p2.toInt8.toInt32).toInt8.toInt32) 1 (p3.toInt8.toInt32).toInt8.toInt32) 2 (p4.toInt8.toInt32).toInt8.toInt32) 3)), .val (.int (own_fnv (own_upd (own_upd (own_upd (own_upd (fun _ => 0) 0 (p2.toInt8.toInt32).toInt8.toInt32) 1 (p3.toInt8.toInt32).toInt8.toInt32) 2 (p4.toInt8.toInt32).toInt8.toInt32) 3 (p5.toInt8.toInt32).toInt8.toInt32) 4)), .val (.int (1 : Int32)), .unset] [(.int (255 : Int32)), (.int p5), (.int (own_fnv (own_upd (own_upd (own_upd (fun _ => 0) 0 (p2.toInt8.toInt32).toInt8.toInt32) 1 (p3.toInt8.toInt32).toInt8.toInt32) 2 (p4.toInt8.toInt32).toInt8.toInt32) 3)), (.int (own_fnv (own_upd (own_upd (own_upd (own_upd (fun _ => 0) 0 (p2.toInt8.toInt32).toInt8.toInt32) 1 (p3.toInt8.toInt32).toInt8.toInt32) 2 (p4.toInt8.toInt32).toInt8.toInt32) 3 (p5.toInt8.toInt32).toInt8.toInt32) 4))])) _
      refine XS.iand X12.here hx rfl (hb hby at_128) rfl ?_
      show Steps p.tables e below (T12.setTop (mkF m 129 #[.val (.int p1), .val (.int p2), .val (.int p3), .val (.int p4), .val (.int p5), .val (.int (3 : Int32)), .val (.ref bK), .val (.ref bE), .val (.int (own_fnv (own_upd (own_upd (own_upd (fun _ => 0) 0 (p2.toInt8.toInt32).toInt8.toInt32) 1 (p3.toInt8.toInt32).toInt8.toInt32) 2 (p4.toInt8.toInt32).toInt8.toInt32) 3)), .val (.int (own_fnv (own_upd (own_upd (own_upd (own_upd (fun _ => 0) 0 (p2.toInt8.toInt32).toInt8.toInt32) 1 (p3.toInt8.toInt32).toInt8.toInt32) 2 (p4.toInt8.toInt32).toInt8.toInt32) 3 (p5.toInt8.toInt32).toInt8.toInt32) 4)), .val (.int (1 : Int32)), .unset] [(.int (p5 &&& (255 : Int32))), (.int (own_fnv (own_upd (own_upd (own_upd (fun _ => 0) 0 (p2.toInt8.toInt32).toInt8.toInt32) 1 (p3.toInt8.toInt32).toInt8.toInt32) 2 (p4.toInt8.toInt32).toInt8.toInt32) 3)), (.int (own_fnv (own_upd (own_upd (own_upd (own_upd (fun _ => 0) 0 (p2.toInt8.toInt32).toInt8.toInt32) 1 (p3.toInt8.toInt32).toInt8.toInt32) 2 (p4.toInt8.toInt32).toInt8.toInt32) 3 (p5.toInt8.toInt32).toInt8.toInt32) 4))])) _
      refine XS.ixor X12.here hx rfl (hb hby at_129) rfl ?_
      show Steps p.tables e below (T12.setTop (mkF m 130 #[.val (.int p1), .val (.int p2), .val (.int p3), .val (.int p4), .val (.int p5), .val (.int (3 : Int32)), .val (.ref bK), .val (.ref bE), .val (.int (own_fnv (own_upd (own_upd (own_upd (fun _ => 0) 0 (p2.toInt8.toInt32).toInt8.toInt32) 1 (p3.toInt8.toInt32).toInt8.toInt32) 2 (p4.toInt8.toInt32).toInt8.toInt32) 3)), .val (.int (own_fnv (own_upd (own_upd (own_upd (own_upd (fun _ => 0) 0 (p2.toInt8.toInt32).toInt8.toInt32) 1 (p3.toInt8.toInt32).toInt8.toInt32) 2 (p4.toInt8.toInt32).toInt8.toInt32) 3 (p5.toInt8.toInt32).toInt8.toInt32) 4)), .val (.int (1 : Int32)), .unset] [(.int ((own_fnv (own_upd (own_upd (own_upd (fun _ => 0) 0 (p2.toInt8.toInt32).toInt8.toInt32) 1 (p3.toInt8.toInt32).toInt8.toInt32) 2 (p4.toInt8.toInt32).toInt8.toInt32) 3) ^^^ (p5 &&& (255 : Int32)))), (.int (own_fnv (own_upd (own_upd (own_upd (own_upd (fun _ => 0) 0 (p2.toInt8.toInt32).toInt8.toInt32) 1 (p3.toInt8.toInt32).toInt8.toInt32) 2 (p4.toInt8.toInt32).toInt8.toInt32) 3 (p5.toInt8.toInt32).toInt8.toInt32) 4))])) _
      refine X12.ldcI hx hown (mvT hZ (hw _ (List.mem_of_getElem? (i := 14) rfl))) (g := (mkF m 130 #[.val (.int p1), .val (.int p2), .val (.int p3), .val (.int p4), .val (.int p5), .val (.int (3 : Int32)), .val (.ref bK), .val (.ref bE), .val (.int (own_fnv (own_upd (own_upd (own_upd (fun _ => 0) 0 (p2.toInt8.toInt32).toInt8.toInt32) 1 (p3.toInt8.toInt32).toInt8.toInt32) 2 (p4.toInt8.toInt32).toInt8.toInt32) 3)), .val (.int (own_fnv (own_upd (own_upd (own_upd (own_upd (fun _ => 0) 0 (p2.toInt8.toInt32).toInt8.toInt32) 1 (p3.toInt8.toInt32).toInt8.toInt32) 2 (p4.toInt8.toInt32).toInt8.toInt32) 3 (p5.toInt8.toInt32).toInt8.toInt32) 4)), .val (.int (1 : Int32)), .unset] [(.int ((own_fnv (own_upd (own_upd (own_upd (fun _ => 0) 0 (p2.toInt8.toInt32).toInt8.toInt32) 1 (p3.toInt8.toInt32).toInt8.toInt32) 2 (p4.toInt8.toInt32).toInt8.toInt32) 3) ^^^ (p5 &&& (255 : Int32)))), (.int (own_fnv (own_upd (own_upd (own_upd (own_upd (fun _ => 0) 0 (p2.toInt8.toInt32).toInt8.toInt32) 1 (p3.toInt8.toInt32).toInt8.toInt32) 2 (p4.toInt8.toInt32).toInt8.toInt32) 3 (p5.toInt8.toInt32).toInt8.toInt32) 4))])) rfl (hb hby at_130) ?_
      show Steps p.tables e below (T12.setTop (mkF m 132 #[.val (.int p1), .val (.int p2), .val (.int p3), .val (.int p4), .val (.int p5), .val (.int (3 : Int32)), .val (.ref bK), .val (.ref bE), .val (.int (own_fnv (own_upd (own_upd (own_upd (fun _ => 0) 0 (p2.toInt8.toInt32).toInt8.toInt32) 1 (p3.toInt8.toInt32).toInt8.toInt32) 2 (p4.toInt8.toInt32).toInt8.toInt32) 3)), .val (.int (own_fnv (own_upd (own_upd (own_upd (own_upd (fun _ => 0) 0 (p2.toInt8.toInt32).toInt8.toInt32) 1 (p3.toInt8.toInt32).toInt8.toInt32) 2 (p4.toInt8.toInt32).toInt8.toInt32) 3 (p5.toInt8.toInt32).toInt8.toInt32) 4)), .val (.int (1 : Int32)), .unset] [(.int (16777619 : Int32)), (.int ((own_fnv (own_upd (own_upd (own_upd (fun _ => 0) 0 (p2.toInt8.toInt32).toInt8.toInt32) 1 (p3.toInt8.toInt32).toInt8.toInt32) 2 (p4.toInt8.toInt32).toInt8.toInt32) 3) ^^^ (p5 &&& (255 : Int32)))), (.int (own_fnv (own_upd (own_upd (own_upd (own_upd (fun _ => 0) 0 (p2.toInt8.toInt32).toInt8.toInt32) 1 (p3.toInt8.toInt32).toInt8.toInt32) 2 (p4.toInt8.toInt32).toInt8.toInt32) 3 (p5.toInt8.toInt32).toInt8.toInt32) 4))])) _
      refine XS.imul X12.here hx rfl (hb hby at_132) rfl ?_
      show Steps p.tables e below (T12.setTop (mkF m 133 #[.val (.int p1), .val (.int p2), .val (.int p3), .val (.int p4), .val (.int p5), .val (.int (3 : Int32)), .val (.ref bK), .val (.ref bE), .val (.int (own_fnv (own_upd (own_upd (own_upd (fun _ => 0) 0 (p2.toInt8.toInt32).toInt8.toInt32) 1 (p3.toInt8.toInt32).toInt8.toInt32) 2 (p4.toInt8.toInt32).toInt8.toInt32) 3)), .val (.int (own_fnv (own_upd (own_upd (own_upd (own_upd (fun _ => 0) 0 (p2.toInt8.toInt32).toInt8.toInt32) 1 (p3.toInt8.toInt32).toInt8.toInt32) 2 (p4.toInt8.toInt32).toInt8.toInt32) 3 (p5.toInt8.toInt32).toInt8.toInt32) 4)), .val (.int (1 : Int32)), .unset] [(.int (((own_fnv (own_upd (own_upd (own_upd (fun _ => 0) 0 (p2.toInt8.toInt32).toInt8.toInt32) 1 (p3.toInt8.toInt32).toInt8.toInt32) 2 (p4.toInt8.toInt32).toInt8.toInt32) 3) ^^^ (p5 &&& (255 : Int32))) * (16777619 : Int32))), (.int (own_fnv (own_upd (own_upd (own_upd (own_upd (fun _ => 0) 0 (p2.toInt8.toInt32).toInt8.toInt32) 1 (p3.toInt8.toInt32).toInt8.toInt32) 2 (p4.toInt8.toInt32).toInt8.toInt32) 3 (p5.toInt8.toInt32).toInt8.toInt32) 4))])) _
      refine XS.icmpNo X12.here hx rfl (hb hby at_133) rfl (XT.ii_ne_f hstep) ?_
      show Steps p.tables e below (T12.setTop (mkF m 136 #[.val (.int p1), .val (.int p2), .val (.int p3), .val (.int p4), .val (.int p5), .val (.int (3 : Int32)), .val (.ref bK), .val (.ref bE), .val (.int (own_fnv (own_upd (own_upd (own_upd (fun _ => 0) 0 (p2.toInt8.toInt32).toInt8.toInt32) 1 (p3.toInt8.toInt32).toInt8.toInt32) 2 (p4.toInt8.toInt32).toInt8.toInt32) 3)), .val (.int (own_fnv (own_upd (own_upd (own_upd (own_upd (fun _ => 0) 0 (p2.toInt8.toInt32).toInt8.toInt32) 1 (p3.toInt8.toInt32).toInt8.toInt32) 2 (p4.toInt8.toInt32).toInt8.toInt32) 3 (p5.toInt8.toInt32).toInt8.toInt32) 4)), .val (.int (1 : Int32)), .unset] [])) _
      refine XS.iconst X12.here hx rfl (hb hby at_136) ?_
      show Steps p.tables e below (T12.setTop (mkF m 137 #[.val (.int p1), .val (.int p2), .val (.int p3), .val (.int p4), .val (.int p5), .val (.int (3 : Int32)), .val (.ref bK), .val (.ref bE), .val (.int (own_fnv (own_upd (own_upd (own_upd (fun _ => 0) 0 (p2.toInt8.toInt32).toInt8.toInt32) 1 (p3.toInt8.toInt32).toInt8.toInt32) 2 (p4.toInt8.toInt32).toInt8.toInt32) 3)), .val (.int (own_fnv (own_upd (own_upd (own_upd (own_upd (fun _ => 0) 0 (p2.toInt8.toInt32).toInt8.toInt32) 1 (p3.toInt8.toInt32).toInt8.toInt32) 2 (p4.toInt8.toInt32).toInt8.toInt32) 3 (p5.toInt8.toInt32).toInt8.toInt32) 4)), .val (.int (1 : Int32)), .unset] [(.int (1 : Int32))])) _
      refine XS.goto X12.here hx rfl (pc0 := 137) (pc' := 141) rfl (hb hby at_137) (by decide) (by decide) ?_
      show Steps p.tables e below (T12.setTop (mkF m 141 #[.val (.int p1), .val (.int p2), .val (.int p3), .val (.int p4), .val (.int p5), .val (.int (3 : Int32)), .val (.ref bK), .val (.ref bE), .val (.int (own_fnv (own_upd (own_upd (own_upd (fun _ => 0) 0 (p2.toInt8.toInt32).toInt8.toInt32) 1 (p3.toInt8.toInt32).toInt8.toInt32) 2 (p4.toInt8.toInt32).toInt8.toInt32) 3)), .val (.int (own_fnv (own_upd (own_upd (own_upd (own_upd (fun _ => 0) 0 (p2.toInt8.toInt32).toInt8.toInt32) 1 (p3.toInt8.toInt32).toInt8.toInt32) 2 (p4.toInt8.toInt32).toInt8.toInt32) 3 (p5.toInt8.toInt32).toInt8.toInt32) 4)), .val (.int (1 : Int32)), .unset] [(.int (1 : Int32))])) _
      refine XS.istore X12.here hx rfl (hb hby at_141) rfl (l' := #[.val (.int p1), .val (.int p2), .val (.int p3), .val (.int p4), .val (.int p5), .val (.int (3 : Int32)), .val (.ref bK), .val (.ref bE), .val (.int (own_fnv (own_upd (own_upd (own_upd (fun _ => 0) 0 (p2.toInt8.toInt32).toInt8.toInt32) 1 (p3.toInt8.toInt32).toInt8.toInt32) 2 (p4.toInt8.toInt32).toInt8.toInt32) 3)), .val (.int (own_fnv (own_upd (own_upd (own_upd (own_upd (fun _ => 0) 0 (p2.toInt8.toInt32).toInt8.toInt32) 1 (p3.toInt8.toInt32).toInt8.toInt32) 2 (p4.toInt8.toInt32).toInt8.toInt32) 3 (p5.toInt8.toInt32).toInt8.toInt32) 4)), .val (.int (1 : Int32)), .val (.int (1 : Int32))]) rfl ?_
      show Steps p.tables e below (T12.setTop (mkF m 143 #[.val (.int p1), .val (.int p2), .val (.int p3), .val (.int p4), .val (.int p5), .val (.int (3 : Int32)), .val (.ref bK), .val (.ref bE), .val (.int (own_fnv (own_upd (own_upd (own_upd (fun _ => 0) 0 (p2.toInt8.toInt32).toInt8.toInt32) 1 (p3.toInt8.toInt32).toInt8.toInt32) 2 (p4.toInt8.toInt32).toInt8.toInt32) 3)), .val (.int (own_fnv (own_upd (own_upd (own_upd (own_upd (fun _ => 0) 0 (p2.toInt8.toInt32).toInt8.toInt32) 1 (p3.toInt8.toInt32).toInt8.toInt32) 2 (p4.toInt8.toInt32).toInt8.toInt32) 3 (p5.toInt8.toInt32).toInt8.toInt32) 4)), .val (.int (1 : Int32)), .val (.int (1 : Int32))] [])) _
      refine XS.iload X12.here hx rfl (hb hby at_143) rfl ?_
      show Steps p.tables e below (T12.setTop (mkF m 145 #[.val (.int p1), .val (.int p2), .val (.int p3), .val (.int p4), .val (.int p5), .val (.int (3 : Int32)), .val (.ref bK), .val (.ref bE), .val (.int (own_fnv (own_upd (own_upd (own_upd (fun _ => 0) 0 (p2.toInt8.toInt32).toInt8.toInt32) 1 (p3.toInt8.toInt32).toInt8.toInt32) 2 (p4.toInt8.toInt32).toInt8.toInt32) 3)), .val (.int (own_fnv (own_upd (own_upd (own_upd (own_upd (fun _ => 0) 0 (p2.toInt8.toInt32).toInt8.toInt32) 1 (p3.toInt8.toInt32).toInt8.toInt32) 2 (p4.toInt8.toInt32).toInt8.toInt32) 3 (p5.toInt8.toInt32).toInt8.toInt32) 4)), .val (.int (1 : Int32)), .val (.int (1 : Int32))] [(.int (1 : Int32))])) _
      refine XS.ifNo X12.here hx rfl (hb hby at_145) rfl (XT.i0_eq_f (by decide)) ?_
      show Steps p.tables e below (T12.setTop (mkF m 148 #[.val (.int p1), .val (.int p2), .val (.int p3), .val (.int p4), .val (.int p5), .val (.int (3 : Int32)), .val (.ref bK), .val (.ref bE), .val (.int (own_fnv (own_upd (own_upd (own_upd (fun _ => 0) 0 (p2.toInt8.toInt32).toInt8.toInt32) 1 (p3.toInt8.toInt32).toInt8.toInt32) 2 (p4.toInt8.toInt32).toInt8.toInt32) 3)), .val (.int (own_fnv (own_upd (own_upd (own_upd (own_upd (fun _ => 0) 0 (p2.toInt8.toInt32).toInt8.toInt32) 1 (p3.toInt8.toInt32).toInt8.toInt32) 2 (p4.toInt8.toInt32).toInt8.toInt32) 3 (p5.toInt8.toInt32).toInt8.toInt32) 4)), .val (.int (1 : Int32)), .val (.int (1 : Int32))] [])) _
      refine XS.iload X12.here hx rfl (hb hby at_148) rfl ?_
      show Steps p.tables e below (T12.setTop (mkF m 150 #[.val (.int p1), .val (.int p2), .val (.int p3), .val (.int p4), .val (.int p5), .val (.int (3 : Int32)), .val (.ref bK), .val (.ref bE), .val (.int (own_fnv (own_upd (own_upd (own_upd (fun _ => 0) 0 (p2.toInt8.toInt32).toInt8.toInt32) 1 (p3.toInt8.toInt32).toInt8.toInt32) 2 (p4.toInt8.toInt32).toInt8.toInt32) 3)), .val (.int (own_fnv (own_upd (own_upd (own_upd (own_upd (fun _ => 0) 0 (p2.toInt8.toInt32).toInt8.toInt32) 1 (p3.toInt8.toInt32).toInt8.toInt32) 2 (p4.toInt8.toInt32).toInt8.toInt32) 3 (p5.toInt8.toInt32).toInt8.toInt32) 4)), .val (.int (1 : Int32)), .val (.int (1 : Int32))] [(.int (1 : Int32))])) _
      refine XS.ifNo X12.here hx rfl (hb hby at_150) rfl (XT.i0_eq_f (by decide)) ?_
      show Steps p.tables e below (T12.setTop (mkF m 153 #[.val (.int p1), .val (.int p2), .val (.int p3), .val (.int p4), .val (.int p5), .val (.int (3 : Int32)), .val (.ref bK), .val (.ref bE), .val (.int (own_fnv (own_upd (own_upd (own_upd (fun _ => 0) 0 (p2.toInt8.toInt32).toInt8.toInt32) 1 (p3.toInt8.toInt32).toInt8.toInt32) 2 (p4.toInt8.toInt32).toInt8.toInt32) 3)), .val (.int (own_fnv (own_upd (own_upd (own_upd (own_upd (fun _ => 0) 0 (p2.toInt8.toInt32).toInt8.toInt32) 1 (p3.toInt8.toInt32).toInt8.toInt32) 2 (p4.toInt8.toInt32).toInt8.toInt32) 3 (p5.toInt8.toInt32).toInt8.toInt32) 4)), .val (.int (1 : Int32)), .val (.int (1 : Int32))] [])) _
      refine XS.iconst X12.here hx rfl (hb hby at_153) ?_
      show Steps p.tables e below (T12.setTop (mkF m 154 #[.val (.int p1), .val (.int p2), .val (.int p3), .val (.int p4), .val (.int p5), .val (.int (3 : Int32)), .val (.ref bK), .val (.ref bE), .val (.int (own_fnv (own_upd (own_upd (own_upd (fun _ => 0) 0 (p2.toInt8.toInt32).toInt8.toInt32) 1 (p3.toInt8.toInt32).toInt8.toInt32) 2 (p4.toInt8.toInt32).toInt8.toInt32) 3)), .val (.int (own_fnv (own_upd (own_upd (own_upd (own_upd (fun _ => 0) 0 (p2.toInt8.toInt32).toInt8.toInt32) 1 (p3.toInt8.toInt32).toInt8.toInt32) 2 (p4.toInt8.toInt32).toInt8.toInt32) 3 (p5.toInt8.toInt32).toInt8.toInt32) 4)), .val (.int (1 : Int32)), .val (.int (1 : Int32))] [(.int (1 : Int32))])) _
      refine XS.goto X12.here hx rfl (pc0 := 154) (pc' := 158) rfl (hb hby at_154) (by decide) (by decide) ?_
      show Steps p.tables e below (T12.setTop (mkF m 158 #[.val (.int p1), .val (.int p2), .val (.int p3), .val (.int p4), .val (.int p5), .val (.int (3 : Int32)), .val (.ref bK), .val (.ref bE), .val (.int (own_fnv (own_upd (own_upd (own_upd (fun _ => 0) 0 (p2.toInt8.toInt32).toInt8.toInt32) 1 (p3.toInt8.toInt32).toInt8.toInt32) 2 (p4.toInt8.toInt32).toInt8.toInt32) 3)), .val (.int (own_fnv (own_upd (own_upd (own_upd (own_upd (fun _ => 0) 0 (p2.toInt8.toInt32).toInt8.toInt32) 1 (p3.toInt8.toInt32).toInt8.toInt32) 2 (p4.toInt8.toInt32).toInt8.toInt32) 3 (p5.toInt8.toInt32).toInt8.toInt32) 4)), .val (.int (1 : Int32)), .val (.int (1 : Int32))] [(.int (1 : Int32))])) _
      exact k
    obtain ⟨fs, hr, hrun, hended, hW, hsame⟩ := X12.leave (v := some (.int (1 : Int32))) (fun h => by rw [Bd.returns] at h; cases h)
    refine ⟨_, _, pre0 _ (r12 _ (s13 _ ?_)), hrun, hended, _, _, rfl, ?_, ⟨_, rfl⟩, hW, hsame.mono (by decide) (by decide)⟩
    · exact retN X12 hx (t := .boolean) Bd.returns (by simp) (hb hby at_158) hr
    · exact ⟨rfl, N12⟩
set_option maxRecDepth 65536 in
set_option maxHeartbeats 40000000 in
theorem comes_1 {Post : Tables → Env → Array Value → State → Outcome → State → Prop} (hpost : ∀ tb e args s v u, (limb_1_1.after args s (.returned v) u = true ∧ limb_1_2.after args s (.returned v) u = true ∧ True) → FrameEnd s (.returned v) u (Jvm.fieldLocs frame_1_writes args s ++ Jvm.arrayLocs frame_1_arrays args s ++ Jvm.staticLocs frame_1_statics s) 16 128 → Post tb e args s (.returned v) u) :
    ArmFor flags0 classFile x code maxLocals ret World_1 tables_1 room_1 Calls_1 rest_1 Pre_1 Post := by
  intro l hfl _ _ p e ha hc hk s m args below hf hA hF happ hP
  obtain ⟨hcalls, hrest, hpre⟩ := hP
  obtain ⟨-, -, -, hnamed, -, -, -, hat⟩ := (Spec.applies_iff hf).mp happ
  obtain ⟨hg, hn⟩ := and_e (Cond.before_iff.mp (show (Jvm.Cond.and given_1 narrow_1).before args s = true from hpre))
  obtain ⟨gc, q0⟩ := and_e hg
  obtain ⟨gi0, q1⟩ := and_e q0
  obtain ⟨gi1, q2⟩ := and_e q1
  obtain ⟨gi2, q3⟩ := and_e q2
  obtain ⟨gi3, q4⟩ := and_e q3
  obtain ⟨w0, w1, w2, w3, w4, rfl⟩ : ∃ w0 w1 w2 w3 w4 : Value, args = #[w0, w1, w2, w3, w4] := by
    have hs : args.size = 5 := by simpa [Cond.value, given_1] using gc
    obtain ⟨L⟩ := args
    match L, hs with
    | [w0, w1, w2, w3, w4], _ => exact ⟨w0, w1, w2, w3, w4, rfl⟩
  have hw := fun d (hd : d ∈ tables_1) => atoms_spec (ws := Jvm.Cond.code x code maxLocals ret :: tables_1) hat d (List.mem_cons_of_mem _ hd)
  obtain ⟨i0, ei0⟩ := is_v gi0
  obtain rfl : w0 = (.int i0) := Option.some.inj ei0
  obtain ⟨i1, ei1⟩ := is_v gi1
  obtain rfl : w1 = (.int i1) := Option.some.inj ei1
  obtain ⟨i2, ei2⟩ := is_v gi2
  obtain rfl : w2 = (.int i2) := Option.some.inj ei2
  obtain ⟨i3, ei3⟩ := is_v gi3
  obtain rfl : w3 = (.int i3) := Option.some.inj ei3
  obtain ⟨i4, ei4⟩ := is_v q4
  obtain rfl : w4 = (.int i4) := Option.some.inj ei4
  obtain ⟨n, o, h1, h2, h3, _, L, rfl, ⟨rfl, N⟩, hq⟩ := rm0 l s _ hw tables_1 i0 i1 i2 i3 i4 s.heap s.heap.size (Nat.le_refl _) p e ha hc hk s m _ below hf ((Spec.applies_iff_loose hf).mp happ).1 ⟨rfl, State.Warmed39.refl s, rfl⟩ trivial
  refine ⟨n, _, h1, h2, h3, hpost _ _ _ _ _ _ ⟨Cond.after_iff.mpr rfl, Cond.after_iff.mpr (eq_i res_at (Term.int_eval (1)) rfl), trivial⟩ ⟨hq.1, hq.2.1, (hq.2.2.sift fun y hy => Or.inr (N y hy)).mono (by decide) (by decide)⟩⟩
theorem main_1_1 : Claimed_1_1 := comes_1 fun _ _ _ _ _ _ h hF => ⟨h.1, hF⟩
theorem main_1_2 : Claimed_1_2 := comes_1 fun _ _ _ _ _ _ h hF => ⟨h.2.1, hF⟩
end Jvm.Pilot.@@N@@
namespace Jvm.Pilot.@@N@@
open Jvm Jvm.ClassFile Sem Op Lib Jvm.Free Jvm.Stand Jvm.Pilot.@@N@@.Jvm.D
/-! MADE BY PROGRAM (witnessworld.py) out of the Statement's table words and the real class files: 9 classes; the members and pool entries that the words name. The judged class is class 1, her method 2. -/
namespace start1
open Jvm.ClassFile
def u (s : String) : CpInfo := .utf8 (stringToUtf16 s)
/-- a pool by its gaps: so many unusable entries, then the entry; so many at the end -/
def gap : Nat → List CpInfo → List CpInfo
  | 0, r => r
  | n + 1, r => .unusable :: gap n r
def poolList (es : List (Nat × CpInfo)) (last : Nat) : List CpInfo := es.foldr (fun e r => gap e.1 (e.2 :: r)) (gap last [])
def pool (es : List (Nat × CpInfo)) (last : Nat) : Array CpInfo := ⟨poolList es last⟩
def fileOf (pool : Array CpInfo) (this : Nat) (attrs : Array Attribute := #[]) (ms : Array MethodInfo := #[]) (fl : Nat := 33) (sup : Nat := 0) (ifs : Array Nat := #[]) (fds : Array FieldInfo := #[]) : ClassFile where
  minorVersion := 0
  majorVersion := 65
  constantPool := pool
  accessFlags := fl
  thisClass := this
  superClass := sup
  interfaces := ifs
  fields := fds
  methods := ms
  attributes := attrs
def plain (name : String) (sup : Option ClassId) : Class where
  name := name
  kind := .ordinary
  loader := none
  accessFlags := 33
  super := sup
  interfaces := #[]
  cf := none
  fields := #[]
  methods := #[]
  instanceTypes := #[]
  staticTypes := #[]
  resolved := #[]
  callSites := []
  init := .initialized
  statics := none
  mirror := none

def pool0 : Array CpInfo := pool [(5, u "<init>"), (0, u "()V"), (1, .class_ 10), (1, u "java/lang/Object")] 113

def k0m0 : Method := { name := "<init>", desc := "()V", sig := { parameters := [], returnType := none }, accessFlags := 1, code := none }
/-- java/lang/Object -/
def k0 : Class := { plain "java/lang/Object" none with
  accessFlags := 33
  interfaces := #[]
  cf := some (fileOf pool0 8 #[] #[{ accessFlags := 1, nameIndex := 5, descriptorIndex := 6, attributes := #[] }] 33 0 #[] #[])
  fields := #[]
  methods := #[k0m0]
  instanceTypes := #[]
  staticTypes := #[]
  resolved := Array.replicate 124 none
  statics := none }

def pool1 : Array CpInfo := pool [(2, .class_ 4), (1, u "java/lang/Object"), (0, u "<init>"), (0, u "()V"), (0, .integer 2781581891), (0, .methodref 9 10), (0, .class_ 11), (0, .nameAndType 12 13), (0, u "com/example/kellar/kellar/schema/KeyTable"), (0, u "hash"), (0, u "([B)I"), (0, .methodref 15 16), (0, .class_ 17), (0, .nameAndType 18 19), (0, u "com/example/kellar/kellar/schema/KeyTableHashPinLaw"), (0, u "unmix"), (0, u "(I)I"), (0, .integer 2166136261), (0, .integer 16777619), (2, u "law"), (0, u "(IIIII)Z")] 5

def k1m0 : Method := { name := "<init>", desc := "()V", sig := { parameters := [], returnType := none }, accessFlags := 2, code := none }
def k1c1 : Code := { maxStack := 3, maxLocals := 2, code := method_2_code, exceptionTable := #[], attributes := #[] }
def k1m1 : Method := { name := "unmix", desc := "(I)I", sig := { parameters := [.int], returnType := some .int }, accessFlags := 10, code := some k1c1 }
def k1c2 : Code := { maxStack := 4, maxLocals := 12, code := code, exceptionTable := #[], attributes := #[] }
def k1m2 : Method := { name := "law", desc := "(IIIII)Z", sig := { parameters := [.int, .int, .int, .int, .int], returnType := some .boolean }, accessFlags := 9, code := some k1c2 }
/-- com/example/kellar/kellar/schema/KeyTableHashPinLaw -/
def k1 : Class := { plain "com/example/kellar/kellar/schema/KeyTableHashPinLaw" (some 0) with
  accessFlags := 49
  interfaces := #[]
  cf := some (fileOf pool1 15 #[] #[{ accessFlags := 2, nameIndex := 5, descriptorIndex := 6, attributes := #[] }, { accessFlags := 10, nameIndex := 18, descriptorIndex := 19, attributes := #[] }, { accessFlags := 9, nameIndex := 24, descriptorIndex := 25, attributes := #[] }] 49 2 #[] #[])
  fields := #[]
  methods := #[k1m0, k1m1, k1m2]
  instanceTypes := #[]
  staticTypes := #[]
  resolved := Array.replicate 31 none
  statics := none }

def pool2 : Array CpInfo := pool [(3, .class_ 4), (0, u "com/example/kellar/kellar/schema/KeyTable"), (1, .class_ 8), (1, u "java/lang/Object"), (7, u "chunks"), (0, u "Ljava/util/List;"), (2, u "slots"), (0, u "[I"), (2, u "counters"), (0, u "I"), (2, u "notes"), (0, u "Z"), (2, u "count"), (2, u "hash"), (0, u "([B)I"), (9, u "NO_NOTE"), (0, u "[B"), (9, u "length"), (82, .class_ 141), (0, u "com/example/kellar/kellar/schema/KeyTable$Stored"), (3, .integer 2166136261), (0, .integer 16777619), (0, .integer 2246822507), (29, .class_ 179), (1, u "com/example/kellar/kellar/schema/KeyTable$Span"), (19, u "NONE"), (2, u "MOST_BYTES"), (0, u "CHUNK_BITS"), (1, u "CHUNK_BYTES"), (0, u "FIRST_CHUNK_BYTES"), (1, u "FIRST_SLOTS")] 60

def k2c0 : Code := { maxStack := 3, maxLocals := 6, code := prog_86_method_16_code, exceptionTable := #[], attributes := #[] }
def k2m0 : Method := { name := "hash", desc := "([B)I", sig := { parameters := [(.array .byte)], returnType := some .int }, accessFlags := 8, code := some k2c0 }
/-- com/example/kellar/kellar/schema/KeyTable -/
def k2 : Class := { plain "com/example/kellar/kellar/schema/KeyTable" (some 0) with
  accessFlags := 48
  interfaces := #[]
  cf := some (fileOf pool2 3 #[.nestMembers #[140, 177]] #[{ accessFlags := 8, nameIndex := 35, descriptorIndex := 36, attributes := #[] }] 48 6 #[] #[{ accessFlags := 24, nameIndex := 199, descriptorIndex := 25, attributes := #[] }, { accessFlags := 24, nameIndex := 202, descriptorIndex := 25, attributes := #[] }, { accessFlags := 26, nameIndex := 203, descriptorIndex := 25, attributes := #[] }, { accessFlags := 26, nameIndex := 205, descriptorIndex := 25, attributes := #[] }, { accessFlags := 26, nameIndex := 206, descriptorIndex := 25, attributes := #[] }, { accessFlags := 26, nameIndex := 208, descriptorIndex := 25, attributes := #[] }, { accessFlags := 26, nameIndex := 46, descriptorIndex := 47, attributes := #[] }, { accessFlags := 18, nameIndex := 24, descriptorIndex := 25, attributes := #[] }, { accessFlags := 18, nameIndex := 28, descriptorIndex := 29, attributes := #[] }, { accessFlags := 18, nameIndex := 16, descriptorIndex := 17, attributes := #[] }, { accessFlags := 2, nameIndex := 57, descriptorIndex := 25, attributes := #[] }, { accessFlags := 2, nameIndex := 20, descriptorIndex := 21, attributes := #[] }, { accessFlags := 2, nameIndex := 32, descriptorIndex := 25, attributes := #[] }])
  fields := #[{ name := "NONE", type := .int, accessFlags := 24, slot := 0, constantValue := 0 }, { name := "MOST_BYTES", type := .int, accessFlags := 24, slot := 1, constantValue := 0 }, { name := "CHUNK_BITS", type := .int, accessFlags := 26, slot := 2, constantValue := 0 }, { name := "CHUNK_BYTES", type := .int, accessFlags := 26, slot := 3, constantValue := 0 }, { name := "FIRST_CHUNK_BYTES", type := .int, accessFlags := 26, slot := 4, constantValue := 0 }, { name := "FIRST_SLOTS", type := .int, accessFlags := 26, slot := 5, constantValue := 0 }, { name := "NO_NOTE", type := (.array .byte), accessFlags := 26, slot := 6, constantValue := 0 }, { name := "counters", type := .int, accessFlags := 18, slot := 0, constantValue := 0 }, { name := "notes", type := .boolean, accessFlags := 18, slot := 1, constantValue := 0 }, { name := "chunks", type := (.object "java/util/List"), accessFlags := 18, slot := 2, constantValue := 0 }, { name := "length", type := .int, accessFlags := 2, slot := 3, constantValue := 0 }, { name := "slots", type := (.array .int), accessFlags := 2, slot := 4, constantValue := 0 }, { name := "count", type := .int, accessFlags := 2, slot := 5, constantValue := 0 }]
  methods := #[k2m0]
  instanceTypes := #[.int, .boolean, (.object "java/util/List"), .int, (.array .int), .int]
  staticTypes := #[.int, .int, .int, .int, .int, .int, (.array .byte)]
  resolved := Array.replicate 269 none
  statics := none }

def pool3 : Array CpInfo := pool [(1, u "java/lang/Cloneable"), (0, .class_ 1), (0, u "java/lang/Object"), (0, .class_ 3)] 3

/-- java/lang/Cloneable -/
def k3 : Class := { plain "java/lang/Cloneable" (some 0) with
  accessFlags := 1537
  interfaces := #[]
  cf := some (fileOf pool3 2 #[] #[] 1537 4 #[] #[])
  fields := #[]
  methods := #[]
  instanceTypes := #[]
  staticTypes := #[]
  resolved := Array.replicate 8 none
  statics := none }

def pool4 : Array CpInfo := pool [(1, u "java/io/Serializable"), (0, .class_ 1), (0, u "java/lang/Object"), (0, .class_ 3)] 3

/-- java/io/Serializable -/
def k4 : Class := { plain "java/io/Serializable" (some 0) with
  accessFlags := 1537
  interfaces := #[]
  cf := some (fileOf pool4 2 #[] #[] 1537 4 #[] #[])
  fields := #[]
  methods := #[]
  instanceTypes := #[]
  staticTypes := #[]
  resolved := Array.replicate 8 none
  statics := none }

/-- the primitive byte -/
def k5 : Class := { plain "byte" none with kind := .primitive 'B', accessFlags := 0x411 }
/-- [B -/
def k6 : Class := { plain "[B" (some 0) with kind := .array 5 .byte, interfaces := #[3, 4], accessFlags := 1041 }

/-- the primitive int -/
def k7 : Class := { plain "int" none with kind := .primitive 'I', accessFlags := 0x411 }
/-- [I -/
def k8 : Class := { plain "[I" (some 0) with kind := .array 7 .int, interfaces := #[3, 4], accessFlags := 1041 }

def heap : Heap := #[]
def classes : Array Class := #[k0, k1, k2, k3, k4, k5, k6, k7, k8]
def interned : List (Array UInt16 × Addr) := []
def slotsUsed : Nat := 0
def theMethod : MethodId := ⟨1, 2⟩
def args0 : Array Value := #[.int 5, .int 6, .int 7, .int 8, .int 9]
def aboutOver (below : List Frame) : State where
  vm := { classes := classes, interned := interned.toArray }
  heap := heap
  slotsUsed := slotsUsed
  threads := #[{ frames := .invoking theMethod args0 :: below }]
def below0 : List Frame := [.native { method := ⟨0, 0⟩, args := #[] }]
def about1 : State := aboutOver below0
def p0 : Program := .bare "" "" ""
def e0 : Env := launch0.env 0 0 0
theorem w_frames : about1.frames = Frame.invoking theMethod args0 :: below0 := rfl
set_option maxRecDepth 65536 in
theorem w_args : argsFit about1.vm theMethod args0 = true := by decide +kernel
set_option maxRecDepth 65536 in
theorem w_heap : heapFits about1 = true := by decide +kernel
set_option maxRecDepth 65536 in
theorem w_runnable : about1.curStatus? = some .runnable := by decide +kernel
set_option maxRecDepth 65536 in
theorem w_alone : about1.alone = true := by decide +kernel
set_option maxRecDepth 65536 in
theorem w_named : about1.methodNamed? x = some theMethod := by decide +kernel
set_option maxRecDepth 65536 in
theorem w_hears : about1.hears theMethod below0 = true := by decide +kernel
set_option maxRecDepth 65536 in
theorem w_ripe : about1.ripe theMethod args0 below0 = true := by decide +kernel
theorem w_running : about1.status = .running := rfl
set_option maxRecDepth 65536 in
theorem w_room : about1.hasRoom e0.platform room_1 = true :=
  launch0.hasRoom_least _ room_1 (by decide +kernel) (by decide +kernel) (by decide +kernel) (by decide +kernel) (by decide +kernel) (by decide +kernel)
theorem allAtoms_all (ts : List Jvm.Cond) (a : Array Jvm.Value) (st : Jvm.State) : (allAtoms ts).before a st = ts.all (fun c => c.before a st) := by
  induction ts with
  | nil => rfl
  | cons c t ih =>
    show (Jvm.Cond.and c (allAtoms t)).before a st = _
    rw [Jvm.Cond.before_and, ih, List.all_cons]
def words1 : List Jvm.Cond := Jvm.Cond.code x code maxLocals ret :: tables_1
/-- a 'code' word, met by the world's own term for the bytes: nothing is compared byte by byte -/
theorem code_word {y : MethodName} {bytes : ByteArray} {mx : Nat} {rt : Option FieldType} {a : Array Value} {s : State} {m : MethodId} {meth : Method} {c : Code} (h1 : s.methodNamed? y = some m) (h2 : s.vm.method? m = some meth) (h3 : meth.code = some c) (h4 : c.code = bytes)
    (h5 : (c.maxLocals == mx && c.exceptionTable.isEmpty && decide (c.maxStack ≤ mostOperands) && decide (meth.sig.returnType = rt) && !meth.locks && decide (parseMethodDescriptor y.desc = some meth.sig)) = true) : (Jvm.Cond.code y bytes mx rt).before a s = true := by
  simp only [Bool.and_eq_true, beq_iff_eq, Bool.not_eq_true', decide_eq_true_eq] at h5
  obtain ⟨⟨⟨⟨⟨g1, g2⟩, g3⟩, g4⟩, g5⟩, g6⟩ := h5
  simp [Cond.before, Cond.holds, Cond.value, h1, h2, h3, h4, g1, g2, g3, g4, g5, g6]
def isCode : Jvm.Cond → Bool
  | .code _ _ _ _ => true
  | _ => false
theorem all_split {L : List Jvm.Cond} {P : Jvm.Cond → Bool} (h1 : L.all (fun c => isCode c || P c) = true) (h2 : ∀ c ∈ L.filter isCode, P c = true) : L.all P = true := by
  refine List.all_eq_true.mpr fun c hc => ?_
  have h := List.all_eq_true.mp h1 c hc
  rcases Bool.eq_false_or_eq_true (isCode c) with hi | hi
  · exact h2 c (List.mem_filter.mpr ⟨hc, hi⟩)
  · simpa [hi] using h
set_option maxRecDepth 65536 in
theorem w_c0 : (Jvm.Cond.code x code maxLocals ret).before args0 about1 = true := code_word (m := ⟨1, 2⟩) (meth := k1m2) (c := k1c2) (by decide +kernel) rfl rfl rfl (by decide +kernel)
set_option maxRecDepth 65536 in
theorem w_c1 : (Jvm.Cond.code ({ cls := "com/example/kellar/kellar/schema/KeyTable", name := "hash", desc := "([B)I" } : Jvm.MethodName) prog_86_method_16_code (6 : Nat) (Option.some Jvm.ClassFile.FieldType.int)).before args0 about1 = true := code_word (m := ⟨2, 0⟩) (meth := k2m0) (c := k2c0) (by decide +kernel) rfl rfl rfl (by decide +kernel)
set_option maxRecDepth 65536 in
theorem w_c2 : (Jvm.Cond.code ({ cls := "com/example/kellar/kellar/schema/KeyTableHashPinLaw", name := "unmix", desc := "(I)I" } : Jvm.MethodName) method_2_code (2 : Nat) (Option.some Jvm.ClassFile.FieldType.int)).before args0 about1 = true := code_word (m := ⟨1, 1⟩) (meth := k1m1) (c := k1c1) (by decide +kernel) rfl rfl rfl (by decide +kernel)
def codes1 : List Jvm.Cond := [Jvm.Cond.code x code maxLocals ret, Jvm.Cond.code ({ cls := "com/example/kellar/kellar/schema/KeyTable", name := "hash", desc := "([B)I" } : Jvm.MethodName) prog_86_method_16_code (6 : Nat) (Option.some Jvm.ClassFile.FieldType.int), Jvm.Cond.code ({ cls := "com/example/kellar/kellar/schema/KeyTableHashPinLaw", name := "unmix", desc := "(I)I" } : Jvm.MethodName) method_2_code (2 : Nat) (Option.some Jvm.ClassFile.FieldType.int)]
set_option maxRecDepth 65536 in
theorem codes_eq : words1.filter isCode = codes1 := rfl
theorem w_codes : ∀ c ∈ words1.filter isCode, c.before args0 about1 = true := by
  rw [codes_eq]
  intro c hc
  simp only [codes1, List.mem_cons, List.not_mem_nil, or_false] at hc
  rcases hc with rfl | rfl | rfl
  · exact w_c0
  · exact w_c1
  · exact w_c2
set_option maxRecDepth 65536 in
theorem w_t1 : words1.all (fun c => isCode c || c.before args0 about1) = true := by decide +kernel
theorem w_tables : (allAtoms (Jvm.Cond.code x code maxLocals ret :: tables_1)).before args0 about1 = true := by
  rw [allAtoms_all]
  show words1.all (fun c => c.before args0 about1) = true
  refine all_split ?_ w_codes
  rw [w_t1]
set_option maxRecDepth 65536 in
theorem w_case : (Jvm.Cond.and given_1 narrow_1).before args0 about1 = true := by decide +kernel
theorem w_applies : (headSpec (Jvm.Cond.code x code maxLocals ret :: tables_1) room_1).applies x e0.platform about1 = true :=
  (Spec.applies_iff w_frames).mpr ⟨w_running, w_runnable, w_alone, w_named, w_hears, w_ripe, w_room, w_tables⟩
theorem atStart : AtStart classFile x code maxLocals ret World_1 tables_1 room_1 Calls_1 rest_1 Pre_1 launch0 p0 e0 about1 theMethod args0 below0 :=
  ⟨lists_1, trivial, launch0.admits_env _ _ _, launch0.least_env, fairChoices_fair.cas, fairChoices_fair.clock, w_frames, w_args, w_heap, w_applies, trivial, trivial, w_case⟩
end start1
theorem witness_1 : WitnessClaimed_1 := ⟨start1.p0, start1.e0, start1.about1, start1.theMethod, start1.args0, start1.below0, start1.atStart⟩
end Jvm.Pilot.@@N@@
