import JvmDerived
import JvmDerived.Pilot.@@N@@Statement
import JvmDerived.Pilot.@@N@@Code
set_option linter.unusedVariables false
set_option linter.unusedSimpArgs false
namespace Jvm.RoadKit
open Sem ClassFile Op Lib Jvm.Stand Jvm.Free Jvm.LawKit
section New
variable {p : Program} {l : Launch} {e : Env} {R : Room} {s : State} {m : MethodId} {args : Array Value} {below : List Frame} {meth : Method} {c : Code} {T : State} {locs : List Loc} {cells slots : Nat}
theorem retI (X : Stand p l e R s m args below meth c T locs cells slots) (hx : p.tables.exec = Jvm.exec) {pc : Nat} {Ls : Array Slot} {z : Int32} {rest : List Value} (hret : meth.sig.returnType = some .int) (hd : decode c.code pc = .ok (.ireturn, 1)) {fs : List Frame}
    (hl : ∀ (f : JFrame) (acts : List Action), f.method = m → f.locked = none → f.entered = [] → (doReturn e (T.setTop f) acts (some (.int z))).1 = T.setFrames fs) : Steps p.tables e below (T.setTop (mkF m pc Ls (.int z :: rest))) (T.setFrames fs) := by
  have hm' : T.vm.method? m = some meth := X.method'
  have hn : narrow .int (.int z) = .int z := rfl
  show Steps p.tables e below (T.setTop { method := m, pc := pc, locals := Ls, stack := _ :: rest, locked := none }) _
  jvm_step X.here [X.here.top, hx, hd, hm', hret, hn]
  first | (intro acts; rw [hl _ acts rfl rfl rfl]) | rw [hl _ _ rfl rfl rfl]
  exact Steps.refl _
end New
end Jvm.RoadKit
namespace Jvm.Pilot.@@N@@
open Jvm Jvm.ClassFile Sem Op Lib Jvm.Free Jvm.Stand Jvm.LawKit Jvm.RoadKit Bundle Jvm.Pilot.@@N@@.Jvm.D
theorem pd__ABIJI_V : parseMethodDescriptor "([BIJI)V" = some ⟨[(.array .byte), .int, .long, .int], none⟩ := by decide +kernel
theorem pd__ABIIIJB_Z : parseMethodDescriptor "([BIIIJB)Z" = some ⟨[(.array .byte), .int, .int, .int, .long, .byte], some .boolean⟩ := by decide +kernel
theorem own_lt {i n : Nat} (h : i < n) (hn : n ≤ 255) : Int32.ofNat i < Int32.ofNat n := by
  rw [Int32.lt_iff_toInt_lt, Int32.toInt_ofNat_of_lt (by omega), Int32.toInt_ofNat_of_lt (by omega)]
  omega
theorem own_nn {n : Nat} (hn : n ≤ 255) : ¬ Int32.ofNat n < 0 := by
  rw [Int32.lt_iff_toInt_lt, Int32.toInt_ofNat_of_lt (by omega), show (0 : Int32).toInt = 0 from rfl]
  omega
theorem own_n32 {n : Nat} (hn : n ≤ 255) : (Int32.ofNat n).toNatClampNeg = n := by
  rw [Int32.toNatClampNeg, Int32.toInt_ofNat_of_lt (by omega)]; rfl
theorem own_one (i : Nat) : Int32.ofNat i + (1 : Int32) = Int32.ofNat (i + 1) := (Int32.ofNat_add i 1).symm
theorem own_len {cl : Cell} {N : Nat} (S : cl.slots.size = N) : cl.slots.size.toInt32 = Int32.ofNat N := by rw [S]
theorem own_setSlot (c : Cell) (j : Nat) (v : Value) : (c.setSlot j v).slots = c.slots.setIfInBounds j v := rfl
def own_upd (f : Nat → Int32) (j : Nat) (v : Int32) : Nat → Int32 := fun k => if k = j then v else f k
def own_By (Z : State) (h : Heap) (b : Addr) (N : Nat) (f : Nat → Int32) : Prop := ∃ cl : Cell, Arr Z h b cl .byte ∧ cl.slots.size = N ∧ ∀ k, k < N → cl.slots[k]? = some (.int (f k))
theorem own_By_other {Z : State} {h h' : Heap} {a b : Addr} {N sl : Nat} {f : Nat → Int32} {v : Value} (W : Wr h h' a sl v) (F : own_By Z h b N f) (hne : b ≠ a) : own_By Z h' b N f := by
  obtain ⟨cl, A, r⟩ := F
  exact ⟨cl, A.other W hne, r⟩
theorem own_By_ext {Z : State} {h h' : Heap} {b : Addr} {N : Nat} {f : Nat → Int32} (E : Ext h h') (F : own_By Z h b N f) : own_By Z h' b N f := by
  obtain ⟨cl, A, r⟩ := F
  exact ⟨cl, A.ext E, r⟩
theorem own_By_lt {Z : State} {h : Heap} {b : Addr} {N : Nat} {f : Nat → Int32} (F : own_By Z h b N f) : b < h.size := by
  obtain ⟨cl, A, r⟩ := F
  exact A.lt
theorem own_storeB {p : Program} {l : Launch} {e : Env} {R : Room} {s : State} {m : MethodId} {args : Array Value} {below : List Frame} {meth : Method} {c : Code} {T : State} {locs : List Loc} {cells slots : Nat} {Z : State} {n0 : Nat} {b : Addr} {N : Nat} {f : Nat → Int32} (X : Stand p l e R s m args below meth c T locs cells slots) (hx : p.tables.exec = Jvm.exec) (hZ : Z.Warmed39 s.vm) (F : Fr n0 locs) (gb : n0 ≤ b) (G : own_By Z T.heap b N f) (pc : Nat) (Ls : Array Slot) (rest : List Value) (j v : Int32) (jn : Nat) (hjn : j.toNatClampNeg = jn) (hj : ¬ j < 0) (hj2 : jn < N) (hd : decode c.code pc = .ok (.bastore, 1)) :
    ∃ (T' : State) (locs' : List Loc), Stand p l e R s m args below meth c T' locs' cells slots ∧ Fr n0 locs' ∧ own_By Z T'.heap b N (own_upd f jn v.toInt8.toInt32) ∧ (∃ sl w, Wr T.heap T'.heap b sl w) ∧ ∀ target, Steps p.tables e below (T'.setTop (mkF m (pc + 1) Ls rest)) target → Steps p.tables e below (T.setTop (mkF m pc Ls (.int v :: .int j :: .ref b :: rest))) target := by
  obtain ⟨cl, Ar, S, H⟩ := G
  have hin : ¬ (j < 0 ∨ cl.slots.size ≤ j.toNatClampNeg) := fun q => q.elim hj (fun q => by omega)
  obtain ⟨T', h', X', e', W', st'⟩ := stB X hx hZ rfl Ar (j := j) (x := v) hin (g := mkF m pc Ls (.int v :: .int j :: .ref b :: rest)) rfl rfl hd
  refine ⟨T', _, X', Fr.snoc X' F gb, ?_, ⟨_, _, e' ▸ W'⟩, st'⟩
  rw [e']
  refine ⟨_, Ar.same W', by rw [sz_set]; exact S, fun k hk => ?_⟩
  rw [own_setSlot, Array.getElem?_setIfInBounds, own_upd]
  by_cases q : j.toNatClampNeg = k
  · rw [if_pos q, if_pos (by omega), if_pos (by omega)]
    rfl
  · rw [if_neg q, if_neg (by omega)]
    exact H k hk
theorem own_freshB {Z : State} {h : Heap} {b : Addr} {cA : ClassId} {n : Int32} {N : Nat} (A : Arr Z h b (newA cA .byte n) .byte) (hn : n.toNatClampNeg = N) : own_By Z h b N (fun _ => 0) := by
  refine ⟨_, A, by rw [sz_new]; exact hn, fun k hk => ?_⟩
  show (Array.replicate n.toNatClampNeg (defaultValue .byte))[k]? = some (.int 0)
  rw [Array.getElem?_replicate, if_pos (by omega)]
  rfl
theorem own_By_congr {Z : State} {h : Heap} {b : Addr} {N : Nat} {f g : Nat → Int32} (F : own_By Z h b N f) (q : ∀ k, k < N → f k = g k) : own_By Z h b N g := by
  obtain ⟨cl, A, S, H⟩ := F
  exact ⟨cl, A, S, fun k hk => by rw [← q k hk]; exact H k hk⟩
def own_b (val : Int64) (n i : Nat) : Int32 := ((((val.toUInt64 >>> (((8 : Int32) * (((Int32.ofNat n) - (1 : Int32)) - (Int32.ofNat i))) &&& 0x3f).toInt64.toUInt64).toInt64).toInt32).toInt8.toInt32).toInt8.toInt32
def own_wr (f : Nat → Int32) (a : Nat) (val : Int64) (n : Nat) : Nat → Nat → Int32
  | 0 => f
  | i + 1 => own_upd (own_wr f a val n i) (a + i) (own_b val n i)
def own_lb (val : Int64) (s : Nat) : Int32 := (((val.toUInt64 >>> (((8 : Int32) * (Int32.ofNat s)) &&& 0x3f).toInt64.toUInt64).toInt64).toInt32).toInt8.toInt32
theorem own_by2 (x : Int32) : x.toInt8.toInt32.toInt8.toInt32 = x.toInt8.toInt32 := by rw [Int8.toInt8_toInt32]
theorem own_sub {x y : Nat} (h : y ≤ x) : Int32.ofNat x - Int32.ofNat y = Int32.ofNat (x - y) := (Int32.ofNat_sub x y h).symm
theorem own_b_eq (val : Int64) {n i : Nat} (h : i < n) : own_b val n i = own_lb val (n - 1 - i) := by
  unfold own_b own_lb
  rw [own_by2, show Int32.ofNat n - (1 : Int32) = Int32.ofNat (n - 1) from own_sub (x := n) (y := 1) (by omega), own_sub (x := n - 1) (y := i) (by omega)]
theorem own_sig (a n k : Nat) (h1 : k < a + n) (h2 : 1 ≤ a + n) : (((Int32.ofNat a) + (Int32.ofNat n)) - (1 : Int32)) - (Int32.ofNat k) = Int32.ofNat (a + n - 1 - k) := by
  rw [← Int32.ofNat_add, show Int32.ofNat (a + n) - (1 : Int32) = Int32.ofNat (a + n - 1) from own_sub (x := a + n) (y := 1) h2, own_sub (x := a + n - 1) (y := k) (by omega)]
theorem own_wr_at (f : Nat → Int32) (a : Nat) (val : Int64) (n k : Nat) : ∀ i, own_wr f a val n i k = if a ≤ k ∧ k < a + i then own_b val n (k - a) else f k := by
  intro i
  induction i with
  | zero =>
    rw [if_neg (by omega)]
    rfl
  | succ i ih =>
    show own_upd (own_wr f a val n i) (a + i) (own_b val n i) k = _
    unfold own_upd
    by_cases h : k = a + i
    · rw [if_pos h, if_pos (by omega), h, show a + i - a = i from by omega]
    · rw [if_neg h, ih]
      by_cases q : a ≤ k ∧ k < a + i
      · rw [if_pos q, if_pos (by omega)]
      · rw [if_neg q, if_neg (by omega)]
theorem own_inn {f : Nat → Int32} {a : Nat} {val : Int64} {n k : Nat} : a ≤ k → k < a + n → own_wr f a val n n k = own_lb val (a + n - 1 - k) := by
  intro h1 h2
  rw [own_wr_at, if_pos ⟨h1, h2⟩, own_b_eq val (by omega), show n - 1 - (k - a) = a + n - 1 - k from by omega]
theorem own_out {fl : Int32} {a : Nat} {val : Int64} {n k : Nat} : ¬ (a ≤ k ∧ k < a + n) → own_wr (fun _ => fl) a val n n k = fl := by
  intro h
  rw [own_wr_at, if_neg h]
theorem own_ltN {i n : Nat} (hi : i ≤ 255) (hn : n ≤ 255) : (Int32.ofNat i < Int32.ofNat n) = (i < n) := by
  rw [Int32.lt_iff_toInt_lt, Int32.toInt_ofNat_of_lt (by omega), Int32.toInt_ofNat_of_lt (by omega)]
  exact propext (by omega)
theorem own_rem (x : Int32) (m : Nat) (h1 : 0 < m) (h2 : m ≤ 100) : ∃ k : Nat, k < m ∧ ((x &&& (2147483647 : Int32)) % (Int32.ofNat m)) = Int32.ofNat k := by
  have h0 : ¬ (x &&& (2147483647 : Int32)) < 0 := fun q => absurd ((XT.and_neg32 _ _).mp q).2 (by decide)
  have z : (0 : Int32).toInt = 0 := by decide
  rw [Int32.lt_iff_toInt_lt, z] at h0
  have e : ((x &&& (2147483647 : Int32)) % (Int32.ofNat m)).toInt = (x &&& (2147483647 : Int32)).toInt.tmod m := by rw [Int32.toInt_mod, Int32.toInt_ofNat_of_lt (by omega)]
  have q1 : 0 ≤ (x &&& (2147483647 : Int32)).toInt.tmod m := Int.tmod_nonneg _ (by omega)
  have q2 : (x &&& (2147483647 : Int32)).toInt.tmod m < m := Int.tmod_lt_of_pos _ (by omega)
  refine ⟨((x &&& (2147483647 : Int32)).toInt.tmod m).toNat, by omega, ?_⟩
  apply Int32.toInt_inj.mp
  rw [e, Int32.toInt_ofNat_of_lt (by omega)]
  omega
theorem own_13 {n : Nat} (h : n < 9) : (13 : Int32) - Int32.ofNat n = Int32.ofNat (13 - n) := own_sub (x := 13) (by omega)
theorem own_nz {n : Nat} (h : n < 9) : (13 : Int32) - Int32.ofNat n ≠ 0 := by
  rw [own_13 h]
  intro q
  have := congrArg Int32.toInt q
  rw [Int32.toInt_ofNat_of_lt (by omega), show (0 : Int32).toInt = 0 from by decide] at this
  omega
theorem own_bb (z : Int64) (i : Nat) (hi : i < 32) : (z.toInt32.toInt8.toInt32).toBitVec.getLsbD i = z.toBitVec.getLsbD (min i 7) := by
  rw [Int8.toBitVec_toInt32, Int32.toBitVec_toInt8, Int64.toBitVec_toInt32, BitVec.getLsbD_signExtend]
  by_cases h : i < 8
  · rw [if_pos h, BitVec.getLsbD_signExtend, if_pos (by omega), BitVec.getLsbD_signExtend, if_pos (by omega), Nat.min_eq_left (by omega)]
    simp [h, hi]
  · rw [if_neg h, BitVec.msb_eq_getLsbD_last, BitVec.getLsbD_signExtend, if_pos (by omega), BitVec.getLsbD_signExtend, if_pos (by omega), Nat.min_eq_right (by omega)]
    simp [hi]
theorem own_255 (i : Nat) (hi : i < 32) : (255 : Int32).toBitVec.getLsbD i = decide (i < 8) :=
  (by decide : ∀ i : Fin 32, (255 : Int32).toBitVec.getLsbD i.1 = decide (i.1 < 8)) ⟨i, hi⟩
theorem own_255L (i : Nat) (hi : i < 32) : (255 : Int64).toBitVec.getLsbD i = decide (i < 8) :=
  (by decide : ∀ i : Fin 32, (255 : Int64).toBitVec.getLsbD i.1 = decide (i.1 < 8)) ⟨i, hi⟩
theorem own_low (z : Int64) : ((z.toInt32.toInt8.toInt32) &&& (255 : Int32)) = ((z &&& (255 : Int64)).toInt32) := by
  apply Int32.toBitVec_inj.mp
  apply BitVec.eq_of_getLsbD_eq
  intro i hi
  rw [Int32.toBitVec_and, BitVec.getLsbD_and, own_bb z i hi, own_255 i hi, Int64.toBitVec_toInt32, BitVec.getLsbD_signExtend, if_pos (by omega), Int64.toBitVec_and, BitVec.getLsbD_and, own_255L i hi]
  by_cases h : i < 8
  · rw [Nat.min_eq_left (by omega)]
    simp [hi, h]
  · simp [h]
theorem d1_0 : decode prog_128_method_2_code 0 = .ok (.iconst 0, 1) := by decide +kernel
theorem d1_1 : decode prog_128_method_2_code 1 = .ok (.istore 5, 2) := by decide +kernel
theorem d1_3 : decode prog_128_method_2_code 3 = .ok (.iload 5, 2) := by decide +kernel
theorem d1_5 : decode prog_128_method_2_code 5 = .ok (.iload 4, 2) := by decide +kernel
theorem d1_7 : decode prog_128_method_2_code 7 = .ok (.if_icmp .ge 29, 3) := by decide +kernel
theorem d1_10 : decode prog_128_method_2_code 10 = .ok (.aload_n 0, 1) := by decide +kernel
theorem d1_11 : decode prog_128_method_2_code 11 = .ok (.iload_n 1, 1) := by decide +kernel
theorem d1_12 : decode prog_128_method_2_code 12 = .ok (.iload 5, 2) := by decide +kernel
theorem d1_14 : decode prog_128_method_2_code 14 = .ok (.iadd, 1) := by decide +kernel
theorem d1_15 : decode prog_128_method_2_code 15 = .ok (.lload_n 2, 1) := by decide +kernel
theorem d1_16 : decode prog_128_method_2_code 16 = .ok (.bipush 8, 2) := by decide +kernel
theorem d1_18 : decode prog_128_method_2_code 18 = .ok (.iload 4, 2) := by decide +kernel
theorem d1_20 : decode prog_128_method_2_code 20 = .ok (.iconst 1, 1) := by decide +kernel
theorem d1_21 : decode prog_128_method_2_code 21 = .ok (.isub, 1) := by decide +kernel
theorem d1_22 : decode prog_128_method_2_code 22 = .ok (.iload 5, 2) := by decide +kernel
theorem d1_24 : decode prog_128_method_2_code 24 = .ok (.isub, 1) := by decide +kernel
theorem d1_25 : decode prog_128_method_2_code 25 = .ok (.imul, 1) := by decide +kernel
theorem d1_26 : decode prog_128_method_2_code 26 = .ok (.lushr, 1) := by decide +kernel
theorem d1_27 : decode prog_128_method_2_code 27 = .ok (.l2i, 1) := by decide +kernel
theorem d1_28 : decode prog_128_method_2_code 28 = .ok (.i2b, 1) := by decide +kernel
theorem d1_29 : decode prog_128_method_2_code 29 = .ok (.bastore, 1) := by decide +kernel
theorem d1_30 : decode prog_128_method_2_code 30 = .ok (.iinc 5 1, 3) := by decide +kernel
theorem d1_33 : decode prog_128_method_2_code 33 = .ok (.goto (-30), 3) := by decide +kernel
theorem d1_36 : decode prog_128_method_2_code 36 = .ok (.return_, 1) := by decide +kernel
set_option maxRecDepth 65536 in
set_option maxHeartbeats 40000000 in
theorem own_wloop {p : Program} {l : Launch} {e : Env} {R : Room} {s : State} {m : MethodId} {args : Array Value} {below : List Frame} {meth : Method} {c : Code} {cells slots : Nat} {Z : State} {n0 : Nat} (b : Addr) (f : Nat → Int32) (a n : Nat) (val : Int64) (hN : a + n ≤ 12) (gb : n0 ≤ b) (hx : p.tables.exec = Jvm.exec) (hZ : Z.Warmed39 s.vm) (hby : c.code = prog_128_method_2_code) :
    ∀ (k i : Nat) (T : State) (locs : List Loc), i + k = n → Stand p l e R s m args below meth c T locs cells slots → Fr n0 locs → own_By Z T.heap b 12 (own_wr f a val n i) → ∃ (T2 : State) (locs2 : List Loc), Stand p l e R s m args below meth c T2 locs2 cells slots ∧ Fr n0 locs2 ∧ own_By Z T2.heap b 12 (own_wr f a val n n) ∧ ∀ target, Steps p.tables e below (T2.setTop (mkF m 36 #[.val (.ref b), .val (.int (Int32.ofNat a)), .val (.long val), .second, .val (.int (Int32.ofNat n)), .val (.int (Int32.ofNat n))] [])) target → Steps p.tables e below (T.setTop (mkF m 3 #[.val (.ref b), .val (.int (Int32.ofNat a)), .val (.long val), .second, .val (.int (Int32.ofNat n)), .val (.int (Int32.ofNat i))] [])) target := by
  intro k
  induction k with
  | zero =>
    intro i T locs hi X N G
    have hi2 : i = n := by omega
    rw [hi2] at G ⊢
    refine ⟨T, locs, X, N, G, fun t kt => ?_⟩
    show Steps p.tables e below (T.setTop (mkF m 3 #[.val (.ref b), .val (.int (Int32.ofNat a)), .val (.long val), .second, .val (.int (Int32.ofNat n)), .val (.int (Int32.ofNat n))] [])) _
    refine XS.iload X.here hx rfl (hb hby d1_3) rfl ?_
    show Steps p.tables e below (T.setTop (mkF m 5 #[.val (.ref b), .val (.int (Int32.ofNat a)), .val (.long val), .second, .val (.int (Int32.ofNat n)), .val (.int (Int32.ofNat n))] [(.int (Int32.ofNat n))])) _
    refine XS.iload X.here hx rfl (hb hby d1_5) rfl ?_
    show Steps p.tables e below (T.setTop (mkF m 7 #[.val (.ref b), .val (.int (Int32.ofNat a)), .val (.long val), .second, .val (.int (Int32.ofNat n)), .val (.int (Int32.ofNat n))] [(.int (Int32.ofNat n)), (.int (Int32.ofNat n))])) _
    refine XS.icmpYes X.here hx rfl (pc0 := 7) (pc' := 36) rfl (hb hby d1_7) rfl (XT.ii_ge_t (Int32.lt_irrefl (a := Int32.ofNat n))) (by decide) (by decide) ?_
    show Steps p.tables e below (T.setTop (mkF m 36 #[.val (.ref b), .val (.int (Int32.ofNat a)), .val (.long val), .second, .val (.int (Int32.ofNat n)), .val (.int (Int32.ofNat n))] [])) _
    exact kt
  | succ k ih =>
    intro i T locs hi X N G
    have hlt : Int32.ofNat i < Int32.ofNat n := own_lt (by omega) (by omega)
    have hj : (Int32.ofNat a + Int32.ofNat i).toNatClampNeg = a + i := by rw [← Int32.ofNat_add]; exact own_n32 (by omega)
    have hj2 : ¬ (Int32.ofNat a + Int32.ofNat i) < 0 := by rw [← Int32.ofNat_add]; exact own_nn (by omega)
    obtain ⟨T1, L1, X1, N1, G1, -, st1⟩ := own_storeB X hx hZ N gb G 29 #[.val (.ref b), .val (.int (Int32.ofNat a)), .val (.long val), .second, .val (.int (Int32.ofNat n)), .val (.int (Int32.ofNat i))] [] ((Int32.ofNat a) + (Int32.ofNat i)) ((((val.toUInt64 >>> (((8 : Int32) * (((Int32.ofNat n) - (1 : Int32)) - (Int32.ofNat i))) &&& 0x3f).toInt64.toUInt64).toInt64).toInt32).toInt8.toInt32) (a + i) hj hj2 (by omega) (hb hby d1_29)
    obtain ⟨T2, L2, X2, N2, G2, st2⟩ := ih (i + 1) T1 L1 (by omega) X1 N1 G1
    refine ⟨T2, L2, X2, N2, G2, fun t kt => ?_⟩
    show Steps p.tables e below (T.setTop (mkF m 3 #[.val (.ref b), .val (.int (Int32.ofNat a)), .val (.long val), .second, .val (.int (Int32.ofNat n)), .val (.int (Int32.ofNat i))] [])) _
    refine XS.iload X.here hx rfl (hb hby d1_3) rfl ?_
    show Steps p.tables e below (T.setTop (mkF m 5 #[.val (.ref b), .val (.int (Int32.ofNat a)), .val (.long val), .second, .val (.int (Int32.ofNat n)), .val (.int (Int32.ofNat i))] [(.int (Int32.ofNat i))])) _
    refine XS.iload X.here hx rfl (hb hby d1_5) rfl ?_
    show Steps p.tables e below (T.setTop (mkF m 7 #[.val (.ref b), .val (.int (Int32.ofNat a)), .val (.long val), .second, .val (.int (Int32.ofNat n)), .val (.int (Int32.ofNat i))] [(.int (Int32.ofNat n)), (.int (Int32.ofNat i))])) _
    refine XS.icmpNo X.here hx rfl (hb hby d1_7) rfl (XT.ii_ge_f hlt) ?_
    show Steps p.tables e below (T.setTop (mkF m 10 #[.val (.ref b), .val (.int (Int32.ofNat a)), .val (.long val), .second, .val (.int (Int32.ofNat n)), .val (.int (Int32.ofNat i))] [])) _
    refine XS.aloadN X.here hx rfl (hb hby d1_10) rfl rfl ?_
    show Steps p.tables e below (T.setTop (mkF m 11 #[.val (.ref b), .val (.int (Int32.ofNat a)), .val (.long val), .second, .val (.int (Int32.ofNat n)), .val (.int (Int32.ofNat i))] [(.ref b)])) _
    refine XS.iloadN X.here hx rfl (hb hby d1_11) rfl ?_
    show Steps p.tables e below (T.setTop (mkF m 12 #[.val (.ref b), .val (.int (Int32.ofNat a)), .val (.long val), .second, .val (.int (Int32.ofNat n)), .val (.int (Int32.ofNat i))] [(.int (Int32.ofNat a)), (.ref b)])) _
    refine XS.iload X.here hx rfl (hb hby d1_12) rfl ?_
    show Steps p.tables e below (T.setTop (mkF m 14 #[.val (.ref b), .val (.int (Int32.ofNat a)), .val (.long val), .second, .val (.int (Int32.ofNat n)), .val (.int (Int32.ofNat i))] [(.int (Int32.ofNat i)), (.int (Int32.ofNat a)), (.ref b)])) _
    refine XS.iadd X.here hx rfl (hb hby d1_14) rfl ?_
    show Steps p.tables e below (T.setTop (mkF m 15 #[.val (.ref b), .val (.int (Int32.ofNat a)), .val (.long val), .second, .val (.int (Int32.ofNat n)), .val (.int (Int32.ofNat i))] [(.int ((Int32.ofNat a) + (Int32.ofNat i))), (.ref b)])) _
    refine XS.lloadN X.here hx rfl (hb hby d1_15) rfl ?_
    show Steps p.tables e below (T.setTop (mkF m 16 #[.val (.ref b), .val (.int (Int32.ofNat a)), .val (.long val), .second, .val (.int (Int32.ofNat n)), .val (.int (Int32.ofNat i))] [(.long val), (.int ((Int32.ofNat a) + (Int32.ofNat i))), (.ref b)])) _
    refine XS.bipush X.here hx rfl (hb hby d1_16) ?_
    show Steps p.tables e below (T.setTop (mkF m 18 #[.val (.ref b), .val (.int (Int32.ofNat a)), .val (.long val), .second, .val (.int (Int32.ofNat n)), .val (.int (Int32.ofNat i))] [(.int (8 : Int32)), (.long val), (.int ((Int32.ofNat a) + (Int32.ofNat i))), (.ref b)])) _
    refine XS.iload X.here hx rfl (hb hby d1_18) rfl ?_
    show Steps p.tables e below (T.setTop (mkF m 20 #[.val (.ref b), .val (.int (Int32.ofNat a)), .val (.long val), .second, .val (.int (Int32.ofNat n)), .val (.int (Int32.ofNat i))] [(.int (Int32.ofNat n)), (.int (8 : Int32)), (.long val), (.int ((Int32.ofNat a) + (Int32.ofNat i))), (.ref b)])) _
    refine XS.iconst X.here hx rfl (hb hby d1_20) ?_
    show Steps p.tables e below (T.setTop (mkF m 21 #[.val (.ref b), .val (.int (Int32.ofNat a)), .val (.long val), .second, .val (.int (Int32.ofNat n)), .val (.int (Int32.ofNat i))] [(.int (1 : Int32)), (.int (Int32.ofNat n)), (.int (8 : Int32)), (.long val), (.int ((Int32.ofNat a) + (Int32.ofNat i))), (.ref b)])) _
    refine XS.isub X.here hx rfl (hb hby d1_21) rfl ?_
    show Steps p.tables e below (T.setTop (mkF m 22 #[.val (.ref b), .val (.int (Int32.ofNat a)), .val (.long val), .second, .val (.int (Int32.ofNat n)), .val (.int (Int32.ofNat i))] [(.int ((Int32.ofNat n) - (1 : Int32))), (.int (8 : Int32)), (.long val), (.int ((Int32.ofNat a) + (Int32.ofNat i))), (.ref b)])) _
    refine XS.iload X.here hx rfl (hb hby d1_22) rfl ?_
    show Steps p.tables e below (T.setTop (mkF m 24 #[.val (.ref b), .val (.int (Int32.ofNat a)), .val (.long val), .second, .val (.int (Int32.ofNat n)), .val (.int (Int32.ofNat i))] [(.int (Int32.ofNat i)), (.int ((Int32.ofNat n) - (1 : Int32))), (.int (8 : Int32)), (.long val), (.int ((Int32.ofNat a) + (Int32.ofNat i))), (.ref b)])) _
    refine XS.isub X.here hx rfl (hb hby d1_24) rfl ?_
    show Steps p.tables e below (T.setTop (mkF m 25 #[.val (.ref b), .val (.int (Int32.ofNat a)), .val (.long val), .second, .val (.int (Int32.ofNat n)), .val (.int (Int32.ofNat i))] [(.int (((Int32.ofNat n) - (1 : Int32)) - (Int32.ofNat i))), (.int (8 : Int32)), (.long val), (.int ((Int32.ofNat a) + (Int32.ofNat i))), (.ref b)])) _
    refine XS.imul X.here hx rfl (hb hby d1_25) rfl ?_
    show Steps p.tables e below (T.setTop (mkF m 26 #[.val (.ref b), .val (.int (Int32.ofNat a)), .val (.long val), .second, .val (.int (Int32.ofNat n)), .val (.int (Int32.ofNat i))] [(.int ((8 : Int32) * (((Int32.ofNat n) - (1 : Int32)) - (Int32.ofNat i)))), (.long val), (.int ((Int32.ofNat a) + (Int32.ofNat i))), (.ref b)])) _
    refine XS.lushr X.here hx rfl (hb hby d1_26) rfl ?_
    show Steps p.tables e below (T.setTop (mkF m 27 #[.val (.ref b), .val (.int (Int32.ofNat a)), .val (.long val), .second, .val (.int (Int32.ofNat n)), .val (.int (Int32.ofNat i))] [(.long ((val.toUInt64 >>> (((8 : Int32) * (((Int32.ofNat n) - (1 : Int32)) - (Int32.ofNat i))) &&& 0x3f).toInt64.toUInt64).toInt64)), (.int ((Int32.ofNat a) + (Int32.ofNat i))), (.ref b)])) _
    refine XS.l2i X.here hx rfl (hb hby d1_27) rfl ?_
    show Steps p.tables e below (T.setTop (mkF m 28 #[.val (.ref b), .val (.int (Int32.ofNat a)), .val (.long val), .second, .val (.int (Int32.ofNat n)), .val (.int (Int32.ofNat i))] [(.int (((val.toUInt64 >>> (((8 : Int32) * (((Int32.ofNat n) - (1 : Int32)) - (Int32.ofNat i))) &&& 0x3f).toInt64.toUInt64).toInt64).toInt32)), (.int ((Int32.ofNat a) + (Int32.ofNat i))), (.ref b)])) _
    refine XS.i2b X.here hx rfl (hb hby d1_28) rfl ?_
    show Steps p.tables e below (T.setTop (mkF m 29 #[.val (.ref b), .val (.int (Int32.ofNat a)), .val (.long val), .second, .val (.int (Int32.ofNat n)), .val (.int (Int32.ofNat i))] [(.int ((((val.toUInt64 >>> (((8 : Int32) * (((Int32.ofNat n) - (1 : Int32)) - (Int32.ofNat i))) &&& 0x3f).toInt64.toUInt64).toInt64).toInt32).toInt8.toInt32)), (.int ((Int32.ofNat a) + (Int32.ofNat i))), (.ref b)])) _
    refine st1 t ?_
    show Steps p.tables e below (T1.setTop (mkF m 30 #[.val (.ref b), .val (.int (Int32.ofNat a)), .val (.long val), .second, .val (.int (Int32.ofNat n)), .val (.int (Int32.ofNat i))] [])) _
    refine XS.iinc X1.here hx rfl (hb hby d1_30) rfl (l' := #[.val (.ref b), .val (.int (Int32.ofNat a)), .val (.long val), .second, .val (.int (Int32.ofNat n)), .val (.int ((Int32.ofNat i) + (1 : Int32)))]) rfl ?_
    show Steps p.tables e below (T1.setTop (mkF m 33 #[.val (.ref b), .val (.int (Int32.ofNat a)), .val (.long val), .second, .val (.int (Int32.ofNat n)), .val (.int ((Int32.ofNat i) + (1 : Int32)))] [])) _
    refine XS.goto X1.here hx rfl (pc0 := 33) (pc' := 3) rfl (hb hby d1_33) (by decide) (by decide) ?_
    show Steps p.tables e below (T1.setTop (mkF m 3 #[.val (.ref b), .val (.int (Int32.ofNat a)), .val (.long val), .second, .val (.int (Int32.ofNat n)), .val (.int ((Int32.ofNat i) + (1 : Int32)))] [])) _
    rw [own_one]
    exact st2 t kt
theorem pn_1 : plainName "com/example/holdfast/holdfast/store/rocksdb/BigEndian" = true := by first | (simp [plainName, overriddenIn]; done) | decide +kernel
theorem ef_1 (m : MethodId) (x0 : Addr) (x1 : Int32) (x2 : Int64) (x3 : Int32) : entryFrame m #[(.ref x0), (.int x1), (.long x2), (.int x3)] 6 = mkF m 0 #[.val (.ref x0), .val (.int x1), .val (.long x2), .second, .val (.int x3), .unset] [] := by first | (simp [entryFrame, mkF, argsToLocals, Value.category]; done) | rfl
def Q1 (Z : State) (a1 : Addr) (f : Nat → Int32) (a n : Nat) (val : Int64) (h0 : Heap) (n0 : Nat) (v : Option Value) (h : Heap) (L : List Loc) : Prop := v = none ∧ Fr n0 L ∧ own_By Z h a1 12 (own_wr f a val n n)
set_option maxRecDepth 65536 in
set_option maxHeartbeats 40000000 in
theorem rm1 (l : Launch) (Z : State) (a0 : Array Value) (hw : ∀ d ∈ tables_1, d.before a0 Z = true) (ws : List Jvm.Cond) (a1 : Addr) (f : Nat → Int32) (a n : Nat) (val : Int64) (h0 : Heap) (n0 : Nat) (Z0 : n0 ≤ h0.size) (hN : a + n ≤ 12) (gb : n0 ≤ a1) (G : own_By Z h0 a1 12 f) :
    MetFree l (⟨"com/example/holdfast/holdfast/store/rocksdb/BigEndian", "write", "([BIJI)V"⟩ : MethodName) (head1 (Jvm.Cond.code (⟨"com/example/holdfast/holdfast/store/rocksdb/BigEndian", "write", "([BIJI)V"⟩ : MethodName) prog_128_method_2_code 6 none :: ws) ({ frames := 0, cells := 0, slots := 0, locals := 0 } : Room)) (fun aa U => aa = #[(.ref a1), (.int (Int32.ofNat a)), (.long val), (.int (Int32.ofNat n))] ∧ Z.Warmed39 U.vm ∧ U.heap = h0) (fun _ _ _ _ _ => True) (fun _ U o U' => ∃ v L, o = .returned v ∧ Q1 Z a1 f a n val h0 n0 v U'.heap L ∧ FrameEnd U o U' L ({ frames := 0, cells := 0, slots := 0, locals := 0 } : Room).cells ({ frames := 0, cells := 0, slots := 0, locals := 0 } : Room).slots) := by
  refine MetFree.of_bodySF (plainFor_of_name pn_1) hisR ?_
  intro p e s m args below meth c s₁ Bd hml0 hP hK
  obtain ⟨rfl, hZ, hh⟩ := hP
  have hx := Bd.exec
  have hby := Bd.bytes
  have hml : c.maxLocals = 6 := hml0
  have hown : s.vm.findClass "com/example/holdfast/holdfast/store/rocksdb/BigEndian" = some m.cls := findClass_of_methodNamed Bd.named
  have hnm := (name_of_methodNamed Bd.named Bd.method).1
  have X0 : Stand p l e ({ frames := 0, cells := 0, slots := 0, locals := 0 } : Room) s m #[(.ref a1), (.int (Int32.ofNat a)), (.long val), (.int (Int32.ofNat n))] below meth c s₁ [] 0 0 := Stand.of_body Bd
  have e0 : s₁.heap = h0 := by rw [← hh, Bd.state]; rfl
  have N0 := Fr.nil n0
  have pre0 : ∀ t, Steps p.tables e below (s₁.setTop (mkF m 0 #[.val (.ref a1), .val (.int (Int32.ofNat a)), .val (.long val), .second, .val (.int (Int32.ofNat n)), .unset] [])) t → Steps p.tables e below (s₁.setTop (entryFrame m #[(.ref a1), (.int (Int32.ofNat a)), (.long val), (.int (Int32.ofNat n))] 6)) t := fun t k => castTop (ef_1 m a1 (Int32.ofNat a) val (Int32.ofNat n)) k
  have s1 : ∀ t, Steps p.tables e below (s₁.setTop (mkF m 3 #[.val (.ref a1), .val (.int (Int32.ofNat a)), .val (.long val), .second, .val (.int (Int32.ofNat n)), .val (.int (0 : Int32))] [])) t → Steps p.tables e below (s₁.setTop (mkF m 0 #[.val (.ref a1), .val (.int (Int32.ofNat a)), .val (.long val), .second, .val (.int (Int32.ofNat n)), .unset] [])) t := by
    intro t k
    show Steps p.tables e below (s₁.setTop (mkF m 0 #[.val (.ref a1), .val (.int (Int32.ofNat a)), .val (.long val), .second, .val (.int (Int32.ofNat n)), .unset] [])) _
    refine XS.iconst X0.here hx rfl (hb hby d1_0) ?_
    show Steps p.tables e below (s₁.setTop (mkF m 1 #[.val (.ref a1), .val (.int (Int32.ofNat a)), .val (.long val), .second, .val (.int (Int32.ofNat n)), .unset] [(.int (0 : Int32))])) _
    refine XS.istore X0.here hx rfl (hb hby d1_1) rfl (l' := #[.val (.ref a1), .val (.int (Int32.ofNat a)), .val (.long val), .second, .val (.int (Int32.ofNat n)), .val (.int (0 : Int32))]) rfl ?_
    show Steps p.tables e below (s₁.setTop (mkF m 3 #[.val (.ref a1), .val (.int (Int32.ofNat a)), .val (.long val), .second, .val (.int (Int32.ofNat n)), .val (.int (0 : Int32))] [])) _
    exact k
  obtain ⟨T2, L2, X2, N2, G2, st2⟩ := own_wloop a1 f a n val hN gb hx hZ hby n 0 s₁ [] (by omega) X0 N0 (by rw [e0]; exact G)
  have r2 : ∀ t, Steps p.tables e below (T2.setTop (mkF m 36 #[.val (.ref a1), .val (.int (Int32.ofNat a)), .val (.long val), .second, .val (.int (Int32.ofNat n)), .val (.int (Int32.ofNat n))] [])) t → Steps p.tables e below (s₁.setTop (mkF m 0 #[.val (.ref a1), .val (.int (Int32.ofNat a)), .val (.long val), .second, .val (.int (Int32.ofNat n)), .unset] [])) t := fun t k => s1 t (st2 t k)
  obtain ⟨fs, hr, hrun, hended, hW, hsame⟩ := X2.leave (v := none) (fun _ => rfl)
  refine ⟨_, _, pre0 _ (r2 _ ?_), hrun, hended, _, _, rfl, ?_, ⟨_, rfl⟩, hW, hsame.mono (by decide) (by decide)⟩
  · exact X2.returnOut hx Bd.returns (hb hby d1_36) hr
  · exact ⟨rfl, N2, G2⟩
theorem d2_0 : decode method_3_code 0 = .ok (.iload_n 1, 1) := by decide +kernel
theorem d2_1 : decode method_3_code 1 = .ok (.iload_n 2, 1) := by decide +kernel
theorem d2_2 : decode method_3_code 2 = .ok (.if_icmp .lt 37, 3) := by decide +kernel
theorem d2_5 : decode method_3_code 5 = .ok (.iload_n 1, 1) := by decide +kernel
theorem d2_6 : decode method_3_code 6 = .ok (.iload_n 2, 1) := by decide +kernel
theorem d2_7 : decode method_3_code 7 = .ok (.iload_n 3, 1) := by decide +kernel
theorem d2_8 : decode method_3_code 8 = .ok (.iadd, 1) := by decide +kernel
theorem d2_9 : decode method_3_code 9 = .ok (.if_icmp .ge 30, 3) := by decide +kernel
theorem d2_12 : decode method_3_code 12 = .ok (.iload_n 2, 1) := by decide +kernel
theorem d2_13 : decode method_3_code 13 = .ok (.iload_n 3, 1) := by decide +kernel
theorem d2_14 : decode method_3_code 14 = .ok (.iadd, 1) := by decide +kernel
theorem d2_15 : decode method_3_code 15 = .ok (.iconst 1, 1) := by decide +kernel
theorem d2_16 : decode method_3_code 16 = .ok (.isub, 1) := by decide +kernel
theorem d2_17 : decode method_3_code 17 = .ok (.iload_n 1, 1) := by decide +kernel
theorem d2_18 : decode method_3_code 18 = .ok (.isub, 1) := by decide +kernel
theorem d2_19 : decode method_3_code 19 = .ok (.istore 8, 2) := by decide +kernel
theorem d2_21 : decode method_3_code 21 = .ok (.lload 4, 2) := by decide +kernel
theorem d2_23 : decode method_3_code 23 = .ok (.bipush 8, 2) := by decide +kernel
theorem d2_25 : decode method_3_code 25 = .ok (.iload 8, 2) := by decide +kernel
theorem d2_27 : decode method_3_code 27 = .ok (.imul, 1) := by decide +kernel
theorem d2_28 : decode method_3_code 28 = .ok (.lushr, 1) := by decide +kernel
theorem d2_29 : decode method_3_code 29 = .ok (.ldc2_w 20, 3) := by decide +kernel
theorem d2_32 : decode method_3_code 32 = .ok (.land, 1) := by decide +kernel
theorem d2_33 : decode method_3_code 33 = .ok (.l2i, 1) := by decide +kernel
theorem d2_34 : decode method_3_code 34 = .ok (.istore 7, 2) := by decide +kernel
theorem d2_36 : decode method_3_code 36 = .ok (.goto 11, 3) := by decide +kernel
theorem d2_39 : decode method_3_code 39 = .ok (.iload 6, 2) := by decide +kernel
theorem d2_41 : decode method_3_code 41 = .ok (.sipush 255, 3) := by decide +kernel
theorem d2_44 : decode method_3_code 44 = .ok (.iand, 1) := by decide +kernel
theorem d2_45 : decode method_3_code 45 = .ok (.istore 7, 2) := by decide +kernel
theorem d2_47 : decode method_3_code 47 = .ok (.aload_n 0, 1) := by decide +kernel
theorem d2_48 : decode method_3_code 48 = .ok (.iload_n 1, 1) := by decide +kernel
theorem d2_49 : decode method_3_code 49 = .ok (.baload, 1) := by decide +kernel
theorem d2_50 : decode method_3_code 50 = .ok (.sipush 255, 3) := by decide +kernel
theorem d2_53 : decode method_3_code 53 = .ok (.iand, 1) := by decide +kernel
theorem d2_54 : decode method_3_code 54 = .ok (.iload 7, 2) := by decide +kernel
theorem d2_56 : decode method_3_code 56 = .ok (.if_icmp .ne 7, 3) := by decide +kernel
theorem d2_59 : decode method_3_code 59 = .ok (.iconst 1, 1) := by decide +kernel
theorem d2_60 : decode method_3_code 60 = .ok (.goto 4, 3) := by decide +kernel
theorem d2_63 : decode method_3_code 63 = .ok (.iconst 0, 1) := by decide +kernel
theorem d2_64 : decode method_3_code 64 = .ok (.ireturn, 1) := by decide +kernel
theorem pn_2 : plainName "com/example/holdfast/holdfast/store/rocksdb/BigEndianWritePinLaw" = true := by first | (simp [plainName, overriddenIn]; done) | decide +kernel
theorem ef_2 (m : MethodId) (x0 : Addr) (x1 : Int32) (x2 : Int32) (x3 : Int32) (x4 : Int64) (x5 : Int32) : entryFrame m #[(.ref x0), (.int x1), (.int x2), (.int x3), (.long x4), (.int x5)] 9 = mkF m 0 #[.val (.ref x0), .val (.int x1), .val (.int x2), .val (.int x3), .val (.long x4), .second, .val (.int x5), .unset, .unset] [] := by first | (simp [entryFrame, mkF, argsToLocals, Value.category]; done) | rfl
def Q2 (Z : State)  (h0 : Heap) (n0 : Nat) (v : Option Value) (h : Heap) (L : List Loc) : Prop := v = some (.int (1 : Int32)) ∧ Fr n0 L ∧ h = h0
set_option maxRecDepth 65536 in
set_option maxHeartbeats 40000000 in
theorem rm2 (l : Launch) (Z : State) (a0 : Array Value) (hw : ∀ d ∈ tables_1, d.before a0 Z = true) (ws : List Jvm.Cond) (a1 : Addr) (f : Nat → Int32) (kk a n : Nat) (val : Int64) (fl : Int32) (h0 : Heap) (n0 : Nat) (Z0 : n0 ≤ h0.size) (hk : kk < 12) (hN : a + n ≤ 12) (G : own_By Z h0 a1 12 f) (hinn : a ≤ kk → kk < a + n → f kk = own_lb val (a + n - 1 - kk)) (hout : ¬ (a ≤ kk ∧ kk < a + n) → f kk = fl) :
    MetFree l (⟨"com/example/holdfast/holdfast/store/rocksdb/BigEndianWritePinLaw", "cell", "([BIIIJB)Z"⟩ : MethodName) (head1 (Jvm.Cond.code (⟨"com/example/holdfast/holdfast/store/rocksdb/BigEndianWritePinLaw", "cell", "([BIIIJB)Z"⟩ : MethodName) method_3_code 9 (some .boolean) :: ws) ({ frames := 0, cells := 0, slots := 0, locals := 0 } : Room)) (fun aa U => aa = #[(.ref a1), (.int (Int32.ofNat kk)), (.int (Int32.ofNat a)), (.int (Int32.ofNat n)), (.long val), (.int fl)] ∧ Z.Warmed39 U.vm ∧ U.heap = h0) (fun _ _ _ _ _ => True) (fun _ U o U' => ∃ v L, o = .returned v ∧ Q2 Z  h0 n0 v U'.heap L ∧ FrameEnd U o U' L ({ frames := 0, cells := 0, slots := 0, locals := 0 } : Room).cells ({ frames := 0, cells := 0, slots := 0, locals := 0 } : Room).slots) := by
  refine MetFree.of_bodySF (plainFor_of_name pn_2) hisR ?_
  intro p e s m args below meth c s₁ Bd hml0 hP hK
  obtain ⟨rfl, hZ, hh⟩ := hP
  have hx := Bd.exec
  have hby := Bd.bytes
  have hml : c.maxLocals = 9 := hml0
  have hown : s.vm.findClass "com/example/holdfast/holdfast/store/rocksdb/BigEndianWritePinLaw" = some m.cls := findClass_of_methodNamed Bd.named
  have hnm := (name_of_methodNamed Bd.named Bd.method).1
  have X0 : Stand p l e ({ frames := 0, cells := 0, slots := 0, locals := 0 } : Room) s m #[(.ref a1), (.int (Int32.ofNat kk)), (.int (Int32.ofNat a)), (.int (Int32.ofNat n)), (.long val), (.int fl)] below meth c s₁ [] 0 0 := Stand.of_body Bd
  have e0 : s₁.heap = h0 := by rw [← hh, Bd.state]; rfl
  have N0 := Fr.nil n0
  have pre0 : ∀ t, Steps p.tables e below (s₁.setTop (mkF m 0 #[.val (.ref a1), .val (.int (Int32.ofNat kk)), .val (.int (Int32.ofNat a)), .val (.int (Int32.ofNat n)), .val (.long val), .second, .val (.int fl), .unset, .unset] [])) t → Steps p.tables e below (s₁.setTop (entryFrame m #[(.ref a1), (.int (Int32.ofNat kk)), (.int (Int32.ofNat a)), (.int (Int32.ofNat n)), (.long val), (.int fl)] 9)) t := fun t k => castTop (ef_2 m a1 (Int32.ofNat kk) (Int32.ofNat a) (Int32.ofNat n) val fl) k
  obtain ⟨cl, Ar, S, H⟩ := G
  have hin : ¬ (Int32.ofNat kk < 0 ∨ cl.slots.size ≤ (Int32.ofNat kk).toNatClampNeg) := by
    rw [S, own_n32 (by omega)]
    exact fun q => q.elim (own_nn (by omega)) (fun q => by omega)
  have hat : cl.slots[(Int32.ofNat kk).toNatClampNeg]? = some (.int (f kk)) := by rw [own_n32 (by omega)]; exact H _ hk
  by_cases h1 : Int32.ofNat kk < Int32.ofNat a
  · have s1 : ∀ t, Steps p.tables e below (s₁.setTop (mkF m 47 #[.val (.ref a1), .val (.int (Int32.ofNat kk)), .val (.int (Int32.ofNat a)), .val (.int (Int32.ofNat n)), .val (.long val), .second, .val (.int fl), .val (.int (fl &&& (255 : Int32))), .unset] [])) t → Steps p.tables e below (s₁.setTop (mkF m 0 #[.val (.ref a1), .val (.int (Int32.ofNat kk)), .val (.int (Int32.ofNat a)), .val (.int (Int32.ofNat n)), .val (.long val), .second, .val (.int fl), .unset, .unset] [])) t := by
      intro t k
      show Steps p.tables e below (s₁.setTop (mkF m 0 #[.val (.ref a1), .val (.int (Int32.ofNat kk)), .val (.int (Int32.ofNat a)), .val (.int (Int32.ofNat n)), .val (.long val), .second, .val (.int fl), .unset, .unset] [])) _
      refine XS.iloadN X0.here hx rfl (hb hby d2_0) rfl ?_
      show Steps p.tables e below (s₁.setTop (mkF m 1 #[.val (.ref a1), .val (.int (Int32.ofNat kk)), .val (.int (Int32.ofNat a)), .val (.int (Int32.ofNat n)), .val (.long val), .second, .val (.int fl), .unset, .unset] [(.int (Int32.ofNat kk))])) _
      refine XS.iloadN X0.here hx rfl (hb hby d2_1) rfl ?_
      show Steps p.tables e below (s₁.setTop (mkF m 2 #[.val (.ref a1), .val (.int (Int32.ofNat kk)), .val (.int (Int32.ofNat a)), .val (.int (Int32.ofNat n)), .val (.long val), .second, .val (.int fl), .unset, .unset] [(.int (Int32.ofNat a)), (.int (Int32.ofNat kk))])) _
      refine XS.icmpYes X0.here hx rfl (pc0 := 2) (pc' := 39) rfl (hb hby d2_2) rfl (XT.ii_lt_t h1) (by decide) (by decide) ?_
      show Steps p.tables e below (s₁.setTop (mkF m 39 #[.val (.ref a1), .val (.int (Int32.ofNat kk)), .val (.int (Int32.ofNat a)), .val (.int (Int32.ofNat n)), .val (.long val), .second, .val (.int fl), .unset, .unset] [])) _
      refine XS.iload X0.here hx rfl (hb hby d2_39) rfl ?_
      show Steps p.tables e below (s₁.setTop (mkF m 41 #[.val (.ref a1), .val (.int (Int32.ofNat kk)), .val (.int (Int32.ofNat a)), .val (.int (Int32.ofNat n)), .val (.long val), .second, .val (.int fl), .unset, .unset] [(.int fl)])) _
      refine XS.sipush X0.here hx rfl (hb hby d2_41) ?_
      show Steps p.tables e below (s₁.setTop (mkF m 44 #[.val (.ref a1), .val (.int (Int32.ofNat kk)), .val (.int (Int32.ofNat a)), .val (.int (Int32.ofNat n)), .val (.long val), .second, .val (.int fl), .unset, .unset] [(.int (255 : Int32)), (.int fl)])) _
      refine XS.iand X0.here hx rfl (hb hby d2_44) rfl ?_
      show Steps p.tables e below (s₁.setTop (mkF m 45 #[.val (.ref a1), .val (.int (Int32.ofNat kk)), .val (.int (Int32.ofNat a)), .val (.int (Int32.ofNat n)), .val (.long val), .second, .val (.int fl), .unset, .unset] [(.int (fl &&& (255 : Int32)))])) _
      refine XS.istore X0.here hx rfl (hb hby d2_45) rfl (l' := #[.val (.ref a1), .val (.int (Int32.ofNat kk)), .val (.int (Int32.ofNat a)), .val (.int (Int32.ofNat n)), .val (.long val), .second, .val (.int fl), .val (.int (fl &&& (255 : Int32))), .unset]) rfl ?_
      show Steps p.tables e below (s₁.setTop (mkF m 47 #[.val (.ref a1), .val (.int (Int32.ofNat kk)), .val (.int (Int32.ofNat a)), .val (.int (Int32.ofNat n)), .val (.long val), .second, .val (.int fl), .val (.int (fl &&& (255 : Int32))), .unset] [])) _
      exact k
    have heq : (f kk &&& (255 : Int32)) = (fl &&& (255 : Int32)) := by rw [hout (fun q => by rw [own_ltN (by omega) (by omega)] at h1; omega)]
    have s2 : ∀ t, Steps p.tables e below (s₁.setTop (mkF m 64 #[.val (.ref a1), .val (.int (Int32.ofNat kk)), .val (.int (Int32.ofNat a)), .val (.int (Int32.ofNat n)), .val (.long val), .second, .val (.int fl), .val (.int (fl &&& (255 : Int32))), .unset] [(.int (1 : Int32))])) t → Steps p.tables e below (s₁.setTop (mkF m 47 #[.val (.ref a1), .val (.int (Int32.ofNat kk)), .val (.int (Int32.ofNat a)), .val (.int (Int32.ofNat n)), .val (.long val), .second, .val (.int fl), .val (.int (fl &&& (255 : Int32))), .unset] [])) t := by
      intro t k
      show Steps p.tables e below (s₁.setTop (mkF m 47 #[.val (.ref a1), .val (.int (Int32.ofNat kk)), .val (.int (Int32.ofNat a)), .val (.int (Int32.ofNat n)), .val (.long val), .second, .val (.int fl), .val (.int (fl &&& (255 : Int32))), .unset] [])) _
      refine XS.aloadN X0.here hx rfl (hb hby d2_47) rfl rfl ?_
      show Steps p.tables e below (s₁.setTop (mkF m 48 #[.val (.ref a1), .val (.int (Int32.ofNat kk)), .val (.int (Int32.ofNat a)), .val (.int (Int32.ofNat n)), .val (.long val), .second, .val (.int fl), .val (.int (fl &&& (255 : Int32))), .unset] [(.ref a1)])) _
      refine XS.iloadN X0.here hx rfl (hb hby d2_48) rfl ?_
      show Steps p.tables e below (s₁.setTop (mkF m 49 #[.val (.ref a1), .val (.int (Int32.ofNat kk)), .val (.int (Int32.ofNat a)), .val (.int (Int32.ofNat n)), .val (.long val), .second, .val (.int fl), .val (.int (fl &&& (255 : Int32))), .unset] [(.int (Int32.ofNat kk)), (.ref a1)])) _
      refine X0.baloadBytes hx (j := (Int32.ofNat kk)) (v := (.int (f kk))) (by rw [e0]; exact Ar.1) (State.isArrayOf_alike hZ.alike Ar.2.1) Ar.2.2 hin hat (g := (mkF m 49 #[.val (.ref a1), .val (.int (Int32.ofNat kk)), .val (.int (Int32.ofNat a)), .val (.int (Int32.ofNat n)), .val (.long val), .second, .val (.int fl), .val (.int (fl &&& (255 : Int32))), .unset] [(.int (Int32.ofNat kk)), (.ref a1)])) rfl rfl (hb hby d2_49) _ ?_
      show Steps p.tables e below (s₁.setTop (mkF m 50 #[.val (.ref a1), .val (.int (Int32.ofNat kk)), .val (.int (Int32.ofNat a)), .val (.int (Int32.ofNat n)), .val (.long val), .second, .val (.int fl), .val (.int (fl &&& (255 : Int32))), .unset] [(.int (f kk))])) _
      refine XS.sipush X0.here hx rfl (hb hby d2_50) ?_
      show Steps p.tables e below (s₁.setTop (mkF m 53 #[.val (.ref a1), .val (.int (Int32.ofNat kk)), .val (.int (Int32.ofNat a)), .val (.int (Int32.ofNat n)), .val (.long val), .second, .val (.int fl), .val (.int (fl &&& (255 : Int32))), .unset] [(.int (255 : Int32)), (.int (f kk))])) _
      refine XS.iand X0.here hx rfl (hb hby d2_53) rfl ?_
      show Steps p.tables e below (s₁.setTop (mkF m 54 #[.val (.ref a1), .val (.int (Int32.ofNat kk)), .val (.int (Int32.ofNat a)), .val (.int (Int32.ofNat n)), .val (.long val), .second, .val (.int fl), .val (.int (fl &&& (255 : Int32))), .unset] [(.int ((f kk) &&& (255 : Int32)))])) _
      refine XS.iload X0.here hx rfl (hb hby d2_54) rfl ?_
      show Steps p.tables e below (s₁.setTop (mkF m 56 #[.val (.ref a1), .val (.int (Int32.ofNat kk)), .val (.int (Int32.ofNat a)), .val (.int (Int32.ofNat n)), .val (.long val), .second, .val (.int fl), .val (.int (fl &&& (255 : Int32))), .unset] [(.int (fl &&& (255 : Int32))), (.int ((f kk) &&& (255 : Int32)))])) _
      refine XS.icmpNo X0.here hx rfl (hb hby d2_56) rfl (XT.ii_ne_f heq) ?_
      show Steps p.tables e below (s₁.setTop (mkF m 59 #[.val (.ref a1), .val (.int (Int32.ofNat kk)), .val (.int (Int32.ofNat a)), .val (.int (Int32.ofNat n)), .val (.long val), .second, .val (.int fl), .val (.int (fl &&& (255 : Int32))), .unset] [])) _
      refine XS.iconst X0.here hx rfl (hb hby d2_59) ?_
      show Steps p.tables e below (s₁.setTop (mkF m 60 #[.val (.ref a1), .val (.int (Int32.ofNat kk)), .val (.int (Int32.ofNat a)), .val (.int (Int32.ofNat n)), .val (.long val), .second, .val (.int fl), .val (.int (fl &&& (255 : Int32))), .unset] [(.int (1 : Int32))])) _
      refine XS.goto X0.here hx rfl (pc0 := 60) (pc' := 64) rfl (hb hby d2_60) (by decide) (by decide) ?_
      show Steps p.tables e below (s₁.setTop (mkF m 64 #[.val (.ref a1), .val (.int (Int32.ofNat kk)), .val (.int (Int32.ofNat a)), .val (.int (Int32.ofNat n)), .val (.long val), .second, .val (.int fl), .val (.int (fl &&& (255 : Int32))), .unset] [(.int (1 : Int32))])) _
      exact k
    obtain ⟨fs, hr, hrun, hended, hW, hsame⟩ := X0.leave (v := some (.int (1 : Int32))) (fun h => by rw [Bd.returns] at h; cases h)
    refine ⟨_, _, pre0 _ (s1 _ (s2 _ ?_)), hrun, hended, _, _, rfl, ?_, ⟨_, rfl⟩, hW, hsame.mono (by decide) (by decide)⟩
    · exact retN X0 hx (t := .boolean) Bd.returns (by simp) (hb hby d2_64) hr
    · exact ⟨rfl, N0, e0⟩
  by_cases h2 : Int32.ofNat kk < (Int32.ofNat a) + (Int32.ofNat n)
  · have s1 : ∀ t, Steps p.tables e below (s₁.setTop (mkF m 47 #[.val (.ref a1), .val (.int (Int32.ofNat kk)), .val (.int (Int32.ofNat a)), .val (.int (Int32.ofNat n)), .val (.long val), .second, .val (.int fl), .val (.int ((((val.toUInt64 >>> (((8 : Int32) * ((((Int32.ofNat a) + (Int32.ofNat n)) - (1 : Int32)) - (Int32.ofNat kk))) &&& 0x3f).toInt64.toUInt64).toInt64) &&& (255 : Int64)).toInt32)), .val (.int ((((Int32.ofNat a) + (Int32.ofNat n)) - (1 : Int32)) - (Int32.ofNat kk)))] [])) t → Steps p.tables e below (s₁.setTop (mkF m 0 #[.val (.ref a1), .val (.int (Int32.ofNat kk)), .val (.int (Int32.ofNat a)), .val (.int (Int32.ofNat n)), .val (.long val), .second, .val (.int fl), .unset, .unset] [])) t := by
      intro t k
      show Steps p.tables e below (s₁.setTop (mkF m 0 #[.val (.ref a1), .val (.int (Int32.ofNat kk)), .val (.int (Int32.ofNat a)), .val (.int (Int32.ofNat n)), .val (.long val), .second, .val (.int fl), .unset, .unset] [])) _
      refine XS.iloadN X0.here hx rfl (hb hby d2_0) rfl ?_
      show Steps p.tables e below (s₁.setTop (mkF m 1 #[.val (.ref a1), .val (.int (Int32.ofNat kk)), .val (.int (Int32.ofNat a)), .val (.int (Int32.ofNat n)), .val (.long val), .second, .val (.int fl), .unset, .unset] [(.int (Int32.ofNat kk))])) _
      refine XS.iloadN X0.here hx rfl (hb hby d2_1) rfl ?_
      show Steps p.tables e below (s₁.setTop (mkF m 2 #[.val (.ref a1), .val (.int (Int32.ofNat kk)), .val (.int (Int32.ofNat a)), .val (.int (Int32.ofNat n)), .val (.long val), .second, .val (.int fl), .unset, .unset] [(.int (Int32.ofNat a)), (.int (Int32.ofNat kk))])) _
      refine XS.icmpNo X0.here hx rfl (hb hby d2_2) rfl (XT.ii_lt_f h1) ?_
      show Steps p.tables e below (s₁.setTop (mkF m 5 #[.val (.ref a1), .val (.int (Int32.ofNat kk)), .val (.int (Int32.ofNat a)), .val (.int (Int32.ofNat n)), .val (.long val), .second, .val (.int fl), .unset, .unset] [])) _
      refine XS.iloadN X0.here hx rfl (hb hby d2_5) rfl ?_
      show Steps p.tables e below (s₁.setTop (mkF m 6 #[.val (.ref a1), .val (.int (Int32.ofNat kk)), .val (.int (Int32.ofNat a)), .val (.int (Int32.ofNat n)), .val (.long val), .second, .val (.int fl), .unset, .unset] [(.int (Int32.ofNat kk))])) _
      refine XS.iloadN X0.here hx rfl (hb hby d2_6) rfl ?_
      show Steps p.tables e below (s₁.setTop (mkF m 7 #[.val (.ref a1), .val (.int (Int32.ofNat kk)), .val (.int (Int32.ofNat a)), .val (.int (Int32.ofNat n)), .val (.long val), .second, .val (.int fl), .unset, .unset] [(.int (Int32.ofNat a)), (.int (Int32.ofNat kk))])) _
      refine XS.iloadN X0.here hx rfl (hb hby d2_7) rfl ?_
      show Steps p.tables e below (s₁.setTop (mkF m 8 #[.val (.ref a1), .val (.int (Int32.ofNat kk)), .val (.int (Int32.ofNat a)), .val (.int (Int32.ofNat n)), .val (.long val), .second, .val (.int fl), .unset, .unset] [(.int (Int32.ofNat n)), (.int (Int32.ofNat a)), (.int (Int32.ofNat kk))])) _
      refine XS.iadd X0.here hx rfl (hb hby d2_8) rfl ?_
      show Steps p.tables e below (s₁.setTop (mkF m 9 #[.val (.ref a1), .val (.int (Int32.ofNat kk)), .val (.int (Int32.ofNat a)), .val (.int (Int32.ofNat n)), .val (.long val), .second, .val (.int fl), .unset, .unset] [(.int ((Int32.ofNat a) + (Int32.ofNat n))), (.int (Int32.ofNat kk))])) _
      refine XS.icmpNo X0.here hx rfl (hb hby d2_9) rfl (XT.ii_ge_f h2) ?_
      show Steps p.tables e below (s₁.setTop (mkF m 12 #[.val (.ref a1), .val (.int (Int32.ofNat kk)), .val (.int (Int32.ofNat a)), .val (.int (Int32.ofNat n)), .val (.long val), .second, .val (.int fl), .unset, .unset] [])) _
      refine XS.iloadN X0.here hx rfl (hb hby d2_12) rfl ?_
      show Steps p.tables e below (s₁.setTop (mkF m 13 #[.val (.ref a1), .val (.int (Int32.ofNat kk)), .val (.int (Int32.ofNat a)), .val (.int (Int32.ofNat n)), .val (.long val), .second, .val (.int fl), .unset, .unset] [(.int (Int32.ofNat a))])) _
      refine XS.iloadN X0.here hx rfl (hb hby d2_13) rfl ?_
      show Steps p.tables e below (s₁.setTop (mkF m 14 #[.val (.ref a1), .val (.int (Int32.ofNat kk)), .val (.int (Int32.ofNat a)), .val (.int (Int32.ofNat n)), .val (.long val), .second, .val (.int fl), .unset, .unset] [(.int (Int32.ofNat n)), (.int (Int32.ofNat a))])) _
      refine XS.iadd X0.here hx rfl (hb hby d2_14) rfl ?_
      show Steps p.tables e below (s₁.setTop (mkF m 15 #[.val (.ref a1), .val (.int (Int32.ofNat kk)), .val (.int (Int32.ofNat a)), .val (.int (Int32.ofNat n)), .val (.long val), .second, .val (.int fl), .unset, .unset] [(.int ((Int32.ofNat a) + (Int32.ofNat n)))])) _
      refine XS.iconst X0.here hx rfl (hb hby d2_15) ?_
      show Steps p.tables e below (s₁.setTop (mkF m 16 #[.val (.ref a1), .val (.int (Int32.ofNat kk)), .val (.int (Int32.ofNat a)), .val (.int (Int32.ofNat n)), .val (.long val), .second, .val (.int fl), .unset, .unset] [(.int (1 : Int32)), (.int ((Int32.ofNat a) + (Int32.ofNat n)))])) _
      refine XS.isub X0.here hx rfl (hb hby d2_16) rfl ?_
      show Steps p.tables e below (s₁.setTop (mkF m 17 #[.val (.ref a1), .val (.int (Int32.ofNat kk)), .val (.int (Int32.ofNat a)), .val (.int (Int32.ofNat n)), .val (.long val), .second, .val (.int fl), .unset, .unset] [(.int (((Int32.ofNat a) + (Int32.ofNat n)) - (1 : Int32)))])) _
      refine XS.iloadN X0.here hx rfl (hb hby d2_17) rfl ?_
      show Steps p.tables e below (s₁.setTop (mkF m 18 #[.val (.ref a1), .val (.int (Int32.ofNat kk)), .val (.int (Int32.ofNat a)), .val (.int (Int32.ofNat n)), .val (.long val), .second, .val (.int fl), .unset, .unset] [(.int (Int32.ofNat kk)), (.int (((Int32.ofNat a) + (Int32.ofNat n)) - (1 : Int32)))])) _
      refine XS.isub X0.here hx rfl (hb hby d2_18) rfl ?_
      show Steps p.tables e below (s₁.setTop (mkF m 19 #[.val (.ref a1), .val (.int (Int32.ofNat kk)), .val (.int (Int32.ofNat a)), .val (.int (Int32.ofNat n)), .val (.long val), .second, .val (.int fl), .unset, .unset] [(.int ((((Int32.ofNat a) + (Int32.ofNat n)) - (1 : Int32)) - (Int32.ofNat kk)))])) _
      refine XS.istore X0.here hx rfl (hb hby d2_19) rfl (l' := #[.val (.ref a1), .val (.int (Int32.ofNat kk)), .val (.int (Int32.ofNat a)), .val (.int (Int32.ofNat n)), .val (.long val), .second, .val (.int fl), .unset, .val (.int ((((Int32.ofNat a) + (Int32.ofNat n)) - (1 : Int32)) - (Int32.ofNat kk)))]) rfl ?_
      show Steps p.tables e below (s₁.setTop (mkF m 21 #[.val (.ref a1), .val (.int (Int32.ofNat kk)), .val (.int (Int32.ofNat a)), .val (.int (Int32.ofNat n)), .val (.long val), .second, .val (.int fl), .unset, .val (.int ((((Int32.ofNat a) + (Int32.ofNat n)) - (1 : Int32)) - (Int32.ofNat kk)))] [])) _
      refine XS.lload X0.here hx rfl (hb hby d2_21) rfl ?_
      show Steps p.tables e below (s₁.setTop (mkF m 23 #[.val (.ref a1), .val (.int (Int32.ofNat kk)), .val (.int (Int32.ofNat a)), .val (.int (Int32.ofNat n)), .val (.long val), .second, .val (.int fl), .unset, .val (.int ((((Int32.ofNat a) + (Int32.ofNat n)) - (1 : Int32)) - (Int32.ofNat kk)))] [(.long val)])) _
      refine XS.bipush X0.here hx rfl (hb hby d2_23) ?_
      show Steps p.tables e below (s₁.setTop (mkF m 25 #[.val (.ref a1), .val (.int (Int32.ofNat kk)), .val (.int (Int32.ofNat a)), .val (.int (Int32.ofNat n)), .val (.long val), .second, .val (.int fl), .unset, .val (.int ((((Int32.ofNat a) + (Int32.ofNat n)) - (1 : Int32)) - (Int32.ofNat kk)))] [(.int (8 : Int32)), (.long val)])) _
      refine XS.iload X0.here hx rfl (hb hby d2_25) rfl ?_
      show Steps p.tables e below (s₁.setTop (mkF m 27 #[.val (.ref a1), .val (.int (Int32.ofNat kk)), .val (.int (Int32.ofNat a)), .val (.int (Int32.ofNat n)), .val (.long val), .second, .val (.int fl), .unset, .val (.int ((((Int32.ofNat a) + (Int32.ofNat n)) - (1 : Int32)) - (Int32.ofNat kk)))] [(.int ((((Int32.ofNat a) + (Int32.ofNat n)) - (1 : Int32)) - (Int32.ofNat kk))), (.int (8 : Int32)), (.long val)])) _
      refine XS.imul X0.here hx rfl (hb hby d2_27) rfl ?_
      show Steps p.tables e below (s₁.setTop (mkF m 28 #[.val (.ref a1), .val (.int (Int32.ofNat kk)), .val (.int (Int32.ofNat a)), .val (.int (Int32.ofNat n)), .val (.long val), .second, .val (.int fl), .unset, .val (.int ((((Int32.ofNat a) + (Int32.ofNat n)) - (1 : Int32)) - (Int32.ofNat kk)))] [(.int ((8 : Int32) * ((((Int32.ofNat a) + (Int32.ofNat n)) - (1 : Int32)) - (Int32.ofNat kk)))), (.long val)])) _
      refine XS.lushr X0.here hx rfl (hb hby d2_28) rfl ?_
      show Steps p.tables e below (s₁.setTop (mkF m 29 #[.val (.ref a1), .val (.int (Int32.ofNat kk)), .val (.int (Int32.ofNat a)), .val (.int (Int32.ofNat n)), .val (.long val), .second, .val (.int fl), .unset, .val (.int ((((Int32.ofNat a) + (Int32.ofNat n)) - (1 : Int32)) - (Int32.ofNat kk)))] [(.long ((val.toUInt64 >>> (((8 : Int32) * ((((Int32.ofNat a) + (Int32.ofNat n)) - (1 : Int32)) - (Int32.ofNat kk))) &&& 0x3f).toInt64.toUInt64).toInt64))])) _
      refine X0.ldc2J hx hown (mvT hZ (hw _ (List.mem_of_getElem? (i := 10) rfl))) (g := (mkF m 29 #[.val (.ref a1), .val (.int (Int32.ofNat kk)), .val (.int (Int32.ofNat a)), .val (.int (Int32.ofNat n)), .val (.long val), .second, .val (.int fl), .unset, .val (.int ((((Int32.ofNat a) + (Int32.ofNat n)) - (1 : Int32)) - (Int32.ofNat kk)))] [(.long ((val.toUInt64 >>> (((8 : Int32) * ((((Int32.ofNat a) + (Int32.ofNat n)) - (1 : Int32)) - (Int32.ofNat kk))) &&& 0x3f).toInt64.toUInt64).toInt64))])) rfl (hb hby d2_29) ?_
      show Steps p.tables e below (s₁.setTop (mkF m 32 #[.val (.ref a1), .val (.int (Int32.ofNat kk)), .val (.int (Int32.ofNat a)), .val (.int (Int32.ofNat n)), .val (.long val), .second, .val (.int fl), .unset, .val (.int ((((Int32.ofNat a) + (Int32.ofNat n)) - (1 : Int32)) - (Int32.ofNat kk)))] [(.long (255 : Int64)), (.long ((val.toUInt64 >>> (((8 : Int32) * ((((Int32.ofNat a) + (Int32.ofNat n)) - (1 : Int32)) - (Int32.ofNat kk))) &&& 0x3f).toInt64.toUInt64).toInt64))])) _
      refine XS.land X0.here hx rfl (hb hby d2_32) rfl ?_
      show Steps p.tables e below (s₁.setTop (mkF m 33 #[.val (.ref a1), .val (.int (Int32.ofNat kk)), .val (.int (Int32.ofNat a)), .val (.int (Int32.ofNat n)), .val (.long val), .second, .val (.int fl), .unset, .val (.int ((((Int32.ofNat a) + (Int32.ofNat n)) - (1 : Int32)) - (Int32.ofNat kk)))] [(.long (((val.toUInt64 >>> (((8 : Int32) * ((((Int32.ofNat a) + (Int32.ofNat n)) - (1 : Int32)) - (Int32.ofNat kk))) &&& 0x3f).toInt64.toUInt64).toInt64) &&& (255 : Int64)))])) _
      refine XS.l2i X0.here hx rfl (hb hby d2_33) rfl ?_
      show Steps p.tables e below (s₁.setTop (mkF m 34 #[.val (.ref a1), .val (.int (Int32.ofNat kk)), .val (.int (Int32.ofNat a)), .val (.int (Int32.ofNat n)), .val (.long val), .second, .val (.int fl), .unset, .val (.int ((((Int32.ofNat a) + (Int32.ofNat n)) - (1 : Int32)) - (Int32.ofNat kk)))] [(.int ((((val.toUInt64 >>> (((8 : Int32) * ((((Int32.ofNat a) + (Int32.ofNat n)) - (1 : Int32)) - (Int32.ofNat kk))) &&& 0x3f).toInt64.toUInt64).toInt64) &&& (255 : Int64)).toInt32))])) _
      refine XS.istore X0.here hx rfl (hb hby d2_34) rfl (l' := #[.val (.ref a1), .val (.int (Int32.ofNat kk)), .val (.int (Int32.ofNat a)), .val (.int (Int32.ofNat n)), .val (.long val), .second, .val (.int fl), .val (.int ((((val.toUInt64 >>> (((8 : Int32) * ((((Int32.ofNat a) + (Int32.ofNat n)) - (1 : Int32)) - (Int32.ofNat kk))) &&& 0x3f).toInt64.toUInt64).toInt64) &&& (255 : Int64)).toInt32)), .val (.int ((((Int32.ofNat a) + (Int32.ofNat n)) - (1 : Int32)) - (Int32.ofNat kk)))]) rfl ?_
      show Steps p.tables e below (s₁.setTop (mkF m 36 #[.val (.ref a1), .val (.int (Int32.ofNat kk)), .val (.int (Int32.ofNat a)), .val (.int (Int32.ofNat n)), .val (.long val), .second, .val (.int fl), .val (.int ((((val.toUInt64 >>> (((8 : Int32) * ((((Int32.ofNat a) + (Int32.ofNat n)) - (1 : Int32)) - (Int32.ofNat kk))) &&& 0x3f).toInt64.toUInt64).toInt64) &&& (255 : Int64)).toInt32)), .val (.int ((((Int32.ofNat a) + (Int32.ofNat n)) - (1 : Int32)) - (Int32.ofNat kk)))] [])) _
      refine XS.goto X0.here hx rfl (pc0 := 36) (pc' := 47) rfl (hb hby d2_36) (by decide) (by decide) ?_
      show Steps p.tables e below (s₁.setTop (mkF m 47 #[.val (.ref a1), .val (.int (Int32.ofNat kk)), .val (.int (Int32.ofNat a)), .val (.int (Int32.ofNat n)), .val (.long val), .second, .val (.int fl), .val (.int ((((val.toUInt64 >>> (((8 : Int32) * ((((Int32.ofNat a) + (Int32.ofNat n)) - (1 : Int32)) - (Int32.ofNat kk))) &&& 0x3f).toInt64.toUInt64).toInt64) &&& (255 : Int64)).toInt32)), .val (.int ((((Int32.ofNat a) + (Int32.ofNat n)) - (1 : Int32)) - (Int32.ofNat kk)))] [])) _
      exact k
    have heq : (f kk &&& (255 : Int32)) = ((((val.toUInt64 >>> (((8 : Int32) * ((((Int32.ofNat a) + (Int32.ofNat n)) - (1 : Int32)) - (Int32.ofNat kk))) &&& 0x3f).toInt64.toUInt64).toInt64) &&& (255 : Int64)).toInt32) := by
      rw [own_ltN (by omega) (by omega)] at h1
      rw [← Int32.ofNat_add, own_ltN (by omega) (by omega)] at h2
      rw [hinn (by omega) h2, own_sig a n kk (by omega) (by omega)]
      exact own_low _
    have s2 : ∀ t, Steps p.tables e below (s₁.setTop (mkF m 64 #[.val (.ref a1), .val (.int (Int32.ofNat kk)), .val (.int (Int32.ofNat a)), .val (.int (Int32.ofNat n)), .val (.long val), .second, .val (.int fl), .val (.int ((((val.toUInt64 >>> (((8 : Int32) * ((((Int32.ofNat a) + (Int32.ofNat n)) - (1 : Int32)) - (Int32.ofNat kk))) &&& 0x3f).toInt64.toUInt64).toInt64) &&& (255 : Int64)).toInt32)), .val (.int ((((Int32.ofNat a) + (Int32.ofNat n)) - (1 : Int32)) - (Int32.ofNat kk)))] [(.int (1 : Int32))])) t → Steps p.tables e below (s₁.setTop (mkF m 47 #[.val (.ref a1), .val (.int (Int32.ofNat kk)), .val (.int (Int32.ofNat a)), .val (.int (Int32.ofNat n)), .val (.long val), .second, .val (.int fl), .val (.int ((((val.toUInt64 >>> (((8 : Int32) * ((((Int32.ofNat a) + (Int32.ofNat n)) - (1 : Int32)) - (Int32.ofNat kk))) &&& 0x3f).toInt64.toUInt64).toInt64) &&& (255 : Int64)).toInt32)), .val (.int ((((Int32.ofNat a) + (Int32.ofNat n)) - (1 : Int32)) - (Int32.ofNat kk)))] [])) t := by
      intro t k
      show Steps p.tables e below (s₁.setTop (mkF m 47 #[.val (.ref a1), .val (.int (Int32.ofNat kk)), .val (.int (Int32.ofNat a)), .val (.int (Int32.ofNat n)), .val (.long val), .second, .val (.int fl), .val (.int ((((val.toUInt64 >>> (((8 : Int32) * ((((Int32.ofNat a) + (Int32.ofNat n)) - (1 : Int32)) - (Int32.ofNat kk))) &&& 0x3f).toInt64.toUInt64).toInt64) &&& (255 : Int64)).toInt32)), .val (.int ((((Int32.ofNat a) + (Int32.ofNat n)) - (1 : Int32)) - (Int32.ofNat kk)))] [])) _
      refine XS.aloadN X0.here hx rfl (hb hby d2_47) rfl rfl ?_
      show Steps p.tables e below (s₁.setTop (mkF m 48 #[.val (.ref a1), .val (.int (Int32.ofNat kk)), .val (.int (Int32.ofNat a)), .val (.int (Int32.ofNat n)), .val (.long val), .second, .val (.int fl), .val (.int ((((val.toUInt64 >>> (((8 : Int32) * ((((Int32.ofNat a) + (Int32.ofNat n)) - (1 : Int32)) - (Int32.ofNat kk))) &&& 0x3f).toInt64.toUInt64).toInt64) &&& (255 : Int64)).toInt32)), .val (.int ((((Int32.ofNat a) + (Int32.ofNat n)) - (1 : Int32)) - (Int32.ofNat kk)))] [(.ref a1)])) _
      refine XS.iloadN X0.here hx rfl (hb hby d2_48) rfl ?_
      show Steps p.tables e below (s₁.setTop (mkF m 49 #[.val (.ref a1), .val (.int (Int32.ofNat kk)), .val (.int (Int32.ofNat a)), .val (.int (Int32.ofNat n)), .val (.long val), .second, .val (.int fl), .val (.int ((((val.toUInt64 >>> (((8 : Int32) * ((((Int32.ofNat a) + (Int32.ofNat n)) - (1 : Int32)) - (Int32.ofNat kk))) &&& 0x3f).toInt64.toUInt64).toInt64) &&& (255 : Int64)).toInt32)), .val (.int ((((Int32.ofNat a) + (Int32.ofNat n)) - (1 : Int32)) - (Int32.ofNat kk)))] [(.int (Int32.ofNat kk)), (.ref a1)])) _
      refine X0.baloadBytes hx (j := (Int32.ofNat kk)) (v := (.int (f kk))) (by rw [e0]; exact Ar.1) (State.isArrayOf_alike hZ.alike Ar.2.1) Ar.2.2 hin hat (g := (mkF m 49 #[.val (.ref a1), .val (.int (Int32.ofNat kk)), .val (.int (Int32.ofNat a)), .val (.int (Int32.ofNat n)), .val (.long val), .second, .val (.int fl), .val (.int ((((val.toUInt64 >>> (((8 : Int32) * ((((Int32.ofNat a) + (Int32.ofNat n)) - (1 : Int32)) - (Int32.ofNat kk))) &&& 0x3f).toInt64.toUInt64).toInt64) &&& (255 : Int64)).toInt32)), .val (.int ((((Int32.ofNat a) + (Int32.ofNat n)) - (1 : Int32)) - (Int32.ofNat kk)))] [(.int (Int32.ofNat kk)), (.ref a1)])) rfl rfl (hb hby d2_49) _ ?_
      show Steps p.tables e below (s₁.setTop (mkF m 50 #[.val (.ref a1), .val (.int (Int32.ofNat kk)), .val (.int (Int32.ofNat a)), .val (.int (Int32.ofNat n)), .val (.long val), .second, .val (.int fl), .val (.int ((((val.toUInt64 >>> (((8 : Int32) * ((((Int32.ofNat a) + (Int32.ofNat n)) - (1 : Int32)) - (Int32.ofNat kk))) &&& 0x3f).toInt64.toUInt64).toInt64) &&& (255 : Int64)).toInt32)), .val (.int ((((Int32.ofNat a) + (Int32.ofNat n)) - (1 : Int32)) - (Int32.ofNat kk)))] [(.int (f kk))])) _
      refine XS.sipush X0.here hx rfl (hb hby d2_50) ?_
      show Steps p.tables e below (s₁.setTop (mkF m 53 #[.val (.ref a1), .val (.int (Int32.ofNat kk)), .val (.int (Int32.ofNat a)), .val (.int (Int32.ofNat n)), .val (.long val), .second, .val (.int fl), .val (.int ((((val.toUInt64 >>> (((8 : Int32) * ((((Int32.ofNat a) + (Int32.ofNat n)) - (1 : Int32)) - (Int32.ofNat kk))) &&& 0x3f).toInt64.toUInt64).toInt64) &&& (255 : Int64)).toInt32)), .val (.int ((((Int32.ofNat a) + (Int32.ofNat n)) - (1 : Int32)) - (Int32.ofNat kk)))] [(.int (255 : Int32)), (.int (f kk))])) _
      refine XS.iand X0.here hx rfl (hb hby d2_53) rfl ?_
      show Steps p.tables e below (s₁.setTop (mkF m 54 #[.val (.ref a1), .val (.int (Int32.ofNat kk)), .val (.int (Int32.ofNat a)), .val (.int (Int32.ofNat n)), .val (.long val), .second, .val (.int fl), .val (.int ((((val.toUInt64 >>> (((8 : Int32) * ((((Int32.ofNat a) + (Int32.ofNat n)) - (1 : Int32)) - (Int32.ofNat kk))) &&& 0x3f).toInt64.toUInt64).toInt64) &&& (255 : Int64)).toInt32)), .val (.int ((((Int32.ofNat a) + (Int32.ofNat n)) - (1 : Int32)) - (Int32.ofNat kk)))] [(.int ((f kk) &&& (255 : Int32)))])) _
      refine XS.iload X0.here hx rfl (hb hby d2_54) rfl ?_
      show Steps p.tables e below (s₁.setTop (mkF m 56 #[.val (.ref a1), .val (.int (Int32.ofNat kk)), .val (.int (Int32.ofNat a)), .val (.int (Int32.ofNat n)), .val (.long val), .second, .val (.int fl), .val (.int ((((val.toUInt64 >>> (((8 : Int32) * ((((Int32.ofNat a) + (Int32.ofNat n)) - (1 : Int32)) - (Int32.ofNat kk))) &&& 0x3f).toInt64.toUInt64).toInt64) &&& (255 : Int64)).toInt32)), .val (.int ((((Int32.ofNat a) + (Int32.ofNat n)) - (1 : Int32)) - (Int32.ofNat kk)))] [(.int ((((val.toUInt64 >>> (((8 : Int32) * ((((Int32.ofNat a) + (Int32.ofNat n)) - (1 : Int32)) - (Int32.ofNat kk))) &&& 0x3f).toInt64.toUInt64).toInt64) &&& (255 : Int64)).toInt32)), (.int ((f kk) &&& (255 : Int32)))])) _
      refine XS.icmpNo X0.here hx rfl (hb hby d2_56) rfl (XT.ii_ne_f heq) ?_
      show Steps p.tables e below (s₁.setTop (mkF m 59 #[.val (.ref a1), .val (.int (Int32.ofNat kk)), .val (.int (Int32.ofNat a)), .val (.int (Int32.ofNat n)), .val (.long val), .second, .val (.int fl), .val (.int ((((val.toUInt64 >>> (((8 : Int32) * ((((Int32.ofNat a) + (Int32.ofNat n)) - (1 : Int32)) - (Int32.ofNat kk))) &&& 0x3f).toInt64.toUInt64).toInt64) &&& (255 : Int64)).toInt32)), .val (.int ((((Int32.ofNat a) + (Int32.ofNat n)) - (1 : Int32)) - (Int32.ofNat kk)))] [])) _
      refine XS.iconst X0.here hx rfl (hb hby d2_59) ?_
      show Steps p.tables e below (s₁.setTop (mkF m 60 #[.val (.ref a1), .val (.int (Int32.ofNat kk)), .val (.int (Int32.ofNat a)), .val (.int (Int32.ofNat n)), .val (.long val), .second, .val (.int fl), .val (.int ((((val.toUInt64 >>> (((8 : Int32) * ((((Int32.ofNat a) + (Int32.ofNat n)) - (1 : Int32)) - (Int32.ofNat kk))) &&& 0x3f).toInt64.toUInt64).toInt64) &&& (255 : Int64)).toInt32)), .val (.int ((((Int32.ofNat a) + (Int32.ofNat n)) - (1 : Int32)) - (Int32.ofNat kk)))] [(.int (1 : Int32))])) _
      refine XS.goto X0.here hx rfl (pc0 := 60) (pc' := 64) rfl (hb hby d2_60) (by decide) (by decide) ?_
      show Steps p.tables e below (s₁.setTop (mkF m 64 #[.val (.ref a1), .val (.int (Int32.ofNat kk)), .val (.int (Int32.ofNat a)), .val (.int (Int32.ofNat n)), .val (.long val), .second, .val (.int fl), .val (.int ((((val.toUInt64 >>> (((8 : Int32) * ((((Int32.ofNat a) + (Int32.ofNat n)) - (1 : Int32)) - (Int32.ofNat kk))) &&& 0x3f).toInt64.toUInt64).toInt64) &&& (255 : Int64)).toInt32)), .val (.int ((((Int32.ofNat a) + (Int32.ofNat n)) - (1 : Int32)) - (Int32.ofNat kk)))] [(.int (1 : Int32))])) _
      exact k
    obtain ⟨fs, hr, hrun, hended, hW, hsame⟩ := X0.leave (v := some (.int (1 : Int32))) (fun h => by rw [Bd.returns] at h; cases h)
    refine ⟨_, _, pre0 _ (s1 _ (s2 _ ?_)), hrun, hended, _, _, rfl, ?_, ⟨_, rfl⟩, hW, hsame.mono (by decide) (by decide)⟩
    · exact retN X0 hx (t := .boolean) Bd.returns (by simp) (hb hby d2_64) hr
    · exact ⟨rfl, N0, e0⟩
  · have s1 : ∀ t, Steps p.tables e below (s₁.setTop (mkF m 47 #[.val (.ref a1), .val (.int (Int32.ofNat kk)), .val (.int (Int32.ofNat a)), .val (.int (Int32.ofNat n)), .val (.long val), .second, .val (.int fl), .val (.int (fl &&& (255 : Int32))), .unset] [])) t → Steps p.tables e below (s₁.setTop (mkF m 0 #[.val (.ref a1), .val (.int (Int32.ofNat kk)), .val (.int (Int32.ofNat a)), .val (.int (Int32.ofNat n)), .val (.long val), .second, .val (.int fl), .unset, .unset] [])) t := by
      intro t k
      show Steps p.tables e below (s₁.setTop (mkF m 0 #[.val (.ref a1), .val (.int (Int32.ofNat kk)), .val (.int (Int32.ofNat a)), .val (.int (Int32.ofNat n)), .val (.long val), .second, .val (.int fl), .unset, .unset] [])) _
      refine XS.iloadN X0.here hx rfl (hb hby d2_0) rfl ?_
      show Steps p.tables e below (s₁.setTop (mkF m 1 #[.val (.ref a1), .val (.int (Int32.ofNat kk)), .val (.int (Int32.ofNat a)), .val (.int (Int32.ofNat n)), .val (.long val), .second, .val (.int fl), .unset, .unset] [(.int (Int32.ofNat kk))])) _
      refine XS.iloadN X0.here hx rfl (hb hby d2_1) rfl ?_
      show Steps p.tables e below (s₁.setTop (mkF m 2 #[.val (.ref a1), .val (.int (Int32.ofNat kk)), .val (.int (Int32.ofNat a)), .val (.int (Int32.ofNat n)), .val (.long val), .second, .val (.int fl), .unset, .unset] [(.int (Int32.ofNat a)), (.int (Int32.ofNat kk))])) _
      refine XS.icmpNo X0.here hx rfl (hb hby d2_2) rfl (XT.ii_lt_f h1) ?_
      show Steps p.tables e below (s₁.setTop (mkF m 5 #[.val (.ref a1), .val (.int (Int32.ofNat kk)), .val (.int (Int32.ofNat a)), .val (.int (Int32.ofNat n)), .val (.long val), .second, .val (.int fl), .unset, .unset] [])) _
      refine XS.iloadN X0.here hx rfl (hb hby d2_5) rfl ?_
      show Steps p.tables e below (s₁.setTop (mkF m 6 #[.val (.ref a1), .val (.int (Int32.ofNat kk)), .val (.int (Int32.ofNat a)), .val (.int (Int32.ofNat n)), .val (.long val), .second, .val (.int fl), .unset, .unset] [(.int (Int32.ofNat kk))])) _
      refine XS.iloadN X0.here hx rfl (hb hby d2_6) rfl ?_
      show Steps p.tables e below (s₁.setTop (mkF m 7 #[.val (.ref a1), .val (.int (Int32.ofNat kk)), .val (.int (Int32.ofNat a)), .val (.int (Int32.ofNat n)), .val (.long val), .second, .val (.int fl), .unset, .unset] [(.int (Int32.ofNat a)), (.int (Int32.ofNat kk))])) _
      refine XS.iloadN X0.here hx rfl (hb hby d2_7) rfl ?_
      show Steps p.tables e below (s₁.setTop (mkF m 8 #[.val (.ref a1), .val (.int (Int32.ofNat kk)), .val (.int (Int32.ofNat a)), .val (.int (Int32.ofNat n)), .val (.long val), .second, .val (.int fl), .unset, .unset] [(.int (Int32.ofNat n)), (.int (Int32.ofNat a)), (.int (Int32.ofNat kk))])) _
      refine XS.iadd X0.here hx rfl (hb hby d2_8) rfl ?_
      show Steps p.tables e below (s₁.setTop (mkF m 9 #[.val (.ref a1), .val (.int (Int32.ofNat kk)), .val (.int (Int32.ofNat a)), .val (.int (Int32.ofNat n)), .val (.long val), .second, .val (.int fl), .unset, .unset] [(.int ((Int32.ofNat a) + (Int32.ofNat n))), (.int (Int32.ofNat kk))])) _
      refine XS.icmpYes X0.here hx rfl (pc0 := 9) (pc' := 39) rfl (hb hby d2_9) rfl (XT.ii_ge_t h2) (by decide) (by decide) ?_
      show Steps p.tables e below (s₁.setTop (mkF m 39 #[.val (.ref a1), .val (.int (Int32.ofNat kk)), .val (.int (Int32.ofNat a)), .val (.int (Int32.ofNat n)), .val (.long val), .second, .val (.int fl), .unset, .unset] [])) _
      refine XS.iload X0.here hx rfl (hb hby d2_39) rfl ?_
      show Steps p.tables e below (s₁.setTop (mkF m 41 #[.val (.ref a1), .val (.int (Int32.ofNat kk)), .val (.int (Int32.ofNat a)), .val (.int (Int32.ofNat n)), .val (.long val), .second, .val (.int fl), .unset, .unset] [(.int fl)])) _
      refine XS.sipush X0.here hx rfl (hb hby d2_41) ?_
      show Steps p.tables e below (s₁.setTop (mkF m 44 #[.val (.ref a1), .val (.int (Int32.ofNat kk)), .val (.int (Int32.ofNat a)), .val (.int (Int32.ofNat n)), .val (.long val), .second, .val (.int fl), .unset, .unset] [(.int (255 : Int32)), (.int fl)])) _
      refine XS.iand X0.here hx rfl (hb hby d2_44) rfl ?_
      show Steps p.tables e below (s₁.setTop (mkF m 45 #[.val (.ref a1), .val (.int (Int32.ofNat kk)), .val (.int (Int32.ofNat a)), .val (.int (Int32.ofNat n)), .val (.long val), .second, .val (.int fl), .unset, .unset] [(.int (fl &&& (255 : Int32)))])) _
      refine XS.istore X0.here hx rfl (hb hby d2_45) rfl (l' := #[.val (.ref a1), .val (.int (Int32.ofNat kk)), .val (.int (Int32.ofNat a)), .val (.int (Int32.ofNat n)), .val (.long val), .second, .val (.int fl), .val (.int (fl &&& (255 : Int32))), .unset]) rfl ?_
      show Steps p.tables e below (s₁.setTop (mkF m 47 #[.val (.ref a1), .val (.int (Int32.ofNat kk)), .val (.int (Int32.ofNat a)), .val (.int (Int32.ofNat n)), .val (.long val), .second, .val (.int fl), .val (.int (fl &&& (255 : Int32))), .unset] [])) _
      exact k
    have heq : (f kk &&& (255 : Int32)) = (fl &&& (255 : Int32)) := by rw [hout (fun q => by rw [← Int32.ofNat_add, own_ltN (by omega) (by omega)] at h2; omega)]
    have s2 : ∀ t, Steps p.tables e below (s₁.setTop (mkF m 64 #[.val (.ref a1), .val (.int (Int32.ofNat kk)), .val (.int (Int32.ofNat a)), .val (.int (Int32.ofNat n)), .val (.long val), .second, .val (.int fl), .val (.int (fl &&& (255 : Int32))), .unset] [(.int (1 : Int32))])) t → Steps p.tables e below (s₁.setTop (mkF m 47 #[.val (.ref a1), .val (.int (Int32.ofNat kk)), .val (.int (Int32.ofNat a)), .val (.int (Int32.ofNat n)), .val (.long val), .second, .val (.int fl), .val (.int (fl &&& (255 : Int32))), .unset] [])) t := by
      intro t k
      show Steps p.tables e below (s₁.setTop (mkF m 47 #[.val (.ref a1), .val (.int (Int32.ofNat kk)), .val (.int (Int32.ofNat a)), .val (.int (Int32.ofNat n)), .val (.long val), .second, .val (.int fl), .val (.int (fl &&& (255 : Int32))), .unset] [])) _
      refine XS.aloadN X0.here hx rfl (hb hby d2_47) rfl rfl ?_
      show Steps p.tables e below (s₁.setTop (mkF m 48 #[.val (.ref a1), .val (.int (Int32.ofNat kk)), .val (.int (Int32.ofNat a)), .val (.int (Int32.ofNat n)), .val (.long val), .second, .val (.int fl), .val (.int (fl &&& (255 : Int32))), .unset] [(.ref a1)])) _
      refine XS.iloadN X0.here hx rfl (hb hby d2_48) rfl ?_
      show Steps p.tables e below (s₁.setTop (mkF m 49 #[.val (.ref a1), .val (.int (Int32.ofNat kk)), .val (.int (Int32.ofNat a)), .val (.int (Int32.ofNat n)), .val (.long val), .second, .val (.int fl), .val (.int (fl &&& (255 : Int32))), .unset] [(.int (Int32.ofNat kk)), (.ref a1)])) _
      refine X0.baloadBytes hx (j := (Int32.ofNat kk)) (v := (.int (f kk))) (by rw [e0]; exact Ar.1) (State.isArrayOf_alike hZ.alike Ar.2.1) Ar.2.2 hin hat (g := (mkF m 49 #[.val (.ref a1), .val (.int (Int32.ofNat kk)), .val (.int (Int32.ofNat a)), .val (.int (Int32.ofNat n)), .val (.long val), .second, .val (.int fl), .val (.int (fl &&& (255 : Int32))), .unset] [(.int (Int32.ofNat kk)), (.ref a1)])) rfl rfl (hb hby d2_49) _ ?_
      show Steps p.tables e below (s₁.setTop (mkF m 50 #[.val (.ref a1), .val (.int (Int32.ofNat kk)), .val (.int (Int32.ofNat a)), .val (.int (Int32.ofNat n)), .val (.long val), .second, .val (.int fl), .val (.int (fl &&& (255 : Int32))), .unset] [(.int (f kk))])) _
      refine XS.sipush X0.here hx rfl (hb hby d2_50) ?_
      show Steps p.tables e below (s₁.setTop (mkF m 53 #[.val (.ref a1), .val (.int (Int32.ofNat kk)), .val (.int (Int32.ofNat a)), .val (.int (Int32.ofNat n)), .val (.long val), .second, .val (.int fl), .val (.int (fl &&& (255 : Int32))), .unset] [(.int (255 : Int32)), (.int (f kk))])) _
      refine XS.iand X0.here hx rfl (hb hby d2_53) rfl ?_
      show Steps p.tables e below (s₁.setTop (mkF m 54 #[.val (.ref a1), .val (.int (Int32.ofNat kk)), .val (.int (Int32.ofNat a)), .val (.int (Int32.ofNat n)), .val (.long val), .second, .val (.int fl), .val (.int (fl &&& (255 : Int32))), .unset] [(.int ((f kk) &&& (255 : Int32)))])) _
      refine XS.iload X0.here hx rfl (hb hby d2_54) rfl ?_
      show Steps p.tables e below (s₁.setTop (mkF m 56 #[.val (.ref a1), .val (.int (Int32.ofNat kk)), .val (.int (Int32.ofNat a)), .val (.int (Int32.ofNat n)), .val (.long val), .second, .val (.int fl), .val (.int (fl &&& (255 : Int32))), .unset] [(.int (fl &&& (255 : Int32))), (.int ((f kk) &&& (255 : Int32)))])) _
      refine XS.icmpNo X0.here hx rfl (hb hby d2_56) rfl (XT.ii_ne_f heq) ?_
      show Steps p.tables e below (s₁.setTop (mkF m 59 #[.val (.ref a1), .val (.int (Int32.ofNat kk)), .val (.int (Int32.ofNat a)), .val (.int (Int32.ofNat n)), .val (.long val), .second, .val (.int fl), .val (.int (fl &&& (255 : Int32))), .unset] [])) _
      refine XS.iconst X0.here hx rfl (hb hby d2_59) ?_
      show Steps p.tables e below (s₁.setTop (mkF m 60 #[.val (.ref a1), .val (.int (Int32.ofNat kk)), .val (.int (Int32.ofNat a)), .val (.int (Int32.ofNat n)), .val (.long val), .second, .val (.int fl), .val (.int (fl &&& (255 : Int32))), .unset] [(.int (1 : Int32))])) _
      refine XS.goto X0.here hx rfl (pc0 := 60) (pc' := 64) rfl (hb hby d2_60) (by decide) (by decide) ?_
      show Steps p.tables e below (s₁.setTop (mkF m 64 #[.val (.ref a1), .val (.int (Int32.ofNat kk)), .val (.int (Int32.ofNat a)), .val (.int (Int32.ofNat n)), .val (.long val), .second, .val (.int fl), .val (.int (fl &&& (255 : Int32))), .unset] [(.int (1 : Int32))])) _
      exact k
    obtain ⟨fs, hr, hrun, hended, hW, hsame⟩ := X0.leave (v := some (.int (1 : Int32))) (fun h => by rw [Bd.returns] at h; cases h)
    refine ⟨_, _, pre0 _ (s1 _ (s2 _ ?_)), hrun, hended, _, _, rfl, ?_, ⟨_, rfl⟩, hW, hsame.mono (by decide) (by decide)⟩
    · exact retN X0 hx (t := .boolean) Bd.returns (by simp) (hb hby d2_64) hr
    · exact ⟨rfl, N0, e0⟩
theorem pn_0 : plainName "com/example/holdfast/holdfast/store/rocksdb/BigEndianWritePinLaw" = true := by first | (simp [plainName, overriddenIn]; done) | decide +kernel
theorem ef_0 (m : MethodId) (x0 : Int32) (x1 : Int64) (x2 : Int32) (x3 : Int32) : entryFrame m #[(.int x0), (.long x1), (.int x2), (.int x3)] maxLocals = mkF m 0 #[.val (.int x0), .val (.long x1), .second, .val (.int x2), .val (.int x3), .unset, .unset, .unset, .unset] [] := by first | (simp [entryFrame, mkF, argsToLocals, Value.category, maxLocals]; done) | rfl
def Q0 (Z : State) (p1 : Int32) (p2 : Int64) (p3 p4 : Int32) (h0 : Heap) (n0 : Nat) (v : Option Value) (h : Heap) (L : List Loc) : Prop := v = some (.int 1) ∧ Fr n0 L
set_option maxRecDepth 65536 in
set_option maxHeartbeats 40000000 in
theorem rm0 (l : Launch) (Z : State) (a0 : Array Value) (hw : ∀ d ∈ tables_1, d.before a0 Z = true) (ws : List Jvm.Cond) (p1 : Int32) (p2 : Int64) (p3 p4 : Int32) (h0 : Heap) (n0 : Nat) (Z0 : n0 ≤ h0.size)  :
    MetFree l x (head1 (Jvm.Cond.code x code maxLocals ret :: ws) room_1) (fun aa U => aa = #[(.int p1), (.long p2), (.int p3), (.int p4)] ∧ Z.Warmed39 U.vm ∧ U.heap = h0) (fun _ _ _ _ _ => True) (fun _ U o U' => ∃ v L, o = .returned v ∧ Q0 Z p1 p2 p3 p4 h0 n0 v U'.heap L ∧ FrameEnd U o U' L room_1.cells room_1.slots) := by
  refine MetFree.of_bodySF (plainFor_of_name pn_0) hisR ?_
  intro p e s m args below meth c s₁ Bd hml0 hP hK
  obtain ⟨rfl, hZ, hh⟩ := hP
  have hx := Bd.exec
  have hby := Bd.bytes
  have hml : c.maxLocals = 9 := hml0
  have hown : s.vm.findClass "com/example/holdfast/holdfast/store/rocksdb/BigEndianWritePinLaw" = some m.cls := findClass_of_methodNamed Bd.named
  have hnm := (name_of_methodNamed Bd.named Bd.method).1
  have X0 : Stand p l e room_1 s m #[(.int p1), (.long p2), (.int p3), (.int p4)] below meth c s₁ [] 0 0 := Stand.of_body Bd
  have e0 : s₁.heap = h0 := by rw [← hh, Bd.state]; rfl
  have N0 := Fr.nil n0
  have pre0 : ∀ t, Steps p.tables e below (s₁.setTop (mkF m 0 #[.val (.int p1), .val (.long p2), .second, .val (.int p3), .val (.int p4), .unset, .unset, .unset, .unset] [])) t → Steps p.tables e below (s₁.setTop (entryFrame m #[(.int p1), (.long p2), (.int p3), (.int p4)] maxLocals)) t := fun t k => castTop (ef_0 m p1 p2 p3 p4) k
  obtain ⟨n, hn, hen⟩ := own_rem p3 9 (by decide) (by decide)
  obtain ⟨a, ha, hea⟩ := own_rem p1 (13 - n) (by omega) (by omega)
  have s0 : ∀ t, Steps p.tables e below (s₁.setTop (mkF m 9 #[.val (.int p1), .val (.long p2), .second, .val (.int p3), .val (.int p4), .val (.int ((p3 &&& (2147483647 : Int32)) % (9 : Int32))), .unset, .unset, .unset] [])) t → Steps p.tables e below (s₁.setTop (mkF m 0 #[.val (.int p1), .val (.long p2), .second, .val (.int p3), .val (.int p4), .unset, .unset, .unset, .unset] [])) t := by
    intro t k
    show Steps p.tables e below (s₁.setTop (mkF m 0 #[.val (.int p1), .val (.long p2), .second, .val (.int p3), .val (.int p4), .unset, .unset, .unset, .unset] [])) _
    refine XS.iloadN X0.here hx rfl (hb hby at_0) rfl ?_
    show Steps p.tables e below (s₁.setTop (mkF m 1 #[.val (.int p1), .val (.long p2), .second, .val (.int p3), .val (.int p4), .unset, .unset, .unset, .unset] [(.int p3)])) _
    refine X0.ldcI hx hown (mvT hZ (hw _ (List.mem_of_getElem? (i := 0) rfl))) (g := (mkF m 1 #[.val (.int p1), .val (.long p2), .second, .val (.int p3), .val (.int p4), .unset, .unset, .unset, .unset] [(.int p3)])) rfl (hb hby at_1) ?_
    show Steps p.tables e below (s₁.setTop (mkF m 3 #[.val (.int p1), .val (.long p2), .second, .val (.int p3), .val (.int p4), .unset, .unset, .unset, .unset] [(.int (2147483647 : Int32)), (.int p3)])) _
    refine XS.iand X0.here hx rfl (hb hby at_3) rfl ?_
    show Steps p.tables e below (s₁.setTop (mkF m 4 #[.val (.int p1), .val (.long p2), .second, .val (.int p3), .val (.int p4), .unset, .unset, .unset, .unset] [(.int (p3 &&& (2147483647 : Int32)))])) _
    refine XS.bipush X0.here hx rfl (hb hby at_4) ?_
    show Steps p.tables e below (s₁.setTop (mkF m 6 #[.val (.int p1), .val (.long p2), .second, .val (.int p3), .val (.int p4), .unset, .unset, .unset, .unset] [(.int (9 : Int32)), (.int (p3 &&& (2147483647 : Int32)))])) _
    refine iremM X0 hx rfl (hb hby at_6) rfl (by decide) ?_
    show Steps p.tables e below (s₁.setTop (mkF m 7 #[.val (.int p1), .val (.long p2), .second, .val (.int p3), .val (.int p4), .unset, .unset, .unset, .unset] [(.int ((p3 &&& (2147483647 : Int32)) % (9 : Int32)))])) _
    refine XS.istore X0.here hx rfl (hb hby at_7) rfl (l' := #[.val (.int p1), .val (.long p2), .second, .val (.int p3), .val (.int p4), .val (.int ((p3 &&& (2147483647 : Int32)) % (9 : Int32))), .unset, .unset, .unset]) rfl ?_
    show Steps p.tables e below (s₁.setTop (mkF m 9 #[.val (.int p1), .val (.long p2), .second, .val (.int p3), .val (.int p4), .val (.int ((p3 &&& (2147483647 : Int32)) % (9 : Int32))), .unset, .unset, .unset] [])) _
    exact k
  rw [show ((p3 &&& (2147483647 : Int32)) % (9 : Int32)) = Int32.ofNat n from hen] at s0
  have s1 : ∀ t, Steps p.tables e below (s₁.setTop (mkF m 21 #[.val (.int p1), .val (.long p2), .second, .val (.int p3), .val (.int p4), .val (.int (Int32.ofNat n)), .val (.int ((p1 &&& (2147483647 : Int32)) % ((13 : Int32) - (Int32.ofNat n)))), .unset, .unset] [])) t → Steps p.tables e below (s₁.setTop (mkF m 9 #[.val (.int p1), .val (.long p2), .second, .val (.int p3), .val (.int p4), .val (.int (Int32.ofNat n)), .unset, .unset, .unset] [])) t := by
    intro t k
    show Steps p.tables e below (s₁.setTop (mkF m 9 #[.val (.int p1), .val (.long p2), .second, .val (.int p3), .val (.int p4), .val (.int (Int32.ofNat n)), .unset, .unset, .unset] [])) _
    refine XS.iloadN X0.here hx rfl (hb hby at_9) rfl ?_
    show Steps p.tables e below (s₁.setTop (mkF m 10 #[.val (.int p1), .val (.long p2), .second, .val (.int p3), .val (.int p4), .val (.int (Int32.ofNat n)), .unset, .unset, .unset] [(.int p1)])) _
    refine X0.ldcI hx hown (mvT hZ (hw _ (List.mem_of_getElem? (i := 0) rfl))) (g := (mkF m 10 #[.val (.int p1), .val (.long p2), .second, .val (.int p3), .val (.int p4), .val (.int (Int32.ofNat n)), .unset, .unset, .unset] [(.int p1)])) rfl (hb hby at_10) ?_
    show Steps p.tables e below (s₁.setTop (mkF m 12 #[.val (.int p1), .val (.long p2), .second, .val (.int p3), .val (.int p4), .val (.int (Int32.ofNat n)), .unset, .unset, .unset] [(.int (2147483647 : Int32)), (.int p1)])) _
    refine XS.iand X0.here hx rfl (hb hby at_12) rfl ?_
    show Steps p.tables e below (s₁.setTop (mkF m 13 #[.val (.int p1), .val (.long p2), .second, .val (.int p3), .val (.int p4), .val (.int (Int32.ofNat n)), .unset, .unset, .unset] [(.int (p1 &&& (2147483647 : Int32)))])) _
    refine XS.bipush X0.here hx rfl (hb hby at_13) ?_
    show Steps p.tables e below (s₁.setTop (mkF m 15 #[.val (.int p1), .val (.long p2), .second, .val (.int p3), .val (.int p4), .val (.int (Int32.ofNat n)), .unset, .unset, .unset] [(.int (13 : Int32)), (.int (p1 &&& (2147483647 : Int32)))])) _
    refine XS.iload X0.here hx rfl (hb hby at_15) rfl ?_
    show Steps p.tables e below (s₁.setTop (mkF m 17 #[.val (.int p1), .val (.long p2), .second, .val (.int p3), .val (.int p4), .val (.int (Int32.ofNat n)), .unset, .unset, .unset] [(.int (Int32.ofNat n)), (.int (13 : Int32)), (.int (p1 &&& (2147483647 : Int32)))])) _
    refine XS.isub X0.here hx rfl (hb hby at_17) rfl ?_
    show Steps p.tables e below (s₁.setTop (mkF m 18 #[.val (.int p1), .val (.long p2), .second, .val (.int p3), .val (.int p4), .val (.int (Int32.ofNat n)), .unset, .unset, .unset] [(.int ((13 : Int32) - (Int32.ofNat n))), (.int (p1 &&& (2147483647 : Int32)))])) _
    refine iremM X0 hx rfl (hb hby at_18) rfl (own_nz hn) ?_
    show Steps p.tables e below (s₁.setTop (mkF m 19 #[.val (.int p1), .val (.long p2), .second, .val (.int p3), .val (.int p4), .val (.int (Int32.ofNat n)), .unset, .unset, .unset] [(.int ((p1 &&& (2147483647 : Int32)) % ((13 : Int32) - (Int32.ofNat n))))])) _
    refine XS.istore X0.here hx rfl (hb hby at_19) rfl (l' := #[.val (.int p1), .val (.long p2), .second, .val (.int p3), .val (.int p4), .val (.int (Int32.ofNat n)), .val (.int ((p1 &&& (2147483647 : Int32)) % ((13 : Int32) - (Int32.ofNat n)))), .unset, .unset]) rfl ?_
    show Steps p.tables e below (s₁.setTop (mkF m 21 #[.val (.int p1), .val (.long p2), .second, .val (.int p3), .val (.int p4), .val (.int (Int32.ofNat n)), .val (.int ((p1 &&& (2147483647 : Int32)) % ((13 : Int32) - (Int32.ofNat n)))), .unset, .unset] [])) _
    exact k
  rw [own_13 hn, hea] at s1
  have r1 : ∀ t, Steps p.tables e below (s₁.setTop (mkF m 21 #[.val (.int p1), .val (.long p2), .second, .val (.int p3), .val (.int p4), .val (.int (Int32.ofNat n)), .val (.int (Int32.ofNat a)), .unset, .unset] [])) t → Steps p.tables e below (s₁.setTop (mkF m 0 #[.val (.int p1), .val (.long p2), .second, .val (.int p3), .val (.int p4), .unset, .unset, .unset, .unset] [])) t := fun t k => s0 t (s1 t k)
  have s2 : ∀ t, Steps p.tables e below (s₁.setTop (mkF m 28 #[.val (.int p1), .val (.long p2), .second, .val (.int p3), .val (.int p4), .val (.int (Int32.ofNat n)), .val (.int (Int32.ofNat a)), .val (.int (p4.toInt8.toInt32)), .unset] [(.int (12 : Int32))])) t → Steps p.tables e below (s₁.setTop (mkF m 21 #[.val (.int p1), .val (.long p2), .second, .val (.int p3), .val (.int p4), .val (.int (Int32.ofNat n)), .val (.int (Int32.ofNat a)), .unset, .unset] [])) t := by
    intro t k
    show Steps p.tables e below (s₁.setTop (mkF m 21 #[.val (.int p1), .val (.long p2), .second, .val (.int p3), .val (.int p4), .val (.int (Int32.ofNat n)), .val (.int (Int32.ofNat a)), .unset, .unset] [])) _
    refine XS.iload X0.here hx rfl (hb hby at_21) rfl ?_
    show Steps p.tables e below (s₁.setTop (mkF m 23 #[.val (.int p1), .val (.long p2), .second, .val (.int p3), .val (.int p4), .val (.int (Int32.ofNat n)), .val (.int (Int32.ofNat a)), .unset, .unset] [(.int p4)])) _
    refine XS.i2b X0.here hx rfl (hb hby at_23) rfl ?_
    show Steps p.tables e below (s₁.setTop (mkF m 24 #[.val (.int p1), .val (.long p2), .second, .val (.int p3), .val (.int p4), .val (.int (Int32.ofNat n)), .val (.int (Int32.ofNat a)), .unset, .unset] [(.int (p4.toInt8.toInt32))])) _
    refine XS.istore X0.here hx rfl (hb hby at_24) rfl (l' := #[.val (.int p1), .val (.long p2), .second, .val (.int p3), .val (.int p4), .val (.int (Int32.ofNat n)), .val (.int (Int32.ofNat a)), .val (.int (p4.toInt8.toInt32)), .unset]) rfl ?_
    show Steps p.tables e below (s₁.setTop (mkF m 26 #[.val (.int p1), .val (.long p2), .second, .val (.int p3), .val (.int p4), .val (.int (Int32.ofNat n)), .val (.int (Int32.ofNat a)), .val (.int (p4.toInt8.toInt32)), .unset] [])) _
    refine XS.bipush X0.here hx rfl (hb hby at_26) ?_
    show Steps p.tables e below (s₁.setTop (mkF m 28 #[.val (.int p1), .val (.long p2), .second, .val (.int p3), .val (.int p4), .val (.int (Int32.ofNat n)), .val (.int (Int32.ofNat a)), .val (.int (p4.toInt8.toInt32)), .unset] [(.int (12 : Int32))])) _
    exact k
  obtain ⟨TK, hK_, kK, XK, eK, EK, AK, stK⟩ := newP X0 hx hZ (hw _ (List.mem_of_getElem? (i := 1) rfl)) (rfl : s₁.heap = s₁.heap) (g := (mkF m 28 #[.val (.int p1), .val (.long p2), .second, .val (.int p3), .val (.int p4), .val (.int (Int32.ofNat n)), .val (.int (Int32.ofNat a)), .val (.int (p4.toInt8.toInt32)), .unset] [(.int (12 : Int32))])) rfl (hb hby at_28) rfl (by decide) (cap := 12) (by decide) (by decide) (by decide) (by decide)
  obtain ⟨bK, gK⟩ : ∃ z, z = s₁.heap.size := ⟨_, rfl⟩
  rw [← gK] at AK stK
  have gbK : n0 ≤ bK := Nat.le_trans Z0 (by rw [gK, e0]; exact Nat.le_refl _)
  have GK : own_By Z TK.heap bK 12 (fun _ => 0) := by rw [eK]; exact own_freshB AK (by decide)
  have r2 : ∀ t, Steps p.tables e below (TK.setTop (mkF m 30 #[.val (.int p1), .val (.long p2), .second, .val (.int p3), .val (.int p4), .val (.int (Int32.ofNat n)), .val (.int (Int32.ofNat a)), .val (.int (p4.toInt8.toInt32)), .unset] [(.ref bK)])) t → Steps p.tables e below (s₁.setTop (mkF m 0 #[.val (.int p1), .val (.long p2), .second, .val (.int p3), .val (.int p4), .unset, .unset, .unset, .unset] [])) t := fun t k => r1 t (s2 t (stK t k))
  have s3 : ∀ t, Steps p.tables e below (TK.setTop (mkF m 37 #[.val (.int p1), .val (.long p2), .second, .val (.int p3), .val (.int p4), .val (.int (Int32.ofNat n)), .val (.int (Int32.ofNat a)), .val (.int (p4.toInt8.toInt32)), .val (.ref bK)] [(.int (p4.toInt8.toInt32)), (.int (0 : Int32)), (.ref bK)])) t → Steps p.tables e below (TK.setTop (mkF m 30 #[.val (.int p1), .val (.long p2), .second, .val (.int p3), .val (.int p4), .val (.int (Int32.ofNat n)), .val (.int (Int32.ofNat a)), .val (.int (p4.toInt8.toInt32)), .unset] [(.ref bK)])) t := by
    intro t k
    show Steps p.tables e below (TK.setTop (mkF m 30 #[.val (.int p1), .val (.long p2), .second, .val (.int p3), .val (.int p4), .val (.int (Int32.ofNat n)), .val (.int (Int32.ofNat a)), .val (.int (p4.toInt8.toInt32)), .unset] [(.ref bK)])) _
    refine XS.astore XK.here hx rfl (hb hby at_30) rfl rfl (l' := #[.val (.int p1), .val (.long p2), .second, .val (.int p3), .val (.int p4), .val (.int (Int32.ofNat n)), .val (.int (Int32.ofNat a)), .val (.int (p4.toInt8.toInt32)), .val (.ref bK)]) rfl ?_
    show Steps p.tables e below (TK.setTop (mkF m 32 #[.val (.int p1), .val (.long p2), .second, .val (.int p3), .val (.int p4), .val (.int (Int32.ofNat n)), .val (.int (Int32.ofNat a)), .val (.int (p4.toInt8.toInt32)), .val (.ref bK)] [])) _
    refine XS.aload XK.here hx rfl (hb hby at_32) rfl rfl ?_
    show Steps p.tables e below (TK.setTop (mkF m 34 #[.val (.int p1), .val (.long p2), .second, .val (.int p3), .val (.int p4), .val (.int (Int32.ofNat n)), .val (.int (Int32.ofNat a)), .val (.int (p4.toInt8.toInt32)), .val (.ref bK)] [(.ref bK)])) _
    refine XS.iconst XK.here hx rfl (hb hby at_34) ?_
    show Steps p.tables e below (TK.setTop (mkF m 35 #[.val (.int p1), .val (.long p2), .second, .val (.int p3), .val (.int p4), .val (.int (Int32.ofNat n)), .val (.int (Int32.ofNat a)), .val (.int (p4.toInt8.toInt32)), .val (.ref bK)] [(.int (0 : Int32)), (.ref bK)])) _
    refine XS.iload XK.here hx rfl (hb hby at_35) rfl ?_
    show Steps p.tables e below (TK.setTop (mkF m 37 #[.val (.int p1), .val (.long p2), .second, .val (.int p3), .val (.int p4), .val (.int (Int32.ofNat n)), .val (.int (Int32.ofNat a)), .val (.int (p4.toInt8.toInt32)), .val (.ref bK)] [(.int (p4.toInt8.toInt32)), (.int (0 : Int32)), (.ref bK)])) _
    exact k
  obtain ⟨T3, L3, X3, N3, G3, -, st3⟩ := own_storeB XK hx hZ N0 gbK GK 37 #[.val (.int p1), .val (.long p2), .second, .val (.int p3), .val (.int p4), .val (.int (Int32.ofNat n)), .val (.int (Int32.ofNat a)), .val (.int (p4.toInt8.toInt32)), .val (.ref bK)] [] (0 : Int32) (p4.toInt8.toInt32) 0 (by decide) (by decide) (by decide) (hb hby at_37)
  have r3 : ∀ t, Steps p.tables e below (T3.setTop (mkF m 38 #[.val (.int p1), .val (.long p2), .second, .val (.int p3), .val (.int p4), .val (.int (Int32.ofNat n)), .val (.int (Int32.ofNat a)), .val (.int (p4.toInt8.toInt32)), .val (.ref bK)] [])) t → Steps p.tables e below (s₁.setTop (mkF m 0 #[.val (.int p1), .val (.long p2), .second, .val (.int p3), .val (.int p4), .unset, .unset, .unset, .unset] [])) t := fun t k => r2 t (s3 t (st3 t k))
  have s4 : ∀ t, Steps p.tables e below (T3.setTop (mkF m 43 #[.val (.int p1), .val (.long p2), .second, .val (.int p3), .val (.int p4), .val (.int (Int32.ofNat n)), .val (.int (Int32.ofNat a)), .val (.int (p4.toInt8.toInt32)), .val (.ref bK)] [(.int (p4.toInt8.toInt32)), (.int (1 : Int32)), (.ref bK)])) t → Steps p.tables e below (T3.setTop (mkF m 38 #[.val (.int p1), .val (.long p2), .second, .val (.int p3), .val (.int p4), .val (.int (Int32.ofNat n)), .val (.int (Int32.ofNat a)), .val (.int (p4.toInt8.toInt32)), .val (.ref bK)] [])) t := by
    intro t k
    show Steps p.tables e below (T3.setTop (mkF m 38 #[.val (.int p1), .val (.long p2), .second, .val (.int p3), .val (.int p4), .val (.int (Int32.ofNat n)), .val (.int (Int32.ofNat a)), .val (.int (p4.toInt8.toInt32)), .val (.ref bK)] [])) _
    refine XS.aload X3.here hx rfl (hb hby at_38) rfl rfl ?_
    show Steps p.tables e below (T3.setTop (mkF m 40 #[.val (.int p1), .val (.long p2), .second, .val (.int p3), .val (.int p4), .val (.int (Int32.ofNat n)), .val (.int (Int32.ofNat a)), .val (.int (p4.toInt8.toInt32)), .val (.ref bK)] [(.ref bK)])) _
    refine XS.iconst X3.here hx rfl (hb hby at_40) ?_
    show Steps p.tables e below (T3.setTop (mkF m 41 #[.val (.int p1), .val (.long p2), .second, .val (.int p3), .val (.int p4), .val (.int (Int32.ofNat n)), .val (.int (Int32.ofNat a)), .val (.int (p4.toInt8.toInt32)), .val (.ref bK)] [(.int (1 : Int32)), (.ref bK)])) _
    refine XS.iload X3.here hx rfl (hb hby at_41) rfl ?_
    show Steps p.tables e below (T3.setTop (mkF m 43 #[.val (.int p1), .val (.long p2), .second, .val (.int p3), .val (.int p4), .val (.int (Int32.ofNat n)), .val (.int (Int32.ofNat a)), .val (.int (p4.toInt8.toInt32)), .val (.ref bK)] [(.int (p4.toInt8.toInt32)), (.int (1 : Int32)), (.ref bK)])) _
    exact k
  obtain ⟨T4, L4, X4, N4, G4, -, st4⟩ := own_storeB X3 hx hZ N3 gbK G3 43 #[.val (.int p1), .val (.long p2), .second, .val (.int p3), .val (.int p4), .val (.int (Int32.ofNat n)), .val (.int (Int32.ofNat a)), .val (.int (p4.toInt8.toInt32)), .val (.ref bK)] [] (1 : Int32) (p4.toInt8.toInt32) 1 (by decide) (by decide) (by decide) (hb hby at_43)
  have r4 : ∀ t, Steps p.tables e below (T4.setTop (mkF m 44 #[.val (.int p1), .val (.long p2), .second, .val (.int p3), .val (.int p4), .val (.int (Int32.ofNat n)), .val (.int (Int32.ofNat a)), .val (.int (p4.toInt8.toInt32)), .val (.ref bK)] [])) t → Steps p.tables e below (s₁.setTop (mkF m 0 #[.val (.int p1), .val (.long p2), .second, .val (.int p3), .val (.int p4), .unset, .unset, .unset, .unset] [])) t := fun t k => r3 t (s4 t (st4 t k))
  have s5 : ∀ t, Steps p.tables e below (T4.setTop (mkF m 49 #[.val (.int p1), .val (.long p2), .second, .val (.int p3), .val (.int p4), .val (.int (Int32.ofNat n)), .val (.int (Int32.ofNat a)), .val (.int (p4.toInt8.toInt32)), .val (.ref bK)] [(.int (p4.toInt8.toInt32)), (.int (2 : Int32)), (.ref bK)])) t → Steps p.tables e below (T4.setTop (mkF m 44 #[.val (.int p1), .val (.long p2), .second, .val (.int p3), .val (.int p4), .val (.int (Int32.ofNat n)), .val (.int (Int32.ofNat a)), .val (.int (p4.toInt8.toInt32)), .val (.ref bK)] [])) t := by
    intro t k
    show Steps p.tables e below (T4.setTop (mkF m 44 #[.val (.int p1), .val (.long p2), .second, .val (.int p3), .val (.int p4), .val (.int (Int32.ofNat n)), .val (.int (Int32.ofNat a)), .val (.int (p4.toInt8.toInt32)), .val (.ref bK)] [])) _
    refine XS.aload X4.here hx rfl (hb hby at_44) rfl rfl ?_
    show Steps p.tables e below (T4.setTop (mkF m 46 #[.val (.int p1), .val (.long p2), .second, .val (.int p3), .val (.int p4), .val (.int (Int32.ofNat n)), .val (.int (Int32.ofNat a)), .val (.int (p4.toInt8.toInt32)), .val (.ref bK)] [(.ref bK)])) _
    refine XS.iconst X4.here hx rfl (hb hby at_46) ?_
    show Steps p.tables e below (T4.setTop (mkF m 47 #[.val (.int p1), .val (.long p2), .second, .val (.int p3), .val (.int p4), .val (.int (Int32.ofNat n)), .val (.int (Int32.ofNat a)), .val (.int (p4.toInt8.toInt32)), .val (.ref bK)] [(.int (2 : Int32)), (.ref bK)])) _
    refine XS.iload X4.here hx rfl (hb hby at_47) rfl ?_
    show Steps p.tables e below (T4.setTop (mkF m 49 #[.val (.int p1), .val (.long p2), .second, .val (.int p3), .val (.int p4), .val (.int (Int32.ofNat n)), .val (.int (Int32.ofNat a)), .val (.int (p4.toInt8.toInt32)), .val (.ref bK)] [(.int (p4.toInt8.toInt32)), (.int (2 : Int32)), (.ref bK)])) _
    exact k
  obtain ⟨T5, L5, X5, N5, G5, -, st5⟩ := own_storeB X4 hx hZ N4 gbK G4 49 #[.val (.int p1), .val (.long p2), .second, .val (.int p3), .val (.int p4), .val (.int (Int32.ofNat n)), .val (.int (Int32.ofNat a)), .val (.int (p4.toInt8.toInt32)), .val (.ref bK)] [] (2 : Int32) (p4.toInt8.toInt32) 2 (by decide) (by decide) (by decide) (hb hby at_49)
  have r5 : ∀ t, Steps p.tables e below (T5.setTop (mkF m 50 #[.val (.int p1), .val (.long p2), .second, .val (.int p3), .val (.int p4), .val (.int (Int32.ofNat n)), .val (.int (Int32.ofNat a)), .val (.int (p4.toInt8.toInt32)), .val (.ref bK)] [])) t → Steps p.tables e below (s₁.setTop (mkF m 0 #[.val (.int p1), .val (.long p2), .second, .val (.int p3), .val (.int p4), .unset, .unset, .unset, .unset] [])) t := fun t k => r4 t (s5 t (st5 t k))
  have s6 : ∀ t, Steps p.tables e below (T5.setTop (mkF m 55 #[.val (.int p1), .val (.long p2), .second, .val (.int p3), .val (.int p4), .val (.int (Int32.ofNat n)), .val (.int (Int32.ofNat a)), .val (.int (p4.toInt8.toInt32)), .val (.ref bK)] [(.int (p4.toInt8.toInt32)), (.int (3 : Int32)), (.ref bK)])) t → Steps p.tables e below (T5.setTop (mkF m 50 #[.val (.int p1), .val (.long p2), .second, .val (.int p3), .val (.int p4), .val (.int (Int32.ofNat n)), .val (.int (Int32.ofNat a)), .val (.int (p4.toInt8.toInt32)), .val (.ref bK)] [])) t := by
    intro t k
    show Steps p.tables e below (T5.setTop (mkF m 50 #[.val (.int p1), .val (.long p2), .second, .val (.int p3), .val (.int p4), .val (.int (Int32.ofNat n)), .val (.int (Int32.ofNat a)), .val (.int (p4.toInt8.toInt32)), .val (.ref bK)] [])) _
    refine XS.aload X5.here hx rfl (hb hby at_50) rfl rfl ?_
    show Steps p.tables e below (T5.setTop (mkF m 52 #[.val (.int p1), .val (.long p2), .second, .val (.int p3), .val (.int p4), .val (.int (Int32.ofNat n)), .val (.int (Int32.ofNat a)), .val (.int (p4.toInt8.toInt32)), .val (.ref bK)] [(.ref bK)])) _
    refine XS.iconst X5.here hx rfl (hb hby at_52) ?_
    show Steps p.tables e below (T5.setTop (mkF m 53 #[.val (.int p1), .val (.long p2), .second, .val (.int p3), .val (.int p4), .val (.int (Int32.ofNat n)), .val (.int (Int32.ofNat a)), .val (.int (p4.toInt8.toInt32)), .val (.ref bK)] [(.int (3 : Int32)), (.ref bK)])) _
    refine XS.iload X5.here hx rfl (hb hby at_53) rfl ?_
    show Steps p.tables e below (T5.setTop (mkF m 55 #[.val (.int p1), .val (.long p2), .second, .val (.int p3), .val (.int p4), .val (.int (Int32.ofNat n)), .val (.int (Int32.ofNat a)), .val (.int (p4.toInt8.toInt32)), .val (.ref bK)] [(.int (p4.toInt8.toInt32)), (.int (3 : Int32)), (.ref bK)])) _
    exact k
  obtain ⟨T6, L6, X6, N6, G6, -, st6⟩ := own_storeB X5 hx hZ N5 gbK G5 55 #[.val (.int p1), .val (.long p2), .second, .val (.int p3), .val (.int p4), .val (.int (Int32.ofNat n)), .val (.int (Int32.ofNat a)), .val (.int (p4.toInt8.toInt32)), .val (.ref bK)] [] (3 : Int32) (p4.toInt8.toInt32) 3 (by decide) (by decide) (by decide) (hb hby at_55)
  have r6 : ∀ t, Steps p.tables e below (T6.setTop (mkF m 56 #[.val (.int p1), .val (.long p2), .second, .val (.int p3), .val (.int p4), .val (.int (Int32.ofNat n)), .val (.int (Int32.ofNat a)), .val (.int (p4.toInt8.toInt32)), .val (.ref bK)] [])) t → Steps p.tables e below (s₁.setTop (mkF m 0 #[.val (.int p1), .val (.long p2), .second, .val (.int p3), .val (.int p4), .unset, .unset, .unset, .unset] [])) t := fun t k => r5 t (s6 t (st6 t k))
  have s7 : ∀ t, Steps p.tables e below (T6.setTop (mkF m 61 #[.val (.int p1), .val (.long p2), .second, .val (.int p3), .val (.int p4), .val (.int (Int32.ofNat n)), .val (.int (Int32.ofNat a)), .val (.int (p4.toInt8.toInt32)), .val (.ref bK)] [(.int (p4.toInt8.toInt32)), (.int (4 : Int32)), (.ref bK)])) t → Steps p.tables e below (T6.setTop (mkF m 56 #[.val (.int p1), .val (.long p2), .second, .val (.int p3), .val (.int p4), .val (.int (Int32.ofNat n)), .val (.int (Int32.ofNat a)), .val (.int (p4.toInt8.toInt32)), .val (.ref bK)] [])) t := by
    intro t k
    show Steps p.tables e below (T6.setTop (mkF m 56 #[.val (.int p1), .val (.long p2), .second, .val (.int p3), .val (.int p4), .val (.int (Int32.ofNat n)), .val (.int (Int32.ofNat a)), .val (.int (p4.toInt8.toInt32)), .val (.ref bK)] [])) _
    refine XS.aload X6.here hx rfl (hb hby at_56) rfl rfl ?_
    show Steps p.tables e below (T6.setTop (mkF m 58 #[.val (.int p1), .val (.long p2), .second, .val (.int p3), .val (.int p4), .val (.int (Int32.ofNat n)), .val (.int (Int32.ofNat a)), .val (.int (p4.toInt8.toInt32)), .val (.ref bK)] [(.ref bK)])) _
    refine XS.iconst X6.here hx rfl (hb hby at_58) ?_
    show Steps p.tables e below (T6.setTop (mkF m 59 #[.val (.int p1), .val (.long p2), .second, .val (.int p3), .val (.int p4), .val (.int (Int32.ofNat n)), .val (.int (Int32.ofNat a)), .val (.int (p4.toInt8.toInt32)), .val (.ref bK)] [(.int (4 : Int32)), (.ref bK)])) _
    refine XS.iload X6.here hx rfl (hb hby at_59) rfl ?_
    show Steps p.tables e below (T6.setTop (mkF m 61 #[.val (.int p1), .val (.long p2), .second, .val (.int p3), .val (.int p4), .val (.int (Int32.ofNat n)), .val (.int (Int32.ofNat a)), .val (.int (p4.toInt8.toInt32)), .val (.ref bK)] [(.int (p4.toInt8.toInt32)), (.int (4 : Int32)), (.ref bK)])) _
    exact k
  obtain ⟨T7, L7, X7, N7, G7, -, st7⟩ := own_storeB X6 hx hZ N6 gbK G6 61 #[.val (.int p1), .val (.long p2), .second, .val (.int p3), .val (.int p4), .val (.int (Int32.ofNat n)), .val (.int (Int32.ofNat a)), .val (.int (p4.toInt8.toInt32)), .val (.ref bK)] [] (4 : Int32) (p4.toInt8.toInt32) 4 (by decide) (by decide) (by decide) (hb hby at_61)
  have r7 : ∀ t, Steps p.tables e below (T7.setTop (mkF m 62 #[.val (.int p1), .val (.long p2), .second, .val (.int p3), .val (.int p4), .val (.int (Int32.ofNat n)), .val (.int (Int32.ofNat a)), .val (.int (p4.toInt8.toInt32)), .val (.ref bK)] [])) t → Steps p.tables e below (s₁.setTop (mkF m 0 #[.val (.int p1), .val (.long p2), .second, .val (.int p3), .val (.int p4), .unset, .unset, .unset, .unset] [])) t := fun t k => r6 t (s7 t (st7 t k))
  have s8 : ∀ t, Steps p.tables e below (T7.setTop (mkF m 67 #[.val (.int p1), .val (.long p2), .second, .val (.int p3), .val (.int p4), .val (.int (Int32.ofNat n)), .val (.int (Int32.ofNat a)), .val (.int (p4.toInt8.toInt32)), .val (.ref bK)] [(.int (p4.toInt8.toInt32)), (.int (5 : Int32)), (.ref bK)])) t → Steps p.tables e below (T7.setTop (mkF m 62 #[.val (.int p1), .val (.long p2), .second, .val (.int p3), .val (.int p4), .val (.int (Int32.ofNat n)), .val (.int (Int32.ofNat a)), .val (.int (p4.toInt8.toInt32)), .val (.ref bK)] [])) t := by
    intro t k
    show Steps p.tables e below (T7.setTop (mkF m 62 #[.val (.int p1), .val (.long p2), .second, .val (.int p3), .val (.int p4), .val (.int (Int32.ofNat n)), .val (.int (Int32.ofNat a)), .val (.int (p4.toInt8.toInt32)), .val (.ref bK)] [])) _
    refine XS.aload X7.here hx rfl (hb hby at_62) rfl rfl ?_
    show Steps p.tables e below (T7.setTop (mkF m 64 #[.val (.int p1), .val (.long p2), .second, .val (.int p3), .val (.int p4), .val (.int (Int32.ofNat n)), .val (.int (Int32.ofNat a)), .val (.int (p4.toInt8.toInt32)), .val (.ref bK)] [(.ref bK)])) _
    refine XS.iconst X7.here hx rfl (hb hby at_64) ?_
    show Steps p.tables e below (T7.setTop (mkF m 65 #[.val (.int p1), .val (.long p2), .second, .val (.int p3), .val (.int p4), .val (.int (Int32.ofNat n)), .val (.int (Int32.ofNat a)), .val (.int (p4.toInt8.toInt32)), .val (.ref bK)] [(.int (5 : Int32)), (.ref bK)])) _
    refine XS.iload X7.here hx rfl (hb hby at_65) rfl ?_
    show Steps p.tables e below (T7.setTop (mkF m 67 #[.val (.int p1), .val (.long p2), .second, .val (.int p3), .val (.int p4), .val (.int (Int32.ofNat n)), .val (.int (Int32.ofNat a)), .val (.int (p4.toInt8.toInt32)), .val (.ref bK)] [(.int (p4.toInt8.toInt32)), (.int (5 : Int32)), (.ref bK)])) _
    exact k
  obtain ⟨T8, L8, X8, N8, G8, -, st8⟩ := own_storeB X7 hx hZ N7 gbK G7 67 #[.val (.int p1), .val (.long p2), .second, .val (.int p3), .val (.int p4), .val (.int (Int32.ofNat n)), .val (.int (Int32.ofNat a)), .val (.int (p4.toInt8.toInt32)), .val (.ref bK)] [] (5 : Int32) (p4.toInt8.toInt32) 5 (by decide) (by decide) (by decide) (hb hby at_67)
  have r8 : ∀ t, Steps p.tables e below (T8.setTop (mkF m 68 #[.val (.int p1), .val (.long p2), .second, .val (.int p3), .val (.int p4), .val (.int (Int32.ofNat n)), .val (.int (Int32.ofNat a)), .val (.int (p4.toInt8.toInt32)), .val (.ref bK)] [])) t → Steps p.tables e below (s₁.setTop (mkF m 0 #[.val (.int p1), .val (.long p2), .second, .val (.int p3), .val (.int p4), .unset, .unset, .unset, .unset] [])) t := fun t k => r7 t (s8 t (st8 t k))
  have s9 : ∀ t, Steps p.tables e below (T8.setTop (mkF m 74 #[.val (.int p1), .val (.long p2), .second, .val (.int p3), .val (.int p4), .val (.int (Int32.ofNat n)), .val (.int (Int32.ofNat a)), .val (.int (p4.toInt8.toInt32)), .val (.ref bK)] [(.int (p4.toInt8.toInt32)), (.int (6 : Int32)), (.ref bK)])) t → Steps p.tables e below (T8.setTop (mkF m 68 #[.val (.int p1), .val (.long p2), .second, .val (.int p3), .val (.int p4), .val (.int (Int32.ofNat n)), .val (.int (Int32.ofNat a)), .val (.int (p4.toInt8.toInt32)), .val (.ref bK)] [])) t := by
    intro t k
    show Steps p.tables e below (T8.setTop (mkF m 68 #[.val (.int p1), .val (.long p2), .second, .val (.int p3), .val (.int p4), .val (.int (Int32.ofNat n)), .val (.int (Int32.ofNat a)), .val (.int (p4.toInt8.toInt32)), .val (.ref bK)] [])) _
    refine XS.aload X8.here hx rfl (hb hby at_68) rfl rfl ?_
    show Steps p.tables e below (T8.setTop (mkF m 70 #[.val (.int p1), .val (.long p2), .second, .val (.int p3), .val (.int p4), .val (.int (Int32.ofNat n)), .val (.int (Int32.ofNat a)), .val (.int (p4.toInt8.toInt32)), .val (.ref bK)] [(.ref bK)])) _
    refine XS.bipush X8.here hx rfl (hb hby at_70) ?_
    show Steps p.tables e below (T8.setTop (mkF m 72 #[.val (.int p1), .val (.long p2), .second, .val (.int p3), .val (.int p4), .val (.int (Int32.ofNat n)), .val (.int (Int32.ofNat a)), .val (.int (p4.toInt8.toInt32)), .val (.ref bK)] [(.int (6 : Int32)), (.ref bK)])) _
    refine XS.iload X8.here hx rfl (hb hby at_72) rfl ?_
    show Steps p.tables e below (T8.setTop (mkF m 74 #[.val (.int p1), .val (.long p2), .second, .val (.int p3), .val (.int p4), .val (.int (Int32.ofNat n)), .val (.int (Int32.ofNat a)), .val (.int (p4.toInt8.toInt32)), .val (.ref bK)] [(.int (p4.toInt8.toInt32)), (.int (6 : Int32)), (.ref bK)])) _
    exact k
  obtain ⟨T9, L9, X9, N9, G9, -, st9⟩ := own_storeB X8 hx hZ N8 gbK G8 74 #[.val (.int p1), .val (.long p2), .second, .val (.int p3), .val (.int p4), .val (.int (Int32.ofNat n)), .val (.int (Int32.ofNat a)), .val (.int (p4.toInt8.toInt32)), .val (.ref bK)] [] (6 : Int32) (p4.toInt8.toInt32) 6 (by decide) (by decide) (by decide) (hb hby at_74)
  have r9 : ∀ t, Steps p.tables e below (T9.setTop (mkF m 75 #[.val (.int p1), .val (.long p2), .second, .val (.int p3), .val (.int p4), .val (.int (Int32.ofNat n)), .val (.int (Int32.ofNat a)), .val (.int (p4.toInt8.toInt32)), .val (.ref bK)] [])) t → Steps p.tables e below (s₁.setTop (mkF m 0 #[.val (.int p1), .val (.long p2), .second, .val (.int p3), .val (.int p4), .unset, .unset, .unset, .unset] [])) t := fun t k => r8 t (s9 t (st9 t k))
  have s10 : ∀ t, Steps p.tables e below (T9.setTop (mkF m 81 #[.val (.int p1), .val (.long p2), .second, .val (.int p3), .val (.int p4), .val (.int (Int32.ofNat n)), .val (.int (Int32.ofNat a)), .val (.int (p4.toInt8.toInt32)), .val (.ref bK)] [(.int (p4.toInt8.toInt32)), (.int (7 : Int32)), (.ref bK)])) t → Steps p.tables e below (T9.setTop (mkF m 75 #[.val (.int p1), .val (.long p2), .second, .val (.int p3), .val (.int p4), .val (.int (Int32.ofNat n)), .val (.int (Int32.ofNat a)), .val (.int (p4.toInt8.toInt32)), .val (.ref bK)] [])) t := by
    intro t k
    show Steps p.tables e below (T9.setTop (mkF m 75 #[.val (.int p1), .val (.long p2), .second, .val (.int p3), .val (.int p4), .val (.int (Int32.ofNat n)), .val (.int (Int32.ofNat a)), .val (.int (p4.toInt8.toInt32)), .val (.ref bK)] [])) _
    refine XS.aload X9.here hx rfl (hb hby at_75) rfl rfl ?_
    show Steps p.tables e below (T9.setTop (mkF m 77 #[.val (.int p1), .val (.long p2), .second, .val (.int p3), .val (.int p4), .val (.int (Int32.ofNat n)), .val (.int (Int32.ofNat a)), .val (.int (p4.toInt8.toInt32)), .val (.ref bK)] [(.ref bK)])) _
    refine XS.bipush X9.here hx rfl (hb hby at_77) ?_
    show Steps p.tables e below (T9.setTop (mkF m 79 #[.val (.int p1), .val (.long p2), .second, .val (.int p3), .val (.int p4), .val (.int (Int32.ofNat n)), .val (.int (Int32.ofNat a)), .val (.int (p4.toInt8.toInt32)), .val (.ref bK)] [(.int (7 : Int32)), (.ref bK)])) _
    refine XS.iload X9.here hx rfl (hb hby at_79) rfl ?_
    show Steps p.tables e below (T9.setTop (mkF m 81 #[.val (.int p1), .val (.long p2), .second, .val (.int p3), .val (.int p4), .val (.int (Int32.ofNat n)), .val (.int (Int32.ofNat a)), .val (.int (p4.toInt8.toInt32)), .val (.ref bK)] [(.int (p4.toInt8.toInt32)), (.int (7 : Int32)), (.ref bK)])) _
    exact k
  obtain ⟨T10, L10, X10, N10, G10, -, st10⟩ := own_storeB X9 hx hZ N9 gbK G9 81 #[.val (.int p1), .val (.long p2), .second, .val (.int p3), .val (.int p4), .val (.int (Int32.ofNat n)), .val (.int (Int32.ofNat a)), .val (.int (p4.toInt8.toInt32)), .val (.ref bK)] [] (7 : Int32) (p4.toInt8.toInt32) 7 (by decide) (by decide) (by decide) (hb hby at_81)
  have r10 : ∀ t, Steps p.tables e below (T10.setTop (mkF m 82 #[.val (.int p1), .val (.long p2), .second, .val (.int p3), .val (.int p4), .val (.int (Int32.ofNat n)), .val (.int (Int32.ofNat a)), .val (.int (p4.toInt8.toInt32)), .val (.ref bK)] [])) t → Steps p.tables e below (s₁.setTop (mkF m 0 #[.val (.int p1), .val (.long p2), .second, .val (.int p3), .val (.int p4), .unset, .unset, .unset, .unset] [])) t := fun t k => r9 t (s10 t (st10 t k))
  have s11 : ∀ t, Steps p.tables e below (T10.setTop (mkF m 88 #[.val (.int p1), .val (.long p2), .second, .val (.int p3), .val (.int p4), .val (.int (Int32.ofNat n)), .val (.int (Int32.ofNat a)), .val (.int (p4.toInt8.toInt32)), .val (.ref bK)] [(.int (p4.toInt8.toInt32)), (.int (8 : Int32)), (.ref bK)])) t → Steps p.tables e below (T10.setTop (mkF m 82 #[.val (.int p1), .val (.long p2), .second, .val (.int p3), .val (.int p4), .val (.int (Int32.ofNat n)), .val (.int (Int32.ofNat a)), .val (.int (p4.toInt8.toInt32)), .val (.ref bK)] [])) t := by
    intro t k
    show Steps p.tables e below (T10.setTop (mkF m 82 #[.val (.int p1), .val (.long p2), .second, .val (.int p3), .val (.int p4), .val (.int (Int32.ofNat n)), .val (.int (Int32.ofNat a)), .val (.int (p4.toInt8.toInt32)), .val (.ref bK)] [])) _
    refine XS.aload X10.here hx rfl (hb hby at_82) rfl rfl ?_
    show Steps p.tables e below (T10.setTop (mkF m 84 #[.val (.int p1), .val (.long p2), .second, .val (.int p3), .val (.int p4), .val (.int (Int32.ofNat n)), .val (.int (Int32.ofNat a)), .val (.int (p4.toInt8.toInt32)), .val (.ref bK)] [(.ref bK)])) _
    refine XS.bipush X10.here hx rfl (hb hby at_84) ?_
    show Steps p.tables e below (T10.setTop (mkF m 86 #[.val (.int p1), .val (.long p2), .second, .val (.int p3), .val (.int p4), .val (.int (Int32.ofNat n)), .val (.int (Int32.ofNat a)), .val (.int (p4.toInt8.toInt32)), .val (.ref bK)] [(.int (8 : Int32)), (.ref bK)])) _
    refine XS.iload X10.here hx rfl (hb hby at_86) rfl ?_
    show Steps p.tables e below (T10.setTop (mkF m 88 #[.val (.int p1), .val (.long p2), .second, .val (.int p3), .val (.int p4), .val (.int (Int32.ofNat n)), .val (.int (Int32.ofNat a)), .val (.int (p4.toInt8.toInt32)), .val (.ref bK)] [(.int (p4.toInt8.toInt32)), (.int (8 : Int32)), (.ref bK)])) _
    exact k
  obtain ⟨T11, L11, X11, N11, G11, -, st11⟩ := own_storeB X10 hx hZ N10 gbK G10 88 #[.val (.int p1), .val (.long p2), .second, .val (.int p3), .val (.int p4), .val (.int (Int32.ofNat n)), .val (.int (Int32.ofNat a)), .val (.int (p4.toInt8.toInt32)), .val (.ref bK)] [] (8 : Int32) (p4.toInt8.toInt32) 8 (by decide) (by decide) (by decide) (hb hby at_88)
  have r11 : ∀ t, Steps p.tables e below (T11.setTop (mkF m 89 #[.val (.int p1), .val (.long p2), .second, .val (.int p3), .val (.int p4), .val (.int (Int32.ofNat n)), .val (.int (Int32.ofNat a)), .val (.int (p4.toInt8.toInt32)), .val (.ref bK)] [])) t → Steps p.tables e below (s₁.setTop (mkF m 0 #[.val (.int p1), .val (.long p2), .second, .val (.int p3), .val (.int p4), .unset, .unset, .unset, .unset] [])) t := fun t k => r10 t (s11 t (st11 t k))
  have s12 : ∀ t, Steps p.tables e below (T11.setTop (mkF m 95 #[.val (.int p1), .val (.long p2), .second, .val (.int p3), .val (.int p4), .val (.int (Int32.ofNat n)), .val (.int (Int32.ofNat a)), .val (.int (p4.toInt8.toInt32)), .val (.ref bK)] [(.int (p4.toInt8.toInt32)), (.int (9 : Int32)), (.ref bK)])) t → Steps p.tables e below (T11.setTop (mkF m 89 #[.val (.int p1), .val (.long p2), .second, .val (.int p3), .val (.int p4), .val (.int (Int32.ofNat n)), .val (.int (Int32.ofNat a)), .val (.int (p4.toInt8.toInt32)), .val (.ref bK)] [])) t := by
    intro t k
    show Steps p.tables e below (T11.setTop (mkF m 89 #[.val (.int p1), .val (.long p2), .second, .val (.int p3), .val (.int p4), .val (.int (Int32.ofNat n)), .val (.int (Int32.ofNat a)), .val (.int (p4.toInt8.toInt32)), .val (.ref bK)] [])) _
    refine XS.aload X11.here hx rfl (hb hby at_89) rfl rfl ?_
    show Steps p.tables e below (T11.setTop (mkF m 91 #[.val (.int p1), .val (.long p2), .second, .val (.int p3), .val (.int p4), .val (.int (Int32.ofNat n)), .val (.int (Int32.ofNat a)), .val (.int (p4.toInt8.toInt32)), .val (.ref bK)] [(.ref bK)])) _
    refine XS.bipush X11.here hx rfl (hb hby at_91) ?_
    show Steps p.tables e below (T11.setTop (mkF m 93 #[.val (.int p1), .val (.long p2), .second, .val (.int p3), .val (.int p4), .val (.int (Int32.ofNat n)), .val (.int (Int32.ofNat a)), .val (.int (p4.toInt8.toInt32)), .val (.ref bK)] [(.int (9 : Int32)), (.ref bK)])) _
    refine XS.iload X11.here hx rfl (hb hby at_93) rfl ?_
    show Steps p.tables e below (T11.setTop (mkF m 95 #[.val (.int p1), .val (.long p2), .second, .val (.int p3), .val (.int p4), .val (.int (Int32.ofNat n)), .val (.int (Int32.ofNat a)), .val (.int (p4.toInt8.toInt32)), .val (.ref bK)] [(.int (p4.toInt8.toInt32)), (.int (9 : Int32)), (.ref bK)])) _
    exact k
  obtain ⟨T12, L12, X12, N12, G12, -, st12⟩ := own_storeB X11 hx hZ N11 gbK G11 95 #[.val (.int p1), .val (.long p2), .second, .val (.int p3), .val (.int p4), .val (.int (Int32.ofNat n)), .val (.int (Int32.ofNat a)), .val (.int (p4.toInt8.toInt32)), .val (.ref bK)] [] (9 : Int32) (p4.toInt8.toInt32) 9 (by decide) (by decide) (by decide) (hb hby at_95)
  have r12 : ∀ t, Steps p.tables e below (T12.setTop (mkF m 96 #[.val (.int p1), .val (.long p2), .second, .val (.int p3), .val (.int p4), .val (.int (Int32.ofNat n)), .val (.int (Int32.ofNat a)), .val (.int (p4.toInt8.toInt32)), .val (.ref bK)] [])) t → Steps p.tables e below (s₁.setTop (mkF m 0 #[.val (.int p1), .val (.long p2), .second, .val (.int p3), .val (.int p4), .unset, .unset, .unset, .unset] [])) t := fun t k => r11 t (s12 t (st12 t k))
  have s13 : ∀ t, Steps p.tables e below (T12.setTop (mkF m 102 #[.val (.int p1), .val (.long p2), .second, .val (.int p3), .val (.int p4), .val (.int (Int32.ofNat n)), .val (.int (Int32.ofNat a)), .val (.int (p4.toInt8.toInt32)), .val (.ref bK)] [(.int (p4.toInt8.toInt32)), (.int (10 : Int32)), (.ref bK)])) t → Steps p.tables e below (T12.setTop (mkF m 96 #[.val (.int p1), .val (.long p2), .second, .val (.int p3), .val (.int p4), .val (.int (Int32.ofNat n)), .val (.int (Int32.ofNat a)), .val (.int (p4.toInt8.toInt32)), .val (.ref bK)] [])) t := by
    intro t k
    show Steps p.tables e below (T12.setTop (mkF m 96 #[.val (.int p1), .val (.long p2), .second, .val (.int p3), .val (.int p4), .val (.int (Int32.ofNat n)), .val (.int (Int32.ofNat a)), .val (.int (p4.toInt8.toInt32)), .val (.ref bK)] [])) _
    refine XS.aload X12.here hx rfl (hb hby at_96) rfl rfl ?_
    show Steps p.tables e below (T12.setTop (mkF m 98 #[.val (.int p1), .val (.long p2), .second, .val (.int p3), .val (.int p4), .val (.int (Int32.ofNat n)), .val (.int (Int32.ofNat a)), .val (.int (p4.toInt8.toInt32)), .val (.ref bK)] [(.ref bK)])) _
    refine XS.bipush X12.here hx rfl (hb hby at_98) ?_
    show Steps p.tables e below (T12.setTop (mkF m 100 #[.val (.int p1), .val (.long p2), .second, .val (.int p3), .val (.int p4), .val (.int (Int32.ofNat n)), .val (.int (Int32.ofNat a)), .val (.int (p4.toInt8.toInt32)), .val (.ref bK)] [(.int (10 : Int32)), (.ref bK)])) _
    refine XS.iload X12.here hx rfl (hb hby at_100) rfl ?_
    show Steps p.tables e below (T12.setTop (mkF m 102 #[.val (.int p1), .val (.long p2), .second, .val (.int p3), .val (.int p4), .val (.int (Int32.ofNat n)), .val (.int (Int32.ofNat a)), .val (.int (p4.toInt8.toInt32)), .val (.ref bK)] [(.int (p4.toInt8.toInt32)), (.int (10 : Int32)), (.ref bK)])) _
    exact k
  obtain ⟨T13, L13, X13, N13, G13, -, st13⟩ := own_storeB X12 hx hZ N12 gbK G12 102 #[.val (.int p1), .val (.long p2), .second, .val (.int p3), .val (.int p4), .val (.int (Int32.ofNat n)), .val (.int (Int32.ofNat a)), .val (.int (p4.toInt8.toInt32)), .val (.ref bK)] [] (10 : Int32) (p4.toInt8.toInt32) 10 (by decide) (by decide) (by decide) (hb hby at_102)
  have r13 : ∀ t, Steps p.tables e below (T13.setTop (mkF m 103 #[.val (.int p1), .val (.long p2), .second, .val (.int p3), .val (.int p4), .val (.int (Int32.ofNat n)), .val (.int (Int32.ofNat a)), .val (.int (p4.toInt8.toInt32)), .val (.ref bK)] [])) t → Steps p.tables e below (s₁.setTop (mkF m 0 #[.val (.int p1), .val (.long p2), .second, .val (.int p3), .val (.int p4), .unset, .unset, .unset, .unset] [])) t := fun t k => r12 t (s13 t (st13 t k))
  have s14 : ∀ t, Steps p.tables e below (T13.setTop (mkF m 109 #[.val (.int p1), .val (.long p2), .second, .val (.int p3), .val (.int p4), .val (.int (Int32.ofNat n)), .val (.int (Int32.ofNat a)), .val (.int (p4.toInt8.toInt32)), .val (.ref bK)] [(.int (p4.toInt8.toInt32)), (.int (11 : Int32)), (.ref bK)])) t → Steps p.tables e below (T13.setTop (mkF m 103 #[.val (.int p1), .val (.long p2), .second, .val (.int p3), .val (.int p4), .val (.int (Int32.ofNat n)), .val (.int (Int32.ofNat a)), .val (.int (p4.toInt8.toInt32)), .val (.ref bK)] [])) t := by
    intro t k
    show Steps p.tables e below (T13.setTop (mkF m 103 #[.val (.int p1), .val (.long p2), .second, .val (.int p3), .val (.int p4), .val (.int (Int32.ofNat n)), .val (.int (Int32.ofNat a)), .val (.int (p4.toInt8.toInt32)), .val (.ref bK)] [])) _
    refine XS.aload X13.here hx rfl (hb hby at_103) rfl rfl ?_
    show Steps p.tables e below (T13.setTop (mkF m 105 #[.val (.int p1), .val (.long p2), .second, .val (.int p3), .val (.int p4), .val (.int (Int32.ofNat n)), .val (.int (Int32.ofNat a)), .val (.int (p4.toInt8.toInt32)), .val (.ref bK)] [(.ref bK)])) _
    refine XS.bipush X13.here hx rfl (hb hby at_105) ?_
    show Steps p.tables e below (T13.setTop (mkF m 107 #[.val (.int p1), .val (.long p2), .second, .val (.int p3), .val (.int p4), .val (.int (Int32.ofNat n)), .val (.int (Int32.ofNat a)), .val (.int (p4.toInt8.toInt32)), .val (.ref bK)] [(.int (11 : Int32)), (.ref bK)])) _
    refine XS.iload X13.here hx rfl (hb hby at_107) rfl ?_
    show Steps p.tables e below (T13.setTop (mkF m 109 #[.val (.int p1), .val (.long p2), .second, .val (.int p3), .val (.int p4), .val (.int (Int32.ofNat n)), .val (.int (Int32.ofNat a)), .val (.int (p4.toInt8.toInt32)), .val (.ref bK)] [(.int (p4.toInt8.toInt32)), (.int (11 : Int32)), (.ref bK)])) _
    exact k
  obtain ⟨T14, L14, X14, N14, G14, -, st14⟩ := own_storeB X13 hx hZ N13 gbK G13 109 #[.val (.int p1), .val (.long p2), .second, .val (.int p3), .val (.int p4), .val (.int (Int32.ofNat n)), .val (.int (Int32.ofNat a)), .val (.int (p4.toInt8.toInt32)), .val (.ref bK)] [] (11 : Int32) (p4.toInt8.toInt32) 11 (by decide) (by decide) (by decide) (hb hby at_109)
  have r14 : ∀ t, Steps p.tables e below (T14.setTop (mkF m 110 #[.val (.int p1), .val (.long p2), .second, .val (.int p3), .val (.int p4), .val (.int (Int32.ofNat n)), .val (.int (Int32.ofNat a)), .val (.int (p4.toInt8.toInt32)), .val (.ref bK)] [])) t → Steps p.tables e below (s₁.setTop (mkF m 0 #[.val (.int p1), .val (.long p2), .second, .val (.int p3), .val (.int p4), .unset, .unset, .unset, .unset] [])) t := fun t k => r13 t (s14 t (st14 t k))
  have GF : own_By Z T14.heap bK 12 (fun _ => (p4.toInt8.toInt32)) := own_By_congr G14 (fun k hk => by
    match k, hk with
    | 0, _ => exact own_by2 _
    | 1, _ => exact own_by2 _
    | 2, _ => exact own_by2 _
    | 3, _ => exact own_by2 _
    | 4, _ => exact own_by2 _
    | 5, _ => exact own_by2 _
    | 6, _ => exact own_by2 _
    | 7, _ => exact own_by2 _
    | 8, _ => exact own_by2 _
    | 9, _ => exact own_by2 _
    | 10, _ => exact own_by2 _
    | 11, _ => exact own_by2 _
    )
  have Zq : n0 ≤ T14.heap.size := Nat.le_trans gbK (Nat.le_of_lt (own_By_lt GF))
  have s15 : ∀ t, Steps p.tables e below (T14.setTop (mkF m 117 #[.val (.int p1), .val (.long p2), .second, .val (.int p3), .val (.int p4), .val (.int (Int32.ofNat n)), .val (.int (Int32.ofNat a)), .val (.int (p4.toInt8.toInt32)), .val (.ref bK)] [(.int (Int32.ofNat n)), (.long p2), (.int (Int32.ofNat a)), (.ref bK)])) t → Steps p.tables e below (T14.setTop (mkF m 110 #[.val (.int p1), .val (.long p2), .second, .val (.int p3), .val (.int p4), .val (.int (Int32.ofNat n)), .val (.int (Int32.ofNat a)), .val (.int (p4.toInt8.toInt32)), .val (.ref bK)] [])) t := by
    intro t k
    show Steps p.tables e below (T14.setTop (mkF m 110 #[.val (.int p1), .val (.long p2), .second, .val (.int p3), .val (.int p4), .val (.int (Int32.ofNat n)), .val (.int (Int32.ofNat a)), .val (.int (p4.toInt8.toInt32)), .val (.ref bK)] [])) _
    refine XS.aload X14.here hx rfl (hb hby at_110) rfl rfl ?_
    show Steps p.tables e below (T14.setTop (mkF m 112 #[.val (.int p1), .val (.long p2), .second, .val (.int p3), .val (.int p4), .val (.int (Int32.ofNat n)), .val (.int (Int32.ofNat a)), .val (.int (p4.toInt8.toInt32)), .val (.ref bK)] [(.ref bK)])) _
    refine XS.iload X14.here hx rfl (hb hby at_112) rfl ?_
    show Steps p.tables e below (T14.setTop (mkF m 114 #[.val (.int p1), .val (.long p2), .second, .val (.int p3), .val (.int p4), .val (.int (Int32.ofNat n)), .val (.int (Int32.ofNat a)), .val (.int (p4.toInt8.toInt32)), .val (.ref bK)] [(.int (Int32.ofNat a)), (.ref bK)])) _
    refine XS.lloadN X14.here hx rfl (hb hby at_114) rfl ?_
    show Steps p.tables e below (T14.setTop (mkF m 115 #[.val (.int p1), .val (.long p2), .second, .val (.int p3), .val (.int p4), .val (.int (Int32.ofNat n)), .val (.int (Int32.ofNat a)), .val (.int (p4.toInt8.toInt32)), .val (.ref bK)] [(.long p2), (.int (Int32.ofNat a)), (.ref bK)])) _
    refine XS.iload X14.here hx rfl (hb hby at_115) rfl ?_
    show Steps p.tables e below (T14.setTop (mkF m 117 #[.val (.int p1), .val (.long p2), .second, .val (.int p3), .val (.int p4), .val (.int (Int32.ofNat n)), .val (.int (Int32.ofNat a)), .val (.int (p4.toInt8.toInt32)), .val (.ref bK)] [(.int (Int32.ofNat n)), (.long p2), (.int (Int32.ofNat a)), (.ref bK)])) _
    exact k
  obtain ⟨_, _, ⟨T16, L16, k16, n16⟩, -, X16, ⟨Lc16, hQ16, l16, y16, z16⟩, st16⟩ := Jvm.LawKit.callS X14 hx (y := (⟨"com/example/holdfast/holdfast/store/rocksdb/BigEndian", "write", "([BIJI)V"⟩ : MethodName)) hown (mvT hZ (hw _ (List.mem_of_getElem? (i := 2) rfl))) (mvT hZ (hw _ (List.mem_of_getElem? (i := 3) rfl))) (mvT hZ (hw _ (List.mem_of_getElem? (i := 4) rfl))) (mvT hZ (hw _ (List.mem_of_getElem? (i := 5) rfl))) (by decide) (backOf (W := 0) (rm1 l Z a0 hw [] bK (fun _ => (p4.toInt8.toInt32)) a n p2 T14.heap n0 Zq (by omega) gbK GF) hZ (hw _ (List.mem_of_getElem? (i := 5) rfl)) (hw _ (List.mem_of_getElem? (i := 4) rfl)) (by decide) (by decide)) (g := (mkF m 117 #[.val (.int p1), .val (.long p2), .second, .val (.int p3), .val (.int p4), .val (.int (Int32.ofNat n)), .val (.int (Int32.ofNat a)), .val (.int (p4.toInt8.toInt32)), .val (.ref bK)] [(.int (Int32.ofNat n)), (.long p2), (.int (Int32.ofNat a)), (.ref bK)])) rfl (by rw [hml]; rfl) (argsL := [(.ref bK), (.int (Int32.ofNat a)), (.long p2), (.int (Int32.ofNat n))]) (rest := []) (lenOf pd__ABIJI_V rfl) rfl (by show 2 * 0 + _ ≤ _; exact Nat.le_of_eq rfl) (hb hby at_117) (fun _ _ => ⟨rfl, rfl, (by decide : 1 + 0 ≤ _), (by decide : 12 + 0 ≤ _)⟩)
  dsimp only [Pt.U, Pt.locs, Pt.cells, Pt.slots] at X16 l16 y16 z16 st16 hQ16
  subst l16 y16 z16
  obtain ⟨rfl, N16q, GW⟩ := hQ16
  have N16 := Fr.app N14 N16q
  have Zq : n0 ≤ T16.heap.size := Nat.le_trans gbK (Nat.le_of_lt (own_By_lt GW))
  have r16 : ∀ t, Steps p.tables e below (T16.setTop (mkF m 120 #[.val (.int p1), .val (.long p2), .second, .val (.int p3), .val (.int p4), .val (.int (Int32.ofNat n)), .val (.int (Int32.ofNat a)), .val (.int (p4.toInt8.toInt32)), .val (.ref bK)] [])) t → Steps p.tables e below (s₁.setTop (mkF m 0 #[.val (.int p1), .val (.long p2), .second, .val (.int p3), .val (.int p4), .unset, .unset, .unset, .unset] [])) t := fun t k => r14 t (s15 t (st16 _  k))
  have s16 : ∀ t, Steps p.tables e below (T16.setTop (mkF m 130 #[.val (.int p1), .val (.long p2), .second, .val (.int p3), .val (.int p4), .val (.int (Int32.ofNat n)), .val (.int (Int32.ofNat a)), .val (.int (p4.toInt8.toInt32)), .val (.ref bK)] [(.int (p4.toInt8.toInt32)), (.long p2), (.int (Int32.ofNat n)), (.int (Int32.ofNat a)), (.int (0 : Int32)), (.ref bK)])) t → Steps p.tables e below (T16.setTop (mkF m 120 #[.val (.int p1), .val (.long p2), .second, .val (.int p3), .val (.int p4), .val (.int (Int32.ofNat n)), .val (.int (Int32.ofNat a)), .val (.int (p4.toInt8.toInt32)), .val (.ref bK)] [])) t := by
    intro t k
    show Steps p.tables e below (T16.setTop (mkF m 120 #[.val (.int p1), .val (.long p2), .second, .val (.int p3), .val (.int p4), .val (.int (Int32.ofNat n)), .val (.int (Int32.ofNat a)), .val (.int (p4.toInt8.toInt32)), .val (.ref bK)] [])) _
    refine XS.aload X16.here hx rfl (hb hby at_120) rfl rfl ?_
    show Steps p.tables e below (T16.setTop (mkF m 122 #[.val (.int p1), .val (.long p2), .second, .val (.int p3), .val (.int p4), .val (.int (Int32.ofNat n)), .val (.int (Int32.ofNat a)), .val (.int (p4.toInt8.toInt32)), .val (.ref bK)] [(.ref bK)])) _
    refine XS.iconst X16.here hx rfl (hb hby at_122) ?_
    show Steps p.tables e below (T16.setTop (mkF m 123 #[.val (.int p1), .val (.long p2), .second, .val (.int p3), .val (.int p4), .val (.int (Int32.ofNat n)), .val (.int (Int32.ofNat a)), .val (.int (p4.toInt8.toInt32)), .val (.ref bK)] [(.int (0 : Int32)), (.ref bK)])) _
    refine XS.iload X16.here hx rfl (hb hby at_123) rfl ?_
    show Steps p.tables e below (T16.setTop (mkF m 125 #[.val (.int p1), .val (.long p2), .second, .val (.int p3), .val (.int p4), .val (.int (Int32.ofNat n)), .val (.int (Int32.ofNat a)), .val (.int (p4.toInt8.toInt32)), .val (.ref bK)] [(.int (Int32.ofNat a)), (.int (0 : Int32)), (.ref bK)])) _
    refine XS.iload X16.here hx rfl (hb hby at_125) rfl ?_
    show Steps p.tables e below (T16.setTop (mkF m 127 #[.val (.int p1), .val (.long p2), .second, .val (.int p3), .val (.int p4), .val (.int (Int32.ofNat n)), .val (.int (Int32.ofNat a)), .val (.int (p4.toInt8.toInt32)), .val (.ref bK)] [(.int (Int32.ofNat n)), (.int (Int32.ofNat a)), (.int (0 : Int32)), (.ref bK)])) _
    refine XS.lloadN X16.here hx rfl (hb hby at_127) rfl ?_
    show Steps p.tables e below (T16.setTop (mkF m 128 #[.val (.int p1), .val (.long p2), .second, .val (.int p3), .val (.int p4), .val (.int (Int32.ofNat n)), .val (.int (Int32.ofNat a)), .val (.int (p4.toInt8.toInt32)), .val (.ref bK)] [(.long p2), (.int (Int32.ofNat n)), (.int (Int32.ofNat a)), (.int (0 : Int32)), (.ref bK)])) _
    refine XS.iload X16.here hx rfl (hb hby at_128) rfl ?_
    show Steps p.tables e below (T16.setTop (mkF m 130 #[.val (.int p1), .val (.long p2), .second, .val (.int p3), .val (.int p4), .val (.int (Int32.ofNat n)), .val (.int (Int32.ofNat a)), .val (.int (p4.toInt8.toInt32)), .val (.ref bK)] [(.int (p4.toInt8.toInt32)), (.long p2), (.int (Int32.ofNat n)), (.int (Int32.ofNat a)), (.int (0 : Int32)), (.ref bK)])) _
    exact k
  obtain ⟨_, _, ⟨T17, L17, k17, n17⟩, -, X17, ⟨Lc17, hQ17, l17, y17, z17⟩, st17⟩ := Jvm.LawKit.callS X16 hx (y := (⟨"com/example/holdfast/holdfast/store/rocksdb/BigEndianWritePinLaw", "cell", "([BIIIJB)Z"⟩ : MethodName)) hown (mvT hZ (hw _ (List.mem_of_getElem? (i := 6) rfl))) (mvT hZ (hw _ (List.mem_of_getElem? (i := 7) rfl))) (mvT hZ (hw _ (List.mem_of_getElem? (i := 8) rfl))) (mvT hZ (hw _ (List.mem_of_getElem? (i := 9) rfl))) (by decide) (backOf (W := 0) (rm2 l Z a0 hw [] bK (own_wr (fun _ => (p4.toInt8.toInt32)) a p2 n n) 0 a n p2 (p4.toInt8.toInt32) T16.heap n0 Zq (by decide) (by omega) GW own_inn own_out) hZ (hw _ (List.mem_of_getElem? (i := 9) rfl)) (hw _ (List.mem_of_getElem? (i := 8) rfl)) (by decide) (by decide)) (g := (mkF m 130 #[.val (.int p1), .val (.long p2), .second, .val (.int p3), .val (.int p4), .val (.int (Int32.ofNat n)), .val (.int (Int32.ofNat a)), .val (.int (p4.toInt8.toInt32)), .val (.ref bK)] [(.int (p4.toInt8.toInt32)), (.long p2), (.int (Int32.ofNat n)), (.int (Int32.ofNat a)), (.int (0 : Int32)), (.ref bK)])) rfl (by rw [hml]; rfl) (argsL := [(.ref bK), (.int (0 : Int32)), (.int (Int32.ofNat a)), (.int (Int32.ofNat n)), (.long p2), (.int (p4.toInt8.toInt32))]) (rest := []) (lenOf pd__ABIIIJB_Z rfl) rfl (by show 2 * 0 + _ ≤ _; exact Nat.le_of_eq rfl) (hb hby at_130) (fun _ _ => ⟨rfl, rfl, (by decide : 1 + 0 ≤ _), (by decide : 12 + 0 ≤ _)⟩)
  dsimp only [Pt.U, Pt.locs, Pt.cells, Pt.slots] at X17 l17 y17 z17 st17 hQ17
  subst l17 y17 z17
  obtain ⟨rfl, N17q, e17⟩ := hQ17
  have N17 := Fr.app N16 N17q
  rw [← e17] at Zq GW
  have r17 : ∀ t, Steps p.tables e below (T17.setTop (mkF m 133 #[.val (.int p1), .val (.long p2), .second, .val (.int p3), .val (.int p4), .val (.int (Int32.ofNat n)), .val (.int (Int32.ofNat a)), .val (.int (p4.toInt8.toInt32)), .val (.ref bK)] [(.int (1 : Int32))])) t → Steps p.tables e below (s₁.setTop (mkF m 0 #[.val (.int p1), .val (.long p2), .second, .val (.int p3), .val (.int p4), .unset, .unset, .unset, .unset] [])) t := fun t k => r16 t (s16 t (st17 _  k))
  have s17 : ∀ t, Steps p.tables e below (T17.setTop (mkF m 146 #[.val (.int p1), .val (.long p2), .second, .val (.int p3), .val (.int p4), .val (.int (Int32.ofNat n)), .val (.int (Int32.ofNat a)), .val (.int (p4.toInt8.toInt32)), .val (.ref bK)] [(.int (p4.toInt8.toInt32)), (.long p2), (.int (Int32.ofNat n)), (.int (Int32.ofNat a)), (.int (1 : Int32)), (.ref bK)])) t → Steps p.tables e below (T17.setTop (mkF m 133 #[.val (.int p1), .val (.long p2), .second, .val (.int p3), .val (.int p4), .val (.int (Int32.ofNat n)), .val (.int (Int32.ofNat a)), .val (.int (p4.toInt8.toInt32)), .val (.ref bK)] [(.int (1 : Int32))])) t := by
    intro t k
    show Steps p.tables e below (T17.setTop (mkF m 133 #[.val (.int p1), .val (.long p2), .second, .val (.int p3), .val (.int p4), .val (.int (Int32.ofNat n)), .val (.int (Int32.ofNat a)), .val (.int (p4.toInt8.toInt32)), .val (.ref bK)] [(.int (1 : Int32))])) _
    refine XS.ifNo X17.here hx rfl (hb hby at_133) rfl (XT.i0_eq_f (by decide)) ?_
    show Steps p.tables e below (T17.setTop (mkF m 136 #[.val (.int p1), .val (.long p2), .second, .val (.int p3), .val (.int p4), .val (.int (Int32.ofNat n)), .val (.int (Int32.ofNat a)), .val (.int (p4.toInt8.toInt32)), .val (.ref bK)] [])) _
    refine XS.aload X17.here hx rfl (hb hby at_136) rfl rfl ?_
    show Steps p.tables e below (T17.setTop (mkF m 138 #[.val (.int p1), .val (.long p2), .second, .val (.int p3), .val (.int p4), .val (.int (Int32.ofNat n)), .val (.int (Int32.ofNat a)), .val (.int (p4.toInt8.toInt32)), .val (.ref bK)] [(.ref bK)])) _
    refine XS.iconst X17.here hx rfl (hb hby at_138) ?_
    show Steps p.tables e below (T17.setTop (mkF m 139 #[.val (.int p1), .val (.long p2), .second, .val (.int p3), .val (.int p4), .val (.int (Int32.ofNat n)), .val (.int (Int32.ofNat a)), .val (.int (p4.toInt8.toInt32)), .val (.ref bK)] [(.int (1 : Int32)), (.ref bK)])) _
    refine XS.iload X17.here hx rfl (hb hby at_139) rfl ?_
    show Steps p.tables e below (T17.setTop (mkF m 141 #[.val (.int p1), .val (.long p2), .second, .val (.int p3), .val (.int p4), .val (.int (Int32.ofNat n)), .val (.int (Int32.ofNat a)), .val (.int (p4.toInt8.toInt32)), .val (.ref bK)] [(.int (Int32.ofNat a)), (.int (1 : Int32)), (.ref bK)])) _
    refine XS.iload X17.here hx rfl (hb hby at_141) rfl ?_
    show Steps p.tables e below (T17.setTop (mkF m 143 #[.val (.int p1), .val (.long p2), .second, .val (.int p3), .val (.int p4), .val (.int (Int32.ofNat n)), .val (.int (Int32.ofNat a)), .val (.int (p4.toInt8.toInt32)), .val (.ref bK)] [(.int (Int32.ofNat n)), (.int (Int32.ofNat a)), (.int (1 : Int32)), (.ref bK)])) _
    refine XS.lloadN X17.here hx rfl (hb hby at_143) rfl ?_
    show Steps p.tables e below (T17.setTop (mkF m 144 #[.val (.int p1), .val (.long p2), .second, .val (.int p3), .val (.int p4), .val (.int (Int32.ofNat n)), .val (.int (Int32.ofNat a)), .val (.int (p4.toInt8.toInt32)), .val (.ref bK)] [(.long p2), (.int (Int32.ofNat n)), (.int (Int32.ofNat a)), (.int (1 : Int32)), (.ref bK)])) _
    refine XS.iload X17.here hx rfl (hb hby at_144) rfl ?_
    show Steps p.tables e below (T17.setTop (mkF m 146 #[.val (.int p1), .val (.long p2), .second, .val (.int p3), .val (.int p4), .val (.int (Int32.ofNat n)), .val (.int (Int32.ofNat a)), .val (.int (p4.toInt8.toInt32)), .val (.ref bK)] [(.int (p4.toInt8.toInt32)), (.long p2), (.int (Int32.ofNat n)), (.int (Int32.ofNat a)), (.int (1 : Int32)), (.ref bK)])) _
    exact k
  obtain ⟨_, _, ⟨T18, L18, k18, n18⟩, -, X18, ⟨Lc18, hQ18, l18, y18, z18⟩, st18⟩ := Jvm.LawKit.callS X17 hx (y := (⟨"com/example/holdfast/holdfast/store/rocksdb/BigEndianWritePinLaw", "cell", "([BIIIJB)Z"⟩ : MethodName)) hown (mvT hZ (hw _ (List.mem_of_getElem? (i := 6) rfl))) (mvT hZ (hw _ (List.mem_of_getElem? (i := 7) rfl))) (mvT hZ (hw _ (List.mem_of_getElem? (i := 8) rfl))) (mvT hZ (hw _ (List.mem_of_getElem? (i := 9) rfl))) (by decide) (backOf (W := 0) (rm2 l Z a0 hw [] bK (own_wr (fun _ => (p4.toInt8.toInt32)) a p2 n n) 1 a n p2 (p4.toInt8.toInt32) T17.heap n0 Zq (by decide) (by omega) GW own_inn own_out) hZ (hw _ (List.mem_of_getElem? (i := 9) rfl)) (hw _ (List.mem_of_getElem? (i := 8) rfl)) (by decide) (by decide)) (g := (mkF m 146 #[.val (.int p1), .val (.long p2), .second, .val (.int p3), .val (.int p4), .val (.int (Int32.ofNat n)), .val (.int (Int32.ofNat a)), .val (.int (p4.toInt8.toInt32)), .val (.ref bK)] [(.int (p4.toInt8.toInt32)), (.long p2), (.int (Int32.ofNat n)), (.int (Int32.ofNat a)), (.int (1 : Int32)), (.ref bK)])) rfl (by rw [hml]; rfl) (argsL := [(.ref bK), (.int (1 : Int32)), (.int (Int32.ofNat a)), (.int (Int32.ofNat n)), (.long p2), (.int (p4.toInt8.toInt32))]) (rest := []) (lenOf pd__ABIIIJB_Z rfl) rfl (by show 2 * 0 + _ ≤ _; exact Nat.le_of_eq rfl) (hb hby at_146) (fun _ _ => ⟨rfl, rfl, (by decide : 1 + 0 ≤ _), (by decide : 12 + 0 ≤ _)⟩)
  dsimp only [Pt.U, Pt.locs, Pt.cells, Pt.slots] at X18 l18 y18 z18 st18 hQ18
  subst l18 y18 z18
  obtain ⟨rfl, N18q, e18⟩ := hQ18
  have N18 := Fr.app N17 N18q
  rw [← e18] at Zq GW
  have r18 : ∀ t, Steps p.tables e below (T18.setTop (mkF m 149 #[.val (.int p1), .val (.long p2), .second, .val (.int p3), .val (.int p4), .val (.int (Int32.ofNat n)), .val (.int (Int32.ofNat a)), .val (.int (p4.toInt8.toInt32)), .val (.ref bK)] [(.int (1 : Int32))])) t → Steps p.tables e below (s₁.setTop (mkF m 0 #[.val (.int p1), .val (.long p2), .second, .val (.int p3), .val (.int p4), .unset, .unset, .unset, .unset] [])) t := fun t k => r17 t (s17 t (st18 _  k))
  have s18 : ∀ t, Steps p.tables e below (T18.setTop (mkF m 162 #[.val (.int p1), .val (.long p2), .second, .val (.int p3), .val (.int p4), .val (.int (Int32.ofNat n)), .val (.int (Int32.ofNat a)), .val (.int (p4.toInt8.toInt32)), .val (.ref bK)] [(.int (p4.toInt8.toInt32)), (.long p2), (.int (Int32.ofNat n)), (.int (Int32.ofNat a)), (.int (2 : Int32)), (.ref bK)])) t → Steps p.tables e below (T18.setTop (mkF m 149 #[.val (.int p1), .val (.long p2), .second, .val (.int p3), .val (.int p4), .val (.int (Int32.ofNat n)), .val (.int (Int32.ofNat a)), .val (.int (p4.toInt8.toInt32)), .val (.ref bK)] [(.int (1 : Int32))])) t := by
    intro t k
    show Steps p.tables e below (T18.setTop (mkF m 149 #[.val (.int p1), .val (.long p2), .second, .val (.int p3), .val (.int p4), .val (.int (Int32.ofNat n)), .val (.int (Int32.ofNat a)), .val (.int (p4.toInt8.toInt32)), .val (.ref bK)] [(.int (1 : Int32))])) _
    refine XS.ifNo X18.here hx rfl (hb hby at_149) rfl (XT.i0_eq_f (by decide)) ?_
    show Steps p.tables e below (T18.setTop (mkF m 152 #[.val (.int p1), .val (.long p2), .second, .val (.int p3), .val (.int p4), .val (.int (Int32.ofNat n)), .val (.int (Int32.ofNat a)), .val (.int (p4.toInt8.toInt32)), .val (.ref bK)] [])) _
    refine XS.aload X18.here hx rfl (hb hby at_152) rfl rfl ?_
    show Steps p.tables e below (T18.setTop (mkF m 154 #[.val (.int p1), .val (.long p2), .second, .val (.int p3), .val (.int p4), .val (.int (Int32.ofNat n)), .val (.int (Int32.ofNat a)), .val (.int (p4.toInt8.toInt32)), .val (.ref bK)] [(.ref bK)])) _
    refine XS.iconst X18.here hx rfl (hb hby at_154) ?_
    show Steps p.tables e below (T18.setTop (mkF m 155 #[.val (.int p1), .val (.long p2), .second, .val (.int p3), .val (.int p4), .val (.int (Int32.ofNat n)), .val (.int (Int32.ofNat a)), .val (.int (p4.toInt8.toInt32)), .val (.ref bK)] [(.int (2 : Int32)), (.ref bK)])) _
    refine XS.iload X18.here hx rfl (hb hby at_155) rfl ?_
    show Steps p.tables e below (T18.setTop (mkF m 157 #[.val (.int p1), .val (.long p2), .second, .val (.int p3), .val (.int p4), .val (.int (Int32.ofNat n)), .val (.int (Int32.ofNat a)), .val (.int (p4.toInt8.toInt32)), .val (.ref bK)] [(.int (Int32.ofNat a)), (.int (2 : Int32)), (.ref bK)])) _
    refine XS.iload X18.here hx rfl (hb hby at_157) rfl ?_
    show Steps p.tables e below (T18.setTop (mkF m 159 #[.val (.int p1), .val (.long p2), .second, .val (.int p3), .val (.int p4), .val (.int (Int32.ofNat n)), .val (.int (Int32.ofNat a)), .val (.int (p4.toInt8.toInt32)), .val (.ref bK)] [(.int (Int32.ofNat n)), (.int (Int32.ofNat a)), (.int (2 : Int32)), (.ref bK)])) _
    refine XS.lloadN X18.here hx rfl (hb hby at_159) rfl ?_
    show Steps p.tables e below (T18.setTop (mkF m 160 #[.val (.int p1), .val (.long p2), .second, .val (.int p3), .val (.int p4), .val (.int (Int32.ofNat n)), .val (.int (Int32.ofNat a)), .val (.int (p4.toInt8.toInt32)), .val (.ref bK)] [(.long p2), (.int (Int32.ofNat n)), (.int (Int32.ofNat a)), (.int (2 : Int32)), (.ref bK)])) _
    refine XS.iload X18.here hx rfl (hb hby at_160) rfl ?_
    show Steps p.tables e below (T18.setTop (mkF m 162 #[.val (.int p1), .val (.long p2), .second, .val (.int p3), .val (.int p4), .val (.int (Int32.ofNat n)), .val (.int (Int32.ofNat a)), .val (.int (p4.toInt8.toInt32)), .val (.ref bK)] [(.int (p4.toInt8.toInt32)), (.long p2), (.int (Int32.ofNat n)), (.int (Int32.ofNat a)), (.int (2 : Int32)), (.ref bK)])) _
    exact k
  obtain ⟨_, _, ⟨T19, L19, k19, n19⟩, -, X19, ⟨Lc19, hQ19, l19, y19, z19⟩, st19⟩ := Jvm.LawKit.callS X18 hx (y := (⟨"com/example/holdfast/holdfast/store/rocksdb/BigEndianWritePinLaw", "cell", "([BIIIJB)Z"⟩ : MethodName)) hown (mvT hZ (hw _ (List.mem_of_getElem? (i := 6) rfl))) (mvT hZ (hw _ (List.mem_of_getElem? (i := 7) rfl))) (mvT hZ (hw _ (List.mem_of_getElem? (i := 8) rfl))) (mvT hZ (hw _ (List.mem_of_getElem? (i := 9) rfl))) (by decide) (backOf (W := 0) (rm2 l Z a0 hw [] bK (own_wr (fun _ => (p4.toInt8.toInt32)) a p2 n n) 2 a n p2 (p4.toInt8.toInt32) T18.heap n0 Zq (by decide) (by omega) GW own_inn own_out) hZ (hw _ (List.mem_of_getElem? (i := 9) rfl)) (hw _ (List.mem_of_getElem? (i := 8) rfl)) (by decide) (by decide)) (g := (mkF m 162 #[.val (.int p1), .val (.long p2), .second, .val (.int p3), .val (.int p4), .val (.int (Int32.ofNat n)), .val (.int (Int32.ofNat a)), .val (.int (p4.toInt8.toInt32)), .val (.ref bK)] [(.int (p4.toInt8.toInt32)), (.long p2), (.int (Int32.ofNat n)), (.int (Int32.ofNat a)), (.int (2 : Int32)), (.ref bK)])) rfl (by rw [hml]; rfl) (argsL := [(.ref bK), (.int (2 : Int32)), (.int (Int32.ofNat a)), (.int (Int32.ofNat n)), (.long p2), (.int (p4.toInt8.toInt32))]) (rest := []) (lenOf pd__ABIIIJB_Z rfl) rfl (by show 2 * 0 + _ ≤ _; exact Nat.le_of_eq rfl) (hb hby at_162) (fun _ _ => ⟨rfl, rfl, (by decide : 1 + 0 ≤ _), (by decide : 12 + 0 ≤ _)⟩)
  dsimp only [Pt.U, Pt.locs, Pt.cells, Pt.slots] at X19 l19 y19 z19 st19 hQ19
  subst l19 y19 z19
  obtain ⟨rfl, N19q, e19⟩ := hQ19
  have N19 := Fr.app N18 N19q
  rw [← e19] at Zq GW
  have r19 : ∀ t, Steps p.tables e below (T19.setTop (mkF m 165 #[.val (.int p1), .val (.long p2), .second, .val (.int p3), .val (.int p4), .val (.int (Int32.ofNat n)), .val (.int (Int32.ofNat a)), .val (.int (p4.toInt8.toInt32)), .val (.ref bK)] [(.int (1 : Int32))])) t → Steps p.tables e below (s₁.setTop (mkF m 0 #[.val (.int p1), .val (.long p2), .second, .val (.int p3), .val (.int p4), .unset, .unset, .unset, .unset] [])) t := fun t k => r18 t (s18 t (st19 _  k))
  have s19 : ∀ t, Steps p.tables e below (T19.setTop (mkF m 178 #[.val (.int p1), .val (.long p2), .second, .val (.int p3), .val (.int p4), .val (.int (Int32.ofNat n)), .val (.int (Int32.ofNat a)), .val (.int (p4.toInt8.toInt32)), .val (.ref bK)] [(.int (p4.toInt8.toInt32)), (.long p2), (.int (Int32.ofNat n)), (.int (Int32.ofNat a)), (.int (3 : Int32)), (.ref bK)])) t → Steps p.tables e below (T19.setTop (mkF m 165 #[.val (.int p1), .val (.long p2), .second, .val (.int p3), .val (.int p4), .val (.int (Int32.ofNat n)), .val (.int (Int32.ofNat a)), .val (.int (p4.toInt8.toInt32)), .val (.ref bK)] [(.int (1 : Int32))])) t := by
    intro t k
    show Steps p.tables e below (T19.setTop (mkF m 165 #[.val (.int p1), .val (.long p2), .second, .val (.int p3), .val (.int p4), .val (.int (Int32.ofNat n)), .val (.int (Int32.ofNat a)), .val (.int (p4.toInt8.toInt32)), .val (.ref bK)] [(.int (1 : Int32))])) _
    refine XS.ifNo X19.here hx rfl (hb hby at_165) rfl (XT.i0_eq_f (by decide)) ?_
    show Steps p.tables e below (T19.setTop (mkF m 168 #[.val (.int p1), .val (.long p2), .second, .val (.int p3), .val (.int p4), .val (.int (Int32.ofNat n)), .val (.int (Int32.ofNat a)), .val (.int (p4.toInt8.toInt32)), .val (.ref bK)] [])) _
    refine XS.aload X19.here hx rfl (hb hby at_168) rfl rfl ?_
    show Steps p.tables e below (T19.setTop (mkF m 170 #[.val (.int p1), .val (.long p2), .second, .val (.int p3), .val (.int p4), .val (.int (Int32.ofNat n)), .val (.int (Int32.ofNat a)), .val (.int (p4.toInt8.toInt32)), .val (.ref bK)] [(.ref bK)])) _
    refine XS.iconst X19.here hx rfl (hb hby at_170) ?_
    show Steps p.tables e below (T19.setTop (mkF m 171 #[.val (.int p1), .val (.long p2), .second, .val (.int p3), .val (.int p4), .val (.int (Int32.ofNat n)), .val (.int (Int32.ofNat a)), .val (.int (p4.toInt8.toInt32)), .val (.ref bK)] [(.int (3 : Int32)), (.ref bK)])) _
    refine XS.iload X19.here hx rfl (hb hby at_171) rfl ?_
    show Steps p.tables e below (T19.setTop (mkF m 173 #[.val (.int p1), .val (.long p2), .second, .val (.int p3), .val (.int p4), .val (.int (Int32.ofNat n)), .val (.int (Int32.ofNat a)), .val (.int (p4.toInt8.toInt32)), .val (.ref bK)] [(.int (Int32.ofNat a)), (.int (3 : Int32)), (.ref bK)])) _
    refine XS.iload X19.here hx rfl (hb hby at_173) rfl ?_
    show Steps p.tables e below (T19.setTop (mkF m 175 #[.val (.int p1), .val (.long p2), .second, .val (.int p3), .val (.int p4), .val (.int (Int32.ofNat n)), .val (.int (Int32.ofNat a)), .val (.int (p4.toInt8.toInt32)), .val (.ref bK)] [(.int (Int32.ofNat n)), (.int (Int32.ofNat a)), (.int (3 : Int32)), (.ref bK)])) _
    refine XS.lloadN X19.here hx rfl (hb hby at_175) rfl ?_
    show Steps p.tables e below (T19.setTop (mkF m 176 #[.val (.int p1), .val (.long p2), .second, .val (.int p3), .val (.int p4), .val (.int (Int32.ofNat n)), .val (.int (Int32.ofNat a)), .val (.int (p4.toInt8.toInt32)), .val (.ref bK)] [(.long p2), (.int (Int32.ofNat n)), (.int (Int32.ofNat a)), (.int (3 : Int32)), (.ref bK)])) _
    refine XS.iload X19.here hx rfl (hb hby at_176) rfl ?_
    show Steps p.tables e below (T19.setTop (mkF m 178 #[.val (.int p1), .val (.long p2), .second, .val (.int p3), .val (.int p4), .val (.int (Int32.ofNat n)), .val (.int (Int32.ofNat a)), .val (.int (p4.toInt8.toInt32)), .val (.ref bK)] [(.int (p4.toInt8.toInt32)), (.long p2), (.int (Int32.ofNat n)), (.int (Int32.ofNat a)), (.int (3 : Int32)), (.ref bK)])) _
    exact k
  obtain ⟨_, _, ⟨T20, L20, k20, n20⟩, -, X20, ⟨Lc20, hQ20, l20, y20, z20⟩, st20⟩ := Jvm.LawKit.callS X19 hx (y := (⟨"com/example/holdfast/holdfast/store/rocksdb/BigEndianWritePinLaw", "cell", "([BIIIJB)Z"⟩ : MethodName)) hown (mvT hZ (hw _ (List.mem_of_getElem? (i := 6) rfl))) (mvT hZ (hw _ (List.mem_of_getElem? (i := 7) rfl))) (mvT hZ (hw _ (List.mem_of_getElem? (i := 8) rfl))) (mvT hZ (hw _ (List.mem_of_getElem? (i := 9) rfl))) (by decide) (backOf (W := 0) (rm2 l Z a0 hw [] bK (own_wr (fun _ => (p4.toInt8.toInt32)) a p2 n n) 3 a n p2 (p4.toInt8.toInt32) T19.heap n0 Zq (by decide) (by omega) GW own_inn own_out) hZ (hw _ (List.mem_of_getElem? (i := 9) rfl)) (hw _ (List.mem_of_getElem? (i := 8) rfl)) (by decide) (by decide)) (g := (mkF m 178 #[.val (.int p1), .val (.long p2), .second, .val (.int p3), .val (.int p4), .val (.int (Int32.ofNat n)), .val (.int (Int32.ofNat a)), .val (.int (p4.toInt8.toInt32)), .val (.ref bK)] [(.int (p4.toInt8.toInt32)), (.long p2), (.int (Int32.ofNat n)), (.int (Int32.ofNat a)), (.int (3 : Int32)), (.ref bK)])) rfl (by rw [hml]; rfl) (argsL := [(.ref bK), (.int (3 : Int32)), (.int (Int32.ofNat a)), (.int (Int32.ofNat n)), (.long p2), (.int (p4.toInt8.toInt32))]) (rest := []) (lenOf pd__ABIIIJB_Z rfl) rfl (by show 2 * 0 + _ ≤ _; exact Nat.le_of_eq rfl) (hb hby at_178) (fun _ _ => ⟨rfl, rfl, (by decide : 1 + 0 ≤ _), (by decide : 12 + 0 ≤ _)⟩)
  dsimp only [Pt.U, Pt.locs, Pt.cells, Pt.slots] at X20 l20 y20 z20 st20 hQ20
  subst l20 y20 z20
  obtain ⟨rfl, N20q, e20⟩ := hQ20
  have N20 := Fr.app N19 N20q
  rw [← e20] at Zq GW
  have r20 : ∀ t, Steps p.tables e below (T20.setTop (mkF m 181 #[.val (.int p1), .val (.long p2), .second, .val (.int p3), .val (.int p4), .val (.int (Int32.ofNat n)), .val (.int (Int32.ofNat a)), .val (.int (p4.toInt8.toInt32)), .val (.ref bK)] [(.int (1 : Int32))])) t → Steps p.tables e below (s₁.setTop (mkF m 0 #[.val (.int p1), .val (.long p2), .second, .val (.int p3), .val (.int p4), .unset, .unset, .unset, .unset] [])) t := fun t k => r19 t (s19 t (st20 _  k))
  have s20 : ∀ t, Steps p.tables e below (T20.setTop (mkF m 194 #[.val (.int p1), .val (.long p2), .second, .val (.int p3), .val (.int p4), .val (.int (Int32.ofNat n)), .val (.int (Int32.ofNat a)), .val (.int (p4.toInt8.toInt32)), .val (.ref bK)] [(.int (p4.toInt8.toInt32)), (.long p2), (.int (Int32.ofNat n)), (.int (Int32.ofNat a)), (.int (4 : Int32)), (.ref bK)])) t → Steps p.tables e below (T20.setTop (mkF m 181 #[.val (.int p1), .val (.long p2), .second, .val (.int p3), .val (.int p4), .val (.int (Int32.ofNat n)), .val (.int (Int32.ofNat a)), .val (.int (p4.toInt8.toInt32)), .val (.ref bK)] [(.int (1 : Int32))])) t := by
    intro t k
    show Steps p.tables e below (T20.setTop (mkF m 181 #[.val (.int p1), .val (.long p2), .second, .val (.int p3), .val (.int p4), .val (.int (Int32.ofNat n)), .val (.int (Int32.ofNat a)), .val (.int (p4.toInt8.toInt32)), .val (.ref bK)] [(.int (1 : Int32))])) _
    refine XS.ifNo X20.here hx rfl (hb hby at_181) rfl (XT.i0_eq_f (by decide)) ?_
    show Steps p.tables e below (T20.setTop (mkF m 184 #[.val (.int p1), .val (.long p2), .second, .val (.int p3), .val (.int p4), .val (.int (Int32.ofNat n)), .val (.int (Int32.ofNat a)), .val (.int (p4.toInt8.toInt32)), .val (.ref bK)] [])) _
    refine XS.aload X20.here hx rfl (hb hby at_184) rfl rfl ?_
    show Steps p.tables e below (T20.setTop (mkF m 186 #[.val (.int p1), .val (.long p2), .second, .val (.int p3), .val (.int p4), .val (.int (Int32.ofNat n)), .val (.int (Int32.ofNat a)), .val (.int (p4.toInt8.toInt32)), .val (.ref bK)] [(.ref bK)])) _
    refine XS.iconst X20.here hx rfl (hb hby at_186) ?_
    show Steps p.tables e below (T20.setTop (mkF m 187 #[.val (.int p1), .val (.long p2), .second, .val (.int p3), .val (.int p4), .val (.int (Int32.ofNat n)), .val (.int (Int32.ofNat a)), .val (.int (p4.toInt8.toInt32)), .val (.ref bK)] [(.int (4 : Int32)), (.ref bK)])) _
    refine XS.iload X20.here hx rfl (hb hby at_187) rfl ?_
    show Steps p.tables e below (T20.setTop (mkF m 189 #[.val (.int p1), .val (.long p2), .second, .val (.int p3), .val (.int p4), .val (.int (Int32.ofNat n)), .val (.int (Int32.ofNat a)), .val (.int (p4.toInt8.toInt32)), .val (.ref bK)] [(.int (Int32.ofNat a)), (.int (4 : Int32)), (.ref bK)])) _
    refine XS.iload X20.here hx rfl (hb hby at_189) rfl ?_
    show Steps p.tables e below (T20.setTop (mkF m 191 #[.val (.int p1), .val (.long p2), .second, .val (.int p3), .val (.int p4), .val (.int (Int32.ofNat n)), .val (.int (Int32.ofNat a)), .val (.int (p4.toInt8.toInt32)), .val (.ref bK)] [(.int (Int32.ofNat n)), (.int (Int32.ofNat a)), (.int (4 : Int32)), (.ref bK)])) _
    refine XS.lloadN X20.here hx rfl (hb hby at_191) rfl ?_
    show Steps p.tables e below (T20.setTop (mkF m 192 #[.val (.int p1), .val (.long p2), .second, .val (.int p3), .val (.int p4), .val (.int (Int32.ofNat n)), .val (.int (Int32.ofNat a)), .val (.int (p4.toInt8.toInt32)), .val (.ref bK)] [(.long p2), (.int (Int32.ofNat n)), (.int (Int32.ofNat a)), (.int (4 : Int32)), (.ref bK)])) _
    refine XS.iload X20.here hx rfl (hb hby at_192) rfl ?_
    show Steps p.tables e below (T20.setTop (mkF m 194 #[.val (.int p1), .val (.long p2), .second, .val (.int p3), .val (.int p4), .val (.int (Int32.ofNat n)), .val (.int (Int32.ofNat a)), .val (.int (p4.toInt8.toInt32)), .val (.ref bK)] [(.int (p4.toInt8.toInt32)), (.long p2), (.int (Int32.ofNat n)), (.int (Int32.ofNat a)), (.int (4 : Int32)), (.ref bK)])) _
    exact k
  obtain ⟨_, _, ⟨T21, L21, k21, n21⟩, -, X21, ⟨Lc21, hQ21, l21, y21, z21⟩, st21⟩ := Jvm.LawKit.callS X20 hx (y := (⟨"com/example/holdfast/holdfast/store/rocksdb/BigEndianWritePinLaw", "cell", "([BIIIJB)Z"⟩ : MethodName)) hown (mvT hZ (hw _ (List.mem_of_getElem? (i := 6) rfl))) (mvT hZ (hw _ (List.mem_of_getElem? (i := 7) rfl))) (mvT hZ (hw _ (List.mem_of_getElem? (i := 8) rfl))) (mvT hZ (hw _ (List.mem_of_getElem? (i := 9) rfl))) (by decide) (backOf (W := 0) (rm2 l Z a0 hw [] bK (own_wr (fun _ => (p4.toInt8.toInt32)) a p2 n n) 4 a n p2 (p4.toInt8.toInt32) T20.heap n0 Zq (by decide) (by omega) GW own_inn own_out) hZ (hw _ (List.mem_of_getElem? (i := 9) rfl)) (hw _ (List.mem_of_getElem? (i := 8) rfl)) (by decide) (by decide)) (g := (mkF m 194 #[.val (.int p1), .val (.long p2), .second, .val (.int p3), .val (.int p4), .val (.int (Int32.ofNat n)), .val (.int (Int32.ofNat a)), .val (.int (p4.toInt8.toInt32)), .val (.ref bK)] [(.int (p4.toInt8.toInt32)), (.long p2), (.int (Int32.ofNat n)), (.int (Int32.ofNat a)), (.int (4 : Int32)), (.ref bK)])) rfl (by rw [hml]; rfl) (argsL := [(.ref bK), (.int (4 : Int32)), (.int (Int32.ofNat a)), (.int (Int32.ofNat n)), (.long p2), (.int (p4.toInt8.toInt32))]) (rest := []) (lenOf pd__ABIIIJB_Z rfl) rfl (by show 2 * 0 + _ ≤ _; exact Nat.le_of_eq rfl) (hb hby at_194) (fun _ _ => ⟨rfl, rfl, (by decide : 1 + 0 ≤ _), (by decide : 12 + 0 ≤ _)⟩)
  dsimp only [Pt.U, Pt.locs, Pt.cells, Pt.slots] at X21 l21 y21 z21 st21 hQ21
  subst l21 y21 z21
  obtain ⟨rfl, N21q, e21⟩ := hQ21
  have N21 := Fr.app N20 N21q
  rw [← e21] at Zq GW
  have r21 : ∀ t, Steps p.tables e below (T21.setTop (mkF m 197 #[.val (.int p1), .val (.long p2), .second, .val (.int p3), .val (.int p4), .val (.int (Int32.ofNat n)), .val (.int (Int32.ofNat a)), .val (.int (p4.toInt8.toInt32)), .val (.ref bK)] [(.int (1 : Int32))])) t → Steps p.tables e below (s₁.setTop (mkF m 0 #[.val (.int p1), .val (.long p2), .second, .val (.int p3), .val (.int p4), .unset, .unset, .unset, .unset] [])) t := fun t k => r20 t (s20 t (st21 _  k))
  have s21 : ∀ t, Steps p.tables e below (T21.setTop (mkF m 210 #[.val (.int p1), .val (.long p2), .second, .val (.int p3), .val (.int p4), .val (.int (Int32.ofNat n)), .val (.int (Int32.ofNat a)), .val (.int (p4.toInt8.toInt32)), .val (.ref bK)] [(.int (p4.toInt8.toInt32)), (.long p2), (.int (Int32.ofNat n)), (.int (Int32.ofNat a)), (.int (5 : Int32)), (.ref bK)])) t → Steps p.tables e below (T21.setTop (mkF m 197 #[.val (.int p1), .val (.long p2), .second, .val (.int p3), .val (.int p4), .val (.int (Int32.ofNat n)), .val (.int (Int32.ofNat a)), .val (.int (p4.toInt8.toInt32)), .val (.ref bK)] [(.int (1 : Int32))])) t := by
    intro t k
    show Steps p.tables e below (T21.setTop (mkF m 197 #[.val (.int p1), .val (.long p2), .second, .val (.int p3), .val (.int p4), .val (.int (Int32.ofNat n)), .val (.int (Int32.ofNat a)), .val (.int (p4.toInt8.toInt32)), .val (.ref bK)] [(.int (1 : Int32))])) _
    refine XS.ifNo X21.here hx rfl (hb hby at_197) rfl (XT.i0_eq_f (by decide)) ?_
    show Steps p.tables e below (T21.setTop (mkF m 200 #[.val (.int p1), .val (.long p2), .second, .val (.int p3), .val (.int p4), .val (.int (Int32.ofNat n)), .val (.int (Int32.ofNat a)), .val (.int (p4.toInt8.toInt32)), .val (.ref bK)] [])) _
    refine XS.aload X21.here hx rfl (hb hby at_200) rfl rfl ?_
    show Steps p.tables e below (T21.setTop (mkF m 202 #[.val (.int p1), .val (.long p2), .second, .val (.int p3), .val (.int p4), .val (.int (Int32.ofNat n)), .val (.int (Int32.ofNat a)), .val (.int (p4.toInt8.toInt32)), .val (.ref bK)] [(.ref bK)])) _
    refine XS.iconst X21.here hx rfl (hb hby at_202) ?_
    show Steps p.tables e below (T21.setTop (mkF m 203 #[.val (.int p1), .val (.long p2), .second, .val (.int p3), .val (.int p4), .val (.int (Int32.ofNat n)), .val (.int (Int32.ofNat a)), .val (.int (p4.toInt8.toInt32)), .val (.ref bK)] [(.int (5 : Int32)), (.ref bK)])) _
    refine XS.iload X21.here hx rfl (hb hby at_203) rfl ?_
    show Steps p.tables e below (T21.setTop (mkF m 205 #[.val (.int p1), .val (.long p2), .second, .val (.int p3), .val (.int p4), .val (.int (Int32.ofNat n)), .val (.int (Int32.ofNat a)), .val (.int (p4.toInt8.toInt32)), .val (.ref bK)] [(.int (Int32.ofNat a)), (.int (5 : Int32)), (.ref bK)])) _
    refine XS.iload X21.here hx rfl (hb hby at_205) rfl ?_
    show Steps p.tables e below (T21.setTop (mkF m 207 #[.val (.int p1), .val (.long p2), .second, .val (.int p3), .val (.int p4), .val (.int (Int32.ofNat n)), .val (.int (Int32.ofNat a)), .val (.int (p4.toInt8.toInt32)), .val (.ref bK)] [(.int (Int32.ofNat n)), (.int (Int32.ofNat a)), (.int (5 : Int32)), (.ref bK)])) _
    refine XS.lloadN X21.here hx rfl (hb hby at_207) rfl ?_
    show Steps p.tables e below (T21.setTop (mkF m 208 #[.val (.int p1), .val (.long p2), .second, .val (.int p3), .val (.int p4), .val (.int (Int32.ofNat n)), .val (.int (Int32.ofNat a)), .val (.int (p4.toInt8.toInt32)), .val (.ref bK)] [(.long p2), (.int (Int32.ofNat n)), (.int (Int32.ofNat a)), (.int (5 : Int32)), (.ref bK)])) _
    refine XS.iload X21.here hx rfl (hb hby at_208) rfl ?_
    show Steps p.tables e below (T21.setTop (mkF m 210 #[.val (.int p1), .val (.long p2), .second, .val (.int p3), .val (.int p4), .val (.int (Int32.ofNat n)), .val (.int (Int32.ofNat a)), .val (.int (p4.toInt8.toInt32)), .val (.ref bK)] [(.int (p4.toInt8.toInt32)), (.long p2), (.int (Int32.ofNat n)), (.int (Int32.ofNat a)), (.int (5 : Int32)), (.ref bK)])) _
    exact k
  obtain ⟨_, _, ⟨T22, L22, k22, n22⟩, -, X22, ⟨Lc22, hQ22, l22, y22, z22⟩, st22⟩ := Jvm.LawKit.callS X21 hx (y := (⟨"com/example/holdfast/holdfast/store/rocksdb/BigEndianWritePinLaw", "cell", "([BIIIJB)Z"⟩ : MethodName)) hown (mvT hZ (hw _ (List.mem_of_getElem? (i := 6) rfl))) (mvT hZ (hw _ (List.mem_of_getElem? (i := 7) rfl))) (mvT hZ (hw _ (List.mem_of_getElem? (i := 8) rfl))) (mvT hZ (hw _ (List.mem_of_getElem? (i := 9) rfl))) (by decide) (backOf (W := 0) (rm2 l Z a0 hw [] bK (own_wr (fun _ => (p4.toInt8.toInt32)) a p2 n n) 5 a n p2 (p4.toInt8.toInt32) T21.heap n0 Zq (by decide) (by omega) GW own_inn own_out) hZ (hw _ (List.mem_of_getElem? (i := 9) rfl)) (hw _ (List.mem_of_getElem? (i := 8) rfl)) (by decide) (by decide)) (g := (mkF m 210 #[.val (.int p1), .val (.long p2), .second, .val (.int p3), .val (.int p4), .val (.int (Int32.ofNat n)), .val (.int (Int32.ofNat a)), .val (.int (p4.toInt8.toInt32)), .val (.ref bK)] [(.int (p4.toInt8.toInt32)), (.long p2), (.int (Int32.ofNat n)), (.int (Int32.ofNat a)), (.int (5 : Int32)), (.ref bK)])) rfl (by rw [hml]; rfl) (argsL := [(.ref bK), (.int (5 : Int32)), (.int (Int32.ofNat a)), (.int (Int32.ofNat n)), (.long p2), (.int (p4.toInt8.toInt32))]) (rest := []) (lenOf pd__ABIIIJB_Z rfl) rfl (by show 2 * 0 + _ ≤ _; exact Nat.le_of_eq rfl) (hb hby at_210) (fun _ _ => ⟨rfl, rfl, (by decide : 1 + 0 ≤ _), (by decide : 12 + 0 ≤ _)⟩)
  dsimp only [Pt.U, Pt.locs, Pt.cells, Pt.slots] at X22 l22 y22 z22 st22 hQ22
  subst l22 y22 z22
  obtain ⟨rfl, N22q, e22⟩ := hQ22
  have N22 := Fr.app N21 N22q
  rw [← e22] at Zq GW
  have r22 : ∀ t, Steps p.tables e below (T22.setTop (mkF m 213 #[.val (.int p1), .val (.long p2), .second, .val (.int p3), .val (.int p4), .val (.int (Int32.ofNat n)), .val (.int (Int32.ofNat a)), .val (.int (p4.toInt8.toInt32)), .val (.ref bK)] [(.int (1 : Int32))])) t → Steps p.tables e below (s₁.setTop (mkF m 0 #[.val (.int p1), .val (.long p2), .second, .val (.int p3), .val (.int p4), .unset, .unset, .unset, .unset] [])) t := fun t k => r21 t (s21 t (st22 _  k))
  have s22 : ∀ t, Steps p.tables e below (T22.setTop (mkF m 227 #[.val (.int p1), .val (.long p2), .second, .val (.int p3), .val (.int p4), .val (.int (Int32.ofNat n)), .val (.int (Int32.ofNat a)), .val (.int (p4.toInt8.toInt32)), .val (.ref bK)] [(.int (p4.toInt8.toInt32)), (.long p2), (.int (Int32.ofNat n)), (.int (Int32.ofNat a)), (.int (6 : Int32)), (.ref bK)])) t → Steps p.tables e below (T22.setTop (mkF m 213 #[.val (.int p1), .val (.long p2), .second, .val (.int p3), .val (.int p4), .val (.int (Int32.ofNat n)), .val (.int (Int32.ofNat a)), .val (.int (p4.toInt8.toInt32)), .val (.ref bK)] [(.int (1 : Int32))])) t := by
    intro t k
    show Steps p.tables e below (T22.setTop (mkF m 213 #[.val (.int p1), .val (.long p2), .second, .val (.int p3), .val (.int p4), .val (.int (Int32.ofNat n)), .val (.int (Int32.ofNat a)), .val (.int (p4.toInt8.toInt32)), .val (.ref bK)] [(.int (1 : Int32))])) _
    refine XS.ifNo X22.here hx rfl (hb hby at_213) rfl (XT.i0_eq_f (by decide)) ?_
    show Steps p.tables e below (T22.setTop (mkF m 216 #[.val (.int p1), .val (.long p2), .second, .val (.int p3), .val (.int p4), .val (.int (Int32.ofNat n)), .val (.int (Int32.ofNat a)), .val (.int (p4.toInt8.toInt32)), .val (.ref bK)] [])) _
    refine XS.aload X22.here hx rfl (hb hby at_216) rfl rfl ?_
    show Steps p.tables e below (T22.setTop (mkF m 218 #[.val (.int p1), .val (.long p2), .second, .val (.int p3), .val (.int p4), .val (.int (Int32.ofNat n)), .val (.int (Int32.ofNat a)), .val (.int (p4.toInt8.toInt32)), .val (.ref bK)] [(.ref bK)])) _
    refine XS.bipush X22.here hx rfl (hb hby at_218) ?_
    show Steps p.tables e below (T22.setTop (mkF m 220 #[.val (.int p1), .val (.long p2), .second, .val (.int p3), .val (.int p4), .val (.int (Int32.ofNat n)), .val (.int (Int32.ofNat a)), .val (.int (p4.toInt8.toInt32)), .val (.ref bK)] [(.int (6 : Int32)), (.ref bK)])) _
    refine XS.iload X22.here hx rfl (hb hby at_220) rfl ?_
    show Steps p.tables e below (T22.setTop (mkF m 222 #[.val (.int p1), .val (.long p2), .second, .val (.int p3), .val (.int p4), .val (.int (Int32.ofNat n)), .val (.int (Int32.ofNat a)), .val (.int (p4.toInt8.toInt32)), .val (.ref bK)] [(.int (Int32.ofNat a)), (.int (6 : Int32)), (.ref bK)])) _
    refine XS.iload X22.here hx rfl (hb hby at_222) rfl ?_
    show Steps p.tables e below (T22.setTop (mkF m 224 #[.val (.int p1), .val (.long p2), .second, .val (.int p3), .val (.int p4), .val (.int (Int32.ofNat n)), .val (.int (Int32.ofNat a)), .val (.int (p4.toInt8.toInt32)), .val (.ref bK)] [(.int (Int32.ofNat n)), (.int (Int32.ofNat a)), (.int (6 : Int32)), (.ref bK)])) _
    refine XS.lloadN X22.here hx rfl (hb hby at_224) rfl ?_
    show Steps p.tables e below (T22.setTop (mkF m 225 #[.val (.int p1), .val (.long p2), .second, .val (.int p3), .val (.int p4), .val (.int (Int32.ofNat n)), .val (.int (Int32.ofNat a)), .val (.int (p4.toInt8.toInt32)), .val (.ref bK)] [(.long p2), (.int (Int32.ofNat n)), (.int (Int32.ofNat a)), (.int (6 : Int32)), (.ref bK)])) _
    refine XS.iload X22.here hx rfl (hb hby at_225) rfl ?_
    show Steps p.tables e below (T22.setTop (mkF m 227 #[.val (.int p1), .val (.long p2), .second, .val (.int p3), .val (.int p4), .val (.int (Int32.ofNat n)), .val (.int (Int32.ofNat a)), .val (.int (p4.toInt8.toInt32)), .val (.ref bK)] [(.int (p4.toInt8.toInt32)), (.long p2), (.int (Int32.ofNat n)), (.int (Int32.ofNat a)), (.int (6 : Int32)), (.ref bK)])) _
    exact k
  obtain ⟨_, _, ⟨T23, L23, k23, n23⟩, -, X23, ⟨Lc23, hQ23, l23, y23, z23⟩, st23⟩ := Jvm.LawKit.callS X22 hx (y := (⟨"com/example/holdfast/holdfast/store/rocksdb/BigEndianWritePinLaw", "cell", "([BIIIJB)Z"⟩ : MethodName)) hown (mvT hZ (hw _ (List.mem_of_getElem? (i := 6) rfl))) (mvT hZ (hw _ (List.mem_of_getElem? (i := 7) rfl))) (mvT hZ (hw _ (List.mem_of_getElem? (i := 8) rfl))) (mvT hZ (hw _ (List.mem_of_getElem? (i := 9) rfl))) (by decide) (backOf (W := 0) (rm2 l Z a0 hw [] bK (own_wr (fun _ => (p4.toInt8.toInt32)) a p2 n n) 6 a n p2 (p4.toInt8.toInt32) T22.heap n0 Zq (by decide) (by omega) GW own_inn own_out) hZ (hw _ (List.mem_of_getElem? (i := 9) rfl)) (hw _ (List.mem_of_getElem? (i := 8) rfl)) (by decide) (by decide)) (g := (mkF m 227 #[.val (.int p1), .val (.long p2), .second, .val (.int p3), .val (.int p4), .val (.int (Int32.ofNat n)), .val (.int (Int32.ofNat a)), .val (.int (p4.toInt8.toInt32)), .val (.ref bK)] [(.int (p4.toInt8.toInt32)), (.long p2), (.int (Int32.ofNat n)), (.int (Int32.ofNat a)), (.int (6 : Int32)), (.ref bK)])) rfl (by rw [hml]; rfl) (argsL := [(.ref bK), (.int (6 : Int32)), (.int (Int32.ofNat a)), (.int (Int32.ofNat n)), (.long p2), (.int (p4.toInt8.toInt32))]) (rest := []) (lenOf pd__ABIIIJB_Z rfl) rfl (by show 2 * 0 + _ ≤ _; exact Nat.le_of_eq rfl) (hb hby at_227) (fun _ _ => ⟨rfl, rfl, (by decide : 1 + 0 ≤ _), (by decide : 12 + 0 ≤ _)⟩)
  dsimp only [Pt.U, Pt.locs, Pt.cells, Pt.slots] at X23 l23 y23 z23 st23 hQ23
  subst l23 y23 z23
  obtain ⟨rfl, N23q, e23⟩ := hQ23
  have N23 := Fr.app N22 N23q
  rw [← e23] at Zq GW
  have r23 : ∀ t, Steps p.tables e below (T23.setTop (mkF m 230 #[.val (.int p1), .val (.long p2), .second, .val (.int p3), .val (.int p4), .val (.int (Int32.ofNat n)), .val (.int (Int32.ofNat a)), .val (.int (p4.toInt8.toInt32)), .val (.ref bK)] [(.int (1 : Int32))])) t → Steps p.tables e below (s₁.setTop (mkF m 0 #[.val (.int p1), .val (.long p2), .second, .val (.int p3), .val (.int p4), .unset, .unset, .unset, .unset] [])) t := fun t k => r22 t (s22 t (st23 _  k))
  have s23 : ∀ t, Steps p.tables e below (T23.setTop (mkF m 244 #[.val (.int p1), .val (.long p2), .second, .val (.int p3), .val (.int p4), .val (.int (Int32.ofNat n)), .val (.int (Int32.ofNat a)), .val (.int (p4.toInt8.toInt32)), .val (.ref bK)] [(.int (p4.toInt8.toInt32)), (.long p2), (.int (Int32.ofNat n)), (.int (Int32.ofNat a)), (.int (7 : Int32)), (.ref bK)])) t → Steps p.tables e below (T23.setTop (mkF m 230 #[.val (.int p1), .val (.long p2), .second, .val (.int p3), .val (.int p4), .val (.int (Int32.ofNat n)), .val (.int (Int32.ofNat a)), .val (.int (p4.toInt8.toInt32)), .val (.ref bK)] [(.int (1 : Int32))])) t := by
    intro t k
    show Steps p.tables e below (T23.setTop (mkF m 230 #[.val (.int p1), .val (.long p2), .second, .val (.int p3), .val (.int p4), .val (.int (Int32.ofNat n)), .val (.int (Int32.ofNat a)), .val (.int (p4.toInt8.toInt32)), .val (.ref bK)] [(.int (1 : Int32))])) _
    refine XS.ifNo X23.here hx rfl (hb hby at_230) rfl (XT.i0_eq_f (by decide)) ?_
    show Steps p.tables e below (T23.setTop (mkF m 233 #[.val (.int p1), .val (.long p2), .second, .val (.int p3), .val (.int p4), .val (.int (Int32.ofNat n)), .val (.int (Int32.ofNat a)), .val (.int (p4.toInt8.toInt32)), .val (.ref bK)] [])) _
    refine XS.aload X23.here hx rfl (hb hby at_233) rfl rfl ?_
    show Steps p.tables e below (T23.setTop (mkF m 235 #[.val (.int p1), .val (.long p2), .second, .val (.int p3), .val (.int p4), .val (.int (Int32.ofNat n)), .val (.int (Int32.ofNat a)), .val (.int (p4.toInt8.toInt32)), .val (.ref bK)] [(.ref bK)])) _
    refine XS.bipush X23.here hx rfl (hb hby at_235) ?_
    show Steps p.tables e below (T23.setTop (mkF m 237 #[.val (.int p1), .val (.long p2), .second, .val (.int p3), .val (.int p4), .val (.int (Int32.ofNat n)), .val (.int (Int32.ofNat a)), .val (.int (p4.toInt8.toInt32)), .val (.ref bK)] [(.int (7 : Int32)), (.ref bK)])) _
    refine XS.iload X23.here hx rfl (hb hby at_237) rfl ?_
    show Steps p.tables e below (T23.setTop (mkF m 239 #[.val (.int p1), .val (.long p2), .second, .val (.int p3), .val (.int p4), .val (.int (Int32.ofNat n)), .val (.int (Int32.ofNat a)), .val (.int (p4.toInt8.toInt32)), .val (.ref bK)] [(.int (Int32.ofNat a)), (.int (7 : Int32)), (.ref bK)])) _
    refine XS.iload X23.here hx rfl (hb hby at_239) rfl ?_
    show Steps p.tables e below (T23.setTop (mkF m 241 #[.val (.int p1), .val (.long p2), .second, .val (.int p3), .val (.int p4), .val (.int (Int32.ofNat n)), .val (.int (Int32.ofNat a)), .val (.int (p4.toInt8.toInt32)), .val (.ref bK)] [(.int (Int32.ofNat n)), (.int (Int32.ofNat a)), (.int (7 : Int32)), (.ref bK)])) _
    refine XS.lloadN X23.here hx rfl (hb hby at_241) rfl ?_
    show Steps p.tables e below (T23.setTop (mkF m 242 #[.val (.int p1), .val (.long p2), .second, .val (.int p3), .val (.int p4), .val (.int (Int32.ofNat n)), .val (.int (Int32.ofNat a)), .val (.int (p4.toInt8.toInt32)), .val (.ref bK)] [(.long p2), (.int (Int32.ofNat n)), (.int (Int32.ofNat a)), (.int (7 : Int32)), (.ref bK)])) _
    refine XS.iload X23.here hx rfl (hb hby at_242) rfl ?_
    show Steps p.tables e below (T23.setTop (mkF m 244 #[.val (.int p1), .val (.long p2), .second, .val (.int p3), .val (.int p4), .val (.int (Int32.ofNat n)), .val (.int (Int32.ofNat a)), .val (.int (p4.toInt8.toInt32)), .val (.ref bK)] [(.int (p4.toInt8.toInt32)), (.long p2), (.int (Int32.ofNat n)), (.int (Int32.ofNat a)), (.int (7 : Int32)), (.ref bK)])) _
    exact k
  obtain ⟨_, _, ⟨T24, L24, k24, n24⟩, -, X24, ⟨Lc24, hQ24, l24, y24, z24⟩, st24⟩ := Jvm.LawKit.callS X23 hx (y := (⟨"com/example/holdfast/holdfast/store/rocksdb/BigEndianWritePinLaw", "cell", "([BIIIJB)Z"⟩ : MethodName)) hown (mvT hZ (hw _ (List.mem_of_getElem? (i := 6) rfl))) (mvT hZ (hw _ (List.mem_of_getElem? (i := 7) rfl))) (mvT hZ (hw _ (List.mem_of_getElem? (i := 8) rfl))) (mvT hZ (hw _ (List.mem_of_getElem? (i := 9) rfl))) (by decide) (backOf (W := 0) (rm2 l Z a0 hw [] bK (own_wr (fun _ => (p4.toInt8.toInt32)) a p2 n n) 7 a n p2 (p4.toInt8.toInt32) T23.heap n0 Zq (by decide) (by omega) GW own_inn own_out) hZ (hw _ (List.mem_of_getElem? (i := 9) rfl)) (hw _ (List.mem_of_getElem? (i := 8) rfl)) (by decide) (by decide)) (g := (mkF m 244 #[.val (.int p1), .val (.long p2), .second, .val (.int p3), .val (.int p4), .val (.int (Int32.ofNat n)), .val (.int (Int32.ofNat a)), .val (.int (p4.toInt8.toInt32)), .val (.ref bK)] [(.int (p4.toInt8.toInt32)), (.long p2), (.int (Int32.ofNat n)), (.int (Int32.ofNat a)), (.int (7 : Int32)), (.ref bK)])) rfl (by rw [hml]; rfl) (argsL := [(.ref bK), (.int (7 : Int32)), (.int (Int32.ofNat a)), (.int (Int32.ofNat n)), (.long p2), (.int (p4.toInt8.toInt32))]) (rest := []) (lenOf pd__ABIIIJB_Z rfl) rfl (by show 2 * 0 + _ ≤ _; exact Nat.le_of_eq rfl) (hb hby at_244) (fun _ _ => ⟨rfl, rfl, (by decide : 1 + 0 ≤ _), (by decide : 12 + 0 ≤ _)⟩)
  dsimp only [Pt.U, Pt.locs, Pt.cells, Pt.slots] at X24 l24 y24 z24 st24 hQ24
  subst l24 y24 z24
  obtain ⟨rfl, N24q, e24⟩ := hQ24
  have N24 := Fr.app N23 N24q
  rw [← e24] at Zq GW
  have r24 : ∀ t, Steps p.tables e below (T24.setTop (mkF m 247 #[.val (.int p1), .val (.long p2), .second, .val (.int p3), .val (.int p4), .val (.int (Int32.ofNat n)), .val (.int (Int32.ofNat a)), .val (.int (p4.toInt8.toInt32)), .val (.ref bK)] [(.int (1 : Int32))])) t → Steps p.tables e below (s₁.setTop (mkF m 0 #[.val (.int p1), .val (.long p2), .second, .val (.int p3), .val (.int p4), .unset, .unset, .unset, .unset] [])) t := fun t k => r23 t (s23 t (st24 _  k))
  have s24 : ∀ t, Steps p.tables e below (T24.setTop (mkF m 261 #[.val (.int p1), .val (.long p2), .second, .val (.int p3), .val (.int p4), .val (.int (Int32.ofNat n)), .val (.int (Int32.ofNat a)), .val (.int (p4.toInt8.toInt32)), .val (.ref bK)] [(.int (p4.toInt8.toInt32)), (.long p2), (.int (Int32.ofNat n)), (.int (Int32.ofNat a)), (.int (8 : Int32)), (.ref bK)])) t → Steps p.tables e below (T24.setTop (mkF m 247 #[.val (.int p1), .val (.long p2), .second, .val (.int p3), .val (.int p4), .val (.int (Int32.ofNat n)), .val (.int (Int32.ofNat a)), .val (.int (p4.toInt8.toInt32)), .val (.ref bK)] [(.int (1 : Int32))])) t := by
    intro t k
    show Steps p.tables e below (T24.setTop (mkF m 247 #[.val (.int p1), .val (.long p2), .second, .val (.int p3), .val (.int p4), .val (.int (Int32.ofNat n)), .val (.int (Int32.ofNat a)), .val (.int (p4.toInt8.toInt32)), .val (.ref bK)] [(.int (1 : Int32))])) _
    refine XS.ifNo X24.here hx rfl (hb hby at_247) rfl (XT.i0_eq_f (by decide)) ?_
    show Steps p.tables e below (T24.setTop (mkF m 250 #[.val (.int p1), .val (.long p2), .second, .val (.int p3), .val (.int p4), .val (.int (Int32.ofNat n)), .val (.int (Int32.ofNat a)), .val (.int (p4.toInt8.toInt32)), .val (.ref bK)] [])) _
    refine XS.aload X24.here hx rfl (hb hby at_250) rfl rfl ?_
    show Steps p.tables e below (T24.setTop (mkF m 252 #[.val (.int p1), .val (.long p2), .second, .val (.int p3), .val (.int p4), .val (.int (Int32.ofNat n)), .val (.int (Int32.ofNat a)), .val (.int (p4.toInt8.toInt32)), .val (.ref bK)] [(.ref bK)])) _
    refine XS.bipush X24.here hx rfl (hb hby at_252) ?_
    show Steps p.tables e below (T24.setTop (mkF m 254 #[.val (.int p1), .val (.long p2), .second, .val (.int p3), .val (.int p4), .val (.int (Int32.ofNat n)), .val (.int (Int32.ofNat a)), .val (.int (p4.toInt8.toInt32)), .val (.ref bK)] [(.int (8 : Int32)), (.ref bK)])) _
    refine XS.iload X24.here hx rfl (hb hby at_254) rfl ?_
    show Steps p.tables e below (T24.setTop (mkF m 256 #[.val (.int p1), .val (.long p2), .second, .val (.int p3), .val (.int p4), .val (.int (Int32.ofNat n)), .val (.int (Int32.ofNat a)), .val (.int (p4.toInt8.toInt32)), .val (.ref bK)] [(.int (Int32.ofNat a)), (.int (8 : Int32)), (.ref bK)])) _
    refine XS.iload X24.here hx rfl (hb hby at_256) rfl ?_
    show Steps p.tables e below (T24.setTop (mkF m 258 #[.val (.int p1), .val (.long p2), .second, .val (.int p3), .val (.int p4), .val (.int (Int32.ofNat n)), .val (.int (Int32.ofNat a)), .val (.int (p4.toInt8.toInt32)), .val (.ref bK)] [(.int (Int32.ofNat n)), (.int (Int32.ofNat a)), (.int (8 : Int32)), (.ref bK)])) _
    refine XS.lloadN X24.here hx rfl (hb hby at_258) rfl ?_
    show Steps p.tables e below (T24.setTop (mkF m 259 #[.val (.int p1), .val (.long p2), .second, .val (.int p3), .val (.int p4), .val (.int (Int32.ofNat n)), .val (.int (Int32.ofNat a)), .val (.int (p4.toInt8.toInt32)), .val (.ref bK)] [(.long p2), (.int (Int32.ofNat n)), (.int (Int32.ofNat a)), (.int (8 : Int32)), (.ref bK)])) _
    refine XS.iload X24.here hx rfl (hb hby at_259) rfl ?_
    show Steps p.tables e below (T24.setTop (mkF m 261 #[.val (.int p1), .val (.long p2), .second, .val (.int p3), .val (.int p4), .val (.int (Int32.ofNat n)), .val (.int (Int32.ofNat a)), .val (.int (p4.toInt8.toInt32)), .val (.ref bK)] [(.int (p4.toInt8.toInt32)), (.long p2), (.int (Int32.ofNat n)), (.int (Int32.ofNat a)), (.int (8 : Int32)), (.ref bK)])) _
    exact k
  obtain ⟨_, _, ⟨T25, L25, k25, n25⟩, -, X25, ⟨Lc25, hQ25, l25, y25, z25⟩, st25⟩ := Jvm.LawKit.callS X24 hx (y := (⟨"com/example/holdfast/holdfast/store/rocksdb/BigEndianWritePinLaw", "cell", "([BIIIJB)Z"⟩ : MethodName)) hown (mvT hZ (hw _ (List.mem_of_getElem? (i := 6) rfl))) (mvT hZ (hw _ (List.mem_of_getElem? (i := 7) rfl))) (mvT hZ (hw _ (List.mem_of_getElem? (i := 8) rfl))) (mvT hZ (hw _ (List.mem_of_getElem? (i := 9) rfl))) (by decide) (backOf (W := 0) (rm2 l Z a0 hw [] bK (own_wr (fun _ => (p4.toInt8.toInt32)) a p2 n n) 8 a n p2 (p4.toInt8.toInt32) T24.heap n0 Zq (by decide) (by omega) GW own_inn own_out) hZ (hw _ (List.mem_of_getElem? (i := 9) rfl)) (hw _ (List.mem_of_getElem? (i := 8) rfl)) (by decide) (by decide)) (g := (mkF m 261 #[.val (.int p1), .val (.long p2), .second, .val (.int p3), .val (.int p4), .val (.int (Int32.ofNat n)), .val (.int (Int32.ofNat a)), .val (.int (p4.toInt8.toInt32)), .val (.ref bK)] [(.int (p4.toInt8.toInt32)), (.long p2), (.int (Int32.ofNat n)), (.int (Int32.ofNat a)), (.int (8 : Int32)), (.ref bK)])) rfl (by rw [hml]; rfl) (argsL := [(.ref bK), (.int (8 : Int32)), (.int (Int32.ofNat a)), (.int (Int32.ofNat n)), (.long p2), (.int (p4.toInt8.toInt32))]) (rest := []) (lenOf pd__ABIIIJB_Z rfl) rfl (by show 2 * 0 + _ ≤ _; exact Nat.le_of_eq rfl) (hb hby at_261) (fun _ _ => ⟨rfl, rfl, (by decide : 1 + 0 ≤ _), (by decide : 12 + 0 ≤ _)⟩)
  dsimp only [Pt.U, Pt.locs, Pt.cells, Pt.slots] at X25 l25 y25 z25 st25 hQ25
  subst l25 y25 z25
  obtain ⟨rfl, N25q, e25⟩ := hQ25
  have N25 := Fr.app N24 N25q
  rw [← e25] at Zq GW
  have r25 : ∀ t, Steps p.tables e below (T25.setTop (mkF m 264 #[.val (.int p1), .val (.long p2), .second, .val (.int p3), .val (.int p4), .val (.int (Int32.ofNat n)), .val (.int (Int32.ofNat a)), .val (.int (p4.toInt8.toInt32)), .val (.ref bK)] [(.int (1 : Int32))])) t → Steps p.tables e below (s₁.setTop (mkF m 0 #[.val (.int p1), .val (.long p2), .second, .val (.int p3), .val (.int p4), .unset, .unset, .unset, .unset] [])) t := fun t k => r24 t (s24 t (st25 _  k))
  have s25 : ∀ t, Steps p.tables e below (T25.setTop (mkF m 278 #[.val (.int p1), .val (.long p2), .second, .val (.int p3), .val (.int p4), .val (.int (Int32.ofNat n)), .val (.int (Int32.ofNat a)), .val (.int (p4.toInt8.toInt32)), .val (.ref bK)] [(.int (p4.toInt8.toInt32)), (.long p2), (.int (Int32.ofNat n)), (.int (Int32.ofNat a)), (.int (9 : Int32)), (.ref bK)])) t → Steps p.tables e below (T25.setTop (mkF m 264 #[.val (.int p1), .val (.long p2), .second, .val (.int p3), .val (.int p4), .val (.int (Int32.ofNat n)), .val (.int (Int32.ofNat a)), .val (.int (p4.toInt8.toInt32)), .val (.ref bK)] [(.int (1 : Int32))])) t := by
    intro t k
    show Steps p.tables e below (T25.setTop (mkF m 264 #[.val (.int p1), .val (.long p2), .second, .val (.int p3), .val (.int p4), .val (.int (Int32.ofNat n)), .val (.int (Int32.ofNat a)), .val (.int (p4.toInt8.toInt32)), .val (.ref bK)] [(.int (1 : Int32))])) _
    refine XS.ifNo X25.here hx rfl (hb hby at_264) rfl (XT.i0_eq_f (by decide)) ?_
    show Steps p.tables e below (T25.setTop (mkF m 267 #[.val (.int p1), .val (.long p2), .second, .val (.int p3), .val (.int p4), .val (.int (Int32.ofNat n)), .val (.int (Int32.ofNat a)), .val (.int (p4.toInt8.toInt32)), .val (.ref bK)] [])) _
    refine XS.aload X25.here hx rfl (hb hby at_267) rfl rfl ?_
    show Steps p.tables e below (T25.setTop (mkF m 269 #[.val (.int p1), .val (.long p2), .second, .val (.int p3), .val (.int p4), .val (.int (Int32.ofNat n)), .val (.int (Int32.ofNat a)), .val (.int (p4.toInt8.toInt32)), .val (.ref bK)] [(.ref bK)])) _
    refine XS.bipush X25.here hx rfl (hb hby at_269) ?_
    show Steps p.tables e below (T25.setTop (mkF m 271 #[.val (.int p1), .val (.long p2), .second, .val (.int p3), .val (.int p4), .val (.int (Int32.ofNat n)), .val (.int (Int32.ofNat a)), .val (.int (p4.toInt8.toInt32)), .val (.ref bK)] [(.int (9 : Int32)), (.ref bK)])) _
    refine XS.iload X25.here hx rfl (hb hby at_271) rfl ?_
    show Steps p.tables e below (T25.setTop (mkF m 273 #[.val (.int p1), .val (.long p2), .second, .val (.int p3), .val (.int p4), .val (.int (Int32.ofNat n)), .val (.int (Int32.ofNat a)), .val (.int (p4.toInt8.toInt32)), .val (.ref bK)] [(.int (Int32.ofNat a)), (.int (9 : Int32)), (.ref bK)])) _
    refine XS.iload X25.here hx rfl (hb hby at_273) rfl ?_
    show Steps p.tables e below (T25.setTop (mkF m 275 #[.val (.int p1), .val (.long p2), .second, .val (.int p3), .val (.int p4), .val (.int (Int32.ofNat n)), .val (.int (Int32.ofNat a)), .val (.int (p4.toInt8.toInt32)), .val (.ref bK)] [(.int (Int32.ofNat n)), (.int (Int32.ofNat a)), (.int (9 : Int32)), (.ref bK)])) _
    refine XS.lloadN X25.here hx rfl (hb hby at_275) rfl ?_
    show Steps p.tables e below (T25.setTop (mkF m 276 #[.val (.int p1), .val (.long p2), .second, .val (.int p3), .val (.int p4), .val (.int (Int32.ofNat n)), .val (.int (Int32.ofNat a)), .val (.int (p4.toInt8.toInt32)), .val (.ref bK)] [(.long p2), (.int (Int32.ofNat n)), (.int (Int32.ofNat a)), (.int (9 : Int32)), (.ref bK)])) _
    refine XS.iload X25.here hx rfl (hb hby at_276) rfl ?_
    show Steps p.tables e below (T25.setTop (mkF m 278 #[.val (.int p1), .val (.long p2), .second, .val (.int p3), .val (.int p4), .val (.int (Int32.ofNat n)), .val (.int (Int32.ofNat a)), .val (.int (p4.toInt8.toInt32)), .val (.ref bK)] [(.int (p4.toInt8.toInt32)), (.long p2), (.int (Int32.ofNat n)), (.int (Int32.ofNat a)), (.int (9 : Int32)), (.ref bK)])) _
    exact k
  obtain ⟨_, _, ⟨T26, L26, k26, n26⟩, -, X26, ⟨Lc26, hQ26, l26, y26, z26⟩, st26⟩ := Jvm.LawKit.callS X25 hx (y := (⟨"com/example/holdfast/holdfast/store/rocksdb/BigEndianWritePinLaw", "cell", "([BIIIJB)Z"⟩ : MethodName)) hown (mvT hZ (hw _ (List.mem_of_getElem? (i := 6) rfl))) (mvT hZ (hw _ (List.mem_of_getElem? (i := 7) rfl))) (mvT hZ (hw _ (List.mem_of_getElem? (i := 8) rfl))) (mvT hZ (hw _ (List.mem_of_getElem? (i := 9) rfl))) (by decide) (backOf (W := 0) (rm2 l Z a0 hw [] bK (own_wr (fun _ => (p4.toInt8.toInt32)) a p2 n n) 9 a n p2 (p4.toInt8.toInt32) T25.heap n0 Zq (by decide) (by omega) GW own_inn own_out) hZ (hw _ (List.mem_of_getElem? (i := 9) rfl)) (hw _ (List.mem_of_getElem? (i := 8) rfl)) (by decide) (by decide)) (g := (mkF m 278 #[.val (.int p1), .val (.long p2), .second, .val (.int p3), .val (.int p4), .val (.int (Int32.ofNat n)), .val (.int (Int32.ofNat a)), .val (.int (p4.toInt8.toInt32)), .val (.ref bK)] [(.int (p4.toInt8.toInt32)), (.long p2), (.int (Int32.ofNat n)), (.int (Int32.ofNat a)), (.int (9 : Int32)), (.ref bK)])) rfl (by rw [hml]; rfl) (argsL := [(.ref bK), (.int (9 : Int32)), (.int (Int32.ofNat a)), (.int (Int32.ofNat n)), (.long p2), (.int (p4.toInt8.toInt32))]) (rest := []) (lenOf pd__ABIIIJB_Z rfl) rfl (by show 2 * 0 + _ ≤ _; exact Nat.le_of_eq rfl) (hb hby at_278) (fun _ _ => ⟨rfl, rfl, (by decide : 1 + 0 ≤ _), (by decide : 12 + 0 ≤ _)⟩)
  dsimp only [Pt.U, Pt.locs, Pt.cells, Pt.slots] at X26 l26 y26 z26 st26 hQ26
  subst l26 y26 z26
  obtain ⟨rfl, N26q, e26⟩ := hQ26
  have N26 := Fr.app N25 N26q
  rw [← e26] at Zq GW
  have r26 : ∀ t, Steps p.tables e below (T26.setTop (mkF m 281 #[.val (.int p1), .val (.long p2), .second, .val (.int p3), .val (.int p4), .val (.int (Int32.ofNat n)), .val (.int (Int32.ofNat a)), .val (.int (p4.toInt8.toInt32)), .val (.ref bK)] [(.int (1 : Int32))])) t → Steps p.tables e below (s₁.setTop (mkF m 0 #[.val (.int p1), .val (.long p2), .second, .val (.int p3), .val (.int p4), .unset, .unset, .unset, .unset] [])) t := fun t k => r25 t (s25 t (st26 _  k))
  have s26 : ∀ t, Steps p.tables e below (T26.setTop (mkF m 295 #[.val (.int p1), .val (.long p2), .second, .val (.int p3), .val (.int p4), .val (.int (Int32.ofNat n)), .val (.int (Int32.ofNat a)), .val (.int (p4.toInt8.toInt32)), .val (.ref bK)] [(.int (p4.toInt8.toInt32)), (.long p2), (.int (Int32.ofNat n)), (.int (Int32.ofNat a)), (.int (10 : Int32)), (.ref bK)])) t → Steps p.tables e below (T26.setTop (mkF m 281 #[.val (.int p1), .val (.long p2), .second, .val (.int p3), .val (.int p4), .val (.int (Int32.ofNat n)), .val (.int (Int32.ofNat a)), .val (.int (p4.toInt8.toInt32)), .val (.ref bK)] [(.int (1 : Int32))])) t := by
    intro t k
    show Steps p.tables e below (T26.setTop (mkF m 281 #[.val (.int p1), .val (.long p2), .second, .val (.int p3), .val (.int p4), .val (.int (Int32.ofNat n)), .val (.int (Int32.ofNat a)), .val (.int (p4.toInt8.toInt32)), .val (.ref bK)] [(.int (1 : Int32))])) _
    refine XS.ifNo X26.here hx rfl (hb hby at_281) rfl (XT.i0_eq_f (by decide)) ?_
    show Steps p.tables e below (T26.setTop (mkF m 284 #[.val (.int p1), .val (.long p2), .second, .val (.int p3), .val (.int p4), .val (.int (Int32.ofNat n)), .val (.int (Int32.ofNat a)), .val (.int (p4.toInt8.toInt32)), .val (.ref bK)] [])) _
    refine XS.aload X26.here hx rfl (hb hby at_284) rfl rfl ?_
    show Steps p.tables e below (T26.setTop (mkF m 286 #[.val (.int p1), .val (.long p2), .second, .val (.int p3), .val (.int p4), .val (.int (Int32.ofNat n)), .val (.int (Int32.ofNat a)), .val (.int (p4.toInt8.toInt32)), .val (.ref bK)] [(.ref bK)])) _
    refine XS.bipush X26.here hx rfl (hb hby at_286) ?_
    show Steps p.tables e below (T26.setTop (mkF m 288 #[.val (.int p1), .val (.long p2), .second, .val (.int p3), .val (.int p4), .val (.int (Int32.ofNat n)), .val (.int (Int32.ofNat a)), .val (.int (p4.toInt8.toInt32)), .val (.ref bK)] [(.int (10 : Int32)), (.ref bK)])) _
    refine XS.iload X26.here hx rfl (hb hby at_288) rfl ?_
    show Steps p.tables e below (T26.setTop (mkF m 290 #[.val (.int p1), .val (.long p2), .second, .val (.int p3), .val (.int p4), .val (.int (Int32.ofNat n)), .val (.int (Int32.ofNat a)), .val (.int (p4.toInt8.toInt32)), .val (.ref bK)] [(.int (Int32.ofNat a)), (.int (10 : Int32)), (.ref bK)])) _
    refine XS.iload X26.here hx rfl (hb hby at_290) rfl ?_
    show Steps p.tables e below (T26.setTop (mkF m 292 #[.val (.int p1), .val (.long p2), .second, .val (.int p3), .val (.int p4), .val (.int (Int32.ofNat n)), .val (.int (Int32.ofNat a)), .val (.int (p4.toInt8.toInt32)), .val (.ref bK)] [(.int (Int32.ofNat n)), (.int (Int32.ofNat a)), (.int (10 : Int32)), (.ref bK)])) _
    refine XS.lloadN X26.here hx rfl (hb hby at_292) rfl ?_
    show Steps p.tables e below (T26.setTop (mkF m 293 #[.val (.int p1), .val (.long p2), .second, .val (.int p3), .val (.int p4), .val (.int (Int32.ofNat n)), .val (.int (Int32.ofNat a)), .val (.int (p4.toInt8.toInt32)), .val (.ref bK)] [(.long p2), (.int (Int32.ofNat n)), (.int (Int32.ofNat a)), (.int (10 : Int32)), (.ref bK)])) _
    refine XS.iload X26.here hx rfl (hb hby at_293) rfl ?_
    show Steps p.tables e below (T26.setTop (mkF m 295 #[.val (.int p1), .val (.long p2), .second, .val (.int p3), .val (.int p4), .val (.int (Int32.ofNat n)), .val (.int (Int32.ofNat a)), .val (.int (p4.toInt8.toInt32)), .val (.ref bK)] [(.int (p4.toInt8.toInt32)), (.long p2), (.int (Int32.ofNat n)), (.int (Int32.ofNat a)), (.int (10 : Int32)), (.ref bK)])) _
    exact k
  obtain ⟨_, _, ⟨T27, L27, k27, n27⟩, -, X27, ⟨Lc27, hQ27, l27, y27, z27⟩, st27⟩ := Jvm.LawKit.callS X26 hx (y := (⟨"com/example/holdfast/holdfast/store/rocksdb/BigEndianWritePinLaw", "cell", "([BIIIJB)Z"⟩ : MethodName)) hown (mvT hZ (hw _ (List.mem_of_getElem? (i := 6) rfl))) (mvT hZ (hw _ (List.mem_of_getElem? (i := 7) rfl))) (mvT hZ (hw _ (List.mem_of_getElem? (i := 8) rfl))) (mvT hZ (hw _ (List.mem_of_getElem? (i := 9) rfl))) (by decide) (backOf (W := 0) (rm2 l Z a0 hw [] bK (own_wr (fun _ => (p4.toInt8.toInt32)) a p2 n n) 10 a n p2 (p4.toInt8.toInt32) T26.heap n0 Zq (by decide) (by omega) GW own_inn own_out) hZ (hw _ (List.mem_of_getElem? (i := 9) rfl)) (hw _ (List.mem_of_getElem? (i := 8) rfl)) (by decide) (by decide)) (g := (mkF m 295 #[.val (.int p1), .val (.long p2), .second, .val (.int p3), .val (.int p4), .val (.int (Int32.ofNat n)), .val (.int (Int32.ofNat a)), .val (.int (p4.toInt8.toInt32)), .val (.ref bK)] [(.int (p4.toInt8.toInt32)), (.long p2), (.int (Int32.ofNat n)), (.int (Int32.ofNat a)), (.int (10 : Int32)), (.ref bK)])) rfl (by rw [hml]; rfl) (argsL := [(.ref bK), (.int (10 : Int32)), (.int (Int32.ofNat a)), (.int (Int32.ofNat n)), (.long p2), (.int (p4.toInt8.toInt32))]) (rest := []) (lenOf pd__ABIIIJB_Z rfl) rfl (by show 2 * 0 + _ ≤ _; exact Nat.le_of_eq rfl) (hb hby at_295) (fun _ _ => ⟨rfl, rfl, (by decide : 1 + 0 ≤ _), (by decide : 12 + 0 ≤ _)⟩)
  dsimp only [Pt.U, Pt.locs, Pt.cells, Pt.slots] at X27 l27 y27 z27 st27 hQ27
  subst l27 y27 z27
  obtain ⟨rfl, N27q, e27⟩ := hQ27
  have N27 := Fr.app N26 N27q
  rw [← e27] at Zq GW
  have r27 : ∀ t, Steps p.tables e below (T27.setTop (mkF m 298 #[.val (.int p1), .val (.long p2), .second, .val (.int p3), .val (.int p4), .val (.int (Int32.ofNat n)), .val (.int (Int32.ofNat a)), .val (.int (p4.toInt8.toInt32)), .val (.ref bK)] [(.int (1 : Int32))])) t → Steps p.tables e below (s₁.setTop (mkF m 0 #[.val (.int p1), .val (.long p2), .second, .val (.int p3), .val (.int p4), .unset, .unset, .unset, .unset] [])) t := fun t k => r26 t (s26 t (st27 _  k))
  have s27 : ∀ t, Steps p.tables e below (T27.setTop (mkF m 312 #[.val (.int p1), .val (.long p2), .second, .val (.int p3), .val (.int p4), .val (.int (Int32.ofNat n)), .val (.int (Int32.ofNat a)), .val (.int (p4.toInt8.toInt32)), .val (.ref bK)] [(.int (p4.toInt8.toInt32)), (.long p2), (.int (Int32.ofNat n)), (.int (Int32.ofNat a)), (.int (11 : Int32)), (.ref bK)])) t → Steps p.tables e below (T27.setTop (mkF m 298 #[.val (.int p1), .val (.long p2), .second, .val (.int p3), .val (.int p4), .val (.int (Int32.ofNat n)), .val (.int (Int32.ofNat a)), .val (.int (p4.toInt8.toInt32)), .val (.ref bK)] [(.int (1 : Int32))])) t := by
    intro t k
    show Steps p.tables e below (T27.setTop (mkF m 298 #[.val (.int p1), .val (.long p2), .second, .val (.int p3), .val (.int p4), .val (.int (Int32.ofNat n)), .val (.int (Int32.ofNat a)), .val (.int (p4.toInt8.toInt32)), .val (.ref bK)] [(.int (1 : Int32))])) _
    refine XS.ifNo X27.here hx rfl (hb hby at_298) rfl (XT.i0_eq_f (by decide)) ?_
    show Steps p.tables e below (T27.setTop (mkF m 301 #[.val (.int p1), .val (.long p2), .second, .val (.int p3), .val (.int p4), .val (.int (Int32.ofNat n)), .val (.int (Int32.ofNat a)), .val (.int (p4.toInt8.toInt32)), .val (.ref bK)] [])) _
    refine XS.aload X27.here hx rfl (hb hby at_301) rfl rfl ?_
    show Steps p.tables e below (T27.setTop (mkF m 303 #[.val (.int p1), .val (.long p2), .second, .val (.int p3), .val (.int p4), .val (.int (Int32.ofNat n)), .val (.int (Int32.ofNat a)), .val (.int (p4.toInt8.toInt32)), .val (.ref bK)] [(.ref bK)])) _
    refine XS.bipush X27.here hx rfl (hb hby at_303) ?_
    show Steps p.tables e below (T27.setTop (mkF m 305 #[.val (.int p1), .val (.long p2), .second, .val (.int p3), .val (.int p4), .val (.int (Int32.ofNat n)), .val (.int (Int32.ofNat a)), .val (.int (p4.toInt8.toInt32)), .val (.ref bK)] [(.int (11 : Int32)), (.ref bK)])) _
    refine XS.iload X27.here hx rfl (hb hby at_305) rfl ?_
    show Steps p.tables e below (T27.setTop (mkF m 307 #[.val (.int p1), .val (.long p2), .second, .val (.int p3), .val (.int p4), .val (.int (Int32.ofNat n)), .val (.int (Int32.ofNat a)), .val (.int (p4.toInt8.toInt32)), .val (.ref bK)] [(.int (Int32.ofNat a)), (.int (11 : Int32)), (.ref bK)])) _
    refine XS.iload X27.here hx rfl (hb hby at_307) rfl ?_
    show Steps p.tables e below (T27.setTop (mkF m 309 #[.val (.int p1), .val (.long p2), .second, .val (.int p3), .val (.int p4), .val (.int (Int32.ofNat n)), .val (.int (Int32.ofNat a)), .val (.int (p4.toInt8.toInt32)), .val (.ref bK)] [(.int (Int32.ofNat n)), (.int (Int32.ofNat a)), (.int (11 : Int32)), (.ref bK)])) _
    refine XS.lloadN X27.here hx rfl (hb hby at_309) rfl ?_
    show Steps p.tables e below (T27.setTop (mkF m 310 #[.val (.int p1), .val (.long p2), .second, .val (.int p3), .val (.int p4), .val (.int (Int32.ofNat n)), .val (.int (Int32.ofNat a)), .val (.int (p4.toInt8.toInt32)), .val (.ref bK)] [(.long p2), (.int (Int32.ofNat n)), (.int (Int32.ofNat a)), (.int (11 : Int32)), (.ref bK)])) _
    refine XS.iload X27.here hx rfl (hb hby at_310) rfl ?_
    show Steps p.tables e below (T27.setTop (mkF m 312 #[.val (.int p1), .val (.long p2), .second, .val (.int p3), .val (.int p4), .val (.int (Int32.ofNat n)), .val (.int (Int32.ofNat a)), .val (.int (p4.toInt8.toInt32)), .val (.ref bK)] [(.int (p4.toInt8.toInt32)), (.long p2), (.int (Int32.ofNat n)), (.int (Int32.ofNat a)), (.int (11 : Int32)), (.ref bK)])) _
    exact k
  obtain ⟨_, _, ⟨T28, L28, k28, n28⟩, -, X28, ⟨Lc28, hQ28, l28, y28, z28⟩, st28⟩ := Jvm.LawKit.callS X27 hx (y := (⟨"com/example/holdfast/holdfast/store/rocksdb/BigEndianWritePinLaw", "cell", "([BIIIJB)Z"⟩ : MethodName)) hown (mvT hZ (hw _ (List.mem_of_getElem? (i := 6) rfl))) (mvT hZ (hw _ (List.mem_of_getElem? (i := 7) rfl))) (mvT hZ (hw _ (List.mem_of_getElem? (i := 8) rfl))) (mvT hZ (hw _ (List.mem_of_getElem? (i := 9) rfl))) (by decide) (backOf (W := 0) (rm2 l Z a0 hw [] bK (own_wr (fun _ => (p4.toInt8.toInt32)) a p2 n n) 11 a n p2 (p4.toInt8.toInt32) T27.heap n0 Zq (by decide) (by omega) GW own_inn own_out) hZ (hw _ (List.mem_of_getElem? (i := 9) rfl)) (hw _ (List.mem_of_getElem? (i := 8) rfl)) (by decide) (by decide)) (g := (mkF m 312 #[.val (.int p1), .val (.long p2), .second, .val (.int p3), .val (.int p4), .val (.int (Int32.ofNat n)), .val (.int (Int32.ofNat a)), .val (.int (p4.toInt8.toInt32)), .val (.ref bK)] [(.int (p4.toInt8.toInt32)), (.long p2), (.int (Int32.ofNat n)), (.int (Int32.ofNat a)), (.int (11 : Int32)), (.ref bK)])) rfl (by rw [hml]; rfl) (argsL := [(.ref bK), (.int (11 : Int32)), (.int (Int32.ofNat a)), (.int (Int32.ofNat n)), (.long p2), (.int (p4.toInt8.toInt32))]) (rest := []) (lenOf pd__ABIIIJB_Z rfl) rfl (by show 2 * 0 + _ ≤ _; exact Nat.le_of_eq rfl) (hb hby at_312) (fun _ _ => ⟨rfl, rfl, (by decide : 1 + 0 ≤ _), (by decide : 12 + 0 ≤ _)⟩)
  dsimp only [Pt.U, Pt.locs, Pt.cells, Pt.slots] at X28 l28 y28 z28 st28 hQ28
  subst l28 y28 z28
  obtain ⟨rfl, N28q, e28⟩ := hQ28
  have N28 := Fr.app N27 N28q
  rw [← e28] at Zq GW
  have r28 : ∀ t, Steps p.tables e below (T28.setTop (mkF m 315 #[.val (.int p1), .val (.long p2), .second, .val (.int p3), .val (.int p4), .val (.int (Int32.ofNat n)), .val (.int (Int32.ofNat a)), .val (.int (p4.toInt8.toInt32)), .val (.ref bK)] [(.int (1 : Int32))])) t → Steps p.tables e below (s₁.setTop (mkF m 0 #[.val (.int p1), .val (.long p2), .second, .val (.int p3), .val (.int p4), .unset, .unset, .unset, .unset] [])) t := fun t k => r27 t (s27 t (st28 _  k))
  have s28 : ∀ t, Steps p.tables e below (T28.setTop (mkF m 323 #[.val (.int p1), .val (.long p2), .second, .val (.int p3), .val (.int p4), .val (.int (Int32.ofNat n)), .val (.int (Int32.ofNat a)), .val (.int (p4.toInt8.toInt32)), .val (.ref bK)] [(.int (1 : Int32))])) t → Steps p.tables e below (T28.setTop (mkF m 315 #[.val (.int p1), .val (.long p2), .second, .val (.int p3), .val (.int p4), .val (.int (Int32.ofNat n)), .val (.int (Int32.ofNat a)), .val (.int (p4.toInt8.toInt32)), .val (.ref bK)] [(.int (1 : Int32))])) t := by
    intro t k
    show Steps p.tables e below (T28.setTop (mkF m 315 #[.val (.int p1), .val (.long p2), .second, .val (.int p3), .val (.int p4), .val (.int (Int32.ofNat n)), .val (.int (Int32.ofNat a)), .val (.int (p4.toInt8.toInt32)), .val (.ref bK)] [(.int (1 : Int32))])) _
    refine XS.ifNo X28.here hx rfl (hb hby at_315) rfl (XT.i0_eq_f (by decide)) ?_
    show Steps p.tables e below (T28.setTop (mkF m 318 #[.val (.int p1), .val (.long p2), .second, .val (.int p3), .val (.int p4), .val (.int (Int32.ofNat n)), .val (.int (Int32.ofNat a)), .val (.int (p4.toInt8.toInt32)), .val (.ref bK)] [])) _
    refine XS.iconst X28.here hx rfl (hb hby at_318) ?_
    show Steps p.tables e below (T28.setTop (mkF m 319 #[.val (.int p1), .val (.long p2), .second, .val (.int p3), .val (.int p4), .val (.int (Int32.ofNat n)), .val (.int (Int32.ofNat a)), .val (.int (p4.toInt8.toInt32)), .val (.ref bK)] [(.int (1 : Int32))])) _
    refine XS.goto X28.here hx rfl (pc0 := 319) (pc' := 323) rfl (hb hby at_319) (by decide) (by decide) ?_
    show Steps p.tables e below (T28.setTop (mkF m 323 #[.val (.int p1), .val (.long p2), .second, .val (.int p3), .val (.int p4), .val (.int (Int32.ofNat n)), .val (.int (Int32.ofNat a)), .val (.int (p4.toInt8.toInt32)), .val (.ref bK)] [(.int (1 : Int32))])) _
    exact k
  obtain ⟨fs, hr, hrun, hended, hW, hsame⟩ := X28.leave (v := some (.int (1 : Int32))) (fun h => by rw [Bd.returns] at h; cases h)
  refine ⟨_, _, pre0 _ (r28 _ (s28 _ ?_)), hrun, hended, _, _, rfl, ?_, ⟨_, rfl⟩, hW, hsame.mono (by decide) (by decide)⟩
  · exact retN X28 hx (t := .boolean) Bd.returns (by simp) (hb hby at_323) hr
  · exact ⟨rfl, N28⟩
set_option maxRecDepth 65536 in
set_option maxHeartbeats 40000000 in
theorem comes_1 {Post : Tables → Env → Array Value → State → Outcome → State → Prop} (hpost : ∀ tb e args s v u, (limb_1_1.after args s (.returned v) u = true ∧ limb_1_2.after args s (.returned v) u = true ∧ True) → FrameEnd s (.returned v) u (Jvm.fieldLocs frame_1_writes args s ++ Jvm.arrayLocs frame_1_arrays args s ++ Jvm.staticLocs frame_1_statics s) 16 128 → Post tb e args s (.returned v) u) :
    ArmFor flags0 classFile x code maxLocals ret World_1 tables_1 room_1 Calls_1 rest_1 Pre_1 Post := by
  intro l hfl _ _ p e ha hc hk s m args below hf hA hF happ hP
  obtain ⟨hcalls, hrest, hpre⟩ := hP
  obtain ⟨-, -, -, hnamed, -, -, -, hat⟩ := (Spec.applies_iff hf).mp happ
  obtain ⟨hg, hn⟩ := and_e (Cond.before_iff.mp (show (Jvm.Cond.and given_1 narrow_1).before args s = true from hpre))
  obtain ⟨gc, q0⟩ := and_e hg
  obtain ⟨gi0, q1⟩ := and_e q0
  obtain ⟨gi1, q2⟩ := and_e q1
  obtain ⟨gi2, q3⟩ := and_e q2
  obtain ⟨w0, w1, w2, w3, rfl⟩ : ∃ w0 w1 w2 w3 : Value, args = #[w0, w1, w2, w3] := by
    have hs : args.size = 4 := by simpa [Cond.value, given_1] using gc
    obtain ⟨L⟩ := args
    match L, hs with
    | [w0, w1, w2, w3], _ => exact ⟨w0, w1, w2, w3, rfl⟩
  have hw := fun d (hd : d ∈ tables_1) => atoms_spec (ws := Jvm.Cond.code x code maxLocals ret :: tables_1) hat d (List.mem_cons_of_mem _ hd)
  obtain ⟨i0, ei0⟩ := is_v gi0
  obtain rfl : w0 = (.int i0) := Option.some.inj ei0
  obtain ⟨i1, ei1⟩ := isL_v gi1
  obtain rfl : w1 = (.long i1) := Option.some.inj ei1
  obtain ⟨i2, ei2⟩ := is_v gi2
  obtain rfl : w2 = (.int i2) := Option.some.inj ei2
  obtain ⟨i3, ei3⟩ := is_v q3
  obtain rfl : w3 = (.int i3) := Option.some.inj ei3
  obtain ⟨n, o, h1, h2, h3, _, L, rfl, ⟨rfl, N⟩, hq⟩ := rm0 l s _ hw tables_1 i0 i1 i2 i3 s.heap s.heap.size (Nat.le_refl _) p e ha hc hk s m _ below hf ((Spec.applies_iff_loose hf).mp happ).1 ⟨rfl, State.Warmed39.refl s, rfl⟩ trivial
  refine ⟨n, _, h1, h2, h3, hpost _ _ _ _ _ _ ⟨Cond.after_iff.mpr rfl, Cond.after_iff.mpr (eq_i res_at (Term.int_eval (1)) rfl), trivial⟩ ⟨hq.1, hq.2.1, (hq.2.2.sift fun y hy => Or.inr (N y hy)).mono (by decide) (by decide)⟩⟩
theorem main_1_1 : Claimed_1_1 := comes_1 fun _ _ _ _ _ _ h hF => ⟨h.1, hF⟩
theorem main_1_2 : Claimed_1_2 := comes_1 fun _ _ _ _ _ _ h hF => ⟨h.2.1, hF⟩
end Jvm.Pilot.@@N@@
namespace Jvm.Pilot.@@N@@
open Jvm Jvm.ClassFile Sem Op Lib Jvm.Free Jvm.Stand Jvm.Pilot.@@N@@.Jvm.D
/-! MADE BY PROGRAM (witnessworld.py) out of the Statement's table words and the real class files: 9 classes; the members and pool entries that the words name. The judged class is class 1, her method 1. -/
namespace start1
open Jvm.ClassFile
def u (s : String) : CpInfo := .utf8 (stringToUtf16 s)
/-- a pool by its gaps: so many unusable entries, then the entry; so many at the end -/
def gap : Nat → List CpInfo → List CpInfo
  | 0, r => r
  | n + 1, r => .unusable :: gap n r
def poolList (es : List (Nat × CpInfo)) (last : Nat) : List CpInfo := es.foldr (fun e r => gap e.1 (e.2 :: r)) (gap last [])
def pool (es : List (Nat × CpInfo)) (last : Nat) : Array CpInfo := ⟨poolList es last⟩
def fileOf (pool : Array CpInfo) (this : Nat) (attrs : Array Attribute := #[]) (ms : Array MethodInfo := #[]) (fl : Nat := 33) (sup : Nat := 0) (ifs : Array Nat := #[]) (fds : Array FieldInfo := #[]) : ClassFile where
  minorVersion := 0
  majorVersion := 65
  constantPool := pool
  accessFlags := fl
  thisClass := this
  superClass := sup
  interfaces := ifs
  fields := fds
  methods := ms
  attributes := attrs
def plain (name : String) (sup : Option ClassId) : Class where
  name := name
  kind := .ordinary
  loader := none
  accessFlags := 33
  super := sup
  interfaces := #[]
  cf := none
  fields := #[]
  methods := #[]
  instanceTypes := #[]
  staticTypes := #[]
  resolved := #[]
  callSites := []
  init := .initialized
  statics := none
  mirror := none

def pool0 : Array CpInfo := pool [(5, u "<init>"), (0, u "()V"), (1, .class_ 10), (1, u "java/lang/Object")] 113

def k0m0 : Method := { name := "<init>", desc := "()V", sig := { parameters := [], returnType := none }, accessFlags := 1, code := none }
/-- java/lang/Object -/
def k0 : Class := { plain "java/lang/Object" none with
  accessFlags := 33
  interfaces := #[]
  cf := some (fileOf pool0 8 #[] #[{ accessFlags := 1, nameIndex := 5, descriptorIndex := 6, attributes := #[] }] 33 0 #[] #[])
  fields := #[]
  methods := #[k0m0]
  instanceTypes := #[]
  staticTypes := #[]
  resolved := Array.replicate 124 none
  statics := none }

def pool1 : Array CpInfo := pool [(2, .class_ 4), (1, u "java/lang/Object"), (0, u "<init>"), (0, u "()V"), (0, .integer 2147483647), (0, .methodref 9 10), (0, .class_ 11), (0, .nameAndType 12 13), (0, u "com/example/holdfast/holdfast/store/rocksdb/BigEndian"), (0, u "write"), (0, u "([BIJI)V"), (0, .methodref 15 16), (0, .class_ 17), (0, .nameAndType 18 19), (0, u "com/example/holdfast/holdfast/store/rocksdb/BigEndianWritePinLaw"), (0, u "cell"), (0, u "([BIIIJB)Z"), (0, .long 255), (3, u "law"), (0, u "(IJII)Z")] 5

def k1m0 : Method := { name := "<init>", desc := "()V", sig := { parameters := [], returnType := none }, accessFlags := 2, code := none }
def k1c1 : Code := { maxStack := 7, maxLocals := 9, code := code, exceptionTable := #[], attributes := #[] }
def k1m1 : Method := { name := "law", desc := "(IJII)Z", sig := { parameters := [.int, .long, .int, .int], returnType := some .boolean }, accessFlags := 9, code := some k1c1 }
def k1c2 : Code := { maxStack := 4, maxLocals := 9, code := method_3_code, exceptionTable := #[], attributes := #[] }
def k1m2 : Method := { name := "cell", desc := "([BIIIJB)Z", sig := { parameters := [(.array .byte), .int, .int, .int, .long, .byte], returnType := some .boolean }, accessFlags := 10, code := some k1c2 }
/-- com/example/holdfast/holdfast/store/rocksdb/BigEndianWritePinLaw -/
def k1 : Class := { plain "com/example/holdfast/holdfast/store/rocksdb/BigEndianWritePinLaw" (some 0) with
  accessFlags := 49
  interfaces := #[]
  cf := some (fileOf pool1 15 #[] #[{ accessFlags := 2, nameIndex := 5, descriptorIndex := 6, attributes := #[] }, { accessFlags := 9, nameIndex := 24, descriptorIndex := 25, attributes := #[] }, { accessFlags := 10, nameIndex := 18, descriptorIndex := 19, attributes := #[] }] 49 2 #[] #[])
  fields := #[]
  methods := #[k1m0, k1m1, k1m2]
  instanceTypes := #[]
  staticTypes := #[]
  resolved := Array.replicate 31 none
  statics := none }

def pool2 : Array CpInfo := pool [(2, .class_ 4), (1, u "java/lang/Object"), (0, u "<init>"), (0, u "()V"), (3, .class_ 12), (1, u "com/example/holdfast/holdfast/store/rocksdb/BigEndian"), (0, u "write"), (0, u "([BIJI)V")] 19

def k2m0 : Method := { name := "<init>", desc := "()V", sig := { parameters := [], returnType := none }, accessFlags := 2, code := none }
def k2c1 : Code := { maxStack := 7, maxLocals := 6, code := prog_128_method_2_code, exceptionTable := #[], attributes := #[] }
def k2m1 : Method := { name := "write", desc := "([BIJI)V", sig := { parameters := [(.array .byte), .int, .long, .int], returnType := none }, accessFlags := 8, code := some k2c1 }
/-- com/example/holdfast/holdfast/store/rocksdb/BigEndian -/
def k2 : Class := { plain "com/example/holdfast/holdfast/store/rocksdb/BigEndian" (some 0) with
  accessFlags := 48
  interfaces := #[]
  cf := some (fileOf pool2 10 #[] #[{ accessFlags := 2, nameIndex := 5, descriptorIndex := 6, attributes := #[] }, { accessFlags := 8, nameIndex := 13, descriptorIndex := 14, attributes := #[] }] 48 2 #[] #[])
  fields := #[]
  methods := #[k2m0, k2m1]
  instanceTypes := #[]
  staticTypes := #[]
  resolved := Array.replicate 34 none
  statics := none }

def pool3 : Array CpInfo := pool [(1, u "java/lang/Cloneable"), (0, .class_ 1), (0, u "java/lang/Object"), (0, .class_ 3)] 3

/-- java/lang/Cloneable -/
def k3 : Class := { plain "java/lang/Cloneable" (some 0) with
  accessFlags := 1537
  interfaces := #[]
  cf := some (fileOf pool3 2 #[] #[] 1537 4 #[] #[])
  fields := #[]
  methods := #[]
  instanceTypes := #[]
  staticTypes := #[]
  resolved := Array.replicate 8 none
  statics := none }

def pool4 : Array CpInfo := pool [(1, u "java/io/Serializable"), (0, .class_ 1), (0, u "java/lang/Object"), (0, .class_ 3)] 3

/-- java/io/Serializable -/
def k4 : Class := { plain "java/io/Serializable" (some 0) with
  accessFlags := 1537
  interfaces := #[]
  cf := some (fileOf pool4 2 #[] #[] 1537 4 #[] #[])
  fields := #[]
  methods := #[]
  instanceTypes := #[]
  staticTypes := #[]
  resolved := Array.replicate 8 none
  statics := none }

/-- the primitive byte -/
def k5 : Class := { plain "byte" none with kind := .primitive 'B', accessFlags := 0x411 }
/-- [B -/
def k6 : Class := { plain "[B" (some 0) with kind := .array 5 .byte, interfaces := #[3, 4], accessFlags := 1041 }

/-- the primitive int -/
def k7 : Class := { plain "int" none with kind := .primitive 'I', accessFlags := 0x411 }
/-- [I -/
def k8 : Class := { plain "[I" (some 0) with kind := .array 7 .int, interfaces := #[3, 4], accessFlags := 1041 }

def heap : Heap := #[]
def classes : Array Class := #[k0, k1, k2, k3, k4, k5, k6, k7, k8]
def interned : List (Array UInt16 × Addr) := []
def slotsUsed : Nat := 0
def theMethod : MethodId := ⟨1, 1⟩
def args0 : Array Value := #[.int 5, .long 6, .int 7, .int 8]
def aboutOver (below : List Frame) : State where
  vm := { classes := classes, interned := interned.toArray }
  heap := heap
  slotsUsed := slotsUsed
  threads := #[{ frames := .invoking theMethod args0 :: below }]
def below0 : List Frame := [.native { method := ⟨0, 0⟩, args := #[] }]
def about1 : State := aboutOver below0
def p0 : Program := .bare "" "" ""
def e0 : Env := launch0.env 0 0 0
theorem w_frames : about1.frames = Frame.invoking theMethod args0 :: below0 := rfl
set_option maxRecDepth 65536 in
theorem w_args : argsFit about1.vm theMethod args0 = true := by decide +kernel
set_option maxRecDepth 65536 in
theorem w_heap : heapFits about1 = true := by decide +kernel
set_option maxRecDepth 65536 in
theorem w_runnable : about1.curStatus? = some .runnable := by decide +kernel
set_option maxRecDepth 65536 in
theorem w_alone : about1.alone = true := by decide +kernel
set_option maxRecDepth 65536 in
theorem w_named : about1.methodNamed? x = some theMethod := by decide +kernel
set_option maxRecDepth 65536 in
theorem w_hears : about1.hears theMethod below0 = true := by decide +kernel
set_option maxRecDepth 65536 in
theorem w_ripe : about1.ripe theMethod args0 below0 = true := by decide +kernel
theorem w_running : about1.status = .running := rfl
set_option maxRecDepth 65536 in
theorem w_room : about1.hasRoom e0.platform room_1 = true :=
  launch0.hasRoom_least _ room_1 (by decide +kernel) (by decide +kernel) (by decide +kernel) (by decide +kernel) (by decide +kernel) (by decide +kernel)
theorem allAtoms_all (ts : List Jvm.Cond) (a : Array Jvm.Value) (st : Jvm.State) : (allAtoms ts).before a st = ts.all (fun c => c.before a st) := by
  induction ts with
  | nil => rfl
  | cons c t ih =>
    show (Jvm.Cond.and c (allAtoms t)).before a st = _
    rw [Jvm.Cond.before_and, ih, List.all_cons]
def words1 : List Jvm.Cond := Jvm.Cond.code x code maxLocals ret :: tables_1
/-- a 'code' word, met by the world's own term for the bytes: nothing is compared byte by byte -/
theorem code_word {y : MethodName} {bytes : ByteArray} {mx : Nat} {rt : Option FieldType} {a : Array Value} {s : State} {m : MethodId} {meth : Method} {c : Code} (h1 : s.methodNamed? y = some m) (h2 : s.vm.method? m = some meth) (h3 : meth.code = some c) (h4 : c.code = bytes)
    (h5 : (c.maxLocals == mx && c.exceptionTable.isEmpty && decide (c.maxStack ≤ mostOperands) && decide (meth.sig.returnType = rt) && !meth.locks && decide (parseMethodDescriptor y.desc = some meth.sig)) = true) : (Jvm.Cond.code y bytes mx rt).before a s = true := by
  simp only [Bool.and_eq_true, beq_iff_eq, Bool.not_eq_true', decide_eq_true_eq] at h5
  obtain ⟨⟨⟨⟨⟨g1, g2⟩, g3⟩, g4⟩, g5⟩, g6⟩ := h5
  simp [Cond.before, Cond.holds, Cond.value, h1, h2, h3, h4, g1, g2, g3, g4, g5, g6]
def isCode : Jvm.Cond → Bool
  | .code _ _ _ _ => true
  | _ => false
theorem all_split {L : List Jvm.Cond} {P : Jvm.Cond → Bool} (h1 : L.all (fun c => isCode c || P c) = true) (h2 : ∀ c ∈ L.filter isCode, P c = true) : L.all P = true := by
  refine List.all_eq_true.mpr fun c hc => ?_
  have h := List.all_eq_true.mp h1 c hc
  rcases Bool.eq_false_or_eq_true (isCode c) with hi | hi
  · exact h2 c (List.mem_filter.mpr ⟨hc, hi⟩)
  · simpa [hi] using h
set_option maxRecDepth 65536 in
theorem w_c0 : (Jvm.Cond.code x code maxLocals ret).before args0 about1 = true := code_word (m := ⟨1, 1⟩) (meth := k1m1) (c := k1c1) (by decide +kernel) rfl rfl rfl (by decide +kernel)
set_option maxRecDepth 65536 in
theorem w_c1 : (Jvm.Cond.code ({ cls := "com/example/holdfast/holdfast/store/rocksdb/BigEndian", name := "write", desc := "([BIJI)V" } : Jvm.MethodName) prog_128_method_2_code (6 : Nat) (Option.none : Option Jvm.ClassFile.FieldType)).before args0 about1 = true := code_word (m := ⟨2, 1⟩) (meth := k2m1) (c := k2c1) (by decide +kernel) rfl rfl rfl (by decide +kernel)
set_option maxRecDepth 65536 in
theorem w_c2 : (Jvm.Cond.code ({ cls := "com/example/holdfast/holdfast/store/rocksdb/BigEndianWritePinLaw", name := "cell", desc := "([BIIIJB)Z" } : Jvm.MethodName) method_3_code (9 : Nat) (Option.some Jvm.ClassFile.FieldType.boolean)).before args0 about1 = true := code_word (m := ⟨1, 2⟩) (meth := k1m2) (c := k1c2) (by decide +kernel) rfl rfl rfl (by decide +kernel)
def codes1 : List Jvm.Cond := [Jvm.Cond.code x code maxLocals ret, Jvm.Cond.code ({ cls := "com/example/holdfast/holdfast/store/rocksdb/BigEndian", name := "write", desc := "([BIJI)V" } : Jvm.MethodName) prog_128_method_2_code (6 : Nat) (Option.none : Option Jvm.ClassFile.FieldType), Jvm.Cond.code ({ cls := "com/example/holdfast/holdfast/store/rocksdb/BigEndianWritePinLaw", name := "cell", desc := "([BIIIJB)Z" } : Jvm.MethodName) method_3_code (9 : Nat) (Option.some Jvm.ClassFile.FieldType.boolean)]
set_option maxRecDepth 65536 in
theorem codes_eq : words1.filter isCode = codes1 := rfl
theorem w_codes : ∀ c ∈ words1.filter isCode, c.before args0 about1 = true := by
  rw [codes_eq]
  intro c hc
  simp only [codes1, List.mem_cons, List.not_mem_nil, or_false] at hc
  rcases hc with rfl | rfl | rfl
  · exact w_c0
  · exact w_c1
  · exact w_c2
set_option maxRecDepth 65536 in
theorem w_t1 : words1.all (fun c => isCode c || c.before args0 about1) = true := by decide +kernel
theorem w_tables : (allAtoms (Jvm.Cond.code x code maxLocals ret :: tables_1)).before args0 about1 = true := by
  rw [allAtoms_all]
  show words1.all (fun c => c.before args0 about1) = true
  refine all_split ?_ w_codes
  rw [w_t1]
set_option maxRecDepth 65536 in
theorem w_case : (Jvm.Cond.and given_1 narrow_1).before args0 about1 = true := by decide +kernel
theorem w_applies : (headSpec (Jvm.Cond.code x code maxLocals ret :: tables_1) room_1).applies x e0.platform about1 = true :=
  (Spec.applies_iff w_frames).mpr ⟨w_running, w_runnable, w_alone, w_named, w_hears, w_ripe, w_room, w_tables⟩
theorem atStart : AtStart classFile x code maxLocals ret World_1 tables_1 room_1 Calls_1 rest_1 Pre_1 launch0 p0 e0 about1 theMethod args0 below0 :=
  ⟨lists_1, trivial, launch0.admits_env _ _ _, launch0.least_env, fairChoices_fair.cas, fairChoices_fair.clock, w_frames, w_args, w_heap, w_applies, trivial, trivial, w_case⟩
end start1
theorem witness_1 : WitnessClaimed_1 := ⟨start1.p0, start1.e0, start1.about1, start1.theMethod, start1.args0, start1.below0, start1.atStart⟩
end Jvm.Pilot.@@N@@
