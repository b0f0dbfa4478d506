import JvmDerived
import JvmDerived.Pilot.@@N@@Statement
import JvmDerived.Pilot.@@N@@Code
set_option linter.unusedVariables false
set_option linter.unusedSimpArgs false
namespace Jvm.RoadKit
open Sem ClassFile Op Lib Jvm.Stand Jvm.Free Jvm.LawKit
section New
variable {p : Program} {l : Launch} {e : Env} {R : Room} {s : State} {m : MethodId} {args : Array Value} {below : List Frame} {meth : Method} {c : Code} {T : State} {locs : List Loc} {cells slots : Nat}
theorem retI (X : Stand p l e R s m args below meth c T locs cells slots) (hx : p.tables.exec = Jvm.exec) {pc : Nat} {Ls : Array Slot} {z : Int32} {rest : List Value} (hret : meth.sig.returnType = some .int) (hd : decode c.code pc = .ok (.ireturn, 1)) {fs : List Frame}
    (hl : ∀ (f : JFrame) (acts : List Action), f.method = m → f.locked = none → f.entered = [] → (doReturn e (T.setTop f) acts (some (.int z))).1 = T.setFrames fs) : Steps p.tables e below (T.setTop (mkF m pc Ls (.int z :: rest))) (T.setFrames fs) := by
  have hm' : T.vm.method? m = some meth := X.method'
  have hn : narrow .int (.int z) = .int z := rfl
  show Steps p.tables e below (T.setTop { method := m, pc := pc, locals := Ls, stack := _ :: rest, locked := none }) _
  jvm_step X.here [X.here.top, hx, hd, hm', hret, hn]
  first | (intro acts; rw [hl _ acts rfl rfl rfl]) | rw [hl _ _ rfl rfl rfl]
  exact Steps.refl _
end New
end Jvm.RoadKit
namespace Jvm.Pilot.@@N@@
open Jvm Jvm.ClassFile Sem Op Lib Jvm.Free Jvm.Stand Jvm.LawKit Jvm.RoadKit Bundle Jvm.Pilot.@@N@@.Jvm.D
theorem pd__ABII_J : parseMethodDescriptor "([BII)J" = some ⟨[(.array .byte), .int, .int], some .long⟩ := by decide +kernel
theorem own_lt {i n : Nat} (h : i < n) (hn : n ≤ 255) : Int32.ofNat i < Int32.ofNat n := by
  rw [Int32.lt_iff_toInt_lt, Int32.toInt_ofNat_of_lt (by omega), Int32.toInt_ofNat_of_lt (by omega)]
  omega
theorem own_nn {n : Nat} (hn : n ≤ 255) : ¬ Int32.ofNat n < 0 := by
  rw [Int32.lt_iff_toInt_lt, Int32.toInt_ofNat_of_lt (by omega), show (0 : Int32).toInt = 0 from rfl]
  omega
theorem own_n32 {n : Nat} (hn : n ≤ 255) : (Int32.ofNat n).toNatClampNeg = n := by
  rw [Int32.toNatClampNeg, Int32.toInt_ofNat_of_lt (by omega)]; rfl
theorem own_one (i : Nat) : Int32.ofNat i + (1 : Int32) = Int32.ofNat (i + 1) := (Int32.ofNat_add i 1).symm
theorem own_len {cl : Cell} {N : Nat} (S : cl.slots.size = N) : cl.slots.size.toInt32 = Int32.ofNat N := by rw [S]
theorem own_setSlot (c : Cell) (j : Nat) (v : Value) : (c.setSlot j v).slots = c.slots.setIfInBounds j v := rfl
def own_upd (f : Nat → Int32) (j : Nat) (v : Int32) : Nat → Int32 := fun k => if k = j then v else f k
def own_By (Z : State) (h : Heap) (b : Addr) (N : Nat) (f : Nat → Int32) : Prop := ∃ cl : Cell, Arr Z h b cl .byte ∧ cl.slots.size = N ∧ ∀ k, k < N → cl.slots[k]? = some (.int (f k))
theorem own_By_other {Z : State} {h h' : Heap} {a b : Addr} {N sl : Nat} {f : Nat → Int32} {v : Value} (W : Wr h h' a sl v) (F : own_By Z h b N f) (hne : b ≠ a) : own_By Z h' b N f := by
  obtain ⟨cl, A, r⟩ := F
  exact ⟨cl, A.other W hne, r⟩
theorem own_By_ext {Z : State} {h h' : Heap} {b : Addr} {N : Nat} {f : Nat → Int32} (E : Ext h h') (F : own_By Z h b N f) : own_By Z h' b N f := by
  obtain ⟨cl, A, r⟩ := F
  exact ⟨cl, A.ext E, r⟩
theorem own_By_lt {Z : State} {h : Heap} {b : Addr} {N : Nat} {f : Nat → Int32} (F : own_By Z h b N f) : b < h.size := by
  obtain ⟨cl, A, r⟩ := F
  exact A.lt
theorem own_storeB {p : Program} {l : Launch} {e : Env} {R : Room} {s : State} {m : MethodId} {args : Array Value} {below : List Frame} {meth : Method} {c : Code} {T : State} {locs : List Loc} {cells slots : Nat} {Z : State} {n0 : Nat} {b : Addr} {N : Nat} {f : Nat → Int32} (X : Stand p l e R s m args below meth c T locs cells slots) (hx : p.tables.exec = Jvm.exec) (hZ : Z.Warmed39 s.vm) (F : Fr n0 locs) (gb : n0 ≤ b) (G : own_By Z T.heap b N f) (pc : Nat) (Ls : Array Slot) (rest : List Value) (j v : Int32) (jn : Nat) (hjn : j.toNatClampNeg = jn) (hj : ¬ j < 0) (hj2 : jn < N) (hd : decode c.code pc = .ok (.bastore, 1)) :
    ∃ (T' : State) (locs' : List Loc), Stand p l e R s m args below meth c T' locs' cells slots ∧ Fr n0 locs' ∧ own_By Z T'.heap b N (own_upd f jn v.toInt8.toInt32) ∧ (∃ sl w, Wr T.heap T'.heap b sl w) ∧ ∀ target, Steps p.tables e below (T'.setTop (mkF m (pc + 1) Ls rest)) target → Steps p.tables e below (T.setTop (mkF m pc Ls (.int v :: .int j :: .ref b :: rest))) target := by
  obtain ⟨cl, Ar, S, H⟩ := G
  have hin : ¬ (j < 0 ∨ cl.slots.size ≤ j.toNatClampNeg) := fun q => q.elim hj (fun q => by omega)
  obtain ⟨T', h', X', e', W', st'⟩ := stB X hx hZ rfl Ar (j := j) (x := v) hin (g := mkF m pc Ls (.int v :: .int j :: .ref b :: rest)) rfl rfl hd
  refine ⟨T', _, X', Fr.snoc X' F gb, ?_, ⟨_, _, e' ▸ W'⟩, st'⟩
  rw [e']
  refine ⟨_, Ar.same W', by rw [sz_set]; exact S, fun k hk => ?_⟩
  rw [own_setSlot, Array.getElem?_setIfInBounds, own_upd]
  by_cases q : j.toNatClampNeg = k
  · rw [if_pos q, if_pos (by omega), if_pos (by omega)]
    rfl
  · rw [if_neg q, if_neg (by omega)]
    exact H k hk
theorem own_freshB {Z : State} {h : Heap} {b : Addr} {cA : ClassId} {n : Int32} {N : Nat} (A : Arr Z h b (newA cA .byte n) .byte) (hn : n.toNatClampNeg = N) : own_By Z h b N (fun _ => 0) := by
  refine ⟨_, A, by rw [sz_new]; exact hn, fun k hk => ?_⟩
  show (Array.replicate n.toNatClampNeg (defaultValue .byte))[k]? = some (.int 0)
  rw [Array.getElem?_replicate, if_pos (by omega)]
  rfl
theorem own_By_congr {Z : State} {h : Heap} {b : Addr} {N : Nat} {f g : Nat → Int32} (F : own_By Z h b N f) (q : ∀ k, k < N → f k = g k) : own_By Z h b N g := by
  obtain ⟨cl, A, S, H⟩ := F
  exact ⟨cl, A, S, fun k hk => by rw [← q k hk]; exact H k hk⟩
def own_F (p1 p2 : Int64) : Nat → Int32
  | 0 => ((((p1.toUInt64 >>> ((56 : Int32) &&& 0x3f).toInt64.toUInt64).toInt64).toInt32).toInt8.toInt32)
  | 1 => ((((p1.toUInt64 >>> ((48 : Int32) &&& 0x3f).toInt64.toUInt64).toInt64).toInt32).toInt8.toInt32)
  | 2 => ((((p1.toUInt64 >>> ((40 : Int32) &&& 0x3f).toInt64.toUInt64).toInt64).toInt32).toInt8.toInt32)
  | 3 => ((((p1.toUInt64 >>> ((32 : Int32) &&& 0x3f).toInt64.toUInt64).toInt64).toInt32).toInt8.toInt32)
  | 4 => ((((p1.toUInt64 >>> ((24 : Int32) &&& 0x3f).toInt64.toUInt64).toInt64).toInt32).toInt8.toInt32)
  | 5 => ((((p1.toUInt64 >>> ((16 : Int32) &&& 0x3f).toInt64.toUInt64).toInt64).toInt32).toInt8.toInt32)
  | 6 => ((((p1.toUInt64 >>> ((8 : Int32) &&& 0x3f).toInt64.toUInt64).toInt64).toInt32).toInt8.toInt32)
  | 7 => ((p1.toInt32).toInt8.toInt32)
  | 8 => ((((p2.toUInt64 >>> ((16 : Int32) &&& 0x3f).toInt64.toUInt64).toInt64).toInt32).toInt8.toInt32)
  | 9 => ((((p2.toUInt64 >>> ((8 : Int32) &&& 0x3f).toInt64.toUInt64).toInt64).toInt32).toInt8.toInt32)
  | 10 => ((p2.toInt32).toInt8.toInt32)
  | _ => 0
def own_read (F : Nat → Int32) (a : Nat) : Nat → Int64
  | 0 => (F a).toInt64
  | j + 1 => (own_read F a j <<< ((8 : Int32) &&& 0x3f).toInt64) ||| (F (a + 1 + j) &&& (255 : Int32)).toInt64
def own_w (x y : Int64) (s : Int32) : Int64 := if s < (24 : Int32) then ((x <<< (((24 : Int32) - s) &&& 0x3f).toInt64) ||| (((y &&& (16777215 : Int64)).toUInt64 >>> (s &&& 0x3f).toInt64.toUInt64).toInt64)) else ((x.toUInt64 >>> ((s - (24 : Int32)) &&& 0x3f).toInt64.toUInt64).toInt64)
theorem own_by2 (x : Int32) : x.toInt8.toInt32.toInt8.toInt32 = x.toInt8.toInt32 := by rw [Int8.toInt8_toInt32]
theorem own_mk (x : Int32) (m : Int32) (M : Nat) (hm : m.toBitVec.toNat = M) : ∃ n : Nat, n ≤ M ∧ (x &&& m) = Int32.ofNat n := by
  refine ⟨(x &&& m).toBitVec.toNat, ?_, ?_⟩
  · rw [Int32.toBitVec_and, BitVec.toNat_and, hm]
    exact Nat.and_le_right
  · apply Int32.toBitVec_inj.mp
    show _ = BitVec.ofNat 32 _
    rw [BitVec.ofNat_toNat, BitVec.setWidth_eq]
theorem own_m3 (x : Int32) : ∃ n : Nat, n ≤ 3 ∧ (x &&& (3 : Int32)) = Int32.ofNat n := own_mk x 3 3 rfl
theorem own_m7 (x : Int32) : ∃ n : Nat, n ≤ 7 ∧ (x &&& (7 : Int32)) = Int32.ofNat n := own_mk x 7 7 rfl
theorem own_sx (a n : Nat) (ha : a ≤ 3) (hn : n ≤ 7) : ((88 : Int32) - ((8 : Int32) * ((Int32.ofNat a) + (Int32.ofNat (n + 1))))) = Int32.ofNat (80 - 8 * (a + n)) :=
  (by decide : ∀ a : Fin 4, ∀ n : Fin 8, ((88 : Int32) - ((8 : Int32) * ((Int32.ofNat a.1) + (Int32.ofNat (n.1 + 1))))) = Int32.ofNat (80 - 8 * (a.1 + n.1))) ⟨a, by omega⟩ ⟨n, by omega⟩
theorem own_kx (n : Nat) (hn : n ≤ 7) : ((64 : Int32) - ((8 : Int32) * (Int32.ofNat (n + 1)))) = Int32.ofNat (56 - 8 * n) :=
  (by decide : ∀ n : Fin 8, ((64 : Int32) - ((8 : Int32) * (Int32.ofNat (n.1 + 1)))) = Int32.ofNat (56 - 8 * n.1)) ⟨n, by omega⟩
theorem own_amt (k : Nat) (hk : k < 64) : (((Int32.ofNat k) &&& 0x3f).toInt64.toBitVec.smod 64).toNat = k :=
  (by decide : ∀ k : Fin 64, (((Int32.ofNat k.1) &&& 0x3f).toInt64.toBitVec.smod 64).toNat = k.1) ⟨k, hk⟩
theorem own_amu (k : Nat) (hk : k < 64) : (((Int32.ofNat k) &&& 0x3f).toInt64.toUInt64.toBitVec % 64).toNat = k :=
  (by decide : ∀ k : Fin 64, (((Int32.ofNat k.1) &&& 0x3f).toInt64.toUInt64.toBitVec % 64).toNat = k.1) ⟨k, hk⟩
theorem own_shl (x : Int64) (k : Nat) (hk : k < 64) : (x <<< ((Int32.ofNat k) &&& 0x3f).toInt64).toBitVec = x.toBitVec <<< k := by
  rw [Int64.toBitVec_shiftLeft, BitVec.shiftLeft_eq', own_amt k hk]
theorem own_shr (x : Int64) (k : Nat) (hk : k < 64) : (x >>> ((Int32.ofNat k) &&& 0x3f).toInt64).toBitVec = x.toBitVec.sshiftRight k := by
  rw [Int64.toBitVec_shiftRight, BitVec.sshiftRight', own_amt k hk]
theorem own_ush (x : Int64) (k : Nat) (hk : k < 64) : ((x.toUInt64 >>> ((Int32.ofNat k) &&& 0x3f).toInt64.toUInt64).toInt64).toBitVec = x.toBitVec >>> k := by
  show x.toBitVec >>> (((Int32.ofNat k) &&& 0x3f).toInt64.toUInt64.toBitVec % 64) = _
  rw [BitVec.ushiftRight_eq', own_amu k hk]
theorem own_bb (z : Int64) (i : Nat) (hi : i < 32) : (z.toInt32.toInt8.toInt32).toBitVec.getLsbD i = z.toBitVec.getLsbD (min i 7) := by
  rw [Int8.toBitVec_toInt32, Int32.toBitVec_toInt8, Int64.toBitVec_toInt32, BitVec.getLsbD_signExtend]
  by_cases h : i < 8
  · rw [if_pos h, BitVec.getLsbD_signExtend, if_pos (by omega), BitVec.getLsbD_signExtend, if_pos (by omega), Nat.min_eq_left (by omega)]
    simp [h, hi]
  · rw [if_neg h, BitVec.msb_eq_getLsbD_last, BitVec.getLsbD_signExtend, if_pos (by omega), BitVec.getLsbD_signExtend, if_pos (by omega), Nat.min_eq_right (by omega)]
    simp [hi]
def own_bit (x y : Int64) (i : Nat) : Bool := if i < 24 then y.toBitVec.getLsbD i else x.toBitVec.getLsbD (i - 24)
theorem own_Fbit (x y : Int64) (k i : Nat) (hk : k ≤ 10) (hi : i < 32) : (own_F x y k).toBitVec.getLsbD i = own_bit x y (80 - 8 * k + min i 7) := by
  have hx : ∀ (z : Int64) (s : Nat), z.toBitVec = x.toBitVec >>> s → 24 ≤ s + 24 → 80 - 8 * k = s + 24 → (z.toInt32.toInt8.toInt32).toBitVec.getLsbD i = own_bit x y (80 - 8 * k + min i 7) := by
    intro z s hz _ hs
    rw [own_bb z i hi, hz, BitVec.getLsbD_ushiftRight, own_bit, if_neg (by omega)]
    congr 1
    omega
  have hy : ∀ (z : Int64) (s : Nat), z.toBitVec = y.toBitVec >>> s → s ≤ 16 → 80 - 8 * k = s → (z.toInt32.toInt8.toInt32).toBitVec.getLsbD i = own_bit x y (80 - 8 * k + min i 7) := by
    intro z s hz _ hs
    rw [own_bb z i hi, hz, BitVec.getLsbD_ushiftRight, own_bit, if_pos (by omega), hs]
  match k, hk, hx, hy with
  | 0, _, hx, _ => exact hx _ 56 rfl (by omega) (by omega)
  | 1, _, hx, _ => exact hx _ 48 rfl (by omega) (by omega)
  | 2, _, hx, _ => exact hx _ 40 rfl (by omega) (by omega)
  | 3, _, hx, _ => exact hx _ 32 rfl (by omega) (by omega)
  | 4, _, hx, _ => exact hx _ 24 rfl (by omega) (by omega)
  | 5, _, hx, _ => exact hx _ 16 rfl (by omega) (by omega)
  | 6, _, hx, _ => exact hx _ 8 rfl (by omega) (by omega)
  | 7, _, hx, _ => exact hx _ 0 (by rw [BitVec.ushiftRight_zero]) (by omega) (by omega)
  | 8, _, _, hy => exact hy _ 16 rfl (by omega) (by omega)
  | 9, _, _, hy => exact hy _ 8 rfl (by omega) (by omega)
  | 10, _, _, hy => exact hy _ 0 (by rw [BitVec.ushiftRight_zero]) (by omega) (by omega)
theorem own_255 (i : Nat) (hi : i < 32) : (255 : Int32).toBitVec.getLsbD i = decide (i < 8) :=
  (by decide : ∀ i : Fin 32, (255 : Int32).toBitVec.getLsbD i.1 = decide (i.1 < 8)) ⟨i, hi⟩
theorem own_and255 (z : Int32) (i : Nat) (hi : i < 64) : ((z &&& (255 : Int32)).toInt64).toBitVec.getLsbD i = (decide (i < 8) && z.toBitVec.getLsbD i) := by
  rw [Int32.toBitVec_toInt64, BitVec.getLsbD_signExtend, Int32.toBitVec_and, BitVec.msb_eq_getLsbD_last, BitVec.getLsbD_and, BitVec.getLsbD_and, own_255 31 (by decide)]
  by_cases h : i < 32
  · rw [if_pos h, own_255 i h]
    simp [hi, Bool.and_comm]
  · rw [if_neg h]
    simp
    omega
theorem own_rbit (x y : Int64) (a : Nat) : ∀ j, a + j ≤ 10 → ∀ i, i < 64 → (own_read (own_F x y) a j).toBitVec.getLsbD i = own_bit x y (80 - 8 * (a + j) + min i (8 * j + 7)) := by
  intro j
  induction j with
  | zero =>
    intro hj i hi
    rw [own_read, Int32.toBitVec_toInt64, BitVec.getLsbD_signExtend, BitVec.msb_eq_getLsbD_last]
    by_cases h : i < 32
    · rw [if_pos h, own_Fbit x y a i (by omega) h]
      simp [hi]
    · rw [if_neg h, own_Fbit x y a 31 (by omega) (by decide), Nat.min_eq_right (by omega), Nat.min_eq_right (by omega)]
      simp [hi]
  | succ j ih =>
    intro hj i hi
    rw [own_read, Int64.toBitVec_or, BitVec.getLsbD_or, own_and255 _ i hi, show (own_read (own_F x y) a j <<< ((8 : Int32) &&& 0x3f).toInt64).toBitVec = (own_read (own_F x y) a j).toBitVec <<< 8 from own_shl _ 8 (by decide), BitVec.getLsbD_shiftLeft]
    by_cases h : i < 8
    · rw [own_Fbit x y (a + 1 + j) i (by omega) (by omega)]
      simp only [h, hi, decide_true, Bool.not_true, Bool.and_false, Bool.false_and, Bool.false_or, Bool.true_and]
      congr 1
      omega
    · rw [ih (by omega) (i - 8) (by omega)]
      simp only [h, hi, decide_true, decide_false, Bool.not_false, Bool.true_and, Bool.false_and, Bool.or_false]
      congr 1
      omega
theorem own_mask24 (i : Nat) : (16777215 : Int64).toBitVec.getLsbD i = decide (i < 24) := by
  by_cases h : i < 64
  · exact (by decide : ∀ i : Fin 64, (16777215 : Int64).toBitVec.getLsbD i.1 = decide (i.1 < 24)) ⟨i, h⟩
  · rw [BitVec.getLsbD_of_ge _ _ (by omega)]
    simp
    omega
theorem own_wbit (x y : Int64) (s : Nat) (hs : s ≤ 80) (i : Nat) (hi : i < 64) : (own_w x y (Int32.ofNat s)).toBitVec.getLsbD i = own_bit x y (s + i) := by
  unfold own_w own_bit
  by_cases h : s < 24
  · rw [if_pos (show Int32.ofNat s < (24 : Int32) from own_lt h (by decide)), show (24 : Int32) - Int32.ofNat s = Int32.ofNat (24 - s) from (by decide : ∀ s : Fin 24, (24 : Int32) - Int32.ofNat s.1 = Int32.ofNat (24 - s.1)) ⟨s, h⟩]
    rw [Int64.toBitVec_or, BitVec.getLsbD_or, own_shl _ _ (by omega), own_ush _ _ (by omega), BitVec.getLsbD_shiftLeft, BitVec.getLsbD_ushiftRight, Int64.toBitVec_and, BitVec.getLsbD_and, own_mask24]
    by_cases q : s + i < 24
    · rw [if_pos q]
      simp [hi, q, (by omega : i < 24 - s)]
    · rw [if_neg q]
      have hq : ¬ i < 24 - s := by omega
      rw [decide_eq_false hq, decide_eq_false q, decide_eq_true hi, show i - (24 - s) = s + i - 24 from by omega]
      simp
  · rw [if_neg (fun q => by have := Int32.lt_iff_toInt_lt.mp q; rw [Int32.toInt_ofNat_of_lt (by omega), show (24 : Int32).toInt = 24 from by decide] at this; omega)]
    rw [show Int32.ofNat s - (24 : Int32) = Int32.ofNat (s - 24) from (by decide : ∀ s : Fin 81, 24 ≤ s.1 → Int32.ofNat s.1 - (24 : Int32) = Int32.ofNat (s.1 - 24)) ⟨s, by omega⟩ (Nat.le_of_not_lt h), own_ush _ _ (by omega), BitVec.getLsbD_ushiftRight, if_neg (by omega)]
    congr 1
    omega
theorem own_law (x y : Int64) (a n : Nat) (ha : a ≤ 3) (hn : n ≤ 7) : own_read (own_F x y) a n = ((own_w x y (Int32.ofNat (80 - 8 * (a + n))) <<< ((Int32.ofNat (56 - 8 * n)) &&& 0x3f).toInt64) >>> ((Int32.ofNat (56 - 8 * n)) &&& 0x3f).toInt64) := by
  apply Int64.toBitVec_inj.mp
  apply BitVec.eq_of_getLsbD_eq
  intro i hi
  rw [own_rbit x y a n (by omega) i hi, own_shr _ _ (by omega), own_shl _ _ (by omega), BitVec.getLsbD_sshiftRight, BitVec.msb_eq_getLsbD_last, BitVec.getLsbD_shiftLeft, BitVec.getLsbD_shiftLeft]
  by_cases h : 56 - 8 * n + i < 64
  · rw [if_pos h, own_wbit x y _ (by omega) _ (by omega)]
    have h1 : ¬ 64 ≤ i := by omega
    have h2 : ¬ (56 - 8 * n + i < 56 - 8 * n) := by omega
    rw [decide_eq_true h, decide_eq_false h1, decide_eq_false h2, show 80 - 8 * (a + n) + (56 - 8 * n + i - (56 - 8 * n)) = 80 - 8 * (a + n) + min i (8 * n + 7) from by omega]
    simp
  · rw [if_neg h, own_wbit x y _ (by omega) _ (by omega)]
    have h1 : ¬ 64 ≤ i := by omega
    have h2 : ¬ (64 - 1 < 56 - 8 * n) := by omega
    rw [decide_eq_false h1, decide_eq_false h2, show 80 - 8 * (a + n) + (64 - 1 - (56 - 8 * n)) = 80 - 8 * (a + n) + min i (8 * n + 7) from by omega]
    simp
theorem d1_0 : decode prog_128_method_3_code 0 = .ok (.aload_n 0, 1) := by decide +kernel
theorem d1_1 : decode prog_128_method_3_code 1 = .ok (.iload_n 1, 1) := by decide +kernel
theorem d1_2 : decode prog_128_method_3_code 2 = .ok (.baload, 1) := by decide +kernel
theorem d1_3 : decode prog_128_method_3_code 3 = .ok (.i2l, 1) := by decide +kernel
theorem d1_4 : decode prog_128_method_3_code 4 = .ok (.lstore_n 3, 1) := by decide +kernel
theorem d1_5 : decode prog_128_method_3_code 5 = .ok (.iload_n 1, 1) := by decide +kernel
theorem d1_6 : decode prog_128_method_3_code 6 = .ok (.iconst 1, 1) := by decide +kernel
theorem d1_7 : decode prog_128_method_3_code 7 = .ok (.iadd, 1) := by decide +kernel
theorem d1_8 : decode prog_128_method_3_code 8 = .ok (.istore 5, 2) := by decide +kernel
theorem d1_10 : decode prog_128_method_3_code 10 = .ok (.iload 5, 2) := by decide +kernel
theorem d1_12 : decode prog_128_method_3_code 12 = .ok (.iload_n 1, 1) := by decide +kernel
theorem d1_13 : decode prog_128_method_3_code 13 = .ok (.iload_n 2, 1) := by decide +kernel
theorem d1_14 : decode prog_128_method_3_code 14 = .ok (.iadd, 1) := by decide +kernel
theorem d1_15 : decode prog_128_method_3_code 15 = .ok (.if_icmp .ge 24, 3) := by decide +kernel
theorem d1_18 : decode prog_128_method_3_code 18 = .ok (.lload_n 3, 1) := by decide +kernel
theorem d1_19 : decode prog_128_method_3_code 19 = .ok (.bipush 8, 2) := by decide +kernel
theorem d1_21 : decode prog_128_method_3_code 21 = .ok (.lshl, 1) := by decide +kernel
theorem d1_22 : decode prog_128_method_3_code 22 = .ok (.aload_n 0, 1) := by decide +kernel
theorem d1_23 : decode prog_128_method_3_code 23 = .ok (.iload 5, 2) := by decide +kernel
theorem d1_25 : decode prog_128_method_3_code 25 = .ok (.baload, 1) := by decide +kernel
theorem d1_26 : decode prog_128_method_3_code 26 = .ok (.sipush 255, 3) := by decide +kernel
theorem d1_29 : decode prog_128_method_3_code 29 = .ok (.iand, 1) := by decide +kernel
theorem d1_30 : decode prog_128_method_3_code 30 = .ok (.i2l, 1) := by decide +kernel
theorem d1_31 : decode prog_128_method_3_code 31 = .ok (.lor, 1) := by decide +kernel
theorem d1_32 : decode prog_128_method_3_code 32 = .ok (.lstore_n 3, 1) := by decide +kernel
theorem d1_33 : decode prog_128_method_3_code 33 = .ok (.iinc 5 1, 3) := by decide +kernel
theorem d1_36 : decode prog_128_method_3_code 36 = .ok (.goto (-26), 3) := by decide +kernel
theorem d1_39 : decode prog_128_method_3_code 39 = .ok (.lload_n 3, 1) := by decide +kernel
theorem d1_40 : decode prog_128_method_3_code 40 = .ok (.lreturn, 1) := by decide +kernel
set_option maxRecDepth 65536 in
set_option maxHeartbeats 40000000 in
theorem own_rloop {p : Program} {l : Launch} {e : Env} {R : Room} {s : State} {m : MethodId} {args : Array Value} {below : List Frame} {meth : Method} {c : Code} {T : State} {locs : List Loc} {cells slots : Nat} {Z : State} {a0 : Array Value} {h0 : Heap} (b : Addr) (F : Nat → Int32) (a n : Nat) (hN : a + n ≤ 10) (X : Stand p l e R s m args below meth c T locs cells slots) (hx : p.tables.exec = Jvm.exec) (hZ : Z.Warmed39 s.vm) (hw : ∀ d ∈ tables_1, d.before a0 Z = true) (hby : c.code = prog_128_method_3_code) (hown : s.vm.findClass "com/example/holdfast/holdfast/store/rocksdb/BigEndian" = some m.cls) (e0 : T.heap = h0) (cl : Cell) (Ar : Arr Z h0 b cl .byte) (S : cl.slots.size = 11) (H : ∀ k, k < 11 → cl.slots[k]? = some (.int (F k))) :
    ∀ (k j : Nat), j + k = n → ∀ target, Steps p.tables e below (T.setTop (mkF m 39 #[.val (.ref b), .val (.int (Int32.ofNat a)), .val (.int (Int32.ofNat (n + 1))), .val (.long (own_read F a n)), .second, .val (.int (Int32.ofNat (a + 1 + n)))] [])) target → Steps p.tables e below (T.setTop (mkF m 10 #[.val (.ref b), .val (.int (Int32.ofNat a)), .val (.int (Int32.ofNat (n + 1))), .val (.long (own_read F a j)), .second, .val (.int (Int32.ofNat (a + 1 + j)))] [])) target := by
  intro k
  induction k with
  | zero =>
    intro j hj t kt
    have hj2 : j = n := by omega
    rw [hj2]
    have hge : ¬ Int32.ofNat (a + 1 + n) < Int32.ofNat a + Int32.ofNat (n + 1) := by
      rw [← Int32.ofNat_add, show a + (n + 1) = a + 1 + n from by omega]
      exact Int32.lt_irrefl
    show Steps p.tables e below (T.setTop (mkF m 10 #[.val (.ref b), .val (.int (Int32.ofNat a)), .val (.int (Int32.ofNat (n + 1))), .val (.long (own_read F a n)), .second, .val (.int (Int32.ofNat (a + 1 + n)))] [])) _
    refine XS.iload X.here hx rfl (hb hby d1_10) rfl ?_
    show Steps p.tables e below (T.setTop (mkF m 12 #[.val (.ref b), .val (.int (Int32.ofNat a)), .val (.int (Int32.ofNat (n + 1))), .val (.long (own_read F a n)), .second, .val (.int (Int32.ofNat (a + 1 + n)))] [(.int (Int32.ofNat (a + 1 + n)))])) _
    refine XS.iloadN X.here hx rfl (hb hby d1_12) rfl ?_
    show Steps p.tables e below (T.setTop (mkF m 13 #[.val (.ref b), .val (.int (Int32.ofNat a)), .val (.int (Int32.ofNat (n + 1))), .val (.long (own_read F a n)), .second, .val (.int (Int32.ofNat (a + 1 + n)))] [(.int (Int32.ofNat a)), (.int (Int32.ofNat (a + 1 + n)))])) _
    refine XS.iloadN X.here hx rfl (hb hby d1_13) rfl ?_
    show Steps p.tables e below (T.setTop (mkF m 14 #[.val (.ref b), .val (.int (Int32.ofNat a)), .val (.int (Int32.ofNat (n + 1))), .val (.long (own_read F a n)), .second, .val (.int (Int32.ofNat (a + 1 + n)))] [(.int (Int32.ofNat (n + 1))), (.int (Int32.ofNat a)), (.int (Int32.ofNat (a + 1 + n)))])) _
    refine XS.iadd X.here hx rfl (hb hby d1_14) rfl ?_
    show Steps p.tables e below (T.setTop (mkF m 15 #[.val (.ref b), .val (.int (Int32.ofNat a)), .val (.int (Int32.ofNat (n + 1))), .val (.long (own_read F a n)), .second, .val (.int (Int32.ofNat (a + 1 + n)))] [(.int ((Int32.ofNat a) + (Int32.ofNat (n + 1)))), (.int (Int32.ofNat (a + 1 + n)))])) _
    refine XS.icmpYes X.here hx rfl (pc0 := 15) (pc' := 39) rfl (hb hby d1_15) rfl (XT.ii_ge_t hge) (by decide) (by decide) ?_
    show Steps p.tables e below (T.setTop (mkF m 39 #[.val (.ref b), .val (.int (Int32.ofNat a)), .val (.int (Int32.ofNat (n + 1))), .val (.long (own_read F a n)), .second, .val (.int (Int32.ofNat (a + 1 + n)))] [])) _
    exact kt
  | succ k ih =>
    intro j hj t kt
    have hlt : Int32.ofNat (a + 1 + j) < Int32.ofNat a + Int32.ofNat (n + 1) := by
      rw [← Int32.ofNat_add]
      exact own_lt (by omega) (by omega)
    have hin : ¬ (Int32.ofNat (a + 1 + j) < 0 ∨ cl.slots.size ≤ (Int32.ofNat (a + 1 + j)).toNatClampNeg) := by
      rw [S, own_n32 (by omega)]
      exact fun q => q.elim (own_nn (by omega)) (fun q => by omega)
    have hat : cl.slots[(Int32.ofNat (a + 1 + j)).toNatClampNeg]? = some (.int (F (a + 1 + j))) := by rw [own_n32 (by omega)]; exact H _ (by omega)
    have st := ih (j + 1) (by omega) t kt
    show Steps p.tables e below (T.setTop (mkF m 10 #[.val (.ref b), .val (.int (Int32.ofNat a)), .val (.int (Int32.ofNat (n + 1))), .val (.long (own_read F a j)), .second, .val (.int (Int32.ofNat (a + 1 + j)))] [])) _
    refine XS.iload X.here hx rfl (hb hby d1_10) rfl ?_
    show Steps p.tables e below (T.setTop (mkF m 12 #[.val (.ref b), .val (.int (Int32.ofNat a)), .val (.int (Int32.ofNat (n + 1))), .val (.long (own_read F a j)), .second, .val (.int (Int32.ofNat (a + 1 + j)))] [(.int (Int32.ofNat (a + 1 + j)))])) _
    refine XS.iloadN X.here hx rfl (hb hby d1_12) rfl ?_
    show Steps p.tables e below (T.setTop (mkF m 13 #[.val (.ref b), .val (.int (Int32.ofNat a)), .val (.int (Int32.ofNat (n + 1))), .val (.long (own_read F a j)), .second, .val (.int (Int32.ofNat (a + 1 + j)))] [(.int (Int32.ofNat a)), (.int (Int32.ofNat (a + 1 + j)))])) _
    refine XS.iloadN X.here hx rfl (hb hby d1_13) rfl ?_
    show Steps p.tables e below (T.setTop (mkF m 14 #[.val (.ref b), .val (.int (Int32.ofNat a)), .val (.int (Int32.ofNat (n + 1))), .val (.long (own_read F a j)), .second, .val (.int (Int32.ofNat (a + 1 + j)))] [(.int (Int32.ofNat (n + 1))), (.int (Int32.ofNat a)), (.int (Int32.ofNat (a + 1 + j)))])) _
    refine XS.iadd X.here hx rfl (hb hby d1_14) rfl ?_
    show Steps p.tables e below (T.setTop (mkF m 15 #[.val (.ref b), .val (.int (Int32.ofNat a)), .val (.int (Int32.ofNat (n + 1))), .val (.long (own_read F a j)), .second, .val (.int (Int32.ofNat (a + 1 + j)))] [(.int ((Int32.ofNat a) + (Int32.ofNat (n + 1)))), (.int (Int32.ofNat (a + 1 + j)))])) _
    refine XS.icmpNo X.here hx rfl (hb hby d1_15) rfl (XT.ii_ge_f hlt) ?_
    show Steps p.tables e below (T.setTop (mkF m 18 #[.val (.ref b), .val (.int (Int32.ofNat a)), .val (.int (Int32.ofNat (n + 1))), .val (.long (own_read F a j)), .second, .val (.int (Int32.ofNat (a + 1 + j)))] [])) _
    refine XS.lloadN X.here hx rfl (hb hby d1_18) rfl ?_
    show Steps p.tables e below (T.setTop (mkF m 19 #[.val (.ref b), .val (.int (Int32.ofNat a)), .val (.int (Int32.ofNat (n + 1))), .val (.long (own_read F a j)), .second, .val (.int (Int32.ofNat (a + 1 + j)))] [(.long (own_read F a j))])) _
    refine XS.bipush X.here hx rfl (hb hby d1_19) ?_
    show Steps p.tables e below (T.setTop (mkF m 21 #[.val (.ref b), .val (.int (Int32.ofNat a)), .val (.int (Int32.ofNat (n + 1))), .val (.long (own_read F a j)), .second, .val (.int (Int32.ofNat (a + 1 + j)))] [(.int (8 : Int32)), (.long (own_read F a j))])) _
    refine XS.lshl X.here hx rfl (hb hby d1_21) rfl ?_
    show Steps p.tables e below (T.setTop (mkF m 22 #[.val (.ref b), .val (.int (Int32.ofNat a)), .val (.int (Int32.ofNat (n + 1))), .val (.long (own_read F a j)), .second, .val (.int (Int32.ofNat (a + 1 + j)))] [(.long ((own_read F a j) <<< ((8 : Int32) &&& 0x3f).toInt64))])) _
    refine XS.aloadN X.here hx rfl (hb hby d1_22) rfl rfl ?_
    show Steps p.tables e below (T.setTop (mkF m 23 #[.val (.ref b), .val (.int (Int32.ofNat a)), .val (.int (Int32.ofNat (n + 1))), .val (.long (own_read F a j)), .second, .val (.int (Int32.ofNat (a + 1 + j)))] [(.ref b), (.long ((own_read F a j) <<< ((8 : Int32) &&& 0x3f).toInt64))])) _
    refine XS.iload X.here hx rfl (hb hby d1_23) rfl ?_
    show Steps p.tables e below (T.setTop (mkF m 25 #[.val (.ref b), .val (.int (Int32.ofNat a)), .val (.int (Int32.ofNat (n + 1))), .val (.long (own_read F a j)), .second, .val (.int (Int32.ofNat (a + 1 + j)))] [(.int (Int32.ofNat (a + 1 + j))), (.ref b), (.long ((own_read F a j) <<< ((8 : Int32) &&& 0x3f).toInt64))])) _
    refine X.baloadBytes hx (j := (Int32.ofNat (a + 1 + j))) (v := (.int (F (a + 1 + j)))) (by rw [e0]; exact Ar.1) (State.isArrayOf_alike hZ.alike Ar.2.1) Ar.2.2 hin hat (g := (mkF m 25 #[.val (.ref b), .val (.int (Int32.ofNat a)), .val (.int (Int32.ofNat (n + 1))), .val (.long (own_read F a j)), .second, .val (.int (Int32.ofNat (a + 1 + j)))] [(.int (Int32.ofNat (a + 1 + j))), (.ref b), (.long ((own_read F a j) <<< ((8 : Int32) &&& 0x3f).toInt64))])) rfl rfl (hb hby d1_25) _ ?_
    show Steps p.tables e below (T.setTop (mkF m 26 #[.val (.ref b), .val (.int (Int32.ofNat a)), .val (.int (Int32.ofNat (n + 1))), .val (.long (own_read F a j)), .second, .val (.int (Int32.ofNat (a + 1 + j)))] [(.int (F (a + 1 + j))), (.long ((own_read F a j) <<< ((8 : Int32) &&& 0x3f).toInt64))])) _
    refine XS.sipush X.here hx rfl (hb hby d1_26) ?_
    show Steps p.tables e below (T.setTop (mkF m 29 #[.val (.ref b), .val (.int (Int32.ofNat a)), .val (.int (Int32.ofNat (n + 1))), .val (.long (own_read F a j)), .second, .val (.int (Int32.ofNat (a + 1 + j)))] [(.int (255 : Int32)), (.int (F (a + 1 + j))), (.long ((own_read F a j) <<< ((8 : Int32) &&& 0x3f).toInt64))])) _
    refine XS.iand X.here hx rfl (hb hby d1_29) rfl ?_
    show Steps p.tables e below (T.setTop (mkF m 30 #[.val (.ref b), .val (.int (Int32.ofNat a)), .val (.int (Int32.ofNat (n + 1))), .val (.long (own_read F a j)), .second, .val (.int (Int32.ofNat (a + 1 + j)))] [(.int ((F (a + 1 + j)) &&& (255 : Int32))), (.long ((own_read F a j) <<< ((8 : Int32) &&& 0x3f).toInt64))])) _
    refine XS.i2l X.here hx rfl (hb hby d1_30) rfl ?_
    show Steps p.tables e below (T.setTop (mkF m 31 #[.val (.ref b), .val (.int (Int32.ofNat a)), .val (.int (Int32.ofNat (n + 1))), .val (.long (own_read F a j)), .second, .val (.int (Int32.ofNat (a + 1 + j)))] [(.long (((F (a + 1 + j)) &&& (255 : Int32)).toInt64)), (.long ((own_read F a j) <<< ((8 : Int32) &&& 0x3f).toInt64))])) _
    refine XS.lor X.here hx rfl (hb hby d1_31) rfl ?_
    show Steps p.tables e below (T.setTop (mkF m 32 #[.val (.ref b), .val (.int (Int32.ofNat a)), .val (.int (Int32.ofNat (n + 1))), .val (.long (own_read F a j)), .second, .val (.int (Int32.ofNat (a + 1 + j)))] [(.long (((own_read F a j) <<< ((8 : Int32) &&& 0x3f).toInt64) ||| (((F (a + 1 + j)) &&& (255 : Int32)).toInt64)))])) _
    refine XS.lstoreN X.here hx rfl (hb hby d1_32) rfl (l' := #[.val (.ref b), .val (.int (Int32.ofNat a)), .val (.int (Int32.ofNat (n + 1))), .val (.long (((own_read F a j) <<< ((8 : Int32) &&& 0x3f).toInt64) ||| (((F (a + 1 + j)) &&& (255 : Int32)).toInt64))), .second, .val (.int (Int32.ofNat (a + 1 + j)))]) rfl ?_
    show Steps p.tables e below (T.setTop (mkF m 33 #[.val (.ref b), .val (.int (Int32.ofNat a)), .val (.int (Int32.ofNat (n + 1))), .val (.long (((own_read F a j) <<< ((8 : Int32) &&& 0x3f).toInt64) ||| (((F (a + 1 + j)) &&& (255 : Int32)).toInt64))), .second, .val (.int (Int32.ofNat (a + 1 + j)))] [])) _
    refine XS.iinc X.here hx rfl (hb hby d1_33) rfl (l' := #[.val (.ref b), .val (.int (Int32.ofNat a)), .val (.int (Int32.ofNat (n + 1))), .val (.long (((own_read F a j) <<< ((8 : Int32) &&& 0x3f).toInt64) ||| (((F (a + 1 + j)) &&& (255 : Int32)).toInt64))), .second, .val (.int ((Int32.ofNat (a + 1 + j)) + (1 : Int32)))]) rfl ?_
    show Steps p.tables e below (T.setTop (mkF m 36 #[.val (.ref b), .val (.int (Int32.ofNat a)), .val (.int (Int32.ofNat (n + 1))), .val (.long (((own_read F a j) <<< ((8 : Int32) &&& 0x3f).toInt64) ||| (((F (a + 1 + j)) &&& (255 : Int32)).toInt64))), .second, .val (.int ((Int32.ofNat (a + 1 + j)) + (1 : Int32)))] [])) _
    refine XS.goto X.here hx rfl (pc0 := 36) (pc' := 10) rfl (hb hby d1_36) (by decide) (by decide) ?_
    show Steps p.tables e below (T.setTop (mkF m 10 #[.val (.ref b), .val (.int (Int32.ofNat a)), .val (.int (Int32.ofNat (n + 1))), .val (.long (((own_read F a j) <<< ((8 : Int32) &&& 0x3f).toInt64) ||| (((F (a + 1 + j)) &&& (255 : Int32)).toInt64))), .second, .val (.int ((Int32.ofNat (a + 1 + j)) + (1 : Int32)))] [])) _
    rw [own_one]
    exact st
theorem pn_1 : plainName "com/example/holdfast/holdfast/store/rocksdb/BigEndian" = true := by first | (simp [plainName, overriddenIn]; done) | decide +kernel
theorem ef_1 (m : MethodId) (x0 : Addr) (x1 : Int32) (x2 : Int32) : entryFrame m #[(.ref x0), (.int x1), (.int x2)] 6 = mkF m 0 #[.val (.ref x0), .val (.int x1), .val (.int x2), .unset, .unset, .unset] [] := by first | (simp [entryFrame, mkF, argsToLocals, Value.category]; done) | rfl
def Q1 (Z : State) (F : Nat → Int32) (a n : Nat) (h0 : Heap) (n0 : Nat) (v : Option Value) (h : Heap) (L : List Loc) : Prop := v = some (.long (own_read F a n)) ∧ Fr n0 L ∧ h = h0
set_option maxRecDepth 65536 in
set_option maxHeartbeats 40000000 in
theorem rm1 (l : Launch) (Z : State) (a0 : Array Value) (hw : ∀ d ∈ tables_1, d.before a0 Z = true) (ws : List Jvm.Cond) (a1 : Addr) (F : Nat → Int32) (a n : Nat) (h0 : Heap) (n0 : Nat) (Z0 : n0 ≤ h0.size) (hN : a + n ≤ 10) (G : own_By Z h0 a1 11 F) :
    MetFree l (⟨"com/example/holdfast/holdfast/store/rocksdb/BigEndian", "read", "([BII)J"⟩ : MethodName) (head1 (Jvm.Cond.code (⟨"com/example/holdfast/holdfast/store/rocksdb/BigEndian", "read", "([BII)J"⟩ : MethodName) prog_128_method_3_code 6 (some .long) :: ws) ({ frames := 0, cells := 0, slots := 0, locals := 0 } : Room)) (fun aa U => aa = #[(.ref a1), (.int (Int32.ofNat a)), (.int (Int32.ofNat (n + 1)))] ∧ Z.Warmed39 U.vm ∧ U.heap = h0) (fun _ _ _ _ _ => True) (fun _ U o U' => ∃ v L, o = .returned v ∧ Q1 Z F a n h0 n0 v U'.heap L ∧ FrameEnd U o U' L ({ frames := 0, cells := 0, slots := 0, locals := 0 } : Room).cells ({ frames := 0, cells := 0, slots := 0, locals := 0 } : Room).slots) := by
  refine MetFree.of_bodySF (plainFor_of_name pn_1) hisR ?_
  intro p e s m args below meth c s₁ Bd hml0 hP hK
  obtain ⟨rfl, hZ, hh⟩ := hP
  have hx := Bd.exec
  have hby := Bd.bytes
  have hml : c.maxLocals = 6 := hml0
  have hown : s.vm.findClass "com/example/holdfast/holdfast/store/rocksdb/BigEndian" = some m.cls := findClass_of_methodNamed Bd.named
  have hnm := (name_of_methodNamed Bd.named Bd.method).1
  have X0 : Stand p l e ({ frames := 0, cells := 0, slots := 0, locals := 0 } : Room) s m #[(.ref a1), (.int (Int32.ofNat a)), (.int (Int32.ofNat (n + 1)))] below meth c s₁ [] 0 0 := Stand.of_body Bd
  have e0 : s₁.heap = h0 := by rw [← hh, Bd.state]; rfl
  have N0 := Fr.nil n0
  have pre0 : ∀ t, Steps p.tables e below (s₁.setTop (mkF m 0 #[.val (.ref a1), .val (.int (Int32.ofNat a)), .val (.int (Int32.ofNat (n + 1))), .unset, .unset, .unset] [])) t → Steps p.tables e below (s₁.setTop (entryFrame m #[(.ref a1), (.int (Int32.ofNat a)), (.int (Int32.ofNat (n + 1)))] 6)) t := fun t k => castTop (ef_1 m a1 (Int32.ofNat a) (Int32.ofNat (n + 1))) k
  obtain ⟨cl, Ar, S, H⟩ := G
  have hin : ¬ (Int32.ofNat a < 0 ∨ cl.slots.size ≤ (Int32.ofNat a).toNatClampNeg) := by
    rw [S, own_n32 (by omega)]
    exact fun q => q.elim (own_nn (by omega)) (fun q => by omega)
  have hat : cl.slots[(Int32.ofNat a).toNatClampNeg]? = some (.int (F a)) := by rw [own_n32 (by omega)]; exact H _ (by omega)
  have s1 : ∀ t, Steps p.tables e below (s₁.setTop (mkF m 10 #[.val (.ref a1), .val (.int (Int32.ofNat a)), .val (.int (Int32.ofNat (n + 1))), .val (.long (own_read F a 0)), .second, .val (.int (Int32.ofNat (a + 1 + 0)))] [])) t → Steps p.tables e below (s₁.setTop (mkF m 0 #[.val (.ref a1), .val (.int (Int32.ofNat a)), .val (.int (Int32.ofNat (n + 1))), .unset, .unset, .unset] [])) t := by
    intro t k
    show Steps p.tables e below (s₁.setTop (mkF m 0 #[.val (.ref a1), .val (.int (Int32.ofNat a)), .val (.int (Int32.ofNat (n + 1))), .unset, .unset, .unset] [])) _
    refine XS.aloadN X0.here hx rfl (hb hby d1_0) rfl rfl ?_
    show Steps p.tables e below (s₁.setTop (mkF m 1 #[.val (.ref a1), .val (.int (Int32.ofNat a)), .val (.int (Int32.ofNat (n + 1))), .unset, .unset, .unset] [(.ref a1)])) _
    refine XS.iloadN X0.here hx rfl (hb hby d1_1) rfl ?_
    show Steps p.tables e below (s₁.setTop (mkF m 2 #[.val (.ref a1), .val (.int (Int32.ofNat a)), .val (.int (Int32.ofNat (n + 1))), .unset, .unset, .unset] [(.int (Int32.ofNat a)), (.ref a1)])) _
    refine X0.baloadBytes hx (j := (Int32.ofNat a)) (v := (.int (F a))) (by rw [e0]; exact Ar.1) (State.isArrayOf_alike hZ.alike Ar.2.1) Ar.2.2 hin hat (g := (mkF m 2 #[.val (.ref a1), .val (.int (Int32.ofNat a)), .val (.int (Int32.ofNat (n + 1))), .unset, .unset, .unset] [(.int (Int32.ofNat a)), (.ref a1)])) rfl rfl (hb hby d1_2) _ ?_
    show Steps p.tables e below (s₁.setTop (mkF m 3 #[.val (.ref a1), .val (.int (Int32.ofNat a)), .val (.int (Int32.ofNat (n + 1))), .unset, .unset, .unset] [(.int (F a))])) _
    refine XS.i2l X0.here hx rfl (hb hby d1_3) rfl ?_
    show Steps p.tables e below (s₁.setTop (mkF m 4 #[.val (.ref a1), .val (.int (Int32.ofNat a)), .val (.int (Int32.ofNat (n + 1))), .unset, .unset, .unset] [(.long ((F a).toInt64))])) _
    refine XS.lstoreN X0.here hx rfl (hb hby d1_4) rfl (l' := #[.val (.ref a1), .val (.int (Int32.ofNat a)), .val (.int (Int32.ofNat (n + 1))), .val (.long ((F a).toInt64)), .second, .unset]) rfl ?_
    show Steps p.tables e below (s₁.setTop (mkF m 5 #[.val (.ref a1), .val (.int (Int32.ofNat a)), .val (.int (Int32.ofNat (n + 1))), .val (.long ((F a).toInt64)), .second, .unset] [])) _
    refine XS.iloadN X0.here hx rfl (hb hby d1_5) rfl ?_
    show Steps p.tables e below (s₁.setTop (mkF m 6 #[.val (.ref a1), .val (.int (Int32.ofNat a)), .val (.int (Int32.ofNat (n + 1))), .val (.long ((F a).toInt64)), .second, .unset] [(.int (Int32.ofNat a))])) _
    refine XS.iconst X0.here hx rfl (hb hby d1_6) ?_
    show Steps p.tables e below (s₁.setTop (mkF m 7 #[.val (.ref a1), .val (.int (Int32.ofNat a)), .val (.int (Int32.ofNat (n + 1))), .val (.long ((F a).toInt64)), .second, .unset] [(.int (1 : Int32)), (.int (Int32.ofNat a))])) _
    refine XS.iadd X0.here hx rfl (hb hby d1_7) rfl ?_
    show Steps p.tables e below (s₁.setTop (mkF m 8 #[.val (.ref a1), .val (.int (Int32.ofNat a)), .val (.int (Int32.ofNat (n + 1))), .val (.long ((F a).toInt64)), .second, .unset] [(.int ((Int32.ofNat a) + (1 : Int32)))])) _
    refine XS.istore X0.here hx rfl (hb hby d1_8) rfl (l' := #[.val (.ref a1), .val (.int (Int32.ofNat a)), .val (.int (Int32.ofNat (n + 1))), .val (.long ((F a).toInt64)), .second, .val (.int ((Int32.ofNat a) + (1 : Int32)))]) rfl ?_
    show Steps p.tables e below (s₁.setTop (mkF m 10 #[.val (.ref a1), .val (.int (Int32.ofNat a)), .val (.int (Int32.ofNat (n + 1))), .val (.long ((F a).toInt64)), .second, .val (.int ((Int32.ofNat a) + (1 : Int32)))] [])) _
    rw [own_one]
    exact k
  have sl := own_rloop a1 F a n hN X0 hx hZ hw hby hown e0 cl Ar S H n 0 (by omega)
  have r2 : ∀ t, Steps p.tables e below (s₁.setTop (mkF m 39 #[.val (.ref a1), .val (.int (Int32.ofNat a)), .val (.int (Int32.ofNat (n + 1))), .val (.long (own_read F a n)), .second, .val (.int (Int32.ofNat (a + 1 + n)))] [])) t → Steps p.tables e below (s₁.setTop (mkF m 0 #[.val (.ref a1), .val (.int (Int32.ofNat a)), .val (.int (Int32.ofNat (n + 1))), .unset, .unset, .unset] [])) t := fun t k => s1 t (sl t k)
  have s3 : ∀ t, Steps p.tables e below (s₁.setTop (mkF m 40 #[.val (.ref a1), .val (.int (Int32.ofNat a)), .val (.int (Int32.ofNat (n + 1))), .val (.long (own_read F a n)), .second, .val (.int (Int32.ofNat (a + 1 + n)))] [(.long (own_read F a n))])) t → Steps p.tables e below (s₁.setTop (mkF m 39 #[.val (.ref a1), .val (.int (Int32.ofNat a)), .val (.int (Int32.ofNat (n + 1))), .val (.long (own_read F a n)), .second, .val (.int (Int32.ofNat (a + 1 + n)))] [])) t := by
    intro t k
    show Steps p.tables e below (s₁.setTop (mkF m 39 #[.val (.ref a1), .val (.int (Int32.ofNat a)), .val (.int (Int32.ofNat (n + 1))), .val (.long (own_read F a n)), .second, .val (.int (Int32.ofNat (a + 1 + n)))] [])) _
    refine XS.lloadN X0.here hx rfl (hb hby d1_39) rfl ?_
    show Steps p.tables e below (s₁.setTop (mkF m 40 #[.val (.ref a1), .val (.int (Int32.ofNat a)), .val (.int (Int32.ofNat (n + 1))), .val (.long (own_read F a n)), .second, .val (.int (Int32.ofNat (a + 1 + n)))] [(.long (own_read F a n))])) _
    exact k
  obtain ⟨fs, hr, hrun, hended, hW, hsame⟩ := X0.leave (v := some (.long (own_read F a n))) (fun h => by rw [Bd.returns] at h; cases h)
  refine ⟨_, _, pre0 _ (r2 _ (s3 _ ?_)), hrun, hended, _, _, rfl, ?_, ⟨_, rfl⟩, hW, hsame.mono (by decide) (by decide)⟩
  · exact X0.lreturnOut hx Bd.returns (hb hby d1_40) hr
  · exact ⟨rfl, N0, e0⟩
theorem pn_0 : plainName "com/example/holdfast/holdfast/store/rocksdb/BigEndianReadPinLaw" = true := by first | (simp [plainName, overriddenIn]; done) | decide +kernel
theorem ef_0 (m : MethodId) (x0 : Int64) (x1 : Int64) (x2 : Int32) (x3 : Int32) : entryFrame m #[(.long x0), (.long x1), (.int x2), (.int x3)] maxLocals = mkF m 0 #[.val (.long x0), .second, .val (.long x1), .second, .val (.int x2), .val (.int x3), .unset, .unset, .unset, .unset, .unset, .unset, .unset, .unset, .unset, .unset, .unset] [] := by first | (simp [entryFrame, mkF, argsToLocals, Value.category, maxLocals]; done) | rfl
def Q0 (Z : State) (p1 p2 : Int64) (p3 p4 : Int32) (h0 : Heap) (n0 : Nat) (v : Option Value) (h : Heap) (L : List Loc) : Prop := v = some (.int 1) ∧ Fr n0 L
set_option maxRecDepth 65536 in
set_option maxHeartbeats 40000000 in
theorem rm0 (l : Launch) (Z : State) (a0 : Array Value) (hw : ∀ d ∈ tables_1, d.before a0 Z = true) (ws : List Jvm.Cond) (p1 p2 : Int64) (p3 p4 : Int32) (h0 : Heap) (n0 : Nat) (Z0 : n0 ≤ h0.size)  :
    MetFree l x (head1 (Jvm.Cond.code x code maxLocals ret :: ws) room_1) (fun aa U => aa = #[(.long p1), (.long p2), (.int p3), (.int p4)] ∧ Z.Warmed39 U.vm ∧ U.heap = h0) (fun _ _ _ _ _ => True) (fun _ U o U' => ∃ v L, o = .returned v ∧ Q0 Z p1 p2 p3 p4 h0 n0 v U'.heap L ∧ FrameEnd U o U' L room_1.cells room_1.slots) := by
  refine MetFree.of_bodySF (plainFor_of_name pn_0) hisR ?_
  intro p e s m args below meth c s₁ Bd hml0 hP hK
  obtain ⟨rfl, hZ, hh⟩ := hP
  have hx := Bd.exec
  have hby := Bd.bytes
  have hml : c.maxLocals = 17 := hml0
  have hown : s.vm.findClass "com/example/holdfast/holdfast/store/rocksdb/BigEndianReadPinLaw" = some m.cls := findClass_of_methodNamed Bd.named
  have hnm := (name_of_methodNamed Bd.named Bd.method).1
  have X0 : Stand p l e room_1 s m #[(.long p1), (.long p2), (.int p3), (.int p4)] below meth c s₁ [] 0 0 := Stand.of_body Bd
  have e0 : s₁.heap = h0 := by rw [← hh, Bd.state]; rfl
  have N0 := Fr.nil n0
  have pre0 : ∀ t, Steps p.tables e below (s₁.setTop (mkF m 0 #[.val (.long p1), .second, .val (.long p2), .second, .val (.int p3), .val (.int p4), .unset, .unset, .unset, .unset, .unset, .unset, .unset, .unset, .unset, .unset, .unset] [])) t → Steps p.tables e below (s₁.setTop (entryFrame m #[(.long p1), (.long p2), (.int p3), (.int p4)] maxLocals)) t := fun t k => castTop (ef_0 m p1 p2 p3 p4) k
  obtain ⟨a, ha, hea⟩ := own_m3 p3
  obtain ⟨n, hn, hen⟩ := own_m7 p4
  have s0 : ∀ t, Steps p.tables e below (s₁.setTop (mkF m 6 #[.val (.long p1), .second, .val (.long p2), .second, .val (.int p3), .val (.int p4), .val (.int (p3 &&& (3 : Int32))), .unset, .unset, .unset, .unset, .unset, .unset, .unset, .unset, .unset, .unset] [])) t → Steps p.tables e below (s₁.setTop (mkF m 0 #[.val (.long p1), .second, .val (.long p2), .second, .val (.int p3), .val (.int p4), .unset, .unset, .unset, .unset, .unset, .unset, .unset, .unset, .unset, .unset, .unset] [])) t := by
    intro t k
    show Steps p.tables e below (s₁.setTop (mkF m 0 #[.val (.long p1), .second, .val (.long p2), .second, .val (.int p3), .val (.int p4), .unset, .unset, .unset, .unset, .unset, .unset, .unset, .unset, .unset, .unset, .unset] [])) _
    refine XS.iload X0.here hx rfl (hb hby at_0) rfl ?_
    show Steps p.tables e below (s₁.setTop (mkF m 2 #[.val (.long p1), .second, .val (.long p2), .second, .val (.int p3), .val (.int p4), .unset, .unset, .unset, .unset, .unset, .unset, .unset, .unset, .unset, .unset, .unset] [(.int p3)])) _
    refine XS.iconst X0.here hx rfl (hb hby at_2) ?_
    show Steps p.tables e below (s₁.setTop (mkF m 3 #[.val (.long p1), .second, .val (.long p2), .second, .val (.int p3), .val (.int p4), .unset, .unset, .unset, .unset, .unset, .unset, .unset, .unset, .unset, .unset, .unset] [(.int (3 : Int32)), (.int p3)])) _
    refine XS.iand X0.here hx rfl (hb hby at_3) rfl ?_
    show Steps p.tables e below (s₁.setTop (mkF m 4 #[.val (.long p1), .second, .val (.long p2), .second, .val (.int p3), .val (.int p4), .unset, .unset, .unset, .unset, .unset, .unset, .unset, .unset, .unset, .unset, .unset] [(.int (p3 &&& (3 : Int32)))])) _
    refine XS.istore X0.here hx rfl (hb hby at_4) rfl (l' := #[.val (.long p1), .second, .val (.long p2), .second, .val (.int p3), .val (.int p4), .val (.int (p3 &&& (3 : Int32))), .unset, .unset, .unset, .unset, .unset, .unset, .unset, .unset, .unset, .unset]) rfl ?_
    show Steps p.tables e below (s₁.setTop (mkF m 6 #[.val (.long p1), .second, .val (.long p2), .second, .val (.int p3), .val (.int p4), .val (.int (p3 &&& (3 : Int32))), .unset, .unset, .unset, .unset, .unset, .unset, .unset, .unset, .unset, .unset] [])) _
    exact k
  rw [hea] at s0
  have s1 : ∀ t, Steps p.tables e below (s₁.setTop (mkF m 15 #[.val (.long p1), .second, .val (.long p2), .second, .val (.int p3), .val (.int p4), .val (.int (Int32.ofNat a)), .val (.int ((p4 &&& (7 : Int32)) + (1 : Int32))), .unset, .unset, .unset, .unset, .unset, .unset, .unset, .unset, .unset] [])) t → Steps p.tables e below (s₁.setTop (mkF m 6 #[.val (.long p1), .second, .val (.long p2), .second, .val (.int p3), .val (.int p4), .val (.int (Int32.ofNat a)), .unset, .unset, .unset, .unset, .unset, .unset, .unset, .unset, .unset, .unset] [])) t := by
    intro t k
    show Steps p.tables e below (s₁.setTop (mkF m 6 #[.val (.long p1), .second, .val (.long p2), .second, .val (.int p3), .val (.int p4), .val (.int (Int32.ofNat a)), .unset, .unset, .unset, .unset, .unset, .unset, .unset, .unset, .unset, .unset] [])) _
    refine XS.iload X0.here hx rfl (hb hby at_6) rfl ?_
    show Steps p.tables e below (s₁.setTop (mkF m 8 #[.val (.long p1), .second, .val (.long p2), .second, .val (.int p3), .val (.int p4), .val (.int (Int32.ofNat a)), .unset, .unset, .unset, .unset, .unset, .unset, .unset, .unset, .unset, .unset] [(.int p4)])) _
    refine XS.bipush X0.here hx rfl (hb hby at_8) ?_
    show Steps p.tables e below (s₁.setTop (mkF m 10 #[.val (.long p1), .second, .val (.long p2), .second, .val (.int p3), .val (.int p4), .val (.int (Int32.ofNat a)), .unset, .unset, .unset, .unset, .unset, .unset, .unset, .unset, .unset, .unset] [(.int (7 : Int32)), (.int p4)])) _
    refine XS.iand X0.here hx rfl (hb hby at_10) rfl ?_
    show Steps p.tables e below (s₁.setTop (mkF m 11 #[.val (.long p1), .second, .val (.long p2), .second, .val (.int p3), .val (.int p4), .val (.int (Int32.ofNat a)), .unset, .unset, .unset, .unset, .unset, .unset, .unset, .unset, .unset, .unset] [(.int (p4 &&& (7 : Int32)))])) _
    refine XS.iconst X0.here hx rfl (hb hby at_11) ?_
    show Steps p.tables e below (s₁.setTop (mkF m 12 #[.val (.long p1), .second, .val (.long p2), .second, .val (.int p3), .val (.int p4), .val (.int (Int32.ofNat a)), .unset, .unset, .unset, .unset, .unset, .unset, .unset, .unset, .unset, .unset] [(.int (1 : Int32)), (.int (p4 &&& (7 : Int32)))])) _
    refine XS.iadd X0.here hx rfl (hb hby at_12) rfl ?_
    show Steps p.tables e below (s₁.setTop (mkF m 13 #[.val (.long p1), .second, .val (.long p2), .second, .val (.int p3), .val (.int p4), .val (.int (Int32.ofNat a)), .unset, .unset, .unset, .unset, .unset, .unset, .unset, .unset, .unset, .unset] [(.int ((p4 &&& (7 : Int32)) + (1 : Int32)))])) _
    refine XS.istore X0.here hx rfl (hb hby at_13) rfl (l' := #[.val (.long p1), .second, .val (.long p2), .second, .val (.int p3), .val (.int p4), .val (.int (Int32.ofNat a)), .val (.int ((p4 &&& (7 : Int32)) + (1 : Int32))), .unset, .unset, .unset, .unset, .unset, .unset, .unset, .unset, .unset]) rfl ?_
    show Steps p.tables e below (s₁.setTop (mkF m 15 #[.val (.long p1), .second, .val (.long p2), .second, .val (.int p3), .val (.int p4), .val (.int (Int32.ofNat a)), .val (.int ((p4 &&& (7 : Int32)) + (1 : Int32))), .unset, .unset, .unset, .unset, .unset, .unset, .unset, .unset, .unset] [])) _
    exact k
  rw [hen, own_one] at s1
  have r1 : ∀ t, Steps p.tables e below (s₁.setTop (mkF m 15 #[.val (.long p1), .second, .val (.long p2), .second, .val (.int p3), .val (.int p4), .val (.int (Int32.ofNat a)), .val (.int (Int32.ofNat (n + 1))), .unset, .unset, .unset, .unset, .unset, .unset, .unset, .unset, .unset] [])) t → Steps p.tables e below (s₁.setTop (mkF m 0 #[.val (.long p1), .second, .val (.long p2), .second, .val (.int p3), .val (.int p4), .unset, .unset, .unset, .unset, .unset, .unset, .unset, .unset, .unset, .unset, .unset] [])) t := fun t k => s0 t (s1 t k)
  have s2 : ∀ t, Steps p.tables e below (s₁.setTop (mkF m 17 #[.val (.long p1), .second, .val (.long p2), .second, .val (.int p3), .val (.int p4), .val (.int (Int32.ofNat a)), .val (.int (Int32.ofNat (n + 1))), .unset, .unset, .unset, .unset, .unset, .unset, .unset, .unset, .unset] [(.int (11 : Int32))])) t → Steps p.tables e below (s₁.setTop (mkF m 15 #[.val (.long p1), .second, .val (.long p2), .second, .val (.int p3), .val (.int p4), .val (.int (Int32.ofNat a)), .val (.int (Int32.ofNat (n + 1))), .unset, .unset, .unset, .unset, .unset, .unset, .unset, .unset, .unset] [])) t := by
    intro t k
    show Steps p.tables e below (s₁.setTop (mkF m 15 #[.val (.long p1), .second, .val (.long p2), .second, .val (.int p3), .val (.int p4), .val (.int (Int32.ofNat a)), .val (.int (Int32.ofNat (n + 1))), .unset, .unset, .unset, .unset, .unset, .unset, .unset, .unset, .unset] [])) _
    refine XS.bipush X0.here hx rfl (hb hby at_15) ?_
    show Steps p.tables e below (s₁.setTop (mkF m 17 #[.val (.long p1), .second, .val (.long p2), .second, .val (.int p3), .val (.int p4), .val (.int (Int32.ofNat a)), .val (.int (Int32.ofNat (n + 1))), .unset, .unset, .unset, .unset, .unset, .unset, .unset, .unset, .unset] [(.int (11 : Int32))])) _
    exact k
  obtain ⟨TK, hK_, kK, XK, eK, EK, AK, stK⟩ := newP X0 hx hZ (hw _ (List.mem_of_getElem? (i := 0) rfl)) (rfl : s₁.heap = s₁.heap) (g := (mkF m 17 #[.val (.long p1), .second, .val (.long p2), .second, .val (.int p3), .val (.int p4), .val (.int (Int32.ofNat a)), .val (.int (Int32.ofNat (n + 1))), .unset, .unset, .unset, .unset, .unset, .unset, .unset, .unset, .unset] [(.int (11 : Int32))])) rfl (hb hby at_17) rfl (by decide) (cap := 11) (by decide) (by decide) (by decide) (by decide)
  obtain ⟨bK, gK⟩ : ∃ z, z = s₁.heap.size := ⟨_, rfl⟩
  rw [← gK] at AK stK
  have gbK : n0 ≤ bK := Nat.le_trans Z0 (by rw [gK, e0]; exact Nat.le_refl _)
  have GK : own_By Z TK.heap bK 11 (fun _ => 0) := by rw [eK]; exact own_freshB AK (by decide)
  have r2 : ∀ t, Steps p.tables e below (TK.setTop (mkF m 19 #[.val (.long p1), .second, .val (.long p2), .second, .val (.int p3), .val (.int p4), .val (.int (Int32.ofNat a)), .val (.int (Int32.ofNat (n + 1))), .unset, .unset, .unset, .unset, .unset, .unset, .unset, .unset, .unset] [(.ref bK)])) t → Steps p.tables e below (s₁.setTop (mkF m 0 #[.val (.long p1), .second, .val (.long p2), .second, .val (.int p3), .val (.int p4), .unset, .unset, .unset, .unset, .unset, .unset, .unset, .unset, .unset, .unset, .unset] [])) t := fun t k => r1 t (s2 t (stK t k))
  have s3 : ∀ t, Steps p.tables e below (TK.setTop (mkF m 30 #[.val (.long p1), .second, .val (.long p2), .second, .val (.int p3), .val (.int p4), .val (.int (Int32.ofNat a)), .val (.int (Int32.ofNat (n + 1))), .val (.ref bK), .unset, .unset, .unset, .unset, .unset, .unset, .unset, .unset] [(.int ((((p1.toUInt64 >>> ((56 : Int32) &&& 0x3f).toInt64.toUInt64).toInt64).toInt32).toInt8.toInt32)), (.int (0 : Int32)), (.ref bK)])) t → Steps p.tables e below (TK.setTop (mkF m 19 #[.val (.long p1), .second, .val (.long p2), .second, .val (.int p3), .val (.int p4), .val (.int (Int32.ofNat a)), .val (.int (Int32.ofNat (n + 1))), .unset, .unset, .unset, .unset, .unset, .unset, .unset, .unset, .unset] [(.ref bK)])) t := by
    intro t k
    show Steps p.tables e below (TK.setTop (mkF m 19 #[.val (.long p1), .second, .val (.long p2), .second, .val (.int p3), .val (.int p4), .val (.int (Int32.ofNat a)), .val (.int (Int32.ofNat (n + 1))), .unset, .unset, .unset, .unset, .unset, .unset, .unset, .unset, .unset] [(.ref bK)])) _
    refine XS.astore XK.here hx rfl (hb hby at_19) rfl rfl (l' := #[.val (.long p1), .second, .val (.long p2), .second, .val (.int p3), .val (.int p4), .val (.int (Int32.ofNat a)), .val (.int (Int32.ofNat (n + 1))), .val (.ref bK), .unset, .unset, .unset, .unset, .unset, .unset, .unset, .unset]) rfl ?_
    show Steps p.tables e below (TK.setTop (mkF m 21 #[.val (.long p1), .second, .val (.long p2), .second, .val (.int p3), .val (.int p4), .val (.int (Int32.ofNat a)), .val (.int (Int32.ofNat (n + 1))), .val (.ref bK), .unset, .unset, .unset, .unset, .unset, .unset, .unset, .unset] [])) _
    refine XS.aload XK.here hx rfl (hb hby at_21) rfl rfl ?_
    show Steps p.tables e below (TK.setTop (mkF m 23 #[.val (.long p1), .second, .val (.long p2), .second, .val (.int p3), .val (.int p4), .val (.int (Int32.ofNat a)), .val (.int (Int32.ofNat (n + 1))), .val (.ref bK), .unset, .unset, .unset, .unset, .unset, .unset, .unset, .unset] [(.ref bK)])) _
    refine XS.iconst XK.here hx rfl (hb hby at_23) ?_
    show Steps p.tables e below (TK.setTop (mkF m 24 #[.val (.long p1), .second, .val (.long p2), .second, .val (.int p3), .val (.int p4), .val (.int (Int32.ofNat a)), .val (.int (Int32.ofNat (n + 1))), .val (.ref bK), .unset, .unset, .unset, .unset, .unset, .unset, .unset, .unset] [(.int (0 : Int32)), (.ref bK)])) _
    refine XS.lloadN XK.here hx rfl (hb hby at_24) rfl ?_
    show Steps p.tables e below (TK.setTop (mkF m 25 #[.val (.long p1), .second, .val (.long p2), .second, .val (.int p3), .val (.int p4), .val (.int (Int32.ofNat a)), .val (.int (Int32.ofNat (n + 1))), .val (.ref bK), .unset, .unset, .unset, .unset, .unset, .unset, .unset, .unset] [(.long p1), (.int (0 : Int32)), (.ref bK)])) _
    refine XS.bipush XK.here hx rfl (hb hby at_25) ?_
    show Steps p.tables e below (TK.setTop (mkF m 27 #[.val (.long p1), .second, .val (.long p2), .second, .val (.int p3), .val (.int p4), .val (.int (Int32.ofNat a)), .val (.int (Int32.ofNat (n + 1))), .val (.ref bK), .unset, .unset, .unset, .unset, .unset, .unset, .unset, .unset] [(.int (56 : Int32)), (.long p1), (.int (0 : Int32)), (.ref bK)])) _
    refine XS.lushr XK.here hx rfl (hb hby at_27) rfl ?_
    show Steps p.tables e below (TK.setTop (mkF m 28 #[.val (.long p1), .second, .val (.long p2), .second, .val (.int p3), .val (.int p4), .val (.int (Int32.ofNat a)), .val (.int (Int32.ofNat (n + 1))), .val (.ref bK), .unset, .unset, .unset, .unset, .unset, .unset, .unset, .unset] [(.long ((p1.toUInt64 >>> ((56 : Int32) &&& 0x3f).toInt64.toUInt64).toInt64)), (.int (0 : Int32)), (.ref bK)])) _
    refine XS.l2i XK.here hx rfl (hb hby at_28) rfl ?_
    show Steps p.tables e below (TK.setTop (mkF m 29 #[.val (.long p1), .second, .val (.long p2), .second, .val (.int p3), .val (.int p4), .val (.int (Int32.ofNat a)), .val (.int (Int32.ofNat (n + 1))), .val (.ref bK), .unset, .unset, .unset, .unset, .unset, .unset, .unset, .unset] [(.int (((p1.toUInt64 >>> ((56 : Int32) &&& 0x3f).toInt64.toUInt64).toInt64).toInt32)), (.int (0 : Int32)), (.ref bK)])) _
    refine XS.i2b XK.here hx rfl (hb hby at_29) rfl ?_
    show Steps p.tables e below (TK.setTop (mkF m 30 #[.val (.long p1), .second, .val (.long p2), .second, .val (.int p3), .val (.int p4), .val (.int (Int32.ofNat a)), .val (.int (Int32.ofNat (n + 1))), .val (.ref bK), .unset, .unset, .unset, .unset, .unset, .unset, .unset, .unset] [(.int ((((p1.toUInt64 >>> ((56 : Int32) &&& 0x3f).toInt64.toUInt64).toInt64).toInt32).toInt8.toInt32)), (.int (0 : Int32)), (.ref bK)])) _
    exact k
  obtain ⟨T3, L3, X3, N3, G3, -, st3⟩ := own_storeB XK hx hZ N0 gbK GK 30 #[.val (.long p1), .second, .val (.long p2), .second, .val (.int p3), .val (.int p4), .val (.int (Int32.ofNat a)), .val (.int (Int32.ofNat (n + 1))), .val (.ref bK), .unset, .unset, .unset, .unset, .unset, .unset, .unset, .unset] [] (0 : Int32) ((((p1.toUInt64 >>> ((56 : Int32) &&& 0x3f).toInt64.toUInt64).toInt64).toInt32).toInt8.toInt32) 0 (by decide) (by decide) (by decide) (hb hby at_30)
  have r3 : ∀ t, Steps p.tables e below (T3.setTop (mkF m 31 #[.val (.long p1), .second, .val (.long p2), .second, .val (.int p3), .val (.int p4), .val (.int (Int32.ofNat a)), .val (.int (Int32.ofNat (n + 1))), .val (.ref bK), .unset, .unset, .unset, .unset, .unset, .unset, .unset, .unset] [])) t → Steps p.tables e below (s₁.setTop (mkF m 0 #[.val (.long p1), .second, .val (.long p2), .second, .val (.int p3), .val (.int p4), .unset, .unset, .unset, .unset, .unset, .unset, .unset, .unset, .unset, .unset, .unset] [])) t := fun t k => r2 t (s3 t (st3 t k))
  have s4 : ∀ t, Steps p.tables e below (T3.setTop (mkF m 40 #[.val (.long p1), .second, .val (.long p2), .second, .val (.int p3), .val (.int p4), .val (.int (Int32.ofNat a)), .val (.int (Int32.ofNat (n + 1))), .val (.ref bK), .unset, .unset, .unset, .unset, .unset, .unset, .unset, .unset] [(.int ((((p1.toUInt64 >>> ((48 : Int32) &&& 0x3f).toInt64.toUInt64).toInt64).toInt32).toInt8.toInt32)), (.int (1 : Int32)), (.ref bK)])) t → Steps p.tables e below (T3.setTop (mkF m 31 #[.val (.long p1), .second, .val (.long p2), .second, .val (.int p3), .val (.int p4), .val (.int (Int32.ofNat a)), .val (.int (Int32.ofNat (n + 1))), .val (.ref bK), .unset, .unset, .unset, .unset, .unset, .unset, .unset, .unset] [])) t := by
    intro t k
    show Steps p.tables e below (T3.setTop (mkF m 31 #[.val (.long p1), .second, .val (.long p2), .second, .val (.int p3), .val (.int p4), .val (.int (Int32.ofNat a)), .val (.int (Int32.ofNat (n + 1))), .val (.ref bK), .unset, .unset, .unset, .unset, .unset, .unset, .unset, .unset] [])) _
    refine XS.aload X3.here hx rfl (hb hby at_31) rfl rfl ?_
    show Steps p.tables e below (T3.setTop (mkF m 33 #[.val (.long p1), .second, .val (.long p2), .second, .val (.int p3), .val (.int p4), .val (.int (Int32.ofNat a)), .val (.int (Int32.ofNat (n + 1))), .val (.ref bK), .unset, .unset, .unset, .unset, .unset, .unset, .unset, .unset] [(.ref bK)])) _
    refine XS.iconst X3.here hx rfl (hb hby at_33) ?_
    show Steps p.tables e below (T3.setTop (mkF m 34 #[.val (.long p1), .second, .val (.long p2), .second, .val (.int p3), .val (.int p4), .val (.int (Int32.ofNat a)), .val (.int (Int32.ofNat (n + 1))), .val (.ref bK), .unset, .unset, .unset, .unset, .unset, .unset, .unset, .unset] [(.int (1 : Int32)), (.ref bK)])) _
    refine XS.lloadN X3.here hx rfl (hb hby at_34) rfl ?_
    show Steps p.tables e below (T3.setTop (mkF m 35 #[.val (.long p1), .second, .val (.long p2), .second, .val (.int p3), .val (.int p4), .val (.int (Int32.ofNat a)), .val (.int (Int32.ofNat (n + 1))), .val (.ref bK), .unset, .unset, .unset, .unset, .unset, .unset, .unset, .unset] [(.long p1), (.int (1 : Int32)), (.ref bK)])) _
    refine XS.bipush X3.here hx rfl (hb hby at_35) ?_
    show Steps p.tables e below (T3.setTop (mkF m 37 #[.val (.long p1), .second, .val (.long p2), .second, .val (.int p3), .val (.int p4), .val (.int (Int32.ofNat a)), .val (.int (Int32.ofNat (n + 1))), .val (.ref bK), .unset, .unset, .unset, .unset, .unset, .unset, .unset, .unset] [(.int (48 : Int32)), (.long p1), (.int (1 : Int32)), (.ref bK)])) _
    refine XS.lushr X3.here hx rfl (hb hby at_37) rfl ?_
    show Steps p.tables e below (T3.setTop (mkF m 38 #[.val (.long p1), .second, .val (.long p2), .second, .val (.int p3), .val (.int p4), .val (.int (Int32.ofNat a)), .val (.int (Int32.ofNat (n + 1))), .val (.ref bK), .unset, .unset, .unset, .unset, .unset, .unset, .unset, .unset] [(.long ((p1.toUInt64 >>> ((48 : Int32) &&& 0x3f).toInt64.toUInt64).toInt64)), (.int (1 : Int32)), (.ref bK)])) _
    refine XS.l2i X3.here hx rfl (hb hby at_38) rfl ?_
    show Steps p.tables e below (T3.setTop (mkF m 39 #[.val (.long p1), .second, .val (.long p2), .second, .val (.int p3), .val (.int p4), .val (.int (Int32.ofNat a)), .val (.int (Int32.ofNat (n + 1))), .val (.ref bK), .unset, .unset, .unset, .unset, .unset, .unset, .unset, .unset] [(.int (((p1.toUInt64 >>> ((48 : Int32) &&& 0x3f).toInt64.toUInt64).toInt64).toInt32)), (.int (1 : Int32)), (.ref bK)])) _
    refine XS.i2b X3.here hx rfl (hb hby at_39) rfl ?_
    show Steps p.tables e below (T3.setTop (mkF m 40 #[.val (.long p1), .second, .val (.long p2), .second, .val (.int p3), .val (.int p4), .val (.int (Int32.ofNat a)), .val (.int (Int32.ofNat (n + 1))), .val (.ref bK), .unset, .unset, .unset, .unset, .unset, .unset, .unset, .unset] [(.int ((((p1.toUInt64 >>> ((48 : Int32) &&& 0x3f).toInt64.toUInt64).toInt64).toInt32).toInt8.toInt32)), (.int (1 : Int32)), (.ref bK)])) _
    exact k
  obtain ⟨T4, L4, X4, N4, G4, -, st4⟩ := own_storeB X3 hx hZ N3 gbK G3 40 #[.val (.long p1), .second, .val (.long p2), .second, .val (.int p3), .val (.int p4), .val (.int (Int32.ofNat a)), .val (.int (Int32.ofNat (n + 1))), .val (.ref bK), .unset, .unset, .unset, .unset, .unset, .unset, .unset, .unset] [] (1 : Int32) ((((p1.toUInt64 >>> ((48 : Int32) &&& 0x3f).toInt64.toUInt64).toInt64).toInt32).toInt8.toInt32) 1 (by decide) (by decide) (by decide) (hb hby at_40)
  have r4 : ∀ t, Steps p.tables e below (T4.setTop (mkF m 41 #[.val (.long p1), .second, .val (.long p2), .second, .val (.int p3), .val (.int p4), .val (.int (Int32.ofNat a)), .val (.int (Int32.ofNat (n + 1))), .val (.ref bK), .unset, .unset, .unset, .unset, .unset, .unset, .unset, .unset] [])) t → Steps p.tables e below (s₁.setTop (mkF m 0 #[.val (.long p1), .second, .val (.long p2), .second, .val (.int p3), .val (.int p4), .unset, .unset, .unset, .unset, .unset, .unset, .unset, .unset, .unset, .unset, .unset] [])) t := fun t k => r3 t (s4 t (st4 t k))
  have s5 : ∀ t, Steps p.tables e below (T4.setTop (mkF m 50 #[.val (.long p1), .second, .val (.long p2), .second, .val (.int p3), .val (.int p4), .val (.int (Int32.ofNat a)), .val (.int (Int32.ofNat (n + 1))), .val (.ref bK), .unset, .unset, .unset, .unset, .unset, .unset, .unset, .unset] [(.int ((((p1.toUInt64 >>> ((40 : Int32) &&& 0x3f).toInt64.toUInt64).toInt64).toInt32).toInt8.toInt32)), (.int (2 : Int32)), (.ref bK)])) t → Steps p.tables e below (T4.setTop (mkF m 41 #[.val (.long p1), .second, .val (.long p2), .second, .val (.int p3), .val (.int p4), .val (.int (Int32.ofNat a)), .val (.int (Int32.ofNat (n + 1))), .val (.ref bK), .unset, .unset, .unset, .unset, .unset, .unset, .unset, .unset] [])) t := by
    intro t k
    show Steps p.tables e below (T4.setTop (mkF m 41 #[.val (.long p1), .second, .val (.long p2), .second, .val (.int p3), .val (.int p4), .val (.int (Int32.ofNat a)), .val (.int (Int32.ofNat (n + 1))), .val (.ref bK), .unset, .unset, .unset, .unset, .unset, .unset, .unset, .unset] [])) _
    refine XS.aload X4.here hx rfl (hb hby at_41) rfl rfl ?_
    show Steps p.tables e below (T4.setTop (mkF m 43 #[.val (.long p1), .second, .val (.long p2), .second, .val (.int p3), .val (.int p4), .val (.int (Int32.ofNat a)), .val (.int (Int32.ofNat (n + 1))), .val (.ref bK), .unset, .unset, .unset, .unset, .unset, .unset, .unset, .unset] [(.ref bK)])) _
    refine XS.iconst X4.here hx rfl (hb hby at_43) ?_
    show Steps p.tables e below (T4.setTop (mkF m 44 #[.val (.long p1), .second, .val (.long p2), .second, .val (.int p3), .val (.int p4), .val (.int (Int32.ofNat a)), .val (.int (Int32.ofNat (n + 1))), .val (.ref bK), .unset, .unset, .unset, .unset, .unset, .unset, .unset, .unset] [(.int (2 : Int32)), (.ref bK)])) _
    refine XS.lloadN X4.here hx rfl (hb hby at_44) rfl ?_
    show Steps p.tables e below (T4.setTop (mkF m 45 #[.val (.long p1), .second, .val (.long p2), .second, .val (.int p3), .val (.int p4), .val (.int (Int32.ofNat a)), .val (.int (Int32.ofNat (n + 1))), .val (.ref bK), .unset, .unset, .unset, .unset, .unset, .unset, .unset, .unset] [(.long p1), (.int (2 : Int32)), (.ref bK)])) _
    refine XS.bipush X4.here hx rfl (hb hby at_45) ?_
    show Steps p.tables e below (T4.setTop (mkF m 47 #[.val (.long p1), .second, .val (.long p2), .second, .val (.int p3), .val (.int p4), .val (.int (Int32.ofNat a)), .val (.int (Int32.ofNat (n + 1))), .val (.ref bK), .unset, .unset, .unset, .unset, .unset, .unset, .unset, .unset] [(.int (40 : Int32)), (.long p1), (.int (2 : Int32)), (.ref bK)])) _
    refine XS.lushr X4.here hx rfl (hb hby at_47) rfl ?_
    show Steps p.tables e below (T4.setTop (mkF m 48 #[.val (.long p1), .second, .val (.long p2), .second, .val (.int p3), .val (.int p4), .val (.int (Int32.ofNat a)), .val (.int (Int32.ofNat (n + 1))), .val (.ref bK), .unset, .unset, .unset, .unset, .unset, .unset, .unset, .unset] [(.long ((p1.toUInt64 >>> ((40 : Int32) &&& 0x3f).toInt64.toUInt64).toInt64)), (.int (2 : Int32)), (.ref bK)])) _
    refine XS.l2i X4.here hx rfl (hb hby at_48) rfl ?_
    show Steps p.tables e below (T4.setTop (mkF m 49 #[.val (.long p1), .second, .val (.long p2), .second, .val (.int p3), .val (.int p4), .val (.int (Int32.ofNat a)), .val (.int (Int32.ofNat (n + 1))), .val (.ref bK), .unset, .unset, .unset, .unset, .unset, .unset, .unset, .unset] [(.int (((p1.toUInt64 >>> ((40 : Int32) &&& 0x3f).toInt64.toUInt64).toInt64).toInt32)), (.int (2 : Int32)), (.ref bK)])) _
    refine XS.i2b X4.here hx rfl (hb hby at_49) rfl ?_
    show Steps p.tables e below (T4.setTop (mkF m 50 #[.val (.long p1), .second, .val (.long p2), .second, .val (.int p3), .val (.int p4), .val (.int (Int32.ofNat a)), .val (.int (Int32.ofNat (n + 1))), .val (.ref bK), .unset, .unset, .unset, .unset, .unset, .unset, .unset, .unset] [(.int ((((p1.toUInt64 >>> ((40 : Int32) &&& 0x3f).toInt64.toUInt64).toInt64).toInt32).toInt8.toInt32)), (.int (2 : Int32)), (.ref bK)])) _
    exact k
  obtain ⟨T5, L5, X5, N5, G5, -, st5⟩ := own_storeB X4 hx hZ N4 gbK G4 50 #[.val (.long p1), .second, .val (.long p2), .second, .val (.int p3), .val (.int p4), .val (.int (Int32.ofNat a)), .val (.int (Int32.ofNat (n + 1))), .val (.ref bK), .unset, .unset, .unset, .unset, .unset, .unset, .unset, .unset] [] (2 : Int32) ((((p1.toUInt64 >>> ((40 : Int32) &&& 0x3f).toInt64.toUInt64).toInt64).toInt32).toInt8.toInt32) 2 (by decide) (by decide) (by decide) (hb hby at_50)
  have r5 : ∀ t, Steps p.tables e below (T5.setTop (mkF m 51 #[.val (.long p1), .second, .val (.long p2), .second, .val (.int p3), .val (.int p4), .val (.int (Int32.ofNat a)), .val (.int (Int32.ofNat (n + 1))), .val (.ref bK), .unset, .unset, .unset, .unset, .unset, .unset, .unset, .unset] [])) t → Steps p.tables e below (s₁.setTop (mkF m 0 #[.val (.long p1), .second, .val (.long p2), .second, .val (.int p3), .val (.int p4), .unset, .unset, .unset, .unset, .unset, .unset, .unset, .unset, .unset, .unset, .unset] [])) t := fun t k => r4 t (s5 t (st5 t k))
  have s6 : ∀ t, Steps p.tables e below (T5.setTop (mkF m 60 #[.val (.long p1), .second, .val (.long p2), .second, .val (.int p3), .val (.int p4), .val (.int (Int32.ofNat a)), .val (.int (Int32.ofNat (n + 1))), .val (.ref bK), .unset, .unset, .unset, .unset, .unset, .unset, .unset, .unset] [(.int ((((p1.toUInt64 >>> ((32 : Int32) &&& 0x3f).toInt64.toUInt64).toInt64).toInt32).toInt8.toInt32)), (.int (3 : Int32)), (.ref bK)])) t → Steps p.tables e below (T5.setTop (mkF m 51 #[.val (.long p1), .second, .val (.long p2), .second, .val (.int p3), .val (.int p4), .val (.int (Int32.ofNat a)), .val (.int (Int32.ofNat (n + 1))), .val (.ref bK), .unset, .unset, .unset, .unset, .unset, .unset, .unset, .unset] [])) t := by
    intro t k
    show Steps p.tables e below (T5.setTop (mkF m 51 #[.val (.long p1), .second, .val (.long p2), .second, .val (.int p3), .val (.int p4), .val (.int (Int32.ofNat a)), .val (.int (Int32.ofNat (n + 1))), .val (.ref bK), .unset, .unset, .unset, .unset, .unset, .unset, .unset, .unset] [])) _
    refine XS.aload X5.here hx rfl (hb hby at_51) rfl rfl ?_
    show Steps p.tables e below (T5.setTop (mkF m 53 #[.val (.long p1), .second, .val (.long p2), .second, .val (.int p3), .val (.int p4), .val (.int (Int32.ofNat a)), .val (.int (Int32.ofNat (n + 1))), .val (.ref bK), .unset, .unset, .unset, .unset, .unset, .unset, .unset, .unset] [(.ref bK)])) _
    refine XS.iconst X5.here hx rfl (hb hby at_53) ?_
    show Steps p.tables e below (T5.setTop (mkF m 54 #[.val (.long p1), .second, .val (.long p2), .second, .val (.int p3), .val (.int p4), .val (.int (Int32.ofNat a)), .val (.int (Int32.ofNat (n + 1))), .val (.ref bK), .unset, .unset, .unset, .unset, .unset, .unset, .unset, .unset] [(.int (3 : Int32)), (.ref bK)])) _
    refine XS.lloadN X5.here hx rfl (hb hby at_54) rfl ?_
    show Steps p.tables e below (T5.setTop (mkF m 55 #[.val (.long p1), .second, .val (.long p2), .second, .val (.int p3), .val (.int p4), .val (.int (Int32.ofNat a)), .val (.int (Int32.ofNat (n + 1))), .val (.ref bK), .unset, .unset, .unset, .unset, .unset, .unset, .unset, .unset] [(.long p1), (.int (3 : Int32)), (.ref bK)])) _
    refine XS.bipush X5.here hx rfl (hb hby at_55) ?_
    show Steps p.tables e below (T5.setTop (mkF m 57 #[.val (.long p1), .second, .val (.long p2), .second, .val (.int p3), .val (.int p4), .val (.int (Int32.ofNat a)), .val (.int (Int32.ofNat (n + 1))), .val (.ref bK), .unset, .unset, .unset, .unset, .unset, .unset, .unset, .unset] [(.int (32 : Int32)), (.long p1), (.int (3 : Int32)), (.ref bK)])) _
    refine XS.lushr X5.here hx rfl (hb hby at_57) rfl ?_
    show Steps p.tables e below (T5.setTop (mkF m 58 #[.val (.long p1), .second, .val (.long p2), .second, .val (.int p3), .val (.int p4), .val (.int (Int32.ofNat a)), .val (.int (Int32.ofNat (n + 1))), .val (.ref bK), .unset, .unset, .unset, .unset, .unset, .unset, .unset, .unset] [(.long ((p1.toUInt64 >>> ((32 : Int32) &&& 0x3f).toInt64.toUInt64).toInt64)), (.int (3 : Int32)), (.ref bK)])) _
    refine XS.l2i X5.here hx rfl (hb hby at_58) rfl ?_
    show Steps p.tables e below (T5.setTop (mkF m 59 #[.val (.long p1), .second, .val (.long p2), .second, .val (.int p3), .val (.int p4), .val (.int (Int32.ofNat a)), .val (.int (Int32.ofNat (n + 1))), .val (.ref bK), .unset, .unset, .unset, .unset, .unset, .unset, .unset, .unset] [(.int (((p1.toUInt64 >>> ((32 : Int32) &&& 0x3f).toInt64.toUInt64).toInt64).toInt32)), (.int (3 : Int32)), (.ref bK)])) _
    refine XS.i2b X5.here hx rfl (hb hby at_59) rfl ?_
    show Steps p.tables e below (T5.setTop (mkF m 60 #[.val (.long p1), .second, .val (.long p2), .second, .val (.int p3), .val (.int p4), .val (.int (Int32.ofNat a)), .val (.int (Int32.ofNat (n + 1))), .val (.ref bK), .unset, .unset, .unset, .unset, .unset, .unset, .unset, .unset] [(.int ((((p1.toUInt64 >>> ((32 : Int32) &&& 0x3f).toInt64.toUInt64).toInt64).toInt32).toInt8.toInt32)), (.int (3 : Int32)), (.ref bK)])) _
    exact k
  obtain ⟨T6, L6, X6, N6, G6, -, st6⟩ := own_storeB X5 hx hZ N5 gbK G5 60 #[.val (.long p1), .second, .val (.long p2), .second, .val (.int p3), .val (.int p4), .val (.int (Int32.ofNat a)), .val (.int (Int32.ofNat (n + 1))), .val (.ref bK), .unset, .unset, .unset, .unset, .unset, .unset, .unset, .unset] [] (3 : Int32) ((((p1.toUInt64 >>> ((32 : Int32) &&& 0x3f).toInt64.toUInt64).toInt64).toInt32).toInt8.toInt32) 3 (by decide) (by decide) (by decide) (hb hby at_60)
  have r6 : ∀ t, Steps p.tables e below (T6.setTop (mkF m 61 #[.val (.long p1), .second, .val (.long p2), .second, .val (.int p3), .val (.int p4), .val (.int (Int32.ofNat a)), .val (.int (Int32.ofNat (n + 1))), .val (.ref bK), .unset, .unset, .unset, .unset, .unset, .unset, .unset, .unset] [])) t → Steps p.tables e below (s₁.setTop (mkF m 0 #[.val (.long p1), .second, .val (.long p2), .second, .val (.int p3), .val (.int p4), .unset, .unset, .unset, .unset, .unset, .unset, .unset, .unset, .unset, .unset, .unset] [])) t := fun t k => r5 t (s6 t (st6 t k))
  have s7 : ∀ t, Steps p.tables e below (T6.setTop (mkF m 70 #[.val (.long p1), .second, .val (.long p2), .second, .val (.int p3), .val (.int p4), .val (.int (Int32.ofNat a)), .val (.int (Int32.ofNat (n + 1))), .val (.ref bK), .unset, .unset, .unset, .unset, .unset, .unset, .unset, .unset] [(.int ((((p1.toUInt64 >>> ((24 : Int32) &&& 0x3f).toInt64.toUInt64).toInt64).toInt32).toInt8.toInt32)), (.int (4 : Int32)), (.ref bK)])) t → Steps p.tables e below (T6.setTop (mkF m 61 #[.val (.long p1), .second, .val (.long p2), .second, .val (.int p3), .val (.int p4), .val (.int (Int32.ofNat a)), .val (.int (Int32.ofNat (n + 1))), .val (.ref bK), .unset, .unset, .unset, .unset, .unset, .unset, .unset, .unset] [])) t := by
    intro t k
    show Steps p.tables e below (T6.setTop (mkF m 61 #[.val (.long p1), .second, .val (.long p2), .second, .val (.int p3), .val (.int p4), .val (.int (Int32.ofNat a)), .val (.int (Int32.ofNat (n + 1))), .val (.ref bK), .unset, .unset, .unset, .unset, .unset, .unset, .unset, .unset] [])) _
    refine XS.aload X6.here hx rfl (hb hby at_61) rfl rfl ?_
    show Steps p.tables e below (T6.setTop (mkF m 63 #[.val (.long p1), .second, .val (.long p2), .second, .val (.int p3), .val (.int p4), .val (.int (Int32.ofNat a)), .val (.int (Int32.ofNat (n + 1))), .val (.ref bK), .unset, .unset, .unset, .unset, .unset, .unset, .unset, .unset] [(.ref bK)])) _
    refine XS.iconst X6.here hx rfl (hb hby at_63) ?_
    show Steps p.tables e below (T6.setTop (mkF m 64 #[.val (.long p1), .second, .val (.long p2), .second, .val (.int p3), .val (.int p4), .val (.int (Int32.ofNat a)), .val (.int (Int32.ofNat (n + 1))), .val (.ref bK), .unset, .unset, .unset, .unset, .unset, .unset, .unset, .unset] [(.int (4 : Int32)), (.ref bK)])) _
    refine XS.lloadN X6.here hx rfl (hb hby at_64) rfl ?_
    show Steps p.tables e below (T6.setTop (mkF m 65 #[.val (.long p1), .second, .val (.long p2), .second, .val (.int p3), .val (.int p4), .val (.int (Int32.ofNat a)), .val (.int (Int32.ofNat (n + 1))), .val (.ref bK), .unset, .unset, .unset, .unset, .unset, .unset, .unset, .unset] [(.long p1), (.int (4 : Int32)), (.ref bK)])) _
    refine XS.bipush X6.here hx rfl (hb hby at_65) ?_
    show Steps p.tables e below (T6.setTop (mkF m 67 #[.val (.long p1), .second, .val (.long p2), .second, .val (.int p3), .val (.int p4), .val (.int (Int32.ofNat a)), .val (.int (Int32.ofNat (n + 1))), .val (.ref bK), .unset, .unset, .unset, .unset, .unset, .unset, .unset, .unset] [(.int (24 : Int32)), (.long p1), (.int (4 : Int32)), (.ref bK)])) _
    refine XS.lushr X6.here hx rfl (hb hby at_67) rfl ?_
    show Steps p.tables e below (T6.setTop (mkF m 68 #[.val (.long p1), .second, .val (.long p2), .second, .val (.int p3), .val (.int p4), .val (.int (Int32.ofNat a)), .val (.int (Int32.ofNat (n + 1))), .val (.ref bK), .unset, .unset, .unset, .unset, .unset, .unset, .unset, .unset] [(.long ((p1.toUInt64 >>> ((24 : Int32) &&& 0x3f).toInt64.toUInt64).toInt64)), (.int (4 : Int32)), (.ref bK)])) _
    refine XS.l2i X6.here hx rfl (hb hby at_68) rfl ?_
    show Steps p.tables e below (T6.setTop (mkF m 69 #[.val (.long p1), .second, .val (.long p2), .second, .val (.int p3), .val (.int p4), .val (.int (Int32.ofNat a)), .val (.int (Int32.ofNat (n + 1))), .val (.ref bK), .unset, .unset, .unset, .unset, .unset, .unset, .unset, .unset] [(.int (((p1.toUInt64 >>> ((24 : Int32) &&& 0x3f).toInt64.toUInt64).toInt64).toInt32)), (.int (4 : Int32)), (.ref bK)])) _
    refine XS.i2b X6.here hx rfl (hb hby at_69) rfl ?_
    show Steps p.tables e below (T6.setTop (mkF m 70 #[.val (.long p1), .second, .val (.long p2), .second, .val (.int p3), .val (.int p4), .val (.int (Int32.ofNat a)), .val (.int (Int32.ofNat (n + 1))), .val (.ref bK), .unset, .unset, .unset, .unset, .unset, .unset, .unset, .unset] [(.int ((((p1.toUInt64 >>> ((24 : Int32) &&& 0x3f).toInt64.toUInt64).toInt64).toInt32).toInt8.toInt32)), (.int (4 : Int32)), (.ref bK)])) _
    exact k
  obtain ⟨T7, L7, X7, N7, G7, -, st7⟩ := own_storeB X6 hx hZ N6 gbK G6 70 #[.val (.long p1), .second, .val (.long p2), .second, .val (.int p3), .val (.int p4), .val (.int (Int32.ofNat a)), .val (.int (Int32.ofNat (n + 1))), .val (.ref bK), .unset, .unset, .unset, .unset, .unset, .unset, .unset, .unset] [] (4 : Int32) ((((p1.toUInt64 >>> ((24 : Int32) &&& 0x3f).toInt64.toUInt64).toInt64).toInt32).toInt8.toInt32) 4 (by decide) (by decide) (by decide) (hb hby at_70)
  have r7 : ∀ t, Steps p.tables e below (T7.setTop (mkF m 71 #[.val (.long p1), .second, .val (.long p2), .second, .val (.int p3), .val (.int p4), .val (.int (Int32.ofNat a)), .val (.int (Int32.ofNat (n + 1))), .val (.ref bK), .unset, .unset, .unset, .unset, .unset, .unset, .unset, .unset] [])) t → Steps p.tables e below (s₁.setTop (mkF m 0 #[.val (.long p1), .second, .val (.long p2), .second, .val (.int p3), .val (.int p4), .unset, .unset, .unset, .unset, .unset, .unset, .unset, .unset, .unset, .unset, .unset] [])) t := fun t k => r6 t (s7 t (st7 t k))
  have s8 : ∀ t, Steps p.tables e below (T7.setTop (mkF m 80 #[.val (.long p1), .second, .val (.long p2), .second, .val (.int p3), .val (.int p4), .val (.int (Int32.ofNat a)), .val (.int (Int32.ofNat (n + 1))), .val (.ref bK), .unset, .unset, .unset, .unset, .unset, .unset, .unset, .unset] [(.int ((((p1.toUInt64 >>> ((16 : Int32) &&& 0x3f).toInt64.toUInt64).toInt64).toInt32).toInt8.toInt32)), (.int (5 : Int32)), (.ref bK)])) t → Steps p.tables e below (T7.setTop (mkF m 71 #[.val (.long p1), .second, .val (.long p2), .second, .val (.int p3), .val (.int p4), .val (.int (Int32.ofNat a)), .val (.int (Int32.ofNat (n + 1))), .val (.ref bK), .unset, .unset, .unset, .unset, .unset, .unset, .unset, .unset] [])) t := by
    intro t k
    show Steps p.tables e below (T7.setTop (mkF m 71 #[.val (.long p1), .second, .val (.long p2), .second, .val (.int p3), .val (.int p4), .val (.int (Int32.ofNat a)), .val (.int (Int32.ofNat (n + 1))), .val (.ref bK), .unset, .unset, .unset, .unset, .unset, .unset, .unset, .unset] [])) _
    refine XS.aload X7.here hx rfl (hb hby at_71) rfl rfl ?_
    show Steps p.tables e below (T7.setTop (mkF m 73 #[.val (.long p1), .second, .val (.long p2), .second, .val (.int p3), .val (.int p4), .val (.int (Int32.ofNat a)), .val (.int (Int32.ofNat (n + 1))), .val (.ref bK), .unset, .unset, .unset, .unset, .unset, .unset, .unset, .unset] [(.ref bK)])) _
    refine XS.iconst X7.here hx rfl (hb hby at_73) ?_
    show Steps p.tables e below (T7.setTop (mkF m 74 #[.val (.long p1), .second, .val (.long p2), .second, .val (.int p3), .val (.int p4), .val (.int (Int32.ofNat a)), .val (.int (Int32.ofNat (n + 1))), .val (.ref bK), .unset, .unset, .unset, .unset, .unset, .unset, .unset, .unset] [(.int (5 : Int32)), (.ref bK)])) _
    refine XS.lloadN X7.here hx rfl (hb hby at_74) rfl ?_
    show Steps p.tables e below (T7.setTop (mkF m 75 #[.val (.long p1), .second, .val (.long p2), .second, .val (.int p3), .val (.int p4), .val (.int (Int32.ofNat a)), .val (.int (Int32.ofNat (n + 1))), .val (.ref bK), .unset, .unset, .unset, .unset, .unset, .unset, .unset, .unset] [(.long p1), (.int (5 : Int32)), (.ref bK)])) _
    refine XS.bipush X7.here hx rfl (hb hby at_75) ?_
    show Steps p.tables e below (T7.setTop (mkF m 77 #[.val (.long p1), .second, .val (.long p2), .second, .val (.int p3), .val (.int p4), .val (.int (Int32.ofNat a)), .val (.int (Int32.ofNat (n + 1))), .val (.ref bK), .unset, .unset, .unset, .unset, .unset, .unset, .unset, .unset] [(.int (16 : Int32)), (.long p1), (.int (5 : Int32)), (.ref bK)])) _
    refine XS.lushr X7.here hx rfl (hb hby at_77) rfl ?_
    show Steps p.tables e below (T7.setTop (mkF m 78 #[.val (.long p1), .second, .val (.long p2), .second, .val (.int p3), .val (.int p4), .val (.int (Int32.ofNat a)), .val (.int (Int32.ofNat (n + 1))), .val (.ref bK), .unset, .unset, .unset, .unset, .unset, .unset, .unset, .unset] [(.long ((p1.toUInt64 >>> ((16 : Int32) &&& 0x3f).toInt64.toUInt64).toInt64)), (.int (5 : Int32)), (.ref bK)])) _
    refine XS.l2i X7.here hx rfl (hb hby at_78) rfl ?_
    show Steps p.tables e below (T7.setTop (mkF m 79 #[.val (.long p1), .second, .val (.long p2), .second, .val (.int p3), .val (.int p4), .val (.int (Int32.ofNat a)), .val (.int (Int32.ofNat (n + 1))), .val (.ref bK), .unset, .unset, .unset, .unset, .unset, .unset, .unset, .unset] [(.int (((p1.toUInt64 >>> ((16 : Int32) &&& 0x3f).toInt64.toUInt64).toInt64).toInt32)), (.int (5 : Int32)), (.ref bK)])) _
    refine XS.i2b X7.here hx rfl (hb hby at_79) rfl ?_
    show Steps p.tables e below (T7.setTop (mkF m 80 #[.val (.long p1), .second, .val (.long p2), .second, .val (.int p3), .val (.int p4), .val (.int (Int32.ofNat a)), .val (.int (Int32.ofNat (n + 1))), .val (.ref bK), .unset, .unset, .unset, .unset, .unset, .unset, .unset, .unset] [(.int ((((p1.toUInt64 >>> ((16 : Int32) &&& 0x3f).toInt64.toUInt64).toInt64).toInt32).toInt8.toInt32)), (.int (5 : Int32)), (.ref bK)])) _
    exact k
  obtain ⟨T8, L8, X8, N8, G8, -, st8⟩ := own_storeB X7 hx hZ N7 gbK G7 80 #[.val (.long p1), .second, .val (.long p2), .second, .val (.int p3), .val (.int p4), .val (.int (Int32.ofNat a)), .val (.int (Int32.ofNat (n + 1))), .val (.ref bK), .unset, .unset, .unset, .unset, .unset, .unset, .unset, .unset] [] (5 : Int32) ((((p1.toUInt64 >>> ((16 : Int32) &&& 0x3f).toInt64.toUInt64).toInt64).toInt32).toInt8.toInt32) 5 (by decide) (by decide) (by decide) (hb hby at_80)
  have r8 : ∀ t, Steps p.tables e below (T8.setTop (mkF m 81 #[.val (.long p1), .second, .val (.long p2), .second, .val (.int p3), .val (.int p4), .val (.int (Int32.ofNat a)), .val (.int (Int32.ofNat (n + 1))), .val (.ref bK), .unset, .unset, .unset, .unset, .unset, .unset, .unset, .unset] [])) t → Steps p.tables e below (s₁.setTop (mkF m 0 #[.val (.long p1), .second, .val (.long p2), .second, .val (.int p3), .val (.int p4), .unset, .unset, .unset, .unset, .unset, .unset, .unset, .unset, .unset, .unset, .unset] [])) t := fun t k => r7 t (s8 t (st8 t k))
  have s9 : ∀ t, Steps p.tables e below (T8.setTop (mkF m 91 #[.val (.long p1), .second, .val (.long p2), .second, .val (.int p3), .val (.int p4), .val (.int (Int32.ofNat a)), .val (.int (Int32.ofNat (n + 1))), .val (.ref bK), .unset, .unset, .unset, .unset, .unset, .unset, .unset, .unset] [(.int ((((p1.toUInt64 >>> ((8 : Int32) &&& 0x3f).toInt64.toUInt64).toInt64).toInt32).toInt8.toInt32)), (.int (6 : Int32)), (.ref bK)])) t → Steps p.tables e below (T8.setTop (mkF m 81 #[.val (.long p1), .second, .val (.long p2), .second, .val (.int p3), .val (.int p4), .val (.int (Int32.ofNat a)), .val (.int (Int32.ofNat (n + 1))), .val (.ref bK), .unset, .unset, .unset, .unset, .unset, .unset, .unset, .unset] [])) t := by
    intro t k
    show Steps p.tables e below (T8.setTop (mkF m 81 #[.val (.long p1), .second, .val (.long p2), .second, .val (.int p3), .val (.int p4), .val (.int (Int32.ofNat a)), .val (.int (Int32.ofNat (n + 1))), .val (.ref bK), .unset, .unset, .unset, .unset, .unset, .unset, .unset, .unset] [])) _
    refine XS.aload X8.here hx rfl (hb hby at_81) rfl rfl ?_
    show Steps p.tables e below (T8.setTop (mkF m 83 #[.val (.long p1), .second, .val (.long p2), .second, .val (.int p3), .val (.int p4), .val (.int (Int32.ofNat a)), .val (.int (Int32.ofNat (n + 1))), .val (.ref bK), .unset, .unset, .unset, .unset, .unset, .unset, .unset, .unset] [(.ref bK)])) _
    refine XS.bipush X8.here hx rfl (hb hby at_83) ?_
    show Steps p.tables e below (T8.setTop (mkF m 85 #[.val (.long p1), .second, .val (.long p2), .second, .val (.int p3), .val (.int p4), .val (.int (Int32.ofNat a)), .val (.int (Int32.ofNat (n + 1))), .val (.ref bK), .unset, .unset, .unset, .unset, .unset, .unset, .unset, .unset] [(.int (6 : Int32)), (.ref bK)])) _
    refine XS.lloadN X8.here hx rfl (hb hby at_85) rfl ?_
    show Steps p.tables e below (T8.setTop (mkF m 86 #[.val (.long p1), .second, .val (.long p2), .second, .val (.int p3), .val (.int p4), .val (.int (Int32.ofNat a)), .val (.int (Int32.ofNat (n + 1))), .val (.ref bK), .unset, .unset, .unset, .unset, .unset, .unset, .unset, .unset] [(.long p1), (.int (6 : Int32)), (.ref bK)])) _
    refine XS.bipush X8.here hx rfl (hb hby at_86) ?_
    show Steps p.tables e below (T8.setTop (mkF m 88 #[.val (.long p1), .second, .val (.long p2), .second, .val (.int p3), .val (.int p4), .val (.int (Int32.ofNat a)), .val (.int (Int32.ofNat (n + 1))), .val (.ref bK), .unset, .unset, .unset, .unset, .unset, .unset, .unset, .unset] [(.int (8 : Int32)), (.long p1), (.int (6 : Int32)), (.ref bK)])) _
    refine XS.lushr X8.here hx rfl (hb hby at_88) rfl ?_
    show Steps p.tables e below (T8.setTop (mkF m 89 #[.val (.long p1), .second, .val (.long p2), .second, .val (.int p3), .val (.int p4), .val (.int (Int32.ofNat a)), .val (.int (Int32.ofNat (n + 1))), .val (.ref bK), .unset, .unset, .unset, .unset, .unset, .unset, .unset, .unset] [(.long ((p1.toUInt64 >>> ((8 : Int32) &&& 0x3f).toInt64.toUInt64).toInt64)), (.int (6 : Int32)), (.ref bK)])) _
    refine XS.l2i X8.here hx rfl (hb hby at_89) rfl ?_
    show Steps p.tables e below (T8.setTop (mkF m 90 #[.val (.long p1), .second, .val (.long p2), .second, .val (.int p3), .val (.int p4), .val (.int (Int32.ofNat a)), .val (.int (Int32.ofNat (n + 1))), .val (.ref bK), .unset, .unset, .unset, .unset, .unset, .unset, .unset, .unset] [(.int (((p1.toUInt64 >>> ((8 : Int32) &&& 0x3f).toInt64.toUInt64).toInt64).toInt32)), (.int (6 : Int32)), (.ref bK)])) _
    refine XS.i2b X8.here hx rfl (hb hby at_90) rfl ?_
    show Steps p.tables e below (T8.setTop (mkF m 91 #[.val (.long p1), .second, .val (.long p2), .second, .val (.int p3), .val (.int p4), .val (.int (Int32.ofNat a)), .val (.int (Int32.ofNat (n + 1))), .val (.ref bK), .unset, .unset, .unset, .unset, .unset, .unset, .unset, .unset] [(.int ((((p1.toUInt64 >>> ((8 : Int32) &&& 0x3f).toInt64.toUInt64).toInt64).toInt32).toInt8.toInt32)), (.int (6 : Int32)), (.ref bK)])) _
    exact k
  obtain ⟨T9, L9, X9, N9, G9, -, st9⟩ := own_storeB X8 hx hZ N8 gbK G8 91 #[.val (.long p1), .second, .val (.long p2), .second, .val (.int p3), .val (.int p4), .val (.int (Int32.ofNat a)), .val (.int (Int32.ofNat (n + 1))), .val (.ref bK), .unset, .unset, .unset, .unset, .unset, .unset, .unset, .unset] [] (6 : Int32) ((((p1.toUInt64 >>> ((8 : Int32) &&& 0x3f).toInt64.toUInt64).toInt64).toInt32).toInt8.toInt32) 6 (by decide) (by decide) (by decide) (hb hby at_91)
  have r9 : ∀ t, Steps p.tables e below (T9.setTop (mkF m 92 #[.val (.long p1), .second, .val (.long p2), .second, .val (.int p3), .val (.int p4), .val (.int (Int32.ofNat a)), .val (.int (Int32.ofNat (n + 1))), .val (.ref bK), .unset, .unset, .unset, .unset, .unset, .unset, .unset, .unset] [])) t → Steps p.tables e below (s₁.setTop (mkF m 0 #[.val (.long p1), .second, .val (.long p2), .second, .val (.int p3), .val (.int p4), .unset, .unset, .unset, .unset, .unset, .unset, .unset, .unset, .unset, .unset, .unset] [])) t := fun t k => r8 t (s9 t (st9 t k))
  have s10 : ∀ t, Steps p.tables e below (T9.setTop (mkF m 99 #[.val (.long p1), .second, .val (.long p2), .second, .val (.int p3), .val (.int p4), .val (.int (Int32.ofNat a)), .val (.int (Int32.ofNat (n + 1))), .val (.ref bK), .unset, .unset, .unset, .unset, .unset, .unset, .unset, .unset] [(.int ((p1.toInt32).toInt8.toInt32)), (.int (7 : Int32)), (.ref bK)])) t → Steps p.tables e below (T9.setTop (mkF m 92 #[.val (.long p1), .second, .val (.long p2), .second, .val (.int p3), .val (.int p4), .val (.int (Int32.ofNat a)), .val (.int (Int32.ofNat (n + 1))), .val (.ref bK), .unset, .unset, .unset, .unset, .unset, .unset, .unset, .unset] [])) t := by
    intro t k
    show Steps p.tables e below (T9.setTop (mkF m 92 #[.val (.long p1), .second, .val (.long p2), .second, .val (.int p3), .val (.int p4), .val (.int (Int32.ofNat a)), .val (.int (Int32.ofNat (n + 1))), .val (.ref bK), .unset, .unset, .unset, .unset, .unset, .unset, .unset, .unset] [])) _
    refine XS.aload X9.here hx rfl (hb hby at_92) rfl rfl ?_
    show Steps p.tables e below (T9.setTop (mkF m 94 #[.val (.long p1), .second, .val (.long p2), .second, .val (.int p3), .val (.int p4), .val (.int (Int32.ofNat a)), .val (.int (Int32.ofNat (n + 1))), .val (.ref bK), .unset, .unset, .unset, .unset, .unset, .unset, .unset, .unset] [(.ref bK)])) _
    refine XS.bipush X9.here hx rfl (hb hby at_94) ?_
    show Steps p.tables e below (T9.setTop (mkF m 96 #[.val (.long p1), .second, .val (.long p2), .second, .val (.int p3), .val (.int p4), .val (.int (Int32.ofNat a)), .val (.int (Int32.ofNat (n + 1))), .val (.ref bK), .unset, .unset, .unset, .unset, .unset, .unset, .unset, .unset] [(.int (7 : Int32)), (.ref bK)])) _
    refine XS.lloadN X9.here hx rfl (hb hby at_96) rfl ?_
    show Steps p.tables e below (T9.setTop (mkF m 97 #[.val (.long p1), .second, .val (.long p2), .second, .val (.int p3), .val (.int p4), .val (.int (Int32.ofNat a)), .val (.int (Int32.ofNat (n + 1))), .val (.ref bK), .unset, .unset, .unset, .unset, .unset, .unset, .unset, .unset] [(.long p1), (.int (7 : Int32)), (.ref bK)])) _
    refine XS.l2i X9.here hx rfl (hb hby at_97) rfl ?_
    show Steps p.tables e below (T9.setTop (mkF m 98 #[.val (.long p1), .second, .val (.long p2), .second, .val (.int p3), .val (.int p4), .val (.int (Int32.ofNat a)), .val (.int (Int32.ofNat (n + 1))), .val (.ref bK), .unset, .unset, .unset, .unset, .unset, .unset, .unset, .unset] [(.int (p1.toInt32)), (.int (7 : Int32)), (.ref bK)])) _
    refine XS.i2b X9.here hx rfl (hb hby at_98) rfl ?_
    show Steps p.tables e below (T9.setTop (mkF m 99 #[.val (.long p1), .second, .val (.long p2), .second, .val (.int p3), .val (.int p4), .val (.int (Int32.ofNat a)), .val (.int (Int32.ofNat (n + 1))), .val (.ref bK), .unset, .unset, .unset, .unset, .unset, .unset, .unset, .unset] [(.int ((p1.toInt32).toInt8.toInt32)), (.int (7 : Int32)), (.ref bK)])) _
    exact k
  obtain ⟨T10, L10, X10, N10, G10, -, st10⟩ := own_storeB X9 hx hZ N9 gbK G9 99 #[.val (.long p1), .second, .val (.long p2), .second, .val (.int p3), .val (.int p4), .val (.int (Int32.ofNat a)), .val (.int (Int32.ofNat (n + 1))), .val (.ref bK), .unset, .unset, .unset, .unset, .unset, .unset, .unset, .unset] [] (7 : Int32) ((p1.toInt32).toInt8.toInt32) 7 (by decide) (by decide) (by decide) (hb hby at_99)
  have r10 : ∀ t, Steps p.tables e below (T10.setTop (mkF m 100 #[.val (.long p1), .second, .val (.long p2), .second, .val (.int p3), .val (.int p4), .val (.int (Int32.ofNat a)), .val (.int (Int32.ofNat (n + 1))), .val (.ref bK), .unset, .unset, .unset, .unset, .unset, .unset, .unset, .unset] [])) t → Steps p.tables e below (s₁.setTop (mkF m 0 #[.val (.long p1), .second, .val (.long p2), .second, .val (.int p3), .val (.int p4), .unset, .unset, .unset, .unset, .unset, .unset, .unset, .unset, .unset, .unset, .unset] [])) t := fun t k => r9 t (s10 t (st10 t k))
  have s11 : ∀ t, Steps p.tables e below (T10.setTop (mkF m 110 #[.val (.long p1), .second, .val (.long p2), .second, .val (.int p3), .val (.int p4), .val (.int (Int32.ofNat a)), .val (.int (Int32.ofNat (n + 1))), .val (.ref bK), .unset, .unset, .unset, .unset, .unset, .unset, .unset, .unset] [(.int ((((p2.toUInt64 >>> ((16 : Int32) &&& 0x3f).toInt64.toUInt64).toInt64).toInt32).toInt8.toInt32)), (.int (8 : Int32)), (.ref bK)])) t → Steps p.tables e below (T10.setTop (mkF m 100 #[.val (.long p1), .second, .val (.long p2), .second, .val (.int p3), .val (.int p4), .val (.int (Int32.ofNat a)), .val (.int (Int32.ofNat (n + 1))), .val (.ref bK), .unset, .unset, .unset, .unset, .unset, .unset, .unset, .unset] [])) t := by
    intro t k
    show Steps p.tables e below (T10.setTop (mkF m 100 #[.val (.long p1), .second, .val (.long p2), .second, .val (.int p3), .val (.int p4), .val (.int (Int32.ofNat a)), .val (.int (Int32.ofNat (n + 1))), .val (.ref bK), .unset, .unset, .unset, .unset, .unset, .unset, .unset, .unset] [])) _
    refine XS.aload X10.here hx rfl (hb hby at_100) rfl rfl ?_
    show Steps p.tables e below (T10.setTop (mkF m 102 #[.val (.long p1), .second, .val (.long p2), .second, .val (.int p3), .val (.int p4), .val (.int (Int32.ofNat a)), .val (.int (Int32.ofNat (n + 1))), .val (.ref bK), .unset, .unset, .unset, .unset, .unset, .unset, .unset, .unset] [(.ref bK)])) _
    refine XS.bipush X10.here hx rfl (hb hby at_102) ?_
    show Steps p.tables e below (T10.setTop (mkF m 104 #[.val (.long p1), .second, .val (.long p2), .second, .val (.int p3), .val (.int p4), .val (.int (Int32.ofNat a)), .val (.int (Int32.ofNat (n + 1))), .val (.ref bK), .unset, .unset, .unset, .unset, .unset, .unset, .unset, .unset] [(.int (8 : Int32)), (.ref bK)])) _
    refine XS.lloadN X10.here hx rfl (hb hby at_104) rfl ?_
    show Steps p.tables e below (T10.setTop (mkF m 105 #[.val (.long p1), .second, .val (.long p2), .second, .val (.int p3), .val (.int p4), .val (.int (Int32.ofNat a)), .val (.int (Int32.ofNat (n + 1))), .val (.ref bK), .unset, .unset, .unset, .unset, .unset, .unset, .unset, .unset] [(.long p2), (.int (8 : Int32)), (.ref bK)])) _
    refine XS.bipush X10.here hx rfl (hb hby at_105) ?_
    show Steps p.tables e below (T10.setTop (mkF m 107 #[.val (.long p1), .second, .val (.long p2), .second, .val (.int p3), .val (.int p4), .val (.int (Int32.ofNat a)), .val (.int (Int32.ofNat (n + 1))), .val (.ref bK), .unset, .unset, .unset, .unset, .unset, .unset, .unset, .unset] [(.int (16 : Int32)), (.long p2), (.int (8 : Int32)), (.ref bK)])) _
    refine XS.lushr X10.here hx rfl (hb hby at_107) rfl ?_
    show Steps p.tables e below (T10.setTop (mkF m 108 #[.val (.long p1), .second, .val (.long p2), .second, .val (.int p3), .val (.int p4), .val (.int (Int32.ofNat a)), .val (.int (Int32.ofNat (n + 1))), .val (.ref bK), .unset, .unset, .unset, .unset, .unset, .unset, .unset, .unset] [(.long ((p2.toUInt64 >>> ((16 : Int32) &&& 0x3f).toInt64.toUInt64).toInt64)), (.int (8 : Int32)), (.ref bK)])) _
    refine XS.l2i X10.here hx rfl (hb hby at_108) rfl ?_
    show Steps p.tables e below (T10.setTop (mkF m 109 #[.val (.long p1), .second, .val (.long p2), .second, .val (.int p3), .val (.int p4), .val (.int (Int32.ofNat a)), .val (.int (Int32.ofNat (n + 1))), .val (.ref bK), .unset, .unset, .unset, .unset, .unset, .unset, .unset, .unset] [(.int (((p2.toUInt64 >>> ((16 : Int32) &&& 0x3f).toInt64.toUInt64).toInt64).toInt32)), (.int (8 : Int32)), (.ref bK)])) _
    refine XS.i2b X10.here hx rfl (hb hby at_109) rfl ?_
    show Steps p.tables e below (T10.setTop (mkF m 110 #[.val (.long p1), .second, .val (.long p2), .second, .val (.int p3), .val (.int p4), .val (.int (Int32.ofNat a)), .val (.int (Int32.ofNat (n + 1))), .val (.ref bK), .unset, .unset, .unset, .unset, .unset, .unset, .unset, .unset] [(.int ((((p2.toUInt64 >>> ((16 : Int32) &&& 0x3f).toInt64.toUInt64).toInt64).toInt32).toInt8.toInt32)), (.int (8 : Int32)), (.ref bK)])) _
    exact k
  obtain ⟨T11, L11, X11, N11, G11, -, st11⟩ := own_storeB X10 hx hZ N10 gbK G10 110 #[.val (.long p1), .second, .val (.long p2), .second, .val (.int p3), .val (.int p4), .val (.int (Int32.ofNat a)), .val (.int (Int32.ofNat (n + 1))), .val (.ref bK), .unset, .unset, .unset, .unset, .unset, .unset, .unset, .unset] [] (8 : Int32) ((((p2.toUInt64 >>> ((16 : Int32) &&& 0x3f).toInt64.toUInt64).toInt64).toInt32).toInt8.toInt32) 8 (by decide) (by decide) (by decide) (hb hby at_110)
  have r11 : ∀ t, Steps p.tables e below (T11.setTop (mkF m 111 #[.val (.long p1), .second, .val (.long p2), .second, .val (.int p3), .val (.int p4), .val (.int (Int32.ofNat a)), .val (.int (Int32.ofNat (n + 1))), .val (.ref bK), .unset, .unset, .unset, .unset, .unset, .unset, .unset, .unset] [])) t → Steps p.tables e below (s₁.setTop (mkF m 0 #[.val (.long p1), .second, .val (.long p2), .second, .val (.int p3), .val (.int p4), .unset, .unset, .unset, .unset, .unset, .unset, .unset, .unset, .unset, .unset, .unset] [])) t := fun t k => r10 t (s11 t (st11 t k))
  have s12 : ∀ t, Steps p.tables e below (T11.setTop (mkF m 121 #[.val (.long p1), .second, .val (.long p2), .second, .val (.int p3), .val (.int p4), .val (.int (Int32.ofNat a)), .val (.int (Int32.ofNat (n + 1))), .val (.ref bK), .unset, .unset, .unset, .unset, .unset, .unset, .unset, .unset] [(.int ((((p2.toUInt64 >>> ((8 : Int32) &&& 0x3f).toInt64.toUInt64).toInt64).toInt32).toInt8.toInt32)), (.int (9 : Int32)), (.ref bK)])) t → Steps p.tables e below (T11.setTop (mkF m 111 #[.val (.long p1), .second, .val (.long p2), .second, .val (.int p3), .val (.int p4), .val (.int (Int32.ofNat a)), .val (.int (Int32.ofNat (n + 1))), .val (.ref bK), .unset, .unset, .unset, .unset, .unset, .unset, .unset, .unset] [])) t := by
    intro t k
    show Steps p.tables e below (T11.setTop (mkF m 111 #[.val (.long p1), .second, .val (.long p2), .second, .val (.int p3), .val (.int p4), .val (.int (Int32.ofNat a)), .val (.int (Int32.ofNat (n + 1))), .val (.ref bK), .unset, .unset, .unset, .unset, .unset, .unset, .unset, .unset] [])) _
    refine XS.aload X11.here hx rfl (hb hby at_111) rfl rfl ?_
    show Steps p.tables e below (T11.setTop (mkF m 113 #[.val (.long p1), .second, .val (.long p2), .second, .val (.int p3), .val (.int p4), .val (.int (Int32.ofNat a)), .val (.int (Int32.ofNat (n + 1))), .val (.ref bK), .unset, .unset, .unset, .unset, .unset, .unset, .unset, .unset] [(.ref bK)])) _
    refine XS.bipush X11.here hx rfl (hb hby at_113) ?_
    show Steps p.tables e below (T11.setTop (mkF m 115 #[.val (.long p1), .second, .val (.long p2), .second, .val (.int p3), .val (.int p4), .val (.int (Int32.ofNat a)), .val (.int (Int32.ofNat (n + 1))), .val (.ref bK), .unset, .unset, .unset, .unset, .unset, .unset, .unset, .unset] [(.int (9 : Int32)), (.ref bK)])) _
    refine XS.lloadN X11.here hx rfl (hb hby at_115) rfl ?_
    show Steps p.tables e below (T11.setTop (mkF m 116 #[.val (.long p1), .second, .val (.long p2), .second, .val (.int p3), .val (.int p4), .val (.int (Int32.ofNat a)), .val (.int (Int32.ofNat (n + 1))), .val (.ref bK), .unset, .unset, .unset, .unset, .unset, .unset, .unset, .unset] [(.long p2), (.int (9 : Int32)), (.ref bK)])) _
    refine XS.bipush X11.here hx rfl (hb hby at_116) ?_
    show Steps p.tables e below (T11.setTop (mkF m 118 #[.val (.long p1), .second, .val (.long p2), .second, .val (.int p3), .val (.int p4), .val (.int (Int32.ofNat a)), .val (.int (Int32.ofNat (n + 1))), .val (.ref bK), .unset, .unset, .unset, .unset, .unset, .unset, .unset, .unset] [(.int (8 : Int32)), (.long p2), (.int (9 : Int32)), (.ref bK)])) _
    refine XS.lushr X11.here hx rfl (hb hby at_118) rfl ?_
    show Steps p.tables e below (T11.setTop (mkF m 119 #[.val (.long p1), .second, .val (.long p2), .second, .val (.int p3), .val (.int p4), .val (.int (Int32.ofNat a)), .val (.int (Int32.ofNat (n + 1))), .val (.ref bK), .unset, .unset, .unset, .unset, .unset, .unset, .unset, .unset] [(.long ((p2.toUInt64 >>> ((8 : Int32) &&& 0x3f).toInt64.toUInt64).toInt64)), (.int (9 : Int32)), (.ref bK)])) _
    refine XS.l2i X11.here hx rfl (hb hby at_119) rfl ?_
    show Steps p.tables e below (T11.setTop (mkF m 120 #[.val (.long p1), .second, .val (.long p2), .second, .val (.int p3), .val (.int p4), .val (.int (Int32.ofNat a)), .val (.int (Int32.ofNat (n + 1))), .val (.ref bK), .unset, .unset, .unset, .unset, .unset, .unset, .unset, .unset] [(.int (((p2.toUInt64 >>> ((8 : Int32) &&& 0x3f).toInt64.toUInt64).toInt64).toInt32)), (.int (9 : Int32)), (.ref bK)])) _
    refine XS.i2b X11.here hx rfl (hb hby at_120) rfl ?_
    show Steps p.tables e below (T11.setTop (mkF m 121 #[.val (.long p1), .second, .val (.long p2), .second, .val (.int p3), .val (.int p4), .val (.int (Int32.ofNat a)), .val (.int (Int32.ofNat (n + 1))), .val (.ref bK), .unset, .unset, .unset, .unset, .unset, .unset, .unset, .unset] [(.int ((((p2.toUInt64 >>> ((8 : Int32) &&& 0x3f).toInt64.toUInt64).toInt64).toInt32).toInt8.toInt32)), (.int (9 : Int32)), (.ref bK)])) _
    exact k
  obtain ⟨T12, L12, X12, N12, G12, -, st12⟩ := own_storeB X11 hx hZ N11 gbK G11 121 #[.val (.long p1), .second, .val (.long p2), .second, .val (.int p3), .val (.int p4), .val (.int (Int32.ofNat a)), .val (.int (Int32.ofNat (n + 1))), .val (.ref bK), .unset, .unset, .unset, .unset, .unset, .unset, .unset, .unset] [] (9 : Int32) ((((p2.toUInt64 >>> ((8 : Int32) &&& 0x3f).toInt64.toUInt64).toInt64).toInt32).toInt8.toInt32) 9 (by decide) (by decide) (by decide) (hb hby at_121)
  have r12 : ∀ t, Steps p.tables e below (T12.setTop (mkF m 122 #[.val (.long p1), .second, .val (.long p2), .second, .val (.int p3), .val (.int p4), .val (.int (Int32.ofNat a)), .val (.int (Int32.ofNat (n + 1))), .val (.ref bK), .unset, .unset, .unset, .unset, .unset, .unset, .unset, .unset] [])) t → Steps p.tables e below (s₁.setTop (mkF m 0 #[.val (.long p1), .second, .val (.long p2), .second, .val (.int p3), .val (.int p4), .unset, .unset, .unset, .unset, .unset, .unset, .unset, .unset, .unset, .unset, .unset] [])) t := fun t k => r11 t (s12 t (st12 t k))
  have s13 : ∀ t, Steps p.tables e below (T12.setTop (mkF m 129 #[.val (.long p1), .second, .val (.long p2), .second, .val (.int p3), .val (.int p4), .val (.int (Int32.ofNat a)), .val (.int (Int32.ofNat (n + 1))), .val (.ref bK), .unset, .unset, .unset, .unset, .unset, .unset, .unset, .unset] [(.int ((p2.toInt32).toInt8.toInt32)), (.int (10 : Int32)), (.ref bK)])) t → Steps p.tables e below (T12.setTop (mkF m 122 #[.val (.long p1), .second, .val (.long p2), .second, .val (.int p3), .val (.int p4), .val (.int (Int32.ofNat a)), .val (.int (Int32.ofNat (n + 1))), .val (.ref bK), .unset, .unset, .unset, .unset, .unset, .unset, .unset, .unset] [])) t := by
    intro t k
    show Steps p.tables e below (T12.setTop (mkF m 122 #[.val (.long p1), .second, .val (.long p2), .second, .val (.int p3), .val (.int p4), .val (.int (Int32.ofNat a)), .val (.int (Int32.ofNat (n + 1))), .val (.ref bK), .unset, .unset, .unset, .unset, .unset, .unset, .unset, .unset] [])) _
    refine XS.aload X12.here hx rfl (hb hby at_122) rfl rfl ?_
    show Steps p.tables e below (T12.setTop (mkF m 124 #[.val (.long p1), .second, .val (.long p2), .second, .val (.int p3), .val (.int p4), .val (.int (Int32.ofNat a)), .val (.int (Int32.ofNat (n + 1))), .val (.ref bK), .unset, .unset, .unset, .unset, .unset, .unset, .unset, .unset] [(.ref bK)])) _
    refine XS.bipush X12.here hx rfl (hb hby at_124) ?_
    show Steps p.tables e below (T12.setTop (mkF m 126 #[.val (.long p1), .second, .val (.long p2), .second, .val (.int p3), .val (.int p4), .val (.int (Int32.ofNat a)), .val (.int (Int32.ofNat (n + 1))), .val (.ref bK), .unset, .unset, .unset, .unset, .unset, .unset, .unset, .unset] [(.int (10 : Int32)), (.ref bK)])) _
    refine XS.lloadN X12.here hx rfl (hb hby at_126) rfl ?_
    show Steps p.tables e below (T12.setTop (mkF m 127 #[.val (.long p1), .second, .val (.long p2), .second, .val (.int p3), .val (.int p4), .val (.int (Int32.ofNat a)), .val (.int (Int32.ofNat (n + 1))), .val (.ref bK), .unset, .unset, .unset, .unset, .unset, .unset, .unset, .unset] [(.long p2), (.int (10 : Int32)), (.ref bK)])) _
    refine XS.l2i X12.here hx rfl (hb hby at_127) rfl ?_
    show Steps p.tables e below (T12.setTop (mkF m 128 #[.val (.long p1), .second, .val (.long p2), .second, .val (.int p3), .val (.int p4), .val (.int (Int32.ofNat a)), .val (.int (Int32.ofNat (n + 1))), .val (.ref bK), .unset, .unset, .unset, .unset, .unset, .unset, .unset, .unset] [(.int (p2.toInt32)), (.int (10 : Int32)), (.ref bK)])) _
    refine XS.i2b X12.here hx rfl (hb hby at_128) rfl ?_
    show Steps p.tables e below (T12.setTop (mkF m 129 #[.val (.long p1), .second, .val (.long p2), .second, .val (.int p3), .val (.int p4), .val (.int (Int32.ofNat a)), .val (.int (Int32.ofNat (n + 1))), .val (.ref bK), .unset, .unset, .unset, .unset, .unset, .unset, .unset, .unset] [(.int ((p2.toInt32).toInt8.toInt32)), (.int (10 : Int32)), (.ref bK)])) _
    exact k
  obtain ⟨T13, L13, X13, N13, G13, -, st13⟩ := own_storeB X12 hx hZ N12 gbK G12 129 #[.val (.long p1), .second, .val (.long p2), .second, .val (.int p3), .val (.int p4), .val (.int (Int32.ofNat a)), .val (.int (Int32.ofNat (n + 1))), .val (.ref bK), .unset, .unset, .unset, .unset, .unset, .unset, .unset, .unset] [] (10 : Int32) ((p2.toInt32).toInt8.toInt32) 10 (by decide) (by decide) (by decide) (hb hby at_129)
  have r13 : ∀ t, Steps p.tables e below (T13.setTop (mkF m 130 #[.val (.long p1), .second, .val (.long p2), .second, .val (.int p3), .val (.int p4), .val (.int (Int32.ofNat a)), .val (.int (Int32.ofNat (n + 1))), .val (.ref bK), .unset, .unset, .unset, .unset, .unset, .unset, .unset, .unset] [])) t → Steps p.tables e below (s₁.setTop (mkF m 0 #[.val (.long p1), .second, .val (.long p2), .second, .val (.int p3), .val (.int p4), .unset, .unset, .unset, .unset, .unset, .unset, .unset, .unset, .unset, .unset, .unset] [])) t := fun t k => r12 t (s13 t (st13 t k))
  have GF : own_By Z T13.heap bK 11 (own_F p1 p2) := own_By_congr G13 (fun k hk => by
    match k, hk with
    | 0, _ => exact own_by2 _
    | 1, _ => exact own_by2 _
    | 2, _ => exact own_by2 _
    | 3, _ => exact own_by2 _
    | 4, _ => exact own_by2 _
    | 5, _ => exact own_by2 _
    | 6, _ => exact own_by2 _
    | 7, _ => exact own_by2 _
    | 8, _ => exact own_by2 _
    | 9, _ => exact own_by2 _
    | 10, _ => exact own_by2 _
    )
  have Zq : n0 ≤ T13.heap.size := Nat.le_trans gbK (Nat.le_of_lt (own_By_lt GF))
  have s14 : ∀ t, Steps p.tables e below (T13.setTop (mkF m 150 #[.val (.long p1), .second, .val (.long p2), .second, .val (.int p3), .val (.int p4), .val (.int (Int32.ofNat a)), .val (.int (Int32.ofNat (n + 1))), .val (.ref bK), .val (.long (p2 &&& (16777215 : Int64))), .second, .val (.int ((88 : Int32) - ((8 : Int32) * ((Int32.ofNat a) + (Int32.ofNat (n + 1)))))), .unset, .unset, .unset, .unset, .unset] [])) t → Steps p.tables e below (T13.setTop (mkF m 130 #[.val (.long p1), .second, .val (.long p2), .second, .val (.int p3), .val (.int p4), .val (.int (Int32.ofNat a)), .val (.int (Int32.ofNat (n + 1))), .val (.ref bK), .unset, .unset, .unset, .unset, .unset, .unset, .unset, .unset] [])) t := by
    intro t k
    show Steps p.tables e below (T13.setTop (mkF m 130 #[.val (.long p1), .second, .val (.long p2), .second, .val (.int p3), .val (.int p4), .val (.int (Int32.ofNat a)), .val (.int (Int32.ofNat (n + 1))), .val (.ref bK), .unset, .unset, .unset, .unset, .unset, .unset, .unset, .unset] [])) _
    refine XS.lloadN X13.here hx rfl (hb hby at_130) rfl ?_
    show Steps p.tables e below (T13.setTop (mkF m 131 #[.val (.long p1), .second, .val (.long p2), .second, .val (.int p3), .val (.int p4), .val (.int (Int32.ofNat a)), .val (.int (Int32.ofNat (n + 1))), .val (.ref bK), .unset, .unset, .unset, .unset, .unset, .unset, .unset, .unset] [(.long p2)])) _
    refine X13.ldc2J hx hown (mvT hZ (hw _ (List.mem_of_getElem? (i := 1) rfl))) (g := (mkF m 131 #[.val (.long p1), .second, .val (.long p2), .second, .val (.int p3), .val (.int p4), .val (.int (Int32.ofNat a)), .val (.int (Int32.ofNat (n + 1))), .val (.ref bK), .unset, .unset, .unset, .unset, .unset, .unset, .unset, .unset] [(.long p2)])) rfl (hb hby at_131) ?_
    show Steps p.tables e below (T13.setTop (mkF m 134 #[.val (.long p1), .second, .val (.long p2), .second, .val (.int p3), .val (.int p4), .val (.int (Int32.ofNat a)), .val (.int (Int32.ofNat (n + 1))), .val (.ref bK), .unset, .unset, .unset, .unset, .unset, .unset, .unset, .unset] [(.long (16777215 : Int64)), (.long p2)])) _
    refine XS.land X13.here hx rfl (hb hby at_134) rfl ?_
    show Steps p.tables e below (T13.setTop (mkF m 135 #[.val (.long p1), .second, .val (.long p2), .second, .val (.int p3), .val (.int p4), .val (.int (Int32.ofNat a)), .val (.int (Int32.ofNat (n + 1))), .val (.ref bK), .unset, .unset, .unset, .unset, .unset, .unset, .unset, .unset] [(.long (p2 &&& (16777215 : Int64)))])) _
    refine XS.lstore X13.here hx rfl (hb hby at_135) rfl (l' := #[.val (.long p1), .second, .val (.long p2), .second, .val (.int p3), .val (.int p4), .val (.int (Int32.ofNat a)), .val (.int (Int32.ofNat (n + 1))), .val (.ref bK), .val (.long (p2 &&& (16777215 : Int64))), .second, .unset, .unset, .unset, .unset, .unset, .unset]) rfl ?_
    show Steps p.tables e below (T13.setTop (mkF m 137 #[.val (.long p1), .second, .val (.long p2), .second, .val (.int p3), .val (.int p4), .val (.int (Int32.ofNat a)), .val (.int (Int32.ofNat (n + 1))), .val (.ref bK), .val (.long (p2 &&& (16777215 : Int64))), .second, .unset, .unset, .unset, .unset, .unset, .unset] [])) _
    refine XS.bipush X13.here hx rfl (hb hby at_137) ?_
    show Steps p.tables e below (T13.setTop (mkF m 139 #[.val (.long p1), .second, .val (.long p2), .second, .val (.int p3), .val (.int p4), .val (.int (Int32.ofNat a)), .val (.int (Int32.ofNat (n + 1))), .val (.ref bK), .val (.long (p2 &&& (16777215 : Int64))), .second, .unset, .unset, .unset, .unset, .unset, .unset] [(.int (88 : Int32))])) _
    refine XS.bipush X13.here hx rfl (hb hby at_139) ?_
    show Steps p.tables e below (T13.setTop (mkF m 141 #[.val (.long p1), .second, .val (.long p2), .second, .val (.int p3), .val (.int p4), .val (.int (Int32.ofNat a)), .val (.int (Int32.ofNat (n + 1))), .val (.ref bK), .val (.long (p2 &&& (16777215 : Int64))), .second, .unset, .unset, .unset, .unset, .unset, .unset] [(.int (8 : Int32)), (.int (88 : Int32))])) _
    refine XS.iload X13.here hx rfl (hb hby at_141) rfl ?_
    show Steps p.tables e below (T13.setTop (mkF m 143 #[.val (.long p1), .second, .val (.long p2), .second, .val (.int p3), .val (.int p4), .val (.int (Int32.ofNat a)), .val (.int (Int32.ofNat (n + 1))), .val (.ref bK), .val (.long (p2 &&& (16777215 : Int64))), .second, .unset, .unset, .unset, .unset, .unset, .unset] [(.int (Int32.ofNat a)), (.int (8 : Int32)), (.int (88 : Int32))])) _
    refine XS.iload X13.here hx rfl (hb hby at_143) rfl ?_
    show Steps p.tables e below (T13.setTop (mkF m 145 #[.val (.long p1), .second, .val (.long p2), .second, .val (.int p3), .val (.int p4), .val (.int (Int32.ofNat a)), .val (.int (Int32.ofNat (n + 1))), .val (.ref bK), .val (.long (p2 &&& (16777215 : Int64))), .second, .unset, .unset, .unset, .unset, .unset, .unset] [(.int (Int32.ofNat (n + 1))), (.int (Int32.ofNat a)), (.int (8 : Int32)), (.int (88 : Int32))])) _
    refine XS.iadd X13.here hx rfl (hb hby at_145) rfl ?_
    show Steps p.tables e below (T13.setTop (mkF m 146 #[.val (.long p1), .second, .val (.long p2), .second, .val (.int p3), .val (.int p4), .val (.int (Int32.ofNat a)), .val (.int (Int32.ofNat (n + 1))), .val (.ref bK), .val (.long (p2 &&& (16777215 : Int64))), .second, .unset, .unset, .unset, .unset, .unset, .unset] [(.int ((Int32.ofNat a) + (Int32.ofNat (n + 1)))), (.int (8 : Int32)), (.int (88 : Int32))])) _
    refine XS.imul X13.here hx rfl (hb hby at_146) rfl ?_
    show Steps p.tables e below (T13.setTop (mkF m 147 #[.val (.long p1), .second, .val (.long p2), .second, .val (.int p3), .val (.int p4), .val (.int (Int32.ofNat a)), .val (.int (Int32.ofNat (n + 1))), .val (.ref bK), .val (.long (p2 &&& (16777215 : Int64))), .second, .unset, .unset, .unset, .unset, .unset, .unset] [(.int ((8 : Int32) * ((Int32.ofNat a) + (Int32.ofNat (n + 1))))), (.int (88 : Int32))])) _
    refine XS.isub X13.here hx rfl (hb hby at_147) rfl ?_
    show Steps p.tables e below (T13.setTop (mkF m 148 #[.val (.long p1), .second, .val (.long p2), .second, .val (.int p3), .val (.int p4), .val (.int (Int32.ofNat a)), .val (.int (Int32.ofNat (n + 1))), .val (.ref bK), .val (.long (p2 &&& (16777215 : Int64))), .second, .unset, .unset, .unset, .unset, .unset, .unset] [(.int ((88 : Int32) - ((8 : Int32) * ((Int32.ofNat a) + (Int32.ofNat (n + 1))))))])) _
    refine XS.istore X13.here hx rfl (hb hby at_148) rfl (l' := #[.val (.long p1), .second, .val (.long p2), .second, .val (.int p3), .val (.int p4), .val (.int (Int32.ofNat a)), .val (.int (Int32.ofNat (n + 1))), .val (.ref bK), .val (.long (p2 &&& (16777215 : Int64))), .second, .val (.int ((88 : Int32) - ((8 : Int32) * ((Int32.ofNat a) + (Int32.ofNat (n + 1)))))), .unset, .unset, .unset, .unset, .unset]) rfl ?_
    show Steps p.tables e below (T13.setTop (mkF m 150 #[.val (.long p1), .second, .val (.long p2), .second, .val (.int p3), .val (.int p4), .val (.int (Int32.ofNat a)), .val (.int (Int32.ofNat (n + 1))), .val (.ref bK), .val (.long (p2 &&& (16777215 : Int64))), .second, .val (.int ((88 : Int32) - ((8 : Int32) * ((Int32.ofNat a) + (Int32.ofNat (n + 1)))))), .unset, .unset, .unset, .unset, .unset] [])) _
    exact k
  rw [own_sx a n ha hn] at s14
  have r150 : ∀ t, Steps p.tables e below (T13.setTop (mkF m 150 #[.val (.long p1), .second, .val (.long p2), .second, .val (.int p3), .val (.int p4), .val (.int (Int32.ofNat a)), .val (.int (Int32.ofNat (n + 1))), .val (.ref bK), .val (.long (p2 &&& (16777215 : Int64))), .second, .val (.int (Int32.ofNat (80 - 8 * (a + n)))), .unset, .unset, .unset, .unset, .unset] [])) t → Steps p.tables e below (s₁.setTop (mkF m 0 #[.val (.long p1), .second, .val (.long p2), .second, .val (.int p3), .val (.int p4), .unset, .unset, .unset, .unset, .unset, .unset, .unset, .unset, .unset, .unset, .unset] [])) t := fun t k => r13 t (s14 t k)
  have sw : ∀ t, Steps p.tables e below (T13.setTop (mkF m 184 #[.val (.long p1), .second, .val (.long p2), .second, .val (.int p3), .val (.int p4), .val (.int (Int32.ofNat a)), .val (.int (Int32.ofNat (n + 1))), .val (.ref bK), .val (.long (p2 &&& (16777215 : Int64))), .second, .val (.int (Int32.ofNat (80 - 8 * (a + n)))), .val (.long (own_w p1 p2 (Int32.ofNat (80 - 8 * (a + n))))), .second, .unset, .unset, .unset] [])) t → Steps p.tables e below (T13.setTop (mkF m 150 #[.val (.long p1), .second, .val (.long p2), .second, .val (.int p3), .val (.int p4), .val (.int (Int32.ofNat a)), .val (.int (Int32.ofNat (n + 1))), .val (.ref bK), .val (.long (p2 &&& (16777215 : Int64))), .second, .val (.int (Int32.ofNat (80 - 8 * (a + n)))), .unset, .unset, .unset, .unset, .unset] [])) t := by
    intro t k
    by_cases hs : (Int32.ofNat (80 - 8 * (a + n))) < (24 : Int32)
    · rw [own_w, if_pos hs] at k
      show Steps p.tables e below (T13.setTop (mkF m 150 #[.val (.long p1), .second, .val (.long p2), .second, .val (.int p3), .val (.int p4), .val (.int (Int32.ofNat a)), .val (.int (Int32.ofNat (n + 1))), .val (.ref bK), .val (.long (p2 &&& (16777215 : Int64))), .second, .val (.int (Int32.ofNat (80 - 8 * (a + n)))), .unset, .unset, .unset, .unset, .unset] [])) _
      refine XS.iload X13.here hx rfl (hb hby at_150) rfl ?_
      show Steps p.tables e below (T13.setTop (mkF m 152 #[.val (.long p1), .second, .val (.long p2), .second, .val (.int p3), .val (.int p4), .val (.int (Int32.ofNat a)), .val (.int (Int32.ofNat (n + 1))), .val (.ref bK), .val (.long (p2 &&& (16777215 : Int64))), .second, .val (.int (Int32.ofNat (80 - 8 * (a + n)))), .unset, .unset, .unset, .unset, .unset] [(.int (Int32.ofNat (80 - 8 * (a + n))))])) _
      refine XS.bipush X13.here hx rfl (hb hby at_152) ?_
      show Steps p.tables e below (T13.setTop (mkF m 154 #[.val (.long p1), .second, .val (.long p2), .second, .val (.int p3), .val (.int p4), .val (.int (Int32.ofNat a)), .val (.int (Int32.ofNat (n + 1))), .val (.ref bK), .val (.long (p2 &&& (16777215 : Int64))), .second, .val (.int (Int32.ofNat (80 - 8 * (a + n)))), .unset, .unset, .unset, .unset, .unset] [(.int (24 : Int32)), (.int (Int32.ofNat (80 - 8 * (a + n))))])) _
      refine XS.icmpYes X13.here hx rfl (pc0 := 154) (pc' := 169) rfl (hb hby at_154) rfl (XT.ii_lt_t hs) (by decide) (by decide) ?_
      show Steps p.tables e below (T13.setTop (mkF m 169 #[.val (.long p1), .second, .val (.long p2), .second, .val (.int p3), .val (.int p4), .val (.int (Int32.ofNat a)), .val (.int (Int32.ofNat (n + 1))), .val (.ref bK), .val (.long (p2 &&& (16777215 : Int64))), .second, .val (.int (Int32.ofNat (80 - 8 * (a + n)))), .unset, .unset, .unset, .unset, .unset] [])) _
      refine XS.lloadN X13.here hx rfl (hb hby at_169) rfl ?_
      show Steps p.tables e below (T13.setTop (mkF m 170 #[.val (.long p1), .second, .val (.long p2), .second, .val (.int p3), .val (.int p4), .val (.int (Int32.ofNat a)), .val (.int (Int32.ofNat (n + 1))), .val (.ref bK), .val (.long (p2 &&& (16777215 : Int64))), .second, .val (.int (Int32.ofNat (80 - 8 * (a + n)))), .unset, .unset, .unset, .unset, .unset] [(.long p1)])) _
      refine XS.bipush X13.here hx rfl (hb hby at_170) ?_
      show Steps p.tables e below (T13.setTop (mkF m 172 #[.val (.long p1), .second, .val (.long p2), .second, .val (.int p3), .val (.int p4), .val (.int (Int32.ofNat a)), .val (.int (Int32.ofNat (n + 1))), .val (.ref bK), .val (.long (p2 &&& (16777215 : Int64))), .second, .val (.int (Int32.ofNat (80 - 8 * (a + n)))), .unset, .unset, .unset, .unset, .unset] [(.int (24 : Int32)), (.long p1)])) _
      refine XS.iload X13.here hx rfl (hb hby at_172) rfl ?_
      show Steps p.tables e below (T13.setTop (mkF m 174 #[.val (.long p1), .second, .val (.long p2), .second, .val (.int p3), .val (.int p4), .val (.int (Int32.ofNat a)), .val (.int (Int32.ofNat (n + 1))), .val (.ref bK), .val (.long (p2 &&& (16777215 : Int64))), .second, .val (.int (Int32.ofNat (80 - 8 * (a + n)))), .unset, .unset, .unset, .unset, .unset] [(.int (Int32.ofNat (80 - 8 * (a + n)))), (.int (24 : Int32)), (.long p1)])) _
      refine XS.isub X13.here hx rfl (hb hby at_174) rfl ?_
      show Steps p.tables e below (T13.setTop (mkF m 175 #[.val (.long p1), .second, .val (.long p2), .second, .val (.int p3), .val (.int p4), .val (.int (Int32.ofNat a)), .val (.int (Int32.ofNat (n + 1))), .val (.ref bK), .val (.long (p2 &&& (16777215 : Int64))), .second, .val (.int (Int32.ofNat (80 - 8 * (a + n)))), .unset, .unset, .unset, .unset, .unset] [(.int ((24 : Int32) - (Int32.ofNat (80 - 8 * (a + n))))), (.long p1)])) _
      refine XS.lshl X13.here hx rfl (hb hby at_175) rfl ?_
      show Steps p.tables e below (T13.setTop (mkF m 176 #[.val (.long p1), .second, .val (.long p2), .second, .val (.int p3), .val (.int p4), .val (.int (Int32.ofNat a)), .val (.int (Int32.ofNat (n + 1))), .val (.ref bK), .val (.long (p2 &&& (16777215 : Int64))), .second, .val (.int (Int32.ofNat (80 - 8 * (a + n)))), .unset, .unset, .unset, .unset, .unset] [(.long (p1 <<< (((24 : Int32) - (Int32.ofNat (80 - 8 * (a + n)))) &&& 0x3f).toInt64))])) _
      refine XS.lload X13.here hx rfl (hb hby at_176) rfl ?_
      show Steps p.tables e below (T13.setTop (mkF m 178 #[.val (.long p1), .second, .val (.long p2), .second, .val (.int p3), .val (.int p4), .val (.int (Int32.ofNat a)), .val (.int (Int32.ofNat (n + 1))), .val (.ref bK), .val (.long (p2 &&& (16777215 : Int64))), .second, .val (.int (Int32.ofNat (80 - 8 * (a + n)))), .unset, .unset, .unset, .unset, .unset] [(.long (p2 &&& (16777215 : Int64))), (.long (p1 <<< (((24 : Int32) - (Int32.ofNat (80 - 8 * (a + n)))) &&& 0x3f).toInt64))])) _
      refine XS.iload X13.here hx rfl (hb hby at_178) rfl ?_
      show Steps p.tables e below (T13.setTop (mkF m 180 #[.val (.long p1), .second, .val (.long p2), .second, .val (.int p3), .val (.int p4), .val (.int (Int32.ofNat a)), .val (.int (Int32.ofNat (n + 1))), .val (.ref bK), .val (.long (p2 &&& (16777215 : Int64))), .second, .val (.int (Int32.ofNat (80 - 8 * (a + n)))), .unset, .unset, .unset, .unset, .unset] [(.int (Int32.ofNat (80 - 8 * (a + n)))), (.long (p2 &&& (16777215 : Int64))), (.long (p1 <<< (((24 : Int32) - (Int32.ofNat (80 - 8 * (a + n)))) &&& 0x3f).toInt64))])) _
      refine XS.lushr X13.here hx rfl (hb hby at_180) rfl ?_
      show Steps p.tables e below (T13.setTop (mkF m 181 #[.val (.long p1), .second, .val (.long p2), .second, .val (.int p3), .val (.int p4), .val (.int (Int32.ofNat a)), .val (.int (Int32.ofNat (n + 1))), .val (.ref bK), .val (.long (p2 &&& (16777215 : Int64))), .second, .val (.int (Int32.ofNat (80 - 8 * (a + n)))), .unset, .unset, .unset, .unset, .unset] [(.long (((p2 &&& (16777215 : Int64)).toUInt64 >>> ((Int32.ofNat (80 - 8 * (a + n))) &&& 0x3f).toInt64.toUInt64).toInt64)), (.long (p1 <<< (((24 : Int32) - (Int32.ofNat (80 - 8 * (a + n)))) &&& 0x3f).toInt64))])) _
      refine XS.lor X13.here hx rfl (hb hby at_181) rfl ?_
      show Steps p.tables e below (T13.setTop (mkF m 182 #[.val (.long p1), .second, .val (.long p2), .second, .val (.int p3), .val (.int p4), .val (.int (Int32.ofNat a)), .val (.int (Int32.ofNat (n + 1))), .val (.ref bK), .val (.long (p2 &&& (16777215 : Int64))), .second, .val (.int (Int32.ofNat (80 - 8 * (a + n)))), .unset, .unset, .unset, .unset, .unset] [(.long ((p1 <<< (((24 : Int32) - (Int32.ofNat (80 - 8 * (a + n)))) &&& 0x3f).toInt64) ||| (((p2 &&& (16777215 : Int64)).toUInt64 >>> ((Int32.ofNat (80 - 8 * (a + n))) &&& 0x3f).toInt64.toUInt64).toInt64)))])) _
      refine XS.lstore X13.here hx rfl (hb hby at_182) rfl (l' := #[.val (.long p1), .second, .val (.long p2), .second, .val (.int p3), .val (.int p4), .val (.int (Int32.ofNat a)), .val (.int (Int32.ofNat (n + 1))), .val (.ref bK), .val (.long (p2 &&& (16777215 : Int64))), .second, .val (.int (Int32.ofNat (80 - 8 * (a + n)))), .val (.long ((p1 <<< (((24 : Int32) - (Int32.ofNat (80 - 8 * (a + n)))) &&& 0x3f).toInt64) ||| (((p2 &&& (16777215 : Int64)).toUInt64 >>> ((Int32.ofNat (80 - 8 * (a + n))) &&& 0x3f).toInt64.toUInt64).toInt64))), .second, .unset, .unset, .unset]) rfl ?_
      show Steps p.tables e below (T13.setTop (mkF m 184 #[.val (.long p1), .second, .val (.long p2), .second, .val (.int p3), .val (.int p4), .val (.int (Int32.ofNat a)), .val (.int (Int32.ofNat (n + 1))), .val (.ref bK), .val (.long (p2 &&& (16777215 : Int64))), .second, .val (.int (Int32.ofNat (80 - 8 * (a + n)))), .val (.long ((p1 <<< (((24 : Int32) - (Int32.ofNat (80 - 8 * (a + n)))) &&& 0x3f).toInt64) ||| (((p2 &&& (16777215 : Int64)).toUInt64 >>> ((Int32.ofNat (80 - 8 * (a + n))) &&& 0x3f).toInt64.toUInt64).toInt64))), .second, .unset, .unset, .unset] [])) _
      exact k
    · rw [own_w, if_neg hs] at k
      show Steps p.tables e below (T13.setTop (mkF m 150 #[.val (.long p1), .second, .val (.long p2), .second, .val (.int p3), .val (.int p4), .val (.int (Int32.ofNat a)), .val (.int (Int32.ofNat (n + 1))), .val (.ref bK), .val (.long (p2 &&& (16777215 : Int64))), .second, .val (.int (Int32.ofNat (80 - 8 * (a + n)))), .unset, .unset, .unset, .unset, .unset] [])) _
      refine XS.iload X13.here hx rfl (hb hby at_150) rfl ?_
      show Steps p.tables e below (T13.setTop (mkF m 152 #[.val (.long p1), .second, .val (.long p2), .second, .val (.int p3), .val (.int p4), .val (.int (Int32.ofNat a)), .val (.int (Int32.ofNat (n + 1))), .val (.ref bK), .val (.long (p2 &&& (16777215 : Int64))), .second, .val (.int (Int32.ofNat (80 - 8 * (a + n)))), .unset, .unset, .unset, .unset, .unset] [(.int (Int32.ofNat (80 - 8 * (a + n))))])) _
      refine XS.bipush X13.here hx rfl (hb hby at_152) ?_
      show Steps p.tables e below (T13.setTop (mkF m 154 #[.val (.long p1), .second, .val (.long p2), .second, .val (.int p3), .val (.int p4), .val (.int (Int32.ofNat a)), .val (.int (Int32.ofNat (n + 1))), .val (.ref bK), .val (.long (p2 &&& (16777215 : Int64))), .second, .val (.int (Int32.ofNat (80 - 8 * (a + n)))), .unset, .unset, .unset, .unset, .unset] [(.int (24 : Int32)), (.int (Int32.ofNat (80 - 8 * (a + n))))])) _
      refine XS.icmpNo X13.here hx rfl (hb hby at_154) rfl (XT.ii_lt_f hs) ?_
      show Steps p.tables e below (T13.setTop (mkF m 157 #[.val (.long p1), .second, .val (.long p2), .second, .val (.int p3), .val (.int p4), .val (.int (Int32.ofNat a)), .val (.int (Int32.ofNat (n + 1))), .val (.ref bK), .val (.long (p2 &&& (16777215 : Int64))), .second, .val (.int (Int32.ofNat (80 - 8 * (a + n)))), .unset, .unset, .unset, .unset, .unset] [])) _
      refine XS.lloadN X13.here hx rfl (hb hby at_157) rfl ?_
      show Steps p.tables e below (T13.setTop (mkF m 158 #[.val (.long p1), .second, .val (.long p2), .second, .val (.int p3), .val (.int p4), .val (.int (Int32.ofNat a)), .val (.int (Int32.ofNat (n + 1))), .val (.ref bK), .val (.long (p2 &&& (16777215 : Int64))), .second, .val (.int (Int32.ofNat (80 - 8 * (a + n)))), .unset, .unset, .unset, .unset, .unset] [(.long p1)])) _
      refine XS.iload X13.here hx rfl (hb hby at_158) rfl ?_
      show Steps p.tables e below (T13.setTop (mkF m 160 #[.val (.long p1), .second, .val (.long p2), .second, .val (.int p3), .val (.int p4), .val (.int (Int32.ofNat a)), .val (.int (Int32.ofNat (n + 1))), .val (.ref bK), .val (.long (p2 &&& (16777215 : Int64))), .second, .val (.int (Int32.ofNat (80 - 8 * (a + n)))), .unset, .unset, .unset, .unset, .unset] [(.int (Int32.ofNat (80 - 8 * (a + n)))), (.long p1)])) _
      refine XS.bipush X13.here hx rfl (hb hby at_160) ?_
      show Steps p.tables e below (T13.setTop (mkF m 162 #[.val (.long p1), .second, .val (.long p2), .second, .val (.int p3), .val (.int p4), .val (.int (Int32.ofNat a)), .val (.int (Int32.ofNat (n + 1))), .val (.ref bK), .val (.long (p2 &&& (16777215 : Int64))), .second, .val (.int (Int32.ofNat (80 - 8 * (a + n)))), .unset, .unset, .unset, .unset, .unset] [(.int (24 : Int32)), (.int (Int32.ofNat (80 - 8 * (a + n)))), (.long p1)])) _
      refine XS.isub X13.here hx rfl (hb hby at_162) rfl ?_
      show Steps p.tables e below (T13.setTop (mkF m 163 #[.val (.long p1), .second, .val (.long p2), .second, .val (.int p3), .val (.int p4), .val (.int (Int32.ofNat a)), .val (.int (Int32.ofNat (n + 1))), .val (.ref bK), .val (.long (p2 &&& (16777215 : Int64))), .second, .val (.int (Int32.ofNat (80 - 8 * (a + n)))), .unset, .unset, .unset, .unset, .unset] [(.int ((Int32.ofNat (80 - 8 * (a + n))) - (24 : Int32))), (.long p1)])) _
      refine XS.lushr X13.here hx rfl (hb hby at_163) rfl ?_
      show Steps p.tables e below (T13.setTop (mkF m 164 #[.val (.long p1), .second, .val (.long p2), .second, .val (.int p3), .val (.int p4), .val (.int (Int32.ofNat a)), .val (.int (Int32.ofNat (n + 1))), .val (.ref bK), .val (.long (p2 &&& (16777215 : Int64))), .second, .val (.int (Int32.ofNat (80 - 8 * (a + n)))), .unset, .unset, .unset, .unset, .unset] [(.long ((p1.toUInt64 >>> (((Int32.ofNat (80 - 8 * (a + n))) - (24 : Int32)) &&& 0x3f).toInt64.toUInt64).toInt64))])) _
      refine XS.lstore X13.here hx rfl (hb hby at_164) rfl (l' := #[.val (.long p1), .second, .val (.long p2), .second, .val (.int p3), .val (.int p4), .val (.int (Int32.ofNat a)), .val (.int (Int32.ofNat (n + 1))), .val (.ref bK), .val (.long (p2 &&& (16777215 : Int64))), .second, .val (.int (Int32.ofNat (80 - 8 * (a + n)))), .val (.long ((p1.toUInt64 >>> (((Int32.ofNat (80 - 8 * (a + n))) - (24 : Int32)) &&& 0x3f).toInt64.toUInt64).toInt64)), .second, .unset, .unset, .unset]) rfl ?_
      show Steps p.tables e below (T13.setTop (mkF m 166 #[.val (.long p1), .second, .val (.long p2), .second, .val (.int p3), .val (.int p4), .val (.int (Int32.ofNat a)), .val (.int (Int32.ofNat (n + 1))), .val (.ref bK), .val (.long (p2 &&& (16777215 : Int64))), .second, .val (.int (Int32.ofNat (80 - 8 * (a + n)))), .val (.long ((p1.toUInt64 >>> (((Int32.ofNat (80 - 8 * (a + n))) - (24 : Int32)) &&& 0x3f).toInt64.toUInt64).toInt64)), .second, .unset, .unset, .unset] [])) _
      refine XS.goto X13.here hx rfl (pc0 := 166) (pc' := 184) rfl (hb hby at_166) (by decide) (by decide) ?_
      show Steps p.tables e below (T13.setTop (mkF m 184 #[.val (.long p1), .second, .val (.long p2), .second, .val (.int p3), .val (.int p4), .val (.int (Int32.ofNat a)), .val (.int (Int32.ofNat (n + 1))), .val (.ref bK), .val (.long (p2 &&& (16777215 : Int64))), .second, .val (.int (Int32.ofNat (80 - 8 * (a + n)))), .val (.long ((p1.toUInt64 >>> (((Int32.ofNat (80 - 8 * (a + n))) - (24 : Int32)) &&& 0x3f).toInt64.toUInt64).toInt64)), .second, .unset, .unset, .unset] [])) _
      exact k
  have r184 : ∀ t, Steps p.tables e below (T13.setTop (mkF m 184 #[.val (.long p1), .second, .val (.long p2), .second, .val (.int p3), .val (.int p4), .val (.int (Int32.ofNat a)), .val (.int (Int32.ofNat (n + 1))), .val (.ref bK), .val (.long (p2 &&& (16777215 : Int64))), .second, .val (.int (Int32.ofNat (80 - 8 * (a + n)))), .val (.long (own_w p1 p2 (Int32.ofNat (80 - 8 * (a + n))))), .second, .unset, .unset, .unset] [])) t → Steps p.tables e below (s₁.setTop (mkF m 0 #[.val (.long p1), .second, .val (.long p2), .second, .val (.int p3), .val (.int p4), .unset, .unset, .unset, .unset, .unset, .unset, .unset, .unset, .unset, .unset, .unset] [])) t := fun t k => r150 t (sw t k)
  have s15 : ∀ t, Steps p.tables e below (T13.setTop (mkF m 194 #[.val (.long p1), .second, .val (.long p2), .second, .val (.int p3), .val (.int p4), .val (.int (Int32.ofNat a)), .val (.int (Int32.ofNat (n + 1))), .val (.ref bK), .val (.long (p2 &&& (16777215 : Int64))), .second, .val (.int (Int32.ofNat (80 - 8 * (a + n)))), .val (.long (own_w p1 p2 (Int32.ofNat (80 - 8 * (a + n))))), .second, .val (.int ((64 : Int32) - ((8 : Int32) * (Int32.ofNat (n + 1))))), .unset, .unset] [])) t → Steps p.tables e below (T13.setTop (mkF m 184 #[.val (.long p1), .second, .val (.long p2), .second, .val (.int p3), .val (.int p4), .val (.int (Int32.ofNat a)), .val (.int (Int32.ofNat (n + 1))), .val (.ref bK), .val (.long (p2 &&& (16777215 : Int64))), .second, .val (.int (Int32.ofNat (80 - 8 * (a + n)))), .val (.long (own_w p1 p2 (Int32.ofNat (80 - 8 * (a + n))))), .second, .unset, .unset, .unset] [])) t := by
    intro t k
    show Steps p.tables e below (T13.setTop (mkF m 184 #[.val (.long p1), .second, .val (.long p2), .second, .val (.int p3), .val (.int p4), .val (.int (Int32.ofNat a)), .val (.int (Int32.ofNat (n + 1))), .val (.ref bK), .val (.long (p2 &&& (16777215 : Int64))), .second, .val (.int (Int32.ofNat (80 - 8 * (a + n)))), .val (.long (own_w p1 p2 (Int32.ofNat (80 - 8 * (a + n))))), .second, .unset, .unset, .unset] [])) _
    refine XS.bipush X13.here hx rfl (hb hby at_184) ?_
    show Steps p.tables e below (T13.setTop (mkF m 186 #[.val (.long p1), .second, .val (.long p2), .second, .val (.int p3), .val (.int p4), .val (.int (Int32.ofNat a)), .val (.int (Int32.ofNat (n + 1))), .val (.ref bK), .val (.long (p2 &&& (16777215 : Int64))), .second, .val (.int (Int32.ofNat (80 - 8 * (a + n)))), .val (.long (own_w p1 p2 (Int32.ofNat (80 - 8 * (a + n))))), .second, .unset, .unset, .unset] [(.int (64 : Int32))])) _
    refine XS.bipush X13.here hx rfl (hb hby at_186) ?_
    show Steps p.tables e below (T13.setTop (mkF m 188 #[.val (.long p1), .second, .val (.long p2), .second, .val (.int p3), .val (.int p4), .val (.int (Int32.ofNat a)), .val (.int (Int32.ofNat (n + 1))), .val (.ref bK), .val (.long (p2 &&& (16777215 : Int64))), .second, .val (.int (Int32.ofNat (80 - 8 * (a + n)))), .val (.long (own_w p1 p2 (Int32.ofNat (80 - 8 * (a + n))))), .second, .unset, .unset, .unset] [(.int (8 : Int32)), (.int (64 : Int32))])) _
    refine XS.iload X13.here hx rfl (hb hby at_188) rfl ?_
    show Steps p.tables e below (T13.setTop (mkF m 190 #[.val (.long p1), .second, .val (.long p2), .second, .val (.int p3), .val (.int p4), .val (.int (Int32.ofNat a)), .val (.int (Int32.ofNat (n + 1))), .val (.ref bK), .val (.long (p2 &&& (16777215 : Int64))), .second, .val (.int (Int32.ofNat (80 - 8 * (a + n)))), .val (.long (own_w p1 p2 (Int32.ofNat (80 - 8 * (a + n))))), .second, .unset, .unset, .unset] [(.int (Int32.ofNat (n + 1))), (.int (8 : Int32)), (.int (64 : Int32))])) _
    refine XS.imul X13.here hx rfl (hb hby at_190) rfl ?_
    show Steps p.tables e below (T13.setTop (mkF m 191 #[.val (.long p1), .second, .val (.long p2), .second, .val (.int p3), .val (.int p4), .val (.int (Int32.ofNat a)), .val (.int (Int32.ofNat (n + 1))), .val (.ref bK), .val (.long (p2 &&& (16777215 : Int64))), .second, .val (.int (Int32.ofNat (80 - 8 * (a + n)))), .val (.long (own_w p1 p2 (Int32.ofNat (80 - 8 * (a + n))))), .second, .unset, .unset, .unset] [(.int ((8 : Int32) * (Int32.ofNat (n + 1)))), (.int (64 : Int32))])) _
    refine XS.isub X13.here hx rfl (hb hby at_191) rfl ?_
    show Steps p.tables e below (T13.setTop (mkF m 192 #[.val (.long p1), .second, .val (.long p2), .second, .val (.int p3), .val (.int p4), .val (.int (Int32.ofNat a)), .val (.int (Int32.ofNat (n + 1))), .val (.ref bK), .val (.long (p2 &&& (16777215 : Int64))), .second, .val (.int (Int32.ofNat (80 - 8 * (a + n)))), .val (.long (own_w p1 p2 (Int32.ofNat (80 - 8 * (a + n))))), .second, .unset, .unset, .unset] [(.int ((64 : Int32) - ((8 : Int32) * (Int32.ofNat (n + 1)))))])) _
    refine XS.istore X13.here hx rfl (hb hby at_192) rfl (l' := #[.val (.long p1), .second, .val (.long p2), .second, .val (.int p3), .val (.int p4), .val (.int (Int32.ofNat a)), .val (.int (Int32.ofNat (n + 1))), .val (.ref bK), .val (.long (p2 &&& (16777215 : Int64))), .second, .val (.int (Int32.ofNat (80 - 8 * (a + n)))), .val (.long (own_w p1 p2 (Int32.ofNat (80 - 8 * (a + n))))), .second, .val (.int ((64 : Int32) - ((8 : Int32) * (Int32.ofNat (n + 1))))), .unset, .unset]) rfl ?_
    show Steps p.tables e below (T13.setTop (mkF m 194 #[.val (.long p1), .second, .val (.long p2), .second, .val (.int p3), .val (.int p4), .val (.int (Int32.ofNat a)), .val (.int (Int32.ofNat (n + 1))), .val (.ref bK), .val (.long (p2 &&& (16777215 : Int64))), .second, .val (.int (Int32.ofNat (80 - 8 * (a + n)))), .val (.long (own_w p1 p2 (Int32.ofNat (80 - 8 * (a + n))))), .second, .val (.int ((64 : Int32) - ((8 : Int32) * (Int32.ofNat (n + 1))))), .unset, .unset] [])) _
    exact k
  rw [own_kx n hn] at s15
  have r194 : ∀ t, Steps p.tables e below (T13.setTop (mkF m 194 #[.val (.long p1), .second, .val (.long p2), .second, .val (.int p3), .val (.int p4), .val (.int (Int32.ofNat a)), .val (.int (Int32.ofNat (n + 1))), .val (.ref bK), .val (.long (p2 &&& (16777215 : Int64))), .second, .val (.int (Int32.ofNat (80 - 8 * (a + n)))), .val (.long (own_w p1 p2 (Int32.ofNat (80 - 8 * (a + n))))), .second, .val (.int (Int32.ofNat (56 - 8 * n))), .unset, .unset] [])) t → Steps p.tables e below (s₁.setTop (mkF m 0 #[.val (.long p1), .second, .val (.long p2), .second, .val (.int p3), .val (.int p4), .unset, .unset, .unset, .unset, .unset, .unset, .unset, .unset, .unset, .unset, .unset] [])) t := fun t k => r184 t (s15 t k)
  have s16 : ∀ t, Steps p.tables e below (T13.setTop (mkF m 210 #[.val (.long p1), .second, .val (.long p2), .second, .val (.int p3), .val (.int p4), .val (.int (Int32.ofNat a)), .val (.int (Int32.ofNat (n + 1))), .val (.ref bK), .val (.long (p2 &&& (16777215 : Int64))), .second, .val (.int (Int32.ofNat (80 - 8 * (a + n)))), .val (.long (own_w p1 p2 (Int32.ofNat (80 - 8 * (a + n))))), .second, .val (.int (Int32.ofNat (56 - 8 * n))), .val (.long (((own_w p1 p2 (Int32.ofNat (80 - 8 * (a + n)))) <<< ((Int32.ofNat (56 - 8 * n)) &&& 0x3f).toInt64) >>> ((Int32.ofNat (56 - 8 * n)) &&& 0x3f).toInt64)), .second] [(.int (Int32.ofNat (n + 1))), (.int (Int32.ofNat a)), (.ref bK)])) t → Steps p.tables e below (T13.setTop (mkF m 194 #[.val (.long p1), .second, .val (.long p2), .second, .val (.int p3), .val (.int p4), .val (.int (Int32.ofNat a)), .val (.int (Int32.ofNat (n + 1))), .val (.ref bK), .val (.long (p2 &&& (16777215 : Int64))), .second, .val (.int (Int32.ofNat (80 - 8 * (a + n)))), .val (.long (own_w p1 p2 (Int32.ofNat (80 - 8 * (a + n))))), .second, .val (.int (Int32.ofNat (56 - 8 * n))), .unset, .unset] [])) t := by
    intro t k
    show Steps p.tables e below (T13.setTop (mkF m 194 #[.val (.long p1), .second, .val (.long p2), .second, .val (.int p3), .val (.int p4), .val (.int (Int32.ofNat a)), .val (.int (Int32.ofNat (n + 1))), .val (.ref bK), .val (.long (p2 &&& (16777215 : Int64))), .second, .val (.int (Int32.ofNat (80 - 8 * (a + n)))), .val (.long (own_w p1 p2 (Int32.ofNat (80 - 8 * (a + n))))), .second, .val (.int (Int32.ofNat (56 - 8 * n))), .unset, .unset] [])) _
    refine XS.lload X13.here hx rfl (hb hby at_194) rfl ?_
    show Steps p.tables e below (T13.setTop (mkF m 196 #[.val (.long p1), .second, .val (.long p2), .second, .val (.int p3), .val (.int p4), .val (.int (Int32.ofNat a)), .val (.int (Int32.ofNat (n + 1))), .val (.ref bK), .val (.long (p2 &&& (16777215 : Int64))), .second, .val (.int (Int32.ofNat (80 - 8 * (a + n)))), .val (.long (own_w p1 p2 (Int32.ofNat (80 - 8 * (a + n))))), .second, .val (.int (Int32.ofNat (56 - 8 * n))), .unset, .unset] [(.long (own_w p1 p2 (Int32.ofNat (80 - 8 * (a + n)))))])) _
    refine XS.iload X13.here hx rfl (hb hby at_196) rfl ?_
    show Steps p.tables e below (T13.setTop (mkF m 198 #[.val (.long p1), .second, .val (.long p2), .second, .val (.int p3), .val (.int p4), .val (.int (Int32.ofNat a)), .val (.int (Int32.ofNat (n + 1))), .val (.ref bK), .val (.long (p2 &&& (16777215 : Int64))), .second, .val (.int (Int32.ofNat (80 - 8 * (a + n)))), .val (.long (own_w p1 p2 (Int32.ofNat (80 - 8 * (a + n))))), .second, .val (.int (Int32.ofNat (56 - 8 * n))), .unset, .unset] [(.int (Int32.ofNat (56 - 8 * n))), (.long (own_w p1 p2 (Int32.ofNat (80 - 8 * (a + n)))))])) _
    refine XS.lshl X13.here hx rfl (hb hby at_198) rfl ?_
    show Steps p.tables e below (T13.setTop (mkF m 199 #[.val (.long p1), .second, .val (.long p2), .second, .val (.int p3), .val (.int p4), .val (.int (Int32.ofNat a)), .val (.int (Int32.ofNat (n + 1))), .val (.ref bK), .val (.long (p2 &&& (16777215 : Int64))), .second, .val (.int (Int32.ofNat (80 - 8 * (a + n)))), .val (.long (own_w p1 p2 (Int32.ofNat (80 - 8 * (a + n))))), .second, .val (.int (Int32.ofNat (56 - 8 * n))), .unset, .unset] [(.long ((own_w p1 p2 (Int32.ofNat (80 - 8 * (a + n)))) <<< ((Int32.ofNat (56 - 8 * n)) &&& 0x3f).toInt64))])) _
    refine XS.iload X13.here hx rfl (hb hby at_199) rfl ?_
    show Steps p.tables e below (T13.setTop (mkF m 201 #[.val (.long p1), .second, .val (.long p2), .second, .val (.int p3), .val (.int p4), .val (.int (Int32.ofNat a)), .val (.int (Int32.ofNat (n + 1))), .val (.ref bK), .val (.long (p2 &&& (16777215 : Int64))), .second, .val (.int (Int32.ofNat (80 - 8 * (a + n)))), .val (.long (own_w p1 p2 (Int32.ofNat (80 - 8 * (a + n))))), .second, .val (.int (Int32.ofNat (56 - 8 * n))), .unset, .unset] [(.int (Int32.ofNat (56 - 8 * n))), (.long ((own_w p1 p2 (Int32.ofNat (80 - 8 * (a + n)))) <<< ((Int32.ofNat (56 - 8 * n)) &&& 0x3f).toInt64))])) _
    refine XS.lshr X13.here hx rfl (hb hby at_201) rfl ?_
    show Steps p.tables e below (T13.setTop (mkF m 202 #[.val (.long p1), .second, .val (.long p2), .second, .val (.int p3), .val (.int p4), .val (.int (Int32.ofNat a)), .val (.int (Int32.ofNat (n + 1))), .val (.ref bK), .val (.long (p2 &&& (16777215 : Int64))), .second, .val (.int (Int32.ofNat (80 - 8 * (a + n)))), .val (.long (own_w p1 p2 (Int32.ofNat (80 - 8 * (a + n))))), .second, .val (.int (Int32.ofNat (56 - 8 * n))), .unset, .unset] [(.long (((own_w p1 p2 (Int32.ofNat (80 - 8 * (a + n)))) <<< ((Int32.ofNat (56 - 8 * n)) &&& 0x3f).toInt64) >>> ((Int32.ofNat (56 - 8 * n)) &&& 0x3f).toInt64))])) _
    refine XS.lstore X13.here hx rfl (hb hby at_202) rfl (l' := #[.val (.long p1), .second, .val (.long p2), .second, .val (.int p3), .val (.int p4), .val (.int (Int32.ofNat a)), .val (.int (Int32.ofNat (n + 1))), .val (.ref bK), .val (.long (p2 &&& (16777215 : Int64))), .second, .val (.int (Int32.ofNat (80 - 8 * (a + n)))), .val (.long (own_w p1 p2 (Int32.ofNat (80 - 8 * (a + n))))), .second, .val (.int (Int32.ofNat (56 - 8 * n))), .val (.long (((own_w p1 p2 (Int32.ofNat (80 - 8 * (a + n)))) <<< ((Int32.ofNat (56 - 8 * n)) &&& 0x3f).toInt64) >>> ((Int32.ofNat (56 - 8 * n)) &&& 0x3f).toInt64)), .second]) rfl ?_
    show Steps p.tables e below (T13.setTop (mkF m 204 #[.val (.long p1), .second, .val (.long p2), .second, .val (.int p3), .val (.int p4), .val (.int (Int32.ofNat a)), .val (.int (Int32.ofNat (n + 1))), .val (.ref bK), .val (.long (p2 &&& (16777215 : Int64))), .second, .val (.int (Int32.ofNat (80 - 8 * (a + n)))), .val (.long (own_w p1 p2 (Int32.ofNat (80 - 8 * (a + n))))), .second, .val (.int (Int32.ofNat (56 - 8 * n))), .val (.long (((own_w p1 p2 (Int32.ofNat (80 - 8 * (a + n)))) <<< ((Int32.ofNat (56 - 8 * n)) &&& 0x3f).toInt64) >>> ((Int32.ofNat (56 - 8 * n)) &&& 0x3f).toInt64)), .second] [])) _
    refine XS.aload X13.here hx rfl (hb hby at_204) rfl rfl ?_
    show Steps p.tables e below (T13.setTop (mkF m 206 #[.val (.long p1), .second, .val (.long p2), .second, .val (.int p3), .val (.int p4), .val (.int (Int32.ofNat a)), .val (.int (Int32.ofNat (n + 1))), .val (.ref bK), .val (.long (p2 &&& (16777215 : Int64))), .second, .val (.int (Int32.ofNat (80 - 8 * (a + n)))), .val (.long (own_w p1 p2 (Int32.ofNat (80 - 8 * (a + n))))), .second, .val (.int (Int32.ofNat (56 - 8 * n))), .val (.long (((own_w p1 p2 (Int32.ofNat (80 - 8 * (a + n)))) <<< ((Int32.ofNat (56 - 8 * n)) &&& 0x3f).toInt64) >>> ((Int32.ofNat (56 - 8 * n)) &&& 0x3f).toInt64)), .second] [(.ref bK)])) _
    refine XS.iload X13.here hx rfl (hb hby at_206) rfl ?_
    show Steps p.tables e below (T13.setTop (mkF m 208 #[.val (.long p1), .second, .val (.long p2), .second, .val (.int p3), .val (.int p4), .val (.int (Int32.ofNat a)), .val (.int (Int32.ofNat (n + 1))), .val (.ref bK), .val (.long (p2 &&& (16777215 : Int64))), .second, .val (.int (Int32.ofNat (80 - 8 * (a + n)))), .val (.long (own_w p1 p2 (Int32.ofNat (80 - 8 * (a + n))))), .second, .val (.int (Int32.ofNat (56 - 8 * n))), .val (.long (((own_w p1 p2 (Int32.ofNat (80 - 8 * (a + n)))) <<< ((Int32.ofNat (56 - 8 * n)) &&& 0x3f).toInt64) >>> ((Int32.ofNat (56 - 8 * n)) &&& 0x3f).toInt64)), .second] [(.int (Int32.ofNat a)), (.ref bK)])) _
    refine XS.iload X13.here hx rfl (hb hby at_208) rfl ?_
    show Steps p.tables e below (T13.setTop (mkF m 210 #[.val (.long p1), .second, .val (.long p2), .second, .val (.int p3), .val (.int p4), .val (.int (Int32.ofNat a)), .val (.int (Int32.ofNat (n + 1))), .val (.ref bK), .val (.long (p2 &&& (16777215 : Int64))), .second, .val (.int (Int32.ofNat (80 - 8 * (a + n)))), .val (.long (own_w p1 p2 (Int32.ofNat (80 - 8 * (a + n))))), .second, .val (.int (Int32.ofNat (56 - 8 * n))), .val (.long (((own_w p1 p2 (Int32.ofNat (80 - 8 * (a + n)))) <<< ((Int32.ofNat (56 - 8 * n)) &&& 0x3f).toInt64) >>> ((Int32.ofNat (56 - 8 * n)) &&& 0x3f).toInt64)), .second] [(.int (Int32.ofNat (n + 1))), (.int (Int32.ofNat a)), (.ref bK)])) _
    exact k
  obtain ⟨_, _, ⟨T17, L17, k17, n17⟩, -, X17, ⟨Lc17, hQ17, l17, y17, z17⟩, st17⟩ := Jvm.LawKit.callS X13 hx (y := (⟨"com/example/holdfast/holdfast/store/rocksdb/BigEndian", "read", "([BII)J"⟩ : MethodName)) hown (mvT hZ (hw _ (List.mem_of_getElem? (i := 2) rfl))) (mvT hZ (hw _ (List.mem_of_getElem? (i := 3) rfl))) (mvT hZ (hw _ (List.mem_of_getElem? (i := 4) rfl))) (mvT hZ (hw _ (List.mem_of_getElem? (i := 5) rfl))) (by decide) (backOf (W := 0) (rm1 l Z a0 hw [] bK (own_F p1 p2) a n T13.heap n0 Zq (by omega) GF) hZ (hw _ (List.mem_of_getElem? (i := 5) rfl)) (hw _ (List.mem_of_getElem? (i := 4) rfl)) (by decide) (by decide)) (g := (mkF m 210 #[.val (.long p1), .second, .val (.long p2), .second, .val (.int p3), .val (.int p4), .val (.int (Int32.ofNat a)), .val (.int (Int32.ofNat (n + 1))), .val (.ref bK), .val (.long (p2 &&& (16777215 : Int64))), .second, .val (.int (Int32.ofNat (80 - 8 * (a + n)))), .val (.long (own_w p1 p2 (Int32.ofNat (80 - 8 * (a + n))))), .second, .val (.int (Int32.ofNat (56 - 8 * n))), .val (.long (((own_w p1 p2 (Int32.ofNat (80 - 8 * (a + n)))) <<< ((Int32.ofNat (56 - 8 * n)) &&& 0x3f).toInt64) >>> ((Int32.ofNat (56 - 8 * n)) &&& 0x3f).toInt64)), .second] [(.int (Int32.ofNat (n + 1))), (.int (Int32.ofNat a)), (.ref bK)])) rfl (by rw [hml]; rfl) (argsL := [(.ref bK), (.int (Int32.ofNat a)), (.int (Int32.ofNat (n + 1)))]) (rest := []) (lenOf pd__ABII_J rfl) rfl (by show 2 * 0 + _ ≤ _; exact Nat.le_of_eq rfl) (hb hby at_210) (fun _ _ => ⟨rfl, rfl, (by decide : 1 + 0 ≤ _), (by decide : 11 + 0 ≤ _)⟩)
  dsimp only [Pt.U, Pt.locs, Pt.cells, Pt.slots] at X17 l17 y17 z17 st17 hQ17
  subst l17 y17 z17
  obtain ⟨rfl, N17q, e17⟩ := hQ17
  have N17 := Fr.app N13 N17q
  have r17 : ∀ t, Steps p.tables e below (T17.setTop (mkF m 213 #[.val (.long p1), .second, .val (.long p2), .second, .val (.int p3), .val (.int p4), .val (.int (Int32.ofNat a)), .val (.int (Int32.ofNat (n + 1))), .val (.ref bK), .val (.long (p2 &&& (16777215 : Int64))), .second, .val (.int (Int32.ofNat (80 - 8 * (a + n)))), .val (.long (own_w p1 p2 (Int32.ofNat (80 - 8 * (a + n))))), .second, .val (.int (Int32.ofNat (56 - 8 * n))), .val (.long (((own_w p1 p2 (Int32.ofNat (80 - 8 * (a + n)))) <<< ((Int32.ofNat (56 - 8 * n)) &&& 0x3f).toInt64) >>> ((Int32.ofNat (56 - 8 * n)) &&& 0x3f).toInt64)), .second] [(.long (own_read (own_F p1 p2) a n))])) t → Steps p.tables e below (s₁.setTop (mkF m 0 #[.val (.long p1), .second, .val (.long p2), .second, .val (.int p3), .val (.int p4), .unset, .unset, .unset, .unset, .unset, .unset, .unset, .unset, .unset, .unset, .unset] [])) t := fun t k => r194 t (s16 t (st17 _  k))
  have hfin : own_read (own_F p1 p2) a n = (((own_w p1 p2 (Int32.ofNat (80 - 8 * (a + n)))) <<< ((Int32.ofNat (56 - 8 * n)) &&& 0x3f).toInt64) >>> ((Int32.ofNat (56 - 8 * n)) &&& 0x3f).toInt64) := own_law p1 p2 a n ha hn
  have s17 : ∀ t, Steps p.tables e below (T17.setTop (mkF m 224 #[.val (.long p1), .second, .val (.long p2), .second, .val (.int p3), .val (.int p4), .val (.int (Int32.ofNat a)), .val (.int (Int32.ofNat (n + 1))), .val (.ref bK), .val (.long (p2 &&& (16777215 : Int64))), .second, .val (.int (Int32.ofNat (80 - 8 * (a + n)))), .val (.long (own_w p1 p2 (Int32.ofNat (80 - 8 * (a + n))))), .second, .val (.int (Int32.ofNat (56 - 8 * n))), .val (.long (((own_w p1 p2 (Int32.ofNat (80 - 8 * (a + n)))) <<< ((Int32.ofNat (56 - 8 * n)) &&& 0x3f).toInt64) >>> ((Int32.ofNat (56 - 8 * n)) &&& 0x3f).toInt64)), .second] [(.int (1 : Int32))])) t → Steps p.tables e below (T17.setTop (mkF m 213 #[.val (.long p1), .second, .val (.long p2), .second, .val (.int p3), .val (.int p4), .val (.int (Int32.ofNat a)), .val (.int (Int32.ofNat (n + 1))), .val (.ref bK), .val (.long (p2 &&& (16777215 : Int64))), .second, .val (.int (Int32.ofNat (80 - 8 * (a + n)))), .val (.long (own_w p1 p2 (Int32.ofNat (80 - 8 * (a + n))))), .second, .val (.int (Int32.ofNat (56 - 8 * n))), .val (.long (((own_w p1 p2 (Int32.ofNat (80 - 8 * (a + n)))) <<< ((Int32.ofNat (56 - 8 * n)) &&& 0x3f).toInt64) >>> ((Int32.ofNat (56 - 8 * n)) &&& 0x3f).toInt64)), .second] [(.long (own_read (own_F p1 p2) a n))])) t := by
    intro t k
    show Steps p.tables e below (T17.setTop (mkF m 213 #[.val (.long p1), .second, .val (.long p2), .second, .val (.int p3), .val (.int p4), .val (.int (Int32.ofNat a)), .val (.int (Int32.ofNat (n + 1))), .val (.ref bK), .val (.long (p2 &&& (16777215 : Int64))), .second, .val (.int (Int32.ofNat (80 - 8 * (a + n)))), .val (.long (own_w p1 p2 (Int32.ofNat (80 - 8 * (a + n))))), .second, .val (.int (Int32.ofNat (56 - 8 * n))), .val (.long (((own_w p1 p2 (Int32.ofNat (80 - 8 * (a + n)))) <<< ((Int32.ofNat (56 - 8 * n)) &&& 0x3f).toInt64) >>> ((Int32.ofNat (56 - 8 * n)) &&& 0x3f).toInt64)), .second] [(.long (own_read (own_F p1 p2) a n))])) _
    refine XS.lload X17.here hx rfl (hb hby at_213) rfl ?_
    show Steps p.tables e below (T17.setTop (mkF m 215 #[.val (.long p1), .second, .val (.long p2), .second, .val (.int p3), .val (.int p4), .val (.int (Int32.ofNat a)), .val (.int (Int32.ofNat (n + 1))), .val (.ref bK), .val (.long (p2 &&& (16777215 : Int64))), .second, .val (.int (Int32.ofNat (80 - 8 * (a + n)))), .val (.long (own_w p1 p2 (Int32.ofNat (80 - 8 * (a + n))))), .second, .val (.int (Int32.ofNat (56 - 8 * n))), .val (.long (((own_w p1 p2 (Int32.ofNat (80 - 8 * (a + n)))) <<< ((Int32.ofNat (56 - 8 * n)) &&& 0x3f).toInt64) >>> ((Int32.ofNat (56 - 8 * n)) &&& 0x3f).toInt64)), .second] [(.long (((own_w p1 p2 (Int32.ofNat (80 - 8 * (a + n)))) <<< ((Int32.ofNat (56 - 8 * n)) &&& 0x3f).toInt64) >>> ((Int32.ofNat (56 - 8 * n)) &&& 0x3f).toInt64)), (.long (own_read (own_F p1 p2) a n))])) _
    refine XT.lcmp X17.here hx rfl (hb hby at_215) rfl ?_
    show Steps p.tables e below (T17.setTop (mkF m 216 #[.val (.long p1), .second, .val (.long p2), .second, .val (.int p3), .val (.int p4), .val (.int (Int32.ofNat a)), .val (.int (Int32.ofNat (n + 1))), .val (.ref bK), .val (.long (p2 &&& (16777215 : Int64))), .second, .val (.int (Int32.ofNat (80 - 8 * (a + n)))), .val (.long (own_w p1 p2 (Int32.ofNat (80 - 8 * (a + n))))), .second, .val (.int (Int32.ofNat (56 - 8 * n))), .val (.long (((own_w p1 p2 (Int32.ofNat (80 - 8 * (a + n)))) <<< ((Int32.ofNat (56 - 8 * n)) &&& 0x3f).toInt64) >>> ((Int32.ofNat (56 - 8 * n)) &&& 0x3f).toInt64)), .second] [(.int (XT.cmpL (own_read (own_F p1 p2) a n) (((own_w p1 p2 (Int32.ofNat (80 - 8 * (a + n)))) <<< ((Int32.ofNat (56 - 8 * n)) &&& 0x3f).toInt64) >>> ((Int32.ofNat (56 - 8 * n)) &&& 0x3f).toInt64)))])) _
    refine XS.ifNo X17.here hx rfl (hb hby at_216) rfl (XT.ll_ne_f hfin) ?_
    show Steps p.tables e below (T17.setTop (mkF m 219 #[.val (.long p1), .second, .val (.long p2), .second, .val (.int p3), .val (.int p4), .val (.int (Int32.ofNat a)), .val (.int (Int32.ofNat (n + 1))), .val (.ref bK), .val (.long (p2 &&& (16777215 : Int64))), .second, .val (.int (Int32.ofNat (80 - 8 * (a + n)))), .val (.long (own_w p1 p2 (Int32.ofNat (80 - 8 * (a + n))))), .second, .val (.int (Int32.ofNat (56 - 8 * n))), .val (.long (((own_w p1 p2 (Int32.ofNat (80 - 8 * (a + n)))) <<< ((Int32.ofNat (56 - 8 * n)) &&& 0x3f).toInt64) >>> ((Int32.ofNat (56 - 8 * n)) &&& 0x3f).toInt64)), .second] [])) _
    refine XS.iconst X17.here hx rfl (hb hby at_219) ?_
    show Steps p.tables e below (T17.setTop (mkF m 220 #[.val (.long p1), .second, .val (.long p2), .second, .val (.int p3), .val (.int p4), .val (.int (Int32.ofNat a)), .val (.int (Int32.ofNat (n + 1))), .val (.ref bK), .val (.long (p2 &&& (16777215 : Int64))), .second, .val (.int (Int32.ofNat (80 - 8 * (a + n)))), .val (.long (own_w p1 p2 (Int32.ofNat (80 - 8 * (a + n))))), .second, .val (.int (Int32.ofNat (56 - 8 * n))), .val (.long (((own_w p1 p2 (Int32.ofNat (80 - 8 * (a + n)))) <<< ((Int32.ofNat (56 - 8 * n)) &&& 0x3f).toInt64) >>> ((Int32.ofNat (56 - 8 * n)) &&& 0x3f).toInt64)), .second] [(.int (1 : Int32))])) _
    refine XS.goto X17.here hx rfl (pc0 := 220) (pc' := 224) rfl (hb hby at_220) (by decide) (by decide) ?_
    show Steps p.tables e below (T17.setTop (mkF m 224 #[.val (.long p1), .second, .val (.long p2), .second, .val (.int p3), .val (.int p4), .val (.int (Int32.ofNat a)), .val (.int (Int32.ofNat (n + 1))), .val (.ref bK), .val (.long (p2 &&& (16777215 : Int64))), .second, .val (.int (Int32.ofNat (80 - 8 * (a + n)))), .val (.long (own_w p1 p2 (Int32.ofNat (80 - 8 * (a + n))))), .second, .val (.int (Int32.ofNat (56 - 8 * n))), .val (.long (((own_w p1 p2 (Int32.ofNat (80 - 8 * (a + n)))) <<< ((Int32.ofNat (56 - 8 * n)) &&& 0x3f).toInt64) >>> ((Int32.ofNat (56 - 8 * n)) &&& 0x3f).toInt64)), .second] [(.int (1 : Int32))])) _
    exact k
  obtain ⟨fs, hr, hrun, hended, hW, hsame⟩ := X17.leave (v := some (.int (1 : Int32))) (fun h => by rw [Bd.returns] at h; cases h)
  refine ⟨_, _, pre0 _ (r17 _ (s17 _ ?_)), hrun, hended, _, _, rfl, ?_, ⟨_, rfl⟩, hW, hsame.mono (by decide) (by decide)⟩
  · exact retN X17 hx (t := .boolean) Bd.returns (by simp) (hb hby at_224) hr
  · exact ⟨rfl, N17⟩
set_option maxRecDepth 65536 in
set_option maxHeartbeats 40000000 in
theorem comes_1 {Post : Tables → Env → Array Value → State → Outcome → State → Prop} (hpost : ∀ tb e args s v u, (limb_1_1.after args s (.returned v) u = true ∧ limb_1_2.after args s (.returned v) u = true ∧ True) → FrameEnd s (.returned v) u (Jvm.fieldLocs frame_1_writes args s ++ Jvm.arrayLocs frame_1_arrays args s ++ Jvm.staticLocs frame_1_statics s) 16 128 → Post tb e args s (.returned v) u) :
    ArmFor flags0 classFile x code maxLocals ret World_1 tables_1 room_1 Calls_1 rest_1 Pre_1 Post := by
  intro l hfl _ _ p e ha hc hk s m args below hf hA hF happ hP
  obtain ⟨hcalls, hrest, hpre⟩ := hP
  obtain ⟨-, -, -, hnamed, -, -, -, hat⟩ := (Spec.applies_iff hf).mp happ
  obtain ⟨hg, hn⟩ := and_e (Cond.before_iff.mp (show (Jvm.Cond.and given_1 narrow_1).before args s = true from hpre))
  obtain ⟨gc, q0⟩ := and_e hg
  obtain ⟨gi0, q1⟩ := and_e q0
  obtain ⟨gi1, q2⟩ := and_e q1
  obtain ⟨gi2, q3⟩ := and_e q2
  obtain ⟨w0, w1, w2, w3, rfl⟩ : ∃ w0 w1 w2 w3 : Value, args = #[w0, w1, w2, w3] := by
    have hs : args.size = 4 := by simpa [Cond.value, given_1] using gc
    obtain ⟨L⟩ := args
    match L, hs with
    | [w0, w1, w2, w3], _ => exact ⟨w0, w1, w2, w3, rfl⟩
  have hw := fun d (hd : d ∈ tables_1) => atoms_spec (ws := Jvm.Cond.code x code maxLocals ret :: tables_1) hat d (List.mem_cons_of_mem _ hd)
  obtain ⟨i0, ei0⟩ := isL_v gi0
  obtain rfl : w0 = (.long i0) := Option.some.inj ei0
  obtain ⟨i1, ei1⟩ := isL_v gi1
  obtain rfl : w1 = (.long i1) := Option.some.inj ei1
  obtain ⟨i2, ei2⟩ := is_v gi2
  obtain rfl : w2 = (.int i2) := Option.some.inj ei2
  obtain ⟨i3, ei3⟩ := is_v q3
  obtain rfl : w3 = (.int i3) := Option.some.inj ei3
  obtain ⟨n, o, h1, h2, h3, _, L, rfl, ⟨rfl, N⟩, hq⟩ := rm0 l s _ hw tables_1 i0 i1 i2 i3 s.heap s.heap.size (Nat.le_refl _) p e ha hc hk s m _ below hf ((Spec.applies_iff_loose hf).mp happ).1 ⟨rfl, State.Warmed39.refl s, rfl⟩ trivial
  refine ⟨n, _, h1, h2, h3, hpost _ _ _ _ _ _ ⟨Cond.after_iff.mpr rfl, Cond.after_iff.mpr (eq_i res_at (Term.int_eval (1)) rfl), trivial⟩ ⟨hq.1, hq.2.1, (hq.2.2.sift fun y hy => Or.inr (N y hy)).mono (by decide) (by decide)⟩⟩
theorem main_1_1 : Claimed_1_1 := comes_1 fun _ _ _ _ _ _ h hF => ⟨h.1, hF⟩
theorem main_1_2 : Claimed_1_2 := comes_1 fun _ _ _ _ _ _ h hF => ⟨h.2.1, hF⟩
end Jvm.Pilot.@@N@@
namespace Jvm.Pilot.@@N@@
open Jvm Jvm.ClassFile Sem Op Lib Jvm.Free Jvm.Stand Jvm.Pilot.@@N@@.Jvm.D
/-! MADE BY PROGRAM (witnessworld.py) out of the Statement's table words and the real class files: 9 classes; the members and pool entries that the words name. The judged class is class 1, her method 1. -/
namespace start1
open Jvm.ClassFile
def u (s : String) : CpInfo := .utf8 (stringToUtf16 s)
/-- a pool by its gaps: so many unusable entries, then the entry; so many at the end -/
def gap : Nat → List CpInfo → List CpInfo
  | 0, r => r
  | n + 1, r => .unusable :: gap n r
def poolList (es : List (Nat × CpInfo)) (last : Nat) : List CpInfo := es.foldr (fun e r => gap e.1 (e.2 :: r)) (gap last [])
def pool (es : List (Nat × CpInfo)) (last : Nat) : Array CpInfo := ⟨poolList es last⟩
def fileOf (pool : Array CpInfo) (this : Nat) (attrs : Array Attribute := #[]) (ms : Array MethodInfo := #[]) (fl : Nat := 33) (sup : Nat := 0) (ifs : Array Nat := #[]) (fds : Array FieldInfo := #[]) : ClassFile where
  minorVersion := 0
  majorVersion := 65
  constantPool := pool
  accessFlags := fl
  thisClass := this
  superClass := sup
  interfaces := ifs
  fields := fds
  methods := ms
  attributes := attrs
def plain (name : String) (sup : Option ClassId) : Class where
  name := name
  kind := .ordinary
  loader := none
  accessFlags := 33
  super := sup
  interfaces := #[]
  cf := none
  fields := #[]
  methods := #[]
  instanceTypes := #[]
  staticTypes := #[]
  resolved := #[]
  callSites := []
  init := .initialized
  statics := none
  mirror := none

def pool0 : Array CpInfo := pool [(5, u "<init>"), (0, u "()V"), (1, .class_ 10), (1, u "java/lang/Object")] 113

def k0m0 : Method := { name := "<init>", desc := "()V", sig := { parameters := [], returnType := none }, accessFlags := 1, code := none }
/-- java/lang/Object -/
def k0 : Class := { plain "java/lang/Object" none with
  accessFlags := 33
  interfaces := #[]
  cf := some (fileOf pool0 8 #[] #[{ accessFlags := 1, nameIndex := 5, descriptorIndex := 6, attributes := #[] }] 33 0 #[] #[])
  fields := #[]
  methods := #[k0m0]
  instanceTypes := #[]
  staticTypes := #[]
  resolved := Array.replicate 124 none
  statics := none }

def pool1 : Array CpInfo := pool [(2, .class_ 4), (1, u "java/lang/Object"), (0, u "<init>"), (0, u "()V"), (0, .long 16777215), (1, .methodref 10 11), (0, .class_ 12), (0, .nameAndType 13 14), (0, u "com/example/holdfast/holdfast/store/rocksdb/BigEndian"), (0, u "read"), (0, u "([BII)J"), (0, .class_ 16), (0, u "com/example/holdfast/holdfast/store/rocksdb/BigEndianReadPinLaw"), (2, u "law"), (0, u "(JJII)Z")] 5

def k1m0 : Method := { name := "<init>", desc := "()V", sig := { parameters := [], returnType := none }, accessFlags := 1, code := none }
def k1c1 : Code := { maxStack := 5, maxLocals := 17, code := code, exceptionTable := #[], attributes := #[] }
def k1m1 : Method := { name := "law", desc := "(JJII)Z", sig := { parameters := [.long, .long, .int, .int], returnType := some .boolean }, accessFlags := 9, code := some k1c1 }
/-- com/example/holdfast/holdfast/store/rocksdb/BigEndianReadPinLaw -/
def k1 : Class := { plain "com/example/holdfast/holdfast/store/rocksdb/BigEndianReadPinLaw" (some 0) with
  accessFlags := 49
  interfaces := #[]
  cf := some (fileOf pool1 15 #[] #[{ accessFlags := 1, nameIndex := 5, descriptorIndex := 6, attributes := #[] }, { accessFlags := 9, nameIndex := 19, descriptorIndex := 20, attributes := #[] }] 49 2 #[] #[])
  fields := #[]
  methods := #[k1m0, k1m1]
  instanceTypes := #[]
  staticTypes := #[]
  resolved := Array.replicate 26 none
  statics := none }

def pool2 : Array CpInfo := pool [(2, .class_ 4), (1, u "java/lang/Object"), (0, u "<init>"), (0, u "()V"), (3, .class_ 12), (1, u "com/example/holdfast/holdfast/store/rocksdb/BigEndian"), (6, u "read"), (0, u "([BII)J")] 13

def k2m0 : Method := { name := "<init>", desc := "()V", sig := { parameters := [], returnType := none }, accessFlags := 2, code := none }
def k2c1 : Code := { maxStack := 4, maxLocals := 6, code := prog_128_method_3_code, exceptionTable := #[], attributes := #[] }
def k2m1 : Method := { name := "read", desc := "([BII)J", sig := { parameters := [(.array .byte), .int, .int], returnType := some .long }, accessFlags := 8, code := some k2c1 }
/-- com/example/holdfast/holdfast/store/rocksdb/BigEndian -/
def k2 : Class := { plain "com/example/holdfast/holdfast/store/rocksdb/BigEndian" (some 0) with
  accessFlags := 48
  interfaces := #[]
  cf := some (fileOf pool2 10 #[] #[{ accessFlags := 2, nameIndex := 5, descriptorIndex := 6, attributes := #[] }, { accessFlags := 8, nameIndex := 19, descriptorIndex := 20, attributes := #[] }] 48 2 #[] #[])
  fields := #[]
  methods := #[k2m0, k2m1]
  instanceTypes := #[]
  staticTypes := #[]
  resolved := Array.replicate 34 none
  statics := none }

def pool3 : Array CpInfo := pool [(1, u "java/lang/Cloneable"), (0, .class_ 1), (0, u "java/lang/Object"), (0, .class_ 3)] 3

/-- java/lang/Cloneable -/
def k3 : Class := { plain "java/lang/Cloneable" (some 0) with
  accessFlags := 1537
  interfaces := #[]
  cf := some (fileOf pool3 2 #[] #[] 1537 4 #[] #[])
  fields := #[]
  methods := #[]
  instanceTypes := #[]
  staticTypes := #[]
  resolved := Array.replicate 8 none
  statics := none }

def pool4 : Array CpInfo := pool [(1, u "java/io/Serializable"), (0, .class_ 1), (0, u "java/lang/Object"), (0, .class_ 3)] 3

/-- java/io/Serializable -/
def k4 : Class := { plain "java/io/Serializable" (some 0) with
  accessFlags := 1537
  interfaces := #[]
  cf := some (fileOf pool4 2 #[] #[] 1537 4 #[] #[])
  fields := #[]
  methods := #[]
  instanceTypes := #[]
  staticTypes := #[]
  resolved := Array.replicate 8 none
  statics := none }

/-- the primitive byte -/
def k5 : Class := { plain "byte" none with kind := .primitive 'B', accessFlags := 0x411 }
/-- [B -/
def k6 : Class := { plain "[B" (some 0) with kind := .array 5 .byte, interfaces := #[3, 4], accessFlags := 1041 }

/-- the primitive int -/
def k7 : Class := { plain "int" none with kind := .primitive 'I', accessFlags := 0x411 }
/-- [I -/
def k8 : Class := { plain "[I" (some 0) with kind := .array 7 .int, interfaces := #[3, 4], accessFlags := 1041 }

def heap : Heap := #[]
def classes : Array Class := #[k0, k1, k2, k3, k4, k5, k6, k7, k8]
def interned : List (Array UInt16 × Addr) := []
def slotsUsed : Nat := 0
def theMethod : MethodId := ⟨1, 1⟩
def args0 : Array Value := #[.long 5, .long 6, .int 7, .int 8]
def aboutOver (below : List Frame) : State where
  vm := { classes := classes, interned := interned.toArray }
  heap := heap
  slotsUsed := slotsUsed
  threads := #[{ frames := .invoking theMethod args0 :: below }]
def below0 : List Frame := [.native { method := ⟨0, 0⟩, args := #[] }]
def about1 : State := aboutOver below0
def p0 : Program := .bare "" "" ""
def e0 : Env := launch0.env 0 0 0
theorem w_frames : about1.frames = Frame.invoking theMethod args0 :: below0 := rfl
set_option maxRecDepth 65536 in
theorem w_args : argsFit about1.vm theMethod args0 = true := by decide +kernel
set_option maxRecDepth 65536 in
theorem w_heap : heapFits about1 = true := by decide +kernel
set_option maxRecDepth 65536 in
theorem w_runnable : about1.curStatus? = some .runnable := by decide +kernel
set_option maxRecDepth 65536 in
theorem w_alone : about1.alone = true := by decide +kernel
set_option maxRecDepth 65536 in
theorem w_named : about1.methodNamed? x = some theMethod := by decide +kernel
set_option maxRecDepth 65536 in
theorem w_hears : about1.hears theMethod below0 = true := by decide +kernel
set_option maxRecDepth 65536 in
theorem w_ripe : about1.ripe theMethod args0 below0 = true := by decide +kernel
theorem w_running : about1.status = .running := rfl
set_option maxRecDepth 65536 in
theorem w_room : about1.hasRoom e0.platform room_1 = true :=
  launch0.hasRoom_least _ room_1 (by decide +kernel) (by decide +kernel) (by decide +kernel) (by decide +kernel) (by decide +kernel) (by decide +kernel)
theorem allAtoms_all (ts : List Jvm.Cond) (a : Array Jvm.Value) (st : Jvm.State) : (allAtoms ts).before a st = ts.all (fun c => c.before a st) := by
  induction ts with
  | nil => rfl
  | cons c t ih =>
    show (Jvm.Cond.and c (allAtoms t)).before a st = _
    rw [Jvm.Cond.before_and, ih, List.all_cons]
def words1 : List Jvm.Cond := Jvm.Cond.code x code maxLocals ret :: tables_1
/-- a 'code' word, met by the world's own term for the bytes: nothing is compared byte by byte -/
theorem code_word {y : MethodName} {bytes : ByteArray} {mx : Nat} {rt : Option FieldType} {a : Array Value} {s : State} {m : MethodId} {meth : Method} {c : Code} (h1 : s.methodNamed? y = some m) (h2 : s.vm.method? m = some meth) (h3 : meth.code = some c) (h4 : c.code = bytes)
    (h5 : (c.maxLocals == mx && c.exceptionTable.isEmpty && decide (c.maxStack ≤ mostOperands) && decide (meth.sig.returnType = rt) && !meth.locks && decide (parseMethodDescriptor y.desc = some meth.sig)) = true) : (Jvm.Cond.code y bytes mx rt).before a s = true := by
  simp only [Bool.and_eq_true, beq_iff_eq, Bool.not_eq_true', decide_eq_true_eq] at h5
  obtain ⟨⟨⟨⟨⟨g1, g2⟩, g3⟩, g4⟩, g5⟩, g6⟩ := h5
  simp [Cond.before, Cond.holds, Cond.value, h1, h2, h3, h4, g1, g2, g3, g4, g5, g6]
def isCode : Jvm.Cond → Bool
  | .code _ _ _ _ => true
  | _ => false
theorem all_split {L : List Jvm.Cond} {P : Jvm.Cond → Bool} (h1 : L.all (fun c => isCode c || P c) = true) (h2 : ∀ c ∈ L.filter isCode, P c = true) : L.all P = true := by
  refine List.all_eq_true.mpr fun c hc => ?_
  have h := List.all_eq_true.mp h1 c hc
  rcases Bool.eq_false_or_eq_true (isCode c) with hi | hi
  · exact h2 c (List.mem_filter.mpr ⟨hc, hi⟩)
  · simpa [hi] using h
set_option maxRecDepth 65536 in
theorem w_c0 : (Jvm.Cond.code x code maxLocals ret).before args0 about1 = true := code_word (m := ⟨1, 1⟩) (meth := k1m1) (c := k1c1) (by decide +kernel) rfl rfl rfl (by decide +kernel)
set_option maxRecDepth 65536 in
theorem w_c1 : (Jvm.Cond.code ({ cls := "com/example/holdfast/holdfast/store/rocksdb/BigEndian", name := "read", desc := "([BII)J" } : Jvm.MethodName) prog_128_method_3_code (6 : Nat) (Option.some Jvm.ClassFile.FieldType.long)).before args0 about1 = true := code_word (m := ⟨2, 1⟩) (meth := k2m1) (c := k2c1) (by decide +kernel) rfl rfl rfl (by decide +kernel)
def codes1 : List Jvm.Cond := [Jvm.Cond.code x code maxLocals ret, Jvm.Cond.code ({ cls := "com/example/holdfast/holdfast/store/rocksdb/BigEndian", name := "read", desc := "([BII)J" } : Jvm.MethodName) prog_128_method_3_code (6 : Nat) (Option.some Jvm.ClassFile.FieldType.long)]
set_option maxRecDepth 65536 in
theorem codes_eq : words1.filter isCode = codes1 := rfl
theorem w_codes : ∀ c ∈ words1.filter isCode, c.before args0 about1 = true := by
  rw [codes_eq]
  intro c hc
  simp only [codes1, List.mem_cons, List.not_mem_nil, or_false] at hc
  rcases hc with rfl | rfl
  · exact w_c0
  · exact w_c1
set_option maxRecDepth 65536 in
theorem w_t1 : words1.all (fun c => isCode c || c.before args0 about1) = true := by decide +kernel
theorem w_tables : (allAtoms (Jvm.Cond.code x code maxLocals ret :: tables_1)).before args0 about1 = true := by
  rw [allAtoms_all]
  show words1.all (fun c => c.before args0 about1) = true
  refine all_split ?_ w_codes
  rw [w_t1]
set_option maxRecDepth 65536 in
theorem w_case : (Jvm.Cond.and given_1 narrow_1).before args0 about1 = true := by decide +kernel
theorem w_applies : (headSpec (Jvm.Cond.code x code maxLocals ret :: tables_1) room_1).applies x e0.platform about1 = true :=
  (Spec.applies_iff w_frames).mpr ⟨w_running, w_runnable, w_alone, w_named, w_hears, w_ripe, w_room, w_tables⟩
theorem atStart : AtStart classFile x code maxLocals ret World_1 tables_1 room_1 Calls_1 rest_1 Pre_1 launch0 p0 e0 about1 theMethod args0 below0 :=
  ⟨lists_1, trivial, launch0.admits_env _ _ _, launch0.least_env, fairChoices_fair.cas, fairChoices_fair.clock, w_frames, w_args, w_heap, w_applies, trivial, trivial, w_case⟩
end start1
theorem witness_1 : WitnessClaimed_1 := ⟨start1.p0, start1.e0, start1.about1, start1.theMethod, start1.args0, start1.below0, start1.atStart⟩
end Jvm.Pilot.@@N@@
