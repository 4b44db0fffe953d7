import JvmDerived
import JvmDerived.Pilot.@@N@@Statement
import JvmDerived.Pilot.@@N@@Code
set_option linter.unusedVariables false
set_option linter.unusedSimpArgs false
namespace Jvm.RoadKit
open Sem ClassFile Op Lib Jvm.Stand Jvm.Free Jvm.LawKit
section New
variable {p : Program} {l : Launch} {e : Env} {R : Room} {s : State} {m : MethodId} {args : Array Value} {below : List Frame} {meth : Method} {c : Code} {T : State} {locs : List Loc} {cells slots : Nat}
theorem retI (X : Stand p l e R s m args below meth c T locs cells slots) (hx : p.tables.exec = Jvm.exec) {pc : Nat} {Ls : Array Slot} {z : Int32} {rest : List Value} (hret : meth.sig.returnType = some .int) (hd : decode c.code pc = .ok (.ireturn, 1)) {fs : List Frame}
    (hl : ∀ (f : JFrame) (acts : List Action), f.method = m → f.locked = none → f.entered = [] → (doReturn e (T.setTop f) acts (some (.int z))).1 = T.setFrames fs) : Steps p.tables e below (T.setTop (mkF m pc Ls (.int z :: rest))) (T.setFrames fs) := by
  have hm' : T.vm.method? m = some meth := X.method'
  have hn : narrow .int (.int z) = .int z := rfl
  show Steps p.tables e below (T.setTop { method := m, pc := pc, locals := Ls, stack := _ :: rest, locked := none }) _
  jvm_step X.here [X.here.top, hx, hd, hm', hret, hn]
  first | (intro acts; rw [hl _ acts rfl rfl rfl]) | rw [hl _ _ rfl rfl rfl]
  exact Steps.refl _
end New
end Jvm.RoadKit
namespace Jvm.Pilot.@@N@@
open Jvm Jvm.ClassFile Sem Op Lib Jvm.Free Jvm.Stand Jvm.LawKit Jvm.RoadKit Bundle Jvm.Pilot.@@N@@.Jvm.D
def own_b (b : Bool) : Int32 := if b = true then 1 else 0
theorem own_b0 {b : Bool} (h : ¬ (b = true)) : own_b b = 0 := if_neg h
theorem own_b1 {b : Bool} (h : b = true) : ¬ own_b b = 0 := by subst h; decide
theorem own_nb (b : Bool) : nar .boolean (own_b b) = own_b b := by cases b <;> decide
theorem own_bm {n : Int} (h1 : -2147483648 ≤ n) (h2 : n < 2147483648) : n.bmod (2 ^ 32) = n := by
  rw [Int.bmod_def]; omega
theorem own_m31 (x : Int32) : 0 ≤ (x &&& (2147483647 : Int32)).toInt ∧ (x &&& (2147483647 : Int32)).toInt < 2147483648 := by
  have h : (x &&& (2147483647 : Int32)).toInt = (((x.toBitVec &&& 2147483647#32).toNat : Nat) : Int) := by
    show (x &&& (2147483647 : Int32)).toBitVec.toInt = _
    rw [Int32.toBitVec_and]
    show (x.toBitVec &&& 2147483647#32).toInt = _
    apply BitVec.toInt_eq_toNat_of_lt
    have := Nat.and_le_right (n := x.toBitVec.toNat) (m := 2147483647)
    rw [BitVec.toNat_and]
    show 2 * (x.toBitVec.toNat &&& 2147483647) < _
    omega
  rw [h, BitVec.toNat_and]
  have := Nat.and_le_right (n := x.toBitVec.toNat) (m := 2147483647)
  show (0:Int) ≤ ((x.toBitVec.toNat &&& 2147483647 : Nat) : Int) ∧ _
  constructor
  · omega
  · show ((x.toBitVec.toNat &&& 2147483647 : Nat) : Int) < 2147483648
    omega
theorem own_rem {a k : Int32} (h0 : 0 ≤ a.toInt) (hk : 0 < k.toInt) : (a - (a / k) * k).toInt = a.toInt % k.toInt := by
  have e1 : (a / k).toInt = a.toInt / k.toInt := by
    rw [Int32.toInt_div, Int.tdiv_eq_ediv_of_nonneg h0]
    have := Int.ediv_nonneg h0 (Int.le_of_lt hk)
    have := Int.ediv_le_self k.toInt h0
    have := a.toInt_lt
    exact own_bm (by omega) (by omega)
  have h1 := Int.emod_add_mul_ediv a.toInt k.toInt
  have h2 := Int.emod_nonneg a.toInt (Int.ne_of_gt hk)
  have h3 := Int.emod_lt_of_pos a.toInt hk
  have h4 := a.toInt_lt
  have h6 := k.toInt_lt
  have h7 := Int.mul_nonneg (Int.le_of_lt hk) (Int.ediv_nonneg h0 (Int.le_of_lt hk))
  have h5 : (a / k * k).toInt = a.toInt - a.toInt % k.toInt := by
    rw [Int32.toInt_mul, e1, Int.mul_comm]
    rw [own_bm (by omega) (by omega)]; omega
  rw [Int32.toInt_sub, h5, own_bm (by omega) (by omega)]; omega
def own_t (x : Int32) (i : Nat) : Bool := x.toBitVec.getLsbD i
theorem own_bits {x y : Int32} (h : ∀ i, i < 32 → own_t x i = own_t y i) : x = y := by
  apply Int32.toBitVec_inj.mp
  apply BitVec.eq_of_getLsbD_eq
  exact fun i hi => h i hi
theorem own_t_and (x y : Int32) (i : Nat) : own_t (x &&& y) i = (own_t x i && own_t y i) := by
  unfold own_t; rw [Int32.toBitVec_and, BitVec.getLsbD_and]
theorem own_t_or (x y : Int32) (i : Nat) : own_t (x ||| y) i = (own_t x i || own_t y i) := by
  unfold own_t; rw [Int32.toBitVec_or, BitVec.getLsbD_or]
theorem own_t_by (x : Int32) (i : Nat) : own_t (x.toInt8.toInt32) i = (decide (i < 32) && if i < 8 then own_t x i else own_t x 7) := by
  unfold own_t
  have : x.toInt8.toInt32.toBitVec = (x.toBitVec.setWidth 8).signExtend 32 := by rw [Int8.toBitVec_toInt32, Int32.toBitVec_toInt8, BitVec.signExtend_eq_setWidth_of_le x.toBitVec (by decide)]
  rw [this, BitVec.getLsbD_signExtend]
  by_cases h : i < 8
  · simp [h]
  · simp [h, BitVec.msb_eq_getLsbD_last]
theorem own_t_shl (x : Int32) (i : Nat) (k : Int32) (n : Nat) (hk : ((k &&& 31).toBitVec.smod 32) = BitVec.ofNat 32 n) (hn : n < 32) : own_t (x <<< (k &&& 31)) i = (decide (i < 32) && !decide (i < n) && own_t x (i - n)) := by
  unfold own_t
  rw [Int32.toBitVec_shiftLeft, hk, BitVec.shiftLeft_eq', BitVec.getLsbD_shiftLeft]
  have : (BitVec.ofNat 32 n).toNat = n := by rw [BitVec.toNat_ofNat]; omega
  rw [this]
theorem own_t_sar (x : Int32) (i : Nat) (k : Int32) (n : Nat) (hk : ((k &&& 31).toBitVec.smod 32) = BitVec.ofNat 32 n) (hn : n < 32) (hx : own_t x 31 = false) : own_t (x >>> (k &&& 31)) i = (decide (i + n < 32) && own_t x (i + n)) := by
  unfold own_t at *
  rw [Int32.toBitVec_shiftRight, hk, BitVec.sshiftRight_eq', BitVec.getLsbD_sshiftRight]
  have : (BitVec.ofNat 32 n).toNat = n := by rw [BitVec.toNat_ofNat]; omega
  have hm : x.toBitVec.msb = false := by rw [BitVec.msb_eq_getLsbD_last]; exact hx
  rw [this, hm]
  by_cases h : i + n < 32
  · have h' : n + i < 32 := by omega
    have : ¬ (32 ≤ i) := by omega
    simp [h, this, Nat.add_comm]
  · have h' : ¬ n + i < 32 := by omega
    simp [h, h']
theorem own_t_high {x : Int32} {n : Nat} (h0 : 0 ≤ x.toInt) (h : x.toInt < 2 ^ n) {i : Nat} (hi : n ≤ i) : own_t x i = false := by
  unfold own_t
  have hx : x.toInt = x.toBitVec.toNat := by
    have : x.toInt = x.toBitVec.toInt := rfl
    rw [this, BitVec.toInt_eq_toNat_cond]
    rw [this, BitVec.toInt_eq_toNat_cond] at h0
    split
    · rfl
    · rename_i q; rw [if_neg q] at h0; have := x.toBitVec.isLt; omega
  have : x.toBitVec.toNat < 2 ^ i := by
    have h2 : x.toBitVec.toNat < 2 ^ n := by
      rw [hx] at h; exact_mod_cast h
    exact Nat.lt_of_lt_of_le h2 (Nat.pow_le_pow_right (by decide) hi)
  exact Nat.testBit_lt_two_pow this

theorem own_i32 {P : Nat → Prop} (h : P 0 ∧ P 1 ∧ P 2 ∧ P 3 ∧ P 4 ∧ P 5 ∧ P 6 ∧ P 7 ∧ P 8 ∧ P 9 ∧ P 10 ∧ P 11 ∧ P 12 ∧ P 13 ∧ P 14 ∧ P 15 ∧ P 16 ∧ P 17 ∧ P 18 ∧ P 19 ∧ P 20 ∧ P 21 ∧ P 22 ∧ P 23 ∧ P 24 ∧ P 25 ∧ P 26 ∧ P 27 ∧ P 28 ∧ P 29 ∧ P 30 ∧ P 31) : ∀ i, i < 32 → P i := by
  intro i hi
  obtain ⟨h0, h1, h2, h3, h4, h5, h6, h7, h8, h9, h10, h11, h12, h13, h14, h15, h16, h17, h18, h19, h20, h21, h22, h23, h24, h25, h26, h27, h28, h29, h30, h31⟩ := h
  match i, hi with
  | 0, _ => exact h0
  | 1, _ => exact h1
  | 2, _ => exact h2
  | 3, _ => exact h3
  | 4, _ => exact h4
  | 5, _ => exact h5
  | 6, _ => exact h6
  | 7, _ => exact h7
  | 8, _ => exact h8
  | 9, _ => exact h9
  | 10, _ => exact h10
  | 11, _ => exact h11
  | 12, _ => exact h12
  | 13, _ => exact h13
  | 14, _ => exact h14
  | 15, _ => exact h15
  | 16, _ => exact h16
  | 17, _ => exact h17
  | 18, _ => exact h18
  | 19, _ => exact h19
  | 20, _ => exact h20
  | 21, _ => exact h21
  | 22, _ => exact h22
  | 23, _ => exact h23
  | 24, _ => exact h24
  | 25, _ => exact h25
  | 26, _ => exact h26
  | 27, _ => exact h27
  | 28, _ => exact h28
  | 29, _ => exact h29
  | 30, _ => exact h30
  | 31, _ => exact h31
  | n + 32, hi => omega
theorem own_fol (x : Int32) : ((((128 : Int32) ||| (x &&& (63 : Int32))).toInt8.toInt32) &&& (192 : Int32)) = (128 : Int32) := by
  apply own_bits
  apply own_i32
  simp only [own_t_and, own_t_or, own_t_by]
  simp +decide [own_t]
theorem own_dec2 (c : Int32) (h0 : 0 ≤ c.toInt) (h : c.toInt < 2048) :
   ((((((192 : Int32) ||| (c >>> ((6 : Int32) &&& 31))).toInt8.toInt32) &&& (31 : Int32)) <<< ((6 : Int32) &&& 31)) ||| ((((128 : Int32) ||| (c &&& (63 : Int32))).toInt8.toInt32) &&& (63 : Int32))) = c := by
  have hh := fun i => own_t_high (n := 11) h0 h (i := i)
  apply own_bits
  simp only [own_t_and, own_t_or, own_t_by, own_t_shl _ _ 6 6 (by decide) (by decide), own_t_sar _ _ 6 6 (by decide) (by decide) (hh 31 (by decide))]
  generalize hg : own_t c = f at *
  apply own_i32
  simp +decide [own_t, hh]

theorem own_dec3 (c : Int32) (h0 : 0 ≤ c.toInt) (h : c.toInt < 65536) :
   ((((((((224 : Int32) ||| (c >>> ((12 : Int32) &&& 31))).toInt8.toInt32) &&& (15 : Int32)) <<< ((12 : Int32) &&& 31)) ||| ((((((128 : Int32) ||| ((c >>> ((6 : Int32) &&& 31)) &&& (63 : Int32)))).toInt8.toInt32) &&& (63 : Int32)) <<< ((6 : Int32) &&& 31)))) ||| (((((128 : Int32) ||| (c &&& (63 : Int32)))).toInt8.toInt32) &&& (63 : Int32))) = c := by
  have hh := fun i => own_t_high (n := 16) h0 h (i := i)
  apply own_bits
  simp only [own_t_and, own_t_or, own_t_by, own_t_shl _ _ 6 6 (by decide) (by decide), own_t_shl _ _ 12 12 (by decide) (by decide), own_t_sar _ _ 6 6 (by decide) (by decide) (hh 31 (by decide)), own_t_sar _ _ 12 12 (by decide) (by decide) (hh 31 (by decide))]
  generalize hg : own_t c = f at *
  apply own_i32
  simp +decide [own_t, hh]

theorem own_dec4 (c : Int32) (h0 : 0 ≤ c.toInt) (h : c.toInt < 1114112) :
   ((((((((240 : Int32) ||| (c >>> ((18 : Int32) &&& 31))).toInt8.toInt32) &&& (7 : Int32)) <<< ((18 : Int32) &&& 31)) ||| ((((((128 : Int32) ||| ((c >>> ((12 : Int32) &&& 31)) &&& (63 : Int32)))).toInt8.toInt32) &&& (63 : Int32)) <<< ((12 : Int32) &&& 31))) ||| ((((((128 : Int32) ||| ((c >>> ((6 : Int32) &&& 31)) &&& (63 : Int32)))).toInt8.toInt32) &&& (63 : Int32)) <<< ((6 : Int32) &&& 31))) ||| (((((128 : Int32) ||| (c &&& (63 : Int32)))).toInt8.toInt32) &&& (63 : Int32))) = c := by
  have hh := fun i => own_t_high (n := 21) h0 (Int.lt_trans h (by decide)) (i := i)
  apply own_bits
  simp only [own_t_and, own_t_or, own_t_by, own_t_shl _ _ 6 6 (by decide) (by decide), own_t_shl _ _ 12 12 (by decide) (by decide), own_t_shl _ _ 18 18 (by decide) (by decide), own_t_sar _ _ 6 6 (by decide) (by decide) (hh 31 (by decide)), own_t_sar _ _ 12 12 (by decide) (by decide) (hh 31 (by decide)), own_t_sar _ _ 18 18 (by decide) (by decide) (hh 31 (by decide))]
  generalize hg : own_t c = f at *
  apply own_i32
  simp +decide [own_t, hh]

theorem own_sarn (c : Int32) (k : Int32) (n : Nat) (hk : ((k &&& 31).toBitVec.smod 32) = BitVec.ofNat 32 n) (hn : n < 32) (h0 : 0 ≤ c.toInt) : (c >>> (k &&& 31)) = Int32.ofNat (c.toInt.toNat / 2 ^ n) ∧ (c >>> (k &&& 31)).toInt = c.toInt / 2 ^ n := by
  have e : (c >>> (k &&& 31)).toInt = c.toInt / 2 ^ n := by
    show (c >>> (k &&& 31)).toBitVec.toInt = _
    rw [Int32.toBitVec_shiftRight, hk, BitVec.sshiftRight_eq', BitVec.toInt_sshiftRight]
    have : (BitVec.ofNat 32 n).toNat = n := by rw [BitVec.toNat_ofNat]; omega
    rw [this, Int.shiftRight_eq_div_pow]
    rfl
  refine ⟨?_, e⟩
  apply Int32.toInt_inj.mp
  rw [e]
  have h1 := c.toInt_lt
  obtain ⟨m, hm⟩ := Int.eq_ofNat_of_zero_le h0
  rw [hm]
  have h2 : m / 2 ^ n ≤ m := Nat.div_le_self _ _
  rw [Int.toNat_natCast, Int32.toInt_ofNat_of_lt (by omega)]
  simp
def own_sl (b : Int32) : Int32 := if (b &&& (255 : Int32)) < (194 : Int32) then (0 : Int32) else if (b &&& (255 : Int32)) < (224 : Int32) then (2 : Int32) else if (b &&& (255 : Int32)) < (240 : Int32) then (3 : Int32) else if (b &&& (255 : Int32)) < (245 : Int32) then (4 : Int32) else (0 : Int32)
theorem own_sl2k : ∀ k : Nat, k < 32 → 2 ≤ k → own_sl (((192 : Int32) ||| Int32.ofNat k).toInt8.toInt32) = 2 := by decide
theorem own_sl3k : ∀ k : Nat, k < 16 → own_sl (((224 : Int32) ||| Int32.ofNat k).toInt8.toInt32) = 3 := by decide
theorem own_sl4k : ∀ k : Nat, k < 5 → own_sl (((240 : Int32) ||| Int32.ofNat k).toInt8.toInt32) = 4 := by decide
theorem own_sl2 (c : Int32) (h0 : 128 ≤ c.toInt) (h : c.toInt < 2048) : own_sl (((192 : Int32) ||| (c >>> ((6 : Int32) &&& 31))).toInt8.toInt32) = 2 := by
  rw [(own_sarn c 6 6 (by decide) (by decide) (by omega)).1]; exact own_sl2k _ (by omega) (by omega)
theorem own_sl3 (c : Int32) (h0 : 0 ≤ c.toInt) (h : c.toInt < 65536) : own_sl (((224 : Int32) ||| (c >>> ((12 : Int32) &&& 31))).toInt8.toInt32) = 3 := by
  rw [(own_sarn c 12 12 (by decide) (by decide) (by omega)).1]; exact own_sl3k _ (by omega)
theorem own_sl4 (c : Int32) (h0 : 0 ≤ c.toInt) (h : c.toInt < 1114112) : own_sl (((240 : Int32) ||| (c >>> ((18 : Int32) &&& 31))).toInt8.toInt32) = 4 := by
  rw [(own_sarn c 18 18 (by decide) (by decide) (by omega)).1]; exact own_sl4k _ (by omega)

def own_B (Z : State) (h : Heap) (a : Addr) (g : Int32 → Int32) : Prop := ∃ c : Cell, Arr Z h a c .byte ∧ c.slots.size = 8 ∧ ∀ j : Int32, ¬ j < 0 → j < 8 → c.slots[j.toNatClampNeg]? = some (.int (g j))
def own_set (g : Int32 → Int32) (i v : Int32) : Int32 → Int32 := fun j => if j = i then v else g j
theorem own_hit (g : Int32 → Int32) (i v : Int32) : own_set g i v i = v := if_pos rfl
theorem own_miss {g : Int32 → Int32} {i v j : Int32} (h : ¬ j = i) : own_set g i v j = g j := if_neg h
theorem own_in {c : Cell} (S : c.slots.size = 8) {j : Int32} (q : ¬ j < 0 ∧ j < 8) : ¬ (j < 0 ∨ c.slots.size ≤ j.toNatClampNeg) := inb_of (z := 8) (S.trans (by decide)) q
theorem own_new {Z : State} {h : Heap} {a : Addr} {k : ClassId} (A : Arr Z h a (newA k .byte 8) .byte) : own_B Z h a (fun _ => 0) :=
  ⟨_, A, (sz_new _ _ _).trans (by decide), fun j q1 q2 => get_new (by rw [← sz_new k .byte 8]; exact inb_of (sz_new _ _ _) ⟨q1, q2⟩)⟩
theorem own_congr {Z : State} {h : Heap} {a : Addr} {g g' : Int32 → Int32} (q : ∀ j : Int32, ¬ j < 0 → j < 8 → g j = g' j) (V : own_B Z h a g) : own_B Z h a g' := by
  obtain ⟨c, A, S, H⟩ := V
  exact ⟨c, A, S, fun j q1 q2 => by rw [← q j q1 q2]; exact H j q1 q2⟩
theorem own_stB {p : Program} {l : Launch} {e : Env} {R : Room} {s : State} {m : MethodId} {args : Array Value} {below : List Frame} {meth : Method} {c : Code} {T : State} {locs : List Loc} {cells slots : Nat} {Z : State} {h : Heap}
    (X : Stand p l e R s m args below meth c T locs cells slots) (hx : p.tables.exec = Jvm.exec) (hZ : Z.Warmed39 s.vm) (eT : T.heap = h) {a : Addr} {g : Int32 → Int32} (V : own_B Z h a g) {j x : Int32} (q : ¬ j < 0 ∧ j < 8) {f : JFrame} (hg : f.method = m) {rest : List Value} (hs : f.stack = .int x :: .int j :: .ref a :: rest) (hd : decode c.code f.pc = .ok (.bastore, 1)) :
    ∃ T' h', Stand p l e R s m args below meth c T' (locs ++ [⟨a, j.toNatClampNeg⟩]) cells slots ∧ T'.heap = h' ∧ own_B Z h' a (own_set g j (nar .byte x)) ∧ h.size ≤ h'.size ∧ ∀ target, Steps p.tables e below (T'.setTop { f with pc := f.pc + 1, stack := rest }) target → Steps p.tables e below (T.setTop f) target := by
  obtain ⟨cl, A, S, H⟩ := V
  obtain ⟨T', h', X', e', W, st⟩ := stB X hx hZ eT A (j := j) (own_in S q) hg hs hd
  refine ⟨T', h', X', e', ⟨_, A.same W, by rw [sz_set]; exact S, fun i q1 q2 => ?_⟩, (Keep.of_wr W).1, st⟩
  by_cases u : i = j
  · rw [u, own_hit]; exact get_hit (own_in S q) rfl
  · rw [own_miss u]; exact (get_miss q.1 q1 u).trans (H i q1 q2)
theorem own_nar8 (x : Int32) : nar .byte (x.toInt8.toInt32) = x.toInt8.toInt32 := by
  show (x.toInt8.toInt32).toInt8.toInt32 = _
  rw [Int8.toInt8_toInt32]
theorem own_m3 (x : Int32) : (x &&& (3 : Int32)) = 0 ∨ (x &&& (3 : Int32)) = 1 ∨ (x &&& (3 : Int32)) = 2 ∨ (x &&& (3 : Int32)) = 3 := by
  have h : (x &&& (3 : Int32)).toInt = (((x.toBitVec.toNat &&& 3 : Nat)) : Int) := by
    show (x &&& (3 : Int32)).toBitVec.toInt = _
    rw [Int32.toBitVec_and]
    show (x.toBitVec &&& 3#32).toInt = _
    rw [BitVec.toInt_eq_toNat_of_lt, BitVec.toNat_and]
    · rfl
    · have := Nat.and_le_right (n := x.toBitVec.toNat) (m := 3)
      rw [BitVec.toNat_and]
      show 2 * (x.toBitVec.toNat &&& 3) < _
      omega
  have := Nat.and_le_right (n := x.toBitVec.toNat) (m := 3)
  rw [← Int32.toInt_inj, ← Int32.toInt_inj, ← Int32.toInt_inj, ← Int32.toInt_inj, show (0 : Int32).toInt = 0 by decide, show (1 : Int32).toInt = 1 by decide, show (2 : Int32).toInt = 2 by decide, show (3 : Int32).toInt = 3 by decide, h]
  omega
def own_cc (x : Int32) : Int32 := ((x &&& (2147483647 : Int32)) - ((x &&& (2147483647 : Int32)) / (1114112 : Int32)) * (1114112 : Int32))
theorem own_cci (x : Int32) : 0 ≤ (own_cc x).toInt ∧ (own_cc x).toInt < 1114112 := by
  have h := own_m31 x
  have e := own_rem (k := 1114112) h.1 (by decide)
  rw [show (1114112 : Int32).toInt = 1114112 by decide] at e
  unfold own_cc
  rw [e]; omega
def own_a (x : Int32) : Int32 := (x &&& (3 : Int32))
def own_f (x : Int32) : Int32 := (x.toInt8.toInt32)
abbrev own_P (p : Int32) : Prop := p = 0 ∨ p = 1 ∨ p = 2 ∨ p = 3
theorem own_ai (x : Int32) : own_P (own_a x) := own_m3 x
theorem own_ix0 {p : Int32} (h : own_P p) : ¬ p < 0 ∧ p < 8 := by rcases h with rfl | rfl | rfl | rfl <;> decide
theorem own_ix1 {p : Int32} (h : own_P p) : ¬ (p + (1 : Int32)) < 0 ∧ (p + (1 : Int32)) < 8 := by rcases h with rfl | rfl | rfl | rfl <;> decide
theorem own_ix2 {p : Int32} (h : own_P p) : ¬ ((p + (1 : Int32)) + (1 : Int32)) < 0 ∧ ((p + (1 : Int32)) + (1 : Int32)) < 8 := by rcases h with rfl | rfl | rfl | rfl <;> decide
theorem own_ix3 {p : Int32} (h : own_P p) : ¬ (((p + (1 : Int32)) + (1 : Int32)) + (1 : Int32)) < 0 ∧ (((p + (1 : Int32)) + (1 : Int32)) + (1 : Int32)) < 8 := by rcases h with rfl | rfl | rfl | rfl <;> decide
theorem own_iy2 {p : Int32} (h : own_P p) : ¬ (p + (2 : Int32)) < 0 ∧ (p + (2 : Int32)) < 8 := by rcases h with rfl | rfl | rfl | rfl <;> decide
theorem own_iy3 {p : Int32} (h : own_P p) : ¬ (p + (3 : Int32)) < 0 ∧ (p + (3 : Int32)) < 8 := by rcases h with rfl | rfl | rfl | rfl <;> decide
theorem own_s2 {p : Int32} : ((p + (1 : Int32)) + (1 : Int32)) = (p + (2 : Int32)) := by rw [Int32.add_assoc]; rfl
theorem own_s3 {p : Int32} : (((p + (1 : Int32)) + (1 : Int32)) + (1 : Int32)) = (p + (3 : Int32)) := by rw [Int32.add_assoc, Int32.add_assoc]; rfl
theorem own_s4 {p : Int32} : ((((p + (1 : Int32)) + (1 : Int32)) + (1 : Int32)) + (1 : Int32)) = (p + (4 : Int32)) := by rw [Int32.add_assoc, Int32.add_assoc, Int32.add_assoc]; rfl
def own_fo (x : Int32) : Bool := decide ((x &&& (192 : Int32)) = (128 : Int32))
theorem own_fot {x : Int32} (h : (x &&& (192 : Int32)) = (128 : Int32)) : own_fo x = true := decide_eq_true h
def own_w1 (c p : Int32) (g : Int32 → Int32) : Int32 → Int32 := (own_set g p (nar .byte (c.toInt8.toInt32)))
theorem own_k1 {c p i f : Int32} (hp : own_P p) (h : i < p ∨ ¬ i < (p + (1 : Int32))) : own_w1 c p (fun _ => f) i = f := by
  have hn : ¬ i = p ∧ True := by
    rcases hp with rfl | rfl | rfl | rfl <;> (refine ⟨?_, trivial⟩ <;> (intro u; rw [u] at h; revert h; decide))
  unfold own_w1
  rw [own_miss hn.1]
theorem own_v10 {c p : Int32} {g : Int32 → Int32} (hp : own_P p) : own_w1 c p g p = (c.toInt8.toInt32) := by
  have hn : True := by
    rcases hp with rfl | rfl | rfl | rfl <;> decide
  unfold own_w1
  rw [own_hit, own_nar8]
def own_w2 (c p : Int32) (g : Int32 → Int32) : Int32 → Int32 := (own_set (own_set g p (nar .byte (((192 : Int32) ||| (c >>> ((6 : Int32) &&& 31))).toInt8.toInt32))) (p + (1 : Int32)) (nar .byte (((128 : Int32) ||| (c &&& (63 : Int32))).toInt8.toInt32)))
theorem own_k2 {c p i f : Int32} (hp : own_P p) (h : i < p ∨ ¬ i < ((p + (1 : Int32)) + (1 : Int32))) : own_w2 c p (fun _ => f) i = f := by
  have hn : ¬ i = (p + (1 : Int32)) ∧ ¬ i = p ∧ True := by
    rcases hp with rfl | rfl | rfl | rfl <;> (refine ⟨?_, ?_, trivial⟩ <;> (intro u; rw [u] at h; revert h; decide))
  unfold own_w2
  rw [own_miss hn.1, own_miss hn.2.1]
theorem own_v20 {c p : Int32} {g : Int32 → Int32} (hp : own_P p) : own_w2 c p g p = (((192 : Int32) ||| (c >>> ((6 : Int32) &&& 31))).toInt8.toInt32) := by
  have hn : ¬ p = (p + (1 : Int32)) ∧ True := by
    rcases hp with rfl | rfl | rfl | rfl <;> decide
  unfold own_w2
  rw [own_miss hn.1, own_hit, own_nar8]
theorem own_v21 {c p : Int32} {g : Int32 → Int32} (hp : own_P p) : own_w2 c p g (p + (1 : Int32)) = (((128 : Int32) ||| (c &&& (63 : Int32))).toInt8.toInt32) := by
  have hn : True := by
    rcases hp with rfl | rfl | rfl | rfl <;> decide
  unfold own_w2
  rw [own_hit, own_nar8]
def own_w3 (c p : Int32) (g : Int32 → Int32) : Int32 → Int32 := (own_set (own_set (own_set g p (nar .byte (((224 : Int32) ||| (c >>> ((12 : Int32) &&& 31))).toInt8.toInt32))) (p + (1 : Int32)) (nar .byte (((128 : Int32) ||| ((c >>> ((6 : Int32) &&& 31)) &&& (63 : Int32))).toInt8.toInt32))) ((p + (1 : Int32)) + (1 : Int32)) (nar .byte (((128 : Int32) ||| (c &&& (63 : Int32))).toInt8.toInt32)))
theorem own_k3 {c p i f : Int32} (hp : own_P p) (h : i < p ∨ ¬ i < (((p + (1 : Int32)) + (1 : Int32)) + (1 : Int32))) : own_w3 c p (fun _ => f) i = f := by
  have hn : ¬ i = ((p + (1 : Int32)) + (1 : Int32)) ∧ ¬ i = (p + (1 : Int32)) ∧ ¬ i = p ∧ True := by
    rcases hp with rfl | rfl | rfl | rfl <;> (refine ⟨?_, ?_, ?_, trivial⟩ <;> (intro u; rw [u] at h; revert h; decide))
  unfold own_w3
  rw [own_miss hn.1, own_miss hn.2.1, own_miss hn.2.2.1]
theorem own_v30 {c p : Int32} {g : Int32 → Int32} (hp : own_P p) : own_w3 c p g p = (((224 : Int32) ||| (c >>> ((12 : Int32) &&& 31))).toInt8.toInt32) := by
  have hn : ¬ p = ((p + (1 : Int32)) + (1 : Int32)) ∧ ¬ p = (p + (1 : Int32)) ∧ True := by
    rcases hp with rfl | rfl | rfl | rfl <;> decide
  unfold own_w3
  rw [own_miss hn.1, own_miss hn.2.1, own_hit, own_nar8]
theorem own_v31 {c p : Int32} {g : Int32 → Int32} (hp : own_P p) : own_w3 c p g (p + (1 : Int32)) = (((128 : Int32) ||| ((c >>> ((6 : Int32) &&& 31)) &&& (63 : Int32))).toInt8.toInt32) := by
  have hn : ¬ (p + (1 : Int32)) = ((p + (1 : Int32)) + (1 : Int32)) ∧ True := by
    rcases hp with rfl | rfl | rfl | rfl <;> decide
  unfold own_w3
  rw [own_miss hn.1, own_hit, own_nar8]
theorem own_v32 {c p : Int32} {g : Int32 → Int32} (hp : own_P p) : own_w3 c p g (p + (2 : Int32)) = (((128 : Int32) ||| (c &&& (63 : Int32))).toInt8.toInt32) := by
  rw [← own_s2]
  have hn : True := by
    rcases hp with rfl | rfl | rfl | rfl <;> decide
  unfold own_w3
  rw [own_hit, own_nar8]
def own_w4 (c p : Int32) (g : Int32 → Int32) : Int32 → Int32 := (own_set (own_set (own_set (own_set g p (nar .byte (((240 : Int32) ||| (c >>> ((18 : Int32) &&& 31))).toInt8.toInt32))) (p + (1 : Int32)) (nar .byte (((128 : Int32) ||| ((c >>> ((12 : Int32) &&& 31)) &&& (63 : Int32))).toInt8.toInt32))) ((p + (1 : Int32)) + (1 : Int32)) (nar .byte (((128 : Int32) ||| ((c >>> ((6 : Int32) &&& 31)) &&& (63 : Int32))).toInt8.toInt32))) (((p + (1 : Int32)) + (1 : Int32)) + (1 : Int32)) (nar .byte (((128 : Int32) ||| (c &&& (63 : Int32))).toInt8.toInt32)))
theorem own_k4 {c p i f : Int32} (hp : own_P p) (h : i < p ∨ ¬ i < ((((p + (1 : Int32)) + (1 : Int32)) + (1 : Int32)) + (1 : Int32))) : own_w4 c p (fun _ => f) i = f := by
  have hn : ¬ i = (((p + (1 : Int32)) + (1 : Int32)) + (1 : Int32)) ∧ ¬ i = ((p + (1 : Int32)) + (1 : Int32)) ∧ ¬ i = (p + (1 : Int32)) ∧ ¬ i = p ∧ True := by
    rcases hp with rfl | rfl | rfl | rfl <;> (refine ⟨?_, ?_, ?_, ?_, trivial⟩ <;> (intro u; rw [u] at h; revert h; decide))
  unfold own_w4
  rw [own_miss hn.1, own_miss hn.2.1, own_miss hn.2.2.1, own_miss hn.2.2.2.1]
theorem own_v40 {c p : Int32} {g : Int32 → Int32} (hp : own_P p) : own_w4 c p g p = (((240 : Int32) ||| (c >>> ((18 : Int32) &&& 31))).toInt8.toInt32) := by
  have hn : ¬ p = (((p + (1 : Int32)) + (1 : Int32)) + (1 : Int32)) ∧ ¬ p = ((p + (1 : Int32)) + (1 : Int32)) ∧ ¬ p = (p + (1 : Int32)) ∧ True := by
    rcases hp with rfl | rfl | rfl | rfl <;> decide
  unfold own_w4
  rw [own_miss hn.1, own_miss hn.2.1, own_miss hn.2.2.1, own_hit, own_nar8]
theorem own_v41 {c p : Int32} {g : Int32 → Int32} (hp : own_P p) : own_w4 c p g (p + (1 : Int32)) = (((128 : Int32) ||| ((c >>> ((12 : Int32) &&& 31)) &&& (63 : Int32))).toInt8.toInt32) := by
  have hn : ¬ (p + (1 : Int32)) = (((p + (1 : Int32)) + (1 : Int32)) + (1 : Int32)) ∧ ¬ (p + (1 : Int32)) = ((p + (1 : Int32)) + (1 : Int32)) ∧ True := by
    rcases hp with rfl | rfl | rfl | rfl <;> decide
  unfold own_w4
  rw [own_miss hn.1, own_miss hn.2.1, own_hit, own_nar8]
theorem own_v42 {c p : Int32} {g : Int32 → Int32} (hp : own_P p) : own_w4 c p g (p + (2 : Int32)) = (((128 : Int32) ||| ((c >>> ((6 : Int32) &&& 31)) &&& (63 : Int32))).toInt8.toInt32) := by
  rw [← own_s2]
  have hn : ¬ ((p + (1 : Int32)) + (1 : Int32)) = (((p + (1 : Int32)) + (1 : Int32)) + (1 : Int32)) ∧ True := by
    rcases hp with rfl | rfl | rfl | rfl <;> decide
  unfold own_w4
  rw [own_miss hn.1, own_hit, own_nar8]
theorem own_v43 {c p : Int32} {g : Int32 → Int32} (hp : own_P p) : own_w4 c p g (p + (3 : Int32)) = (((128 : Int32) ||| (c &&& (63 : Int32))).toInt8.toInt32) := by
  rw [← own_s3]
  have hn : True := by
    rcases hp with rfl | rfl | rfl | rfl <;> decide
  unfold own_w4
  rw [own_hit, own_nar8]
theorem own_lt {c k : Int32} (h : c < k) : c.toInt < k.toInt := Int32.lt_iff_toInt_lt.mp h
theorem own_ge {c k : Int32} (h : ¬ c < k) : k.toInt ≤ c.toInt := by rw [Int32.lt_iff_toInt_lt] at h; omega
theorem own_lt_trans {a b c : Int32} (h : a < b) (q : b < c) : a < c := by rw [Int32.lt_iff_toInt_lt] at *; omega
theorem own_not_lt {a b c : Int32} (q : a < b) (h : ¬ c < b) : ¬ c < a := by rw [Int32.lt_iff_toInt_lt] at *; omega
theorem own_lt_of {a b c : Int32} (q : a < b) (h : ¬ c < b) : a < c := by rw [Int32.lt_iff_toInt_lt] at *; omega
theorem own_top {c : Int32} (h : 0 ≤ c.toInt ∧ c.toInt < 1114112) : ¬ (1114111 : Int32) < c := by rw [Int32.lt_iff_toInt_lt, show (1114111 : Int32).toInt = 1114111 by decide]; omega
theorem own_8 {j : Int32} (q1 : ¬ j < 0) (q2 : j < 8) : j = 0 ∨ j = 1 ∨ j = 2 ∨ j = 3 ∨ j = 4 ∨ j = 5 ∨ j = 6 ∨ j = 7 := by
  rw [Int32.lt_iff_toInt_lt] at q1 q2
  simp only [← Int32.toInt_inj]
  rw [show (0 : Int32).toInt = 0 by decide] at *
  rw [show (8 : Int32).toInt = 8 by decide] at q2
  rw [show (1 : Int32).toInt = 1 by decide, show (2 : Int32).toInt = 2 by decide, show (3 : Int32).toInt = 3 by decide, show (4 : Int32).toInt = 4 by decide, show (5 : Int32).toInt = 5 by decide, show (6 : Int32).toInt = 6 by decide, show (7 : Int32).toInt = 7 by decide]
  omega
theorem own_fill (x : Int32) : ∀ j : Int32, ¬ j < 0 → j < 8 → (own_set (own_set (own_set (own_set (own_set (own_set (own_set (own_set (fun _ => (0 : Int32)) (0 : Int32) (nar .byte (own_f x))) (1 : Int32) (nar .byte (own_f x))) (2 : Int32) (nar .byte (own_f x))) (3 : Int32) (nar .byte (own_f x))) (4 : Int32) (nar .byte (own_f x))) (5 : Int32) (nar .byte (own_f x))) (6 : Int32) (nar .byte (own_f x))) (7 : Int32) (nar .byte (own_f x))) j = (fun _ => own_f x) j := by
  intro j q1 q2
  show _ = own_f x
  rw [show nar .byte (own_f x) = own_f x from own_nar8 x]
  rcases own_8 q1 q2 with rfl | rfl | rfl | rfl | rfl | rfl | rfl | rfl <;> rfl
theorem own_dd2 {c p f : Int32} (hp : own_P p) (h0 : 0 ≤ c.toInt) (h : c.toInt < 2048) : ((((own_w2 c p (fun _ => f) p) &&& (31 : Int32)) <<< ((6 : Int32) &&& 31)) ||| ((own_w2 c p (fun _ => f) (p + (1 : Int32))) &&& (63 : Int32))) = c := by
  rw [own_v20 hp, own_v21 hp]
  exact own_dec2 c h0 h
theorem own_ff21 {c p f : Int32} (hp : own_P p) : ((own_w2 c p (fun _ => f) (p + (1 : Int32))) &&& (192 : Int32)) = (128 : Int32) := by
  rw [own_v21 hp]
  exact own_fol _
theorem own_dd3 {c p f : Int32} (hp : own_P p) (h0 : 0 ≤ c.toInt) (h : c.toInt < 65536) : (((((own_w3 c p (fun _ => f) p) &&& (15 : Int32)) <<< ((12 : Int32) &&& 31)) ||| (((own_w3 c p (fun _ => f) (p + (1 : Int32))) &&& (63 : Int32)) <<< ((6 : Int32) &&& 31))) ||| ((own_w3 c p (fun _ => f) (p + (2 : Int32))) &&& (63 : Int32))) = c := by
  rw [own_v30 hp, own_v31 hp, own_v32 hp]
  exact own_dec3 c h0 h
theorem own_ff31 {c p f : Int32} (hp : own_P p) : ((own_w3 c p (fun _ => f) (p + (1 : Int32))) &&& (192 : Int32)) = (128 : Int32) := by
  rw [own_v31 hp]
  exact own_fol _
theorem own_ff32 {c p f : Int32} (hp : own_P p) : ((own_w3 c p (fun _ => f) (p + (2 : Int32))) &&& (192 : Int32)) = (128 : Int32) := by
  rw [own_v32 hp]
  exact own_fol _
theorem own_dd4 {c p f : Int32} (hp : own_P p) (h0 : 0 ≤ c.toInt) (h : c.toInt < 1114112) : ((((((own_w4 c p (fun _ => f) p) &&& (7 : Int32)) <<< ((18 : Int32) &&& 31)) ||| (((own_w4 c p (fun _ => f) (p + (1 : Int32))) &&& (63 : Int32)) <<< ((12 : Int32) &&& 31))) ||| (((own_w4 c p (fun _ => f) (p + (2 : Int32))) &&& (63 : Int32)) <<< ((6 : Int32) &&& 31))) ||| ((own_w4 c p (fun _ => f) (p + (3 : Int32))) &&& (63 : Int32))) = c := by
  rw [own_v40 hp, own_v41 hp, own_v42 hp, own_v43 hp]
  exact own_dec4 c h0 h
theorem own_ff41 {c p f : Int32} (hp : own_P p) : ((own_w4 c p (fun _ => f) (p + (1 : Int32))) &&& (192 : Int32)) = (128 : Int32) := by
  rw [own_v41 hp]
  exact own_fol _
theorem own_ff42 {c p f : Int32} (hp : own_P p) : ((own_w4 c p (fun _ => f) (p + (2 : Int32))) &&& (192 : Int32)) = (128 : Int32) := by
  rw [own_v42 hp]
  exact own_fol _
theorem own_ff43 {c p f : Int32} (hp : own_P p) : ((own_w4 c p (fun _ => f) (p + (3 : Int32))) &&& (192 : Int32)) = (128 : Int32) := by
  rw [own_v43 hp]
  exact own_fol _
theorem d_w1_0 : decode prog_37_method_6_code 0 = .ok (.iload_n 2, 1) := by decide +kernel
theorem d_w1_1 : decode prog_37_method_6_code 1 = .ok (.istore_n 3, 1) := by decide +kernel
theorem d_w1_2 : decode prog_37_method_6_code 2 = .ok (.iload_n 0, 1) := by decide +kernel
theorem d_w1_3 : decode prog_37_method_6_code 3 = .ok (.sipush 128, 3) := by decide +kernel
theorem d_w1_6 : decode prog_37_method_6_code 6 = .ok (.if_icmp .ge 14, 3) := by decide +kernel
theorem d_w1_9 : decode prog_37_method_6_code 9 = .ok (.aload_n 1, 1) := by decide +kernel
theorem d_w1_10 : decode prog_37_method_6_code 10 = .ok (.iload_n 3, 1) := by decide +kernel
theorem d_w1_11 : decode prog_37_method_6_code 11 = .ok (.iinc 3 1, 3) := by decide +kernel
theorem d_w1_14 : decode prog_37_method_6_code 14 = .ok (.iload_n 0, 1) := by decide +kernel
theorem d_w1_15 : decode prog_37_method_6_code 15 = .ok (.i2b, 1) := by decide +kernel
theorem d_w1_16 : decode prog_37_method_6_code 16 = .ok (.bastore, 1) := by decide +kernel
theorem d_w1_17 : decode prog_37_method_6_code 17 = .ok (.goto 166, 3) := by decide +kernel
theorem d_w1_183 : decode prog_37_method_6_code 183 = .ok (.iload_n 3, 1) := by decide +kernel
theorem d_w1_184 : decode prog_37_method_6_code 184 = .ok (.ireturn, 1) := by decide +kernel
theorem pn_w1 : plainName "com/example/nuthatch/nuthatch/Utf8" = true := by first | (simp [plainName, overriddenIn]; done) | decide +kernel
theorem ef_w1 (m : MethodId) (p1 : Int32) (a2 : Addr) (p3 : Int32) : entryFrame m #[(.int p1), (.ref a2), (.int p3)] 4 = mkF m 0 #[.val (.int p1), .val (.ref a2), .val (.int p3), .unset] [] := by first | (simp [entryFrame, mkF, argsToLocals, Value.category]; done) | rfl
def Q_w1 (Z : State) (p1 : Int32) (a2 : Addr) (p3 : Int32) (g : Int32 → Int32) (h0 : Heap) (n0 : Nat) (v : Option Value) (h : Heap) (L : List Loc) : Prop := v = some (.int (p3 + (1 : Int32))) ∧ Fr n0 L ∧ own_B Z h a2 (own_w1 p1 p3 g) ∧ h0.size ≤ h.size
set_option maxRecDepth 65536 in
set_option maxHeartbeats 40000000 in
theorem rm_w1 (l : Launch) (Z : State) (a0 : Array Value) (hw : ∀ d ∈ tables_1, d.before a0 Z = true) (ws : List Jvm.Cond) (p1 : Int32) (a2 : Addr) (p3 : Int32) (g : Int32 → Int32) (h0 : Heap) (n0 : Nat) (Z0 : n0 ≤ h0.size) (V : own_B Z h0 a2 g) (hp : own_P p3) (ga : n0 ≤ a2) (r1 : p1 < (128 : Int32)) :
    MetFree l (⟨"com/example/nuthatch/nuthatch/Utf8", "write", "(I[BI)I"⟩ : MethodName) (head1 (Jvm.Cond.code (⟨"com/example/nuthatch/nuthatch/Utf8", "write", "(I[BI)I"⟩ : MethodName) prog_37_method_6_code 4 (some .int) :: ws) ({ frames := 0, cells := 0, slots := 0, locals := 0 } : Room)) (fun a U => a = #[(.int p1), (.ref a2), (.int p3)] ∧ Z.Warmed39 U.vm ∧ U.heap = h0) (fun _ _ _ _ _ => True) (fun _ U o U' => ∃ v L, o = .returned v ∧ Q_w1 Z p1 a2 p3 g h0 n0 v U'.heap L ∧ FrameEnd U o U' L ({ frames := 0, cells := 0, slots := 0, locals := 0 } : Room).cells ({ frames := 0, cells := 0, slots := 0, locals := 0 } : Room).slots) := by
  refine MetFree.of_bodySF (plainFor_of_name pn_w1) hisR ?_
  intro p e s m args below meth c s₁ Bd hml0 hP hK
  obtain ⟨rfl, hZ, hh⟩ := hP
  have hx := Bd.exec
  have hby := Bd.bytes
  have hml : c.maxLocals = 4 := hml0
  have hown : s.vm.findClass "com/example/nuthatch/nuthatch/Utf8" = some m.cls := findClass_of_methodNamed Bd.named
  have hnm := (name_of_methodNamed Bd.named Bd.method).1
  have X0 : Stand p l e ({ frames := 0, cells := 0, slots := 0, locals := 0 } : Room) s m #[(.int p1), (.ref a2), (.int p3)] below meth c s₁ [] 0 0 := Stand.of_body Bd
  have e0 : s₁.heap = h0 := by rw [← hh, Bd.state]; rfl
  have N0 := Fr.nil n0
  have pre0 : ∀ t, Steps p.tables e below (s₁.setTop (mkF m 0 #[.val (.int p1), .val (.ref a2), .val (.int p3), .unset] [])) t → Steps p.tables e below (s₁.setTop (entryFrame m #[(.int p1), (.ref a2), (.int p3)] 4)) t := fun t k => castTop (ef_w1 m p1 a2 p3) k
  have pr2 : ∀ t, Steps p.tables e below (s₁.setTop (mkF m 16 #[.val (.int p1), .val (.ref a2), .val (.int p3), .val (.int (p3 + (1 : Int32)))] [(.int (p1.toInt8.toInt32)), (.int p3), (.ref a2)])) t → Steps p.tables e below (s₁.setTop (entryFrame m #[(.int p1), (.ref a2), (.int p3)] 4)) t := fun t kt => pre0 t (by
    show Steps p.tables e below (s₁.setTop (mkF m 0 #[.val (.int p1), .val (.ref a2), .val (.int p3), .unset] [])) _
    refine XS.iloadN X0.here hx rfl (hb hby d_w1_0) rfl ?_
    show Steps p.tables e below (s₁.setTop (mkF m 1 #[.val (.int p1), .val (.ref a2), .val (.int p3), .unset] [(.int p3)])) _
    refine XS.istoreN X0.here hx rfl (hb hby d_w1_1) rfl (l' := #[.val (.int p1), .val (.ref a2), .val (.int p3), .val (.int p3)]) rfl ?_
    show Steps p.tables e below (s₁.setTop (mkF m 2 #[.val (.int p1), .val (.ref a2), .val (.int p3), .val (.int p3)] [])) _
    refine XS.iloadN X0.here hx rfl (hb hby d_w1_2) rfl ?_
    show Steps p.tables e below (s₁.setTop (mkF m 3 #[.val (.int p1), .val (.ref a2), .val (.int p3), .val (.int p3)] [(.int p1)])) _
    refine XS.sipush X0.here hx rfl (hb hby d_w1_3) ?_
    show Steps p.tables e below (s₁.setTop (mkF m 6 #[.val (.int p1), .val (.ref a2), .val (.int p3), .val (.int p3)] [(.int (128 : Int32)), (.int p1)])) _
    refine XS.icmpNo X0.here hx rfl (hb hby d_w1_6) rfl (tlt (r1 : p1 < (128 : Int32))).2.1 ?_
    show Steps p.tables e below (s₁.setTop (mkF m 9 #[.val (.int p1), .val (.ref a2), .val (.int p3), .val (.int p3)] [])) _
    refine XS.aloadN X0.here hx rfl (hb hby d_w1_9) rfl rfl ?_
    show Steps p.tables e below (s₁.setTop (mkF m 10 #[.val (.int p1), .val (.ref a2), .val (.int p3), .val (.int p3)] [(.ref a2)])) _
    refine XS.iloadN X0.here hx rfl (hb hby d_w1_10) rfl ?_
    show Steps p.tables e below (s₁.setTop (mkF m 11 #[.val (.int p1), .val (.ref a2), .val (.int p3), .val (.int p3)] [(.int p3), (.ref a2)])) _
    refine XS.iinc X0.here hx rfl (hb hby d_w1_11) rfl (l' := #[.val (.int p1), .val (.ref a2), .val (.int p3), .val (.int (p3 + (1 : Int32)))]) rfl ?_
    show Steps p.tables e below (s₁.setTop (mkF m 14 #[.val (.int p1), .val (.ref a2), .val (.int p3), .val (.int (p3 + (1 : Int32)))] [(.int p3), (.ref a2)])) _
    refine XS.iloadN X0.here hx rfl (hb hby d_w1_14) rfl ?_
    show Steps p.tables e below (s₁.setTop (mkF m 15 #[.val (.int p1), .val (.ref a2), .val (.int p3), .val (.int (p3 + (1 : Int32)))] [(.int p1), (.int p3), (.ref a2)])) _
    refine XS.i2b X0.here hx rfl (hb hby d_w1_15) rfl ?_
    show Steps p.tables e below (s₁.setTop (mkF m 16 #[.val (.int p1), .val (.ref a2), .val (.int p3), .val (.int (p3 + (1 : Int32)))] [(.int (p1.toInt8.toInt32)), (.int p3), (.ref a2)])) _
    exact kt)
  obtain ⟨T1, h1, X1, e1, V1, s1, st1⟩ := own_stB X0 hx hZ e0 V (j := p3) (own_ix0 hp) (f := (mkF m 16 #[.val (.int p1), .val (.ref a2), .val (.int p3), .val (.int (p3 + (1 : Int32)))] [(.int (p1.toInt8.toInt32)), (.int p3), (.ref a2)])) rfl rfl (hb hby d_w1_16)
  have N1 := Fr.snoc X1 N0 ga
  have Z1 : n0 ≤ h1.size := Nat.le_trans Z0 s1
  obtain ⟨fs, hr, hrun, hended, hW, hsame⟩ := X1.leave (v := some (.int (p3 + (1 : Int32)))) (fun h => by rw [Bd.returns] at h; cases h)
  refine ⟨_, _, pr2 _ ?_, hrun, hended, _, _, rfl, ?_, ⟨_, rfl⟩, hW, hsame.mono (by decide) (by decide)⟩
  · refine st1 _ ?_
    show Steps p.tables e below (T1.setTop (mkF m 17 #[.val (.int p1), .val (.ref a2), .val (.int p3), .val (.int (p3 + (1 : Int32)))] [])) _
    refine XS.goto X1.here hx rfl (pc0 := 17) (pc' := 183) rfl (hb hby d_w1_17) (by decide) (by decide) ?_
    show Steps p.tables e below (T1.setTop (mkF m 183 #[.val (.int p1), .val (.ref a2), .val (.int p3), .val (.int (p3 + (1 : Int32)))] [])) _
    refine XS.iloadN X1.here hx rfl (hb hby d_w1_183) rfl ?_
    show Steps p.tables e below (T1.setTop (mkF m 184 #[.val (.int p1), .val (.ref a2), .val (.int p3), .val (.int (p3 + (1 : Int32)))] [(.int (p3 + (1 : Int32)))])) _
    exact retI X1 hx Bd.returns (hb hby d_w1_184) hr
  · show Q_w1 Z p1 a2 p3 g h0 n0 _ T1.heap _
    rw [e1]
    exact ⟨rfl, N1, V1, s1⟩
theorem d_w2_0 : decode prog_37_method_6_code 0 = .ok (.iload_n 2, 1) := by decide +kernel
theorem d_w2_1 : decode prog_37_method_6_code 1 = .ok (.istore_n 3, 1) := by decide +kernel
theorem d_w2_2 : decode prog_37_method_6_code 2 = .ok (.iload_n 0, 1) := by decide +kernel
theorem d_w2_3 : decode prog_37_method_6_code 3 = .ok (.sipush 128, 3) := by decide +kernel
theorem d_w2_6 : decode prog_37_method_6_code 6 = .ok (.if_icmp .ge 14, 3) := by decide +kernel
theorem d_w2_20 : decode prog_37_method_6_code 20 = .ok (.iload_n 0, 1) := by decide +kernel
theorem d_w2_21 : decode prog_37_method_6_code 21 = .ok (.sipush 2048, 3) := by decide +kernel
theorem d_w2_24 : decode prog_37_method_6_code 24 = .ok (.if_icmp .ge 36, 3) := by decide +kernel
theorem d_w2_27 : decode prog_37_method_6_code 27 = .ok (.aload_n 1, 1) := by decide +kernel
theorem d_w2_28 : decode prog_37_method_6_code 28 = .ok (.iload_n 3, 1) := by decide +kernel
theorem d_w2_29 : decode prog_37_method_6_code 29 = .ok (.iinc 3 1, 3) := by decide +kernel
theorem d_w2_32 : decode prog_37_method_6_code 32 = .ok (.sipush 192, 3) := by decide +kernel
theorem d_w2_35 : decode prog_37_method_6_code 35 = .ok (.iload_n 0, 1) := by decide +kernel
theorem d_w2_36 : decode prog_37_method_6_code 36 = .ok (.bipush 6, 2) := by decide +kernel
theorem d_w2_38 : decode prog_37_method_6_code 38 = .ok (.ishr, 1) := by decide +kernel
theorem d_w2_39 : decode prog_37_method_6_code 39 = .ok (.ior, 1) := by decide +kernel
theorem d_w2_40 : decode prog_37_method_6_code 40 = .ok (.i2b, 1) := by decide +kernel
theorem d_w2_41 : decode prog_37_method_6_code 41 = .ok (.bastore, 1) := by decide +kernel
theorem d_w2_42 : decode prog_37_method_6_code 42 = .ok (.aload_n 1, 1) := by decide +kernel
theorem d_w2_43 : decode prog_37_method_6_code 43 = .ok (.iload_n 3, 1) := by decide +kernel
theorem d_w2_44 : decode prog_37_method_6_code 44 = .ok (.iinc 3 1, 3) := by decide +kernel
theorem d_w2_47 : decode prog_37_method_6_code 47 = .ok (.sipush 128, 3) := by decide +kernel
theorem d_w2_50 : decode prog_37_method_6_code 50 = .ok (.iload_n 0, 1) := by decide +kernel
theorem d_w2_51 : decode prog_37_method_6_code 51 = .ok (.bipush 63, 2) := by decide +kernel
theorem d_w2_53 : decode prog_37_method_6_code 53 = .ok (.iand, 1) := by decide +kernel
theorem d_w2_54 : decode prog_37_method_6_code 54 = .ok (.ior, 1) := by decide +kernel
theorem d_w2_55 : decode prog_37_method_6_code 55 = .ok (.i2b, 1) := by decide +kernel
theorem d_w2_56 : decode prog_37_method_6_code 56 = .ok (.bastore, 1) := by decide +kernel
theorem d_w2_57 : decode prog_37_method_6_code 57 = .ok (.goto 126, 3) := by decide +kernel
theorem d_w2_183 : decode prog_37_method_6_code 183 = .ok (.iload_n 3, 1) := by decide +kernel
theorem d_w2_184 : decode prog_37_method_6_code 184 = .ok (.ireturn, 1) := by decide +kernel
theorem pn_w2 : plainName "com/example/nuthatch/nuthatch/Utf8" = true := by first | (simp [plainName, overriddenIn]; done) | decide +kernel
theorem ef_w2 (m : MethodId) (p1 : Int32) (a2 : Addr) (p3 : Int32) : entryFrame m #[(.int p1), (.ref a2), (.int p3)] 4 = mkF m 0 #[.val (.int p1), .val (.ref a2), .val (.int p3), .unset] [] := by first | (simp [entryFrame, mkF, argsToLocals, Value.category]; done) | rfl
def Q_w2 (Z : State) (p1 : Int32) (a2 : Addr) (p3 : Int32) (g : Int32 → Int32) (h0 : Heap) (n0 : Nat) (v : Option Value) (h : Heap) (L : List Loc) : Prop := v = some (.int ((p3 + (1 : Int32)) + (1 : Int32))) ∧ Fr n0 L ∧ own_B Z h a2 (own_w2 p1 p3 g) ∧ h0.size ≤ h.size
set_option maxRecDepth 65536 in
set_option maxHeartbeats 40000000 in
theorem rm_w2 (l : Launch) (Z : State) (a0 : Array Value) (hw : ∀ d ∈ tables_1, d.before a0 Z = true) (ws : List Jvm.Cond) (p1 : Int32) (a2 : Addr) (p3 : Int32) (g : Int32 → Int32) (h0 : Heap) (n0 : Nat) (Z0 : n0 ≤ h0.size) (V : own_B Z h0 a2 g) (hp : own_P p3) (ga : n0 ≤ a2) (r1 : ¬ p1 < (128 : Int32)) (r2 : p1 < (2048 : Int32)) :
    MetFree l (⟨"com/example/nuthatch/nuthatch/Utf8", "write", "(I[BI)I"⟩ : MethodName) (head1 (Jvm.Cond.code (⟨"com/example/nuthatch/nuthatch/Utf8", "write", "(I[BI)I"⟩ : MethodName) prog_37_method_6_code 4 (some .int) :: ws) ({ frames := 0, cells := 0, slots := 0, locals := 0 } : Room)) (fun a U => a = #[(.int p1), (.ref a2), (.int p3)] ∧ Z.Warmed39 U.vm ∧ U.heap = h0) (fun _ _ _ _ _ => True) (fun _ U o U' => ∃ v L, o = .returned v ∧ Q_w2 Z p1 a2 p3 g h0 n0 v U'.heap L ∧ FrameEnd U o U' L ({ frames := 0, cells := 0, slots := 0, locals := 0 } : Room).cells ({ frames := 0, cells := 0, slots := 0, locals := 0 } : Room).slots) := by
  refine MetFree.of_bodySF (plainFor_of_name pn_w2) hisR ?_
  intro p e s m args below meth c s₁ Bd hml0 hP hK
  obtain ⟨rfl, hZ, hh⟩ := hP
  have hx := Bd.exec
  have hby := Bd.bytes
  have hml : c.maxLocals = 4 := hml0
  have hown : s.vm.findClass "com/example/nuthatch/nuthatch/Utf8" = some m.cls := findClass_of_methodNamed Bd.named
  have hnm := (name_of_methodNamed Bd.named Bd.method).1
  have X0 : Stand p l e ({ frames := 0, cells := 0, slots := 0, locals := 0 } : Room) s m #[(.int p1), (.ref a2), (.int p3)] below meth c s₁ [] 0 0 := Stand.of_body Bd
  have e0 : s₁.heap = h0 := by rw [← hh, Bd.state]; rfl
  have N0 := Fr.nil n0
  have pre0 : ∀ t, Steps p.tables e below (s₁.setTop (mkF m 0 #[.val (.int p1), .val (.ref a2), .val (.int p3), .unset] [])) t → Steps p.tables e below (s₁.setTop (entryFrame m #[(.int p1), (.ref a2), (.int p3)] 4)) t := fun t k => castTop (ef_w2 m p1 a2 p3) k
  have pr2 : ∀ t, Steps p.tables e below (s₁.setTop (mkF m 41 #[.val (.int p1), .val (.ref a2), .val (.int p3), .val (.int (p3 + (1 : Int32)))] [(.int (((192 : Int32) ||| (p1 >>> ((6 : Int32) &&& 31))).toInt8.toInt32)), (.int p3), (.ref a2)])) t → Steps p.tables e below (s₁.setTop (entryFrame m #[(.int p1), (.ref a2), (.int p3)] 4)) t := fun t kt => pre0 t (by
    show Steps p.tables e below (s₁.setTop (mkF m 0 #[.val (.int p1), .val (.ref a2), .val (.int p3), .unset] [])) _
    refine XS.iloadN X0.here hx rfl (hb hby d_w2_0) rfl ?_
    show Steps p.tables e below (s₁.setTop (mkF m 1 #[.val (.int p1), .val (.ref a2), .val (.int p3), .unset] [(.int p3)])) _
    refine XS.istoreN X0.here hx rfl (hb hby d_w2_1) rfl (l' := #[.val (.int p1), .val (.ref a2), .val (.int p3), .val (.int p3)]) rfl ?_
    show Steps p.tables e below (s₁.setTop (mkF m 2 #[.val (.int p1), .val (.ref a2), .val (.int p3), .val (.int p3)] [])) _
    refine XS.iloadN X0.here hx rfl (hb hby d_w2_2) rfl ?_
    show Steps p.tables e below (s₁.setTop (mkF m 3 #[.val (.int p1), .val (.ref a2), .val (.int p3), .val (.int p3)] [(.int p1)])) _
    refine XS.sipush X0.here hx rfl (hb hby d_w2_3) ?_
    show Steps p.tables e below (s₁.setTop (mkF m 6 #[.val (.int p1), .val (.ref a2), .val (.int p3), .val (.int p3)] [(.int (128 : Int32)), (.int p1)])) _
    refine XS.icmpYes X0.here hx rfl (pc0 := 6) (pc' := 20) rfl (hb hby d_w2_6) rfl (flt (r1 : ¬ (p1 < (128 : Int32)))).2.1 (by decide) (by decide) ?_
    show Steps p.tables e below (s₁.setTop (mkF m 20 #[.val (.int p1), .val (.ref a2), .val (.int p3), .val (.int p3)] [])) _
    refine XS.iloadN X0.here hx rfl (hb hby d_w2_20) rfl ?_
    show Steps p.tables e below (s₁.setTop (mkF m 21 #[.val (.int p1), .val (.ref a2), .val (.int p3), .val (.int p3)] [(.int p1)])) _
    refine XS.sipush X0.here hx rfl (hb hby d_w2_21) ?_
    show Steps p.tables e below (s₁.setTop (mkF m 24 #[.val (.int p1), .val (.ref a2), .val (.int p3), .val (.int p3)] [(.int (2048 : Int32)), (.int p1)])) _
    refine XS.icmpNo X0.here hx rfl (hb hby d_w2_24) rfl (tlt (r2 : p1 < (2048 : Int32))).2.1 ?_
    show Steps p.tables e below (s₁.setTop (mkF m 27 #[.val (.int p1), .val (.ref a2), .val (.int p3), .val (.int p3)] [])) _
    refine XS.aloadN X0.here hx rfl (hb hby d_w2_27) rfl rfl ?_
    show Steps p.tables e below (s₁.setTop (mkF m 28 #[.val (.int p1), .val (.ref a2), .val (.int p3), .val (.int p3)] [(.ref a2)])) _
    refine XS.iloadN X0.here hx rfl (hb hby d_w2_28) rfl ?_
    show Steps p.tables e below (s₁.setTop (mkF m 29 #[.val (.int p1), .val (.ref a2), .val (.int p3), .val (.int p3)] [(.int p3), (.ref a2)])) _
    refine XS.iinc X0.here hx rfl (hb hby d_w2_29) rfl (l' := #[.val (.int p1), .val (.ref a2), .val (.int p3), .val (.int (p3 + (1 : Int32)))]) rfl ?_
    show Steps p.tables e below (s₁.setTop (mkF m 32 #[.val (.int p1), .val (.ref a2), .val (.int p3), .val (.int (p3 + (1 : Int32)))] [(.int p3), (.ref a2)])) _
    refine XS.sipush X0.here hx rfl (hb hby d_w2_32) ?_
    show Steps p.tables e below (s₁.setTop (mkF m 35 #[.val (.int p1), .val (.ref a2), .val (.int p3), .val (.int (p3 + (1 : Int32)))] [(.int (192 : Int32)), (.int p3), (.ref a2)])) _
    refine XS.iloadN X0.here hx rfl (hb hby d_w2_35) rfl ?_
    show Steps p.tables e below (s₁.setTop (mkF m 36 #[.val (.int p1), .val (.ref a2), .val (.int p3), .val (.int (p3 + (1 : Int32)))] [(.int p1), (.int (192 : Int32)), (.int p3), (.ref a2)])) _
    refine XS.bipush X0.here hx rfl (hb hby d_w2_36) ?_
    show Steps p.tables e below (s₁.setTop (mkF m 38 #[.val (.int p1), .val (.ref a2), .val (.int p3), .val (.int (p3 + (1 : Int32)))] [(.int (6 : Int32)), (.int p1), (.int (192 : Int32)), (.int p3), (.ref a2)])) _
    refine XS.ishr X0.here hx rfl (hb hby d_w2_38) rfl ?_
    show Steps p.tables e below (s₁.setTop (mkF m 39 #[.val (.int p1), .val (.ref a2), .val (.int p3), .val (.int (p3 + (1 : Int32)))] [(.int (p1 >>> ((6 : Int32) &&& 31))), (.int (192 : Int32)), (.int p3), (.ref a2)])) _
    refine XS.ior X0.here hx rfl (hb hby d_w2_39) rfl ?_
    show Steps p.tables e below (s₁.setTop (mkF m 40 #[.val (.int p1), .val (.ref a2), .val (.int p3), .val (.int (p3 + (1 : Int32)))] [(.int ((192 : Int32) ||| (p1 >>> ((6 : Int32) &&& 31)))), (.int p3), (.ref a2)])) _
    refine XS.i2b X0.here hx rfl (hb hby d_w2_40) rfl ?_
    show Steps p.tables e below (s₁.setTop (mkF m 41 #[.val (.int p1), .val (.ref a2), .val (.int p3), .val (.int (p3 + (1 : Int32)))] [(.int (((192 : Int32) ||| (p1 >>> ((6 : Int32) &&& 31))).toInt8.toInt32)), (.int p3), (.ref a2)])) _
    exact kt)
  obtain ⟨T1, h1, X1, e1, V1, s1, st1⟩ := own_stB X0 hx hZ e0 V (j := p3) (own_ix0 hp) (f := (mkF m 41 #[.val (.int p1), .val (.ref a2), .val (.int p3), .val (.int (p3 + (1 : Int32)))] [(.int (((192 : Int32) ||| (p1 >>> ((6 : Int32) &&& 31))).toInt8.toInt32)), (.int p3), (.ref a2)])) rfl rfl (hb hby d_w2_41)
  have N1 := Fr.snoc X1 N0 ga
  have Z1 : n0 ≤ h1.size := Nat.le_trans Z0 s1
  have pr4 : ∀ t, Steps p.tables e below (T1.setTop (mkF m 56 #[.val (.int p1), .val (.ref a2), .val (.int p3), .val (.int ((p3 + (1 : Int32)) + (1 : Int32)))] [(.int (((128 : Int32) ||| (p1 &&& (63 : Int32))).toInt8.toInt32)), (.int (p3 + (1 : Int32))), (.ref a2)])) t → Steps p.tables e below (s₁.setTop (entryFrame m #[(.int p1), (.ref a2), (.int p3)] 4)) t := fun t kt => pr2 t (by
    refine st1 _ ?_
    show Steps p.tables e below (T1.setTop (mkF m 42 #[.val (.int p1), .val (.ref a2), .val (.int p3), .val (.int (p3 + (1 : Int32)))] [])) _
    refine XS.aloadN X1.here hx rfl (hb hby d_w2_42) rfl rfl ?_
    show Steps p.tables e below (T1.setTop (mkF m 43 #[.val (.int p1), .val (.ref a2), .val (.int p3), .val (.int (p3 + (1 : Int32)))] [(.ref a2)])) _
    refine XS.iloadN X1.here hx rfl (hb hby d_w2_43) rfl ?_
    show Steps p.tables e below (T1.setTop (mkF m 44 #[.val (.int p1), .val (.ref a2), .val (.int p3), .val (.int (p3 + (1 : Int32)))] [(.int (p3 + (1 : Int32))), (.ref a2)])) _
    refine XS.iinc X1.here hx rfl (hb hby d_w2_44) rfl (l' := #[.val (.int p1), .val (.ref a2), .val (.int p3), .val (.int ((p3 + (1 : Int32)) + (1 : Int32)))]) rfl ?_
    show Steps p.tables e below (T1.setTop (mkF m 47 #[.val (.int p1), .val (.ref a2), .val (.int p3), .val (.int ((p3 + (1 : Int32)) + (1 : Int32)))] [(.int (p3 + (1 : Int32))), (.ref a2)])) _
    refine XS.sipush X1.here hx rfl (hb hby d_w2_47) ?_
    show Steps p.tables e below (T1.setTop (mkF m 50 #[.val (.int p1), .val (.ref a2), .val (.int p3), .val (.int ((p3 + (1 : Int32)) + (1 : Int32)))] [(.int (128 : Int32)), (.int (p3 + (1 : Int32))), (.ref a2)])) _
    refine XS.iloadN X1.here hx rfl (hb hby d_w2_50) rfl ?_
    show Steps p.tables e below (T1.setTop (mkF m 51 #[.val (.int p1), .val (.ref a2), .val (.int p3), .val (.int ((p3 + (1 : Int32)) + (1 : Int32)))] [(.int p1), (.int (128 : Int32)), (.int (p3 + (1 : Int32))), (.ref a2)])) _
    refine XS.bipush X1.here hx rfl (hb hby d_w2_51) ?_
    show Steps p.tables e below (T1.setTop (mkF m 53 #[.val (.int p1), .val (.ref a2), .val (.int p3), .val (.int ((p3 + (1 : Int32)) + (1 : Int32)))] [(.int (63 : Int32)), (.int p1), (.int (128 : Int32)), (.int (p3 + (1 : Int32))), (.ref a2)])) _
    refine XS.iand X1.here hx rfl (hb hby d_w2_53) rfl ?_
    show Steps p.tables e below (T1.setTop (mkF m 54 #[.val (.int p1), .val (.ref a2), .val (.int p3), .val (.int ((p3 + (1 : Int32)) + (1 : Int32)))] [(.int (p1 &&& (63 : Int32))), (.int (128 : Int32)), (.int (p3 + (1 : Int32))), (.ref a2)])) _
    refine XS.ior X1.here hx rfl (hb hby d_w2_54) rfl ?_
    show Steps p.tables e below (T1.setTop (mkF m 55 #[.val (.int p1), .val (.ref a2), .val (.int p3), .val (.int ((p3 + (1 : Int32)) + (1 : Int32)))] [(.int ((128 : Int32) ||| (p1 &&& (63 : Int32)))), (.int (p3 + (1 : Int32))), (.ref a2)])) _
    refine XS.i2b X1.here hx rfl (hb hby d_w2_55) rfl ?_
    show Steps p.tables e below (T1.setTop (mkF m 56 #[.val (.int p1), .val (.ref a2), .val (.int p3), .val (.int ((p3 + (1 : Int32)) + (1 : Int32)))] [(.int (((128 : Int32) ||| (p1 &&& (63 : Int32))).toInt8.toInt32)), (.int (p3 + (1 : Int32))), (.ref a2)])) _
    exact kt)
  obtain ⟨T3, h3, X3, e3, V3, s3, st3⟩ := own_stB X1 hx hZ e1 V1 (j := (p3 + (1 : Int32))) (own_ix1 hp) (f := (mkF m 56 #[.val (.int p1), .val (.ref a2), .val (.int p3), .val (.int ((p3 + (1 : Int32)) + (1 : Int32)))] [(.int (((128 : Int32) ||| (p1 &&& (63 : Int32))).toInt8.toInt32)), (.int (p3 + (1 : Int32))), (.ref a2)])) rfl rfl (hb hby d_w2_56)
  have N3 := Fr.snoc X3 N1 ga
  have Z3 : n0 ≤ h3.size := Nat.le_trans Z1 s3
  obtain ⟨fs, hr, hrun, hended, hW, hsame⟩ := X3.leave (v := some (.int ((p3 + (1 : Int32)) + (1 : Int32)))) (fun h => by rw [Bd.returns] at h; cases h)
  refine ⟨_, _, pr4 _ ?_, hrun, hended, _, _, rfl, ?_, ⟨_, rfl⟩, hW, hsame.mono (by decide) (by decide)⟩
  · refine st3 _ ?_
    show Steps p.tables e below (T3.setTop (mkF m 57 #[.val (.int p1), .val (.ref a2), .val (.int p3), .val (.int ((p3 + (1 : Int32)) + (1 : Int32)))] [])) _
    refine XS.goto X3.here hx rfl (pc0 := 57) (pc' := 183) rfl (hb hby d_w2_57) (by decide) (by decide) ?_
    show Steps p.tables e below (T3.setTop (mkF m 183 #[.val (.int p1), .val (.ref a2), .val (.int p3), .val (.int ((p3 + (1 : Int32)) + (1 : Int32)))] [])) _
    refine XS.iloadN X3.here hx rfl (hb hby d_w2_183) rfl ?_
    show Steps p.tables e below (T3.setTop (mkF m 184 #[.val (.int p1), .val (.ref a2), .val (.int p3), .val (.int ((p3 + (1 : Int32)) + (1 : Int32)))] [(.int ((p3 + (1 : Int32)) + (1 : Int32)))])) _
    exact retI X3 hx Bd.returns (hb hby d_w2_184) hr
  · show Q_w2 Z p1 a2 p3 g h0 n0 _ T3.heap _
    rw [e3]
    exact ⟨rfl, N3, V3, (Nat.le_trans s1 s3)⟩
theorem d_w3_0 : decode prog_37_method_6_code 0 = .ok (.iload_n 2, 1) := by decide +kernel
theorem d_w3_1 : decode prog_37_method_6_code 1 = .ok (.istore_n 3, 1) := by decide +kernel
theorem d_w3_2 : decode prog_37_method_6_code 2 = .ok (.iload_n 0, 1) := by decide +kernel
theorem d_w3_3 : decode prog_37_method_6_code 3 = .ok (.sipush 128, 3) := by decide +kernel
theorem d_w3_6 : decode prog_37_method_6_code 6 = .ok (.if_icmp .ge 14, 3) := by decide +kernel
theorem d_w3_20 : decode prog_37_method_6_code 20 = .ok (.iload_n 0, 1) := by decide +kernel
theorem d_w3_21 : decode prog_37_method_6_code 21 = .ok (.sipush 2048, 3) := by decide +kernel
theorem d_w3_24 : decode prog_37_method_6_code 24 = .ok (.if_icmp .ge 36, 3) := by decide +kernel
theorem d_w3_60 : decode prog_37_method_6_code 60 = .ok (.iload_n 0, 1) := by decide +kernel
theorem d_w3_61 : decode prog_37_method_6_code 61 = .ok (.ldc 7, 2) := by decide +kernel
theorem d_w3_63 : decode prog_37_method_6_code 63 = .ok (.if_icmp .ge 54, 3) := by decide +kernel
theorem d_w3_66 : decode prog_37_method_6_code 66 = .ok (.aload_n 1, 1) := by decide +kernel
theorem d_w3_67 : decode prog_37_method_6_code 67 = .ok (.iload_n 3, 1) := by decide +kernel
theorem d_w3_68 : decode prog_37_method_6_code 68 = .ok (.iinc 3 1, 3) := by decide +kernel
theorem d_w3_71 : decode prog_37_method_6_code 71 = .ok (.sipush 224, 3) := by decide +kernel
theorem d_w3_74 : decode prog_37_method_6_code 74 = .ok (.iload_n 0, 1) := by decide +kernel
theorem d_w3_75 : decode prog_37_method_6_code 75 = .ok (.bipush 12, 2) := by decide +kernel
theorem d_w3_77 : decode prog_37_method_6_code 77 = .ok (.ishr, 1) := by decide +kernel
theorem d_w3_78 : decode prog_37_method_6_code 78 = .ok (.ior, 1) := by decide +kernel
theorem d_w3_79 : decode prog_37_method_6_code 79 = .ok (.i2b, 1) := by decide +kernel
theorem d_w3_80 : decode prog_37_method_6_code 80 = .ok (.bastore, 1) := by decide +kernel
theorem d_w3_81 : decode prog_37_method_6_code 81 = .ok (.aload_n 1, 1) := by decide +kernel
theorem d_w3_82 : decode prog_37_method_6_code 82 = .ok (.iload_n 3, 1) := by decide +kernel
theorem d_w3_83 : decode prog_37_method_6_code 83 = .ok (.iinc 3 1, 3) := by decide +kernel
theorem d_w3_86 : decode prog_37_method_6_code 86 = .ok (.sipush 128, 3) := by decide +kernel
theorem d_w3_89 : decode prog_37_method_6_code 89 = .ok (.iload_n 0, 1) := by decide +kernel
theorem d_w3_90 : decode prog_37_method_6_code 90 = .ok (.bipush 6, 2) := by decide +kernel
theorem d_w3_92 : decode prog_37_method_6_code 92 = .ok (.ishr, 1) := by decide +kernel
theorem d_w3_93 : decode prog_37_method_6_code 93 = .ok (.bipush 63, 2) := by decide +kernel
theorem d_w3_95 : decode prog_37_method_6_code 95 = .ok (.iand, 1) := by decide +kernel
theorem d_w3_96 : decode prog_37_method_6_code 96 = .ok (.ior, 1) := by decide +kernel
theorem d_w3_97 : decode prog_37_method_6_code 97 = .ok (.i2b, 1) := by decide +kernel
theorem d_w3_98 : decode prog_37_method_6_code 98 = .ok (.bastore, 1) := by decide +kernel
theorem d_w3_99 : decode prog_37_method_6_code 99 = .ok (.aload_n 1, 1) := by decide +kernel
theorem d_w3_100 : decode prog_37_method_6_code 100 = .ok (.iload_n 3, 1) := by decide +kernel
theorem d_w3_101 : decode prog_37_method_6_code 101 = .ok (.iinc 3 1, 3) := by decide +kernel
theorem d_w3_104 : decode prog_37_method_6_code 104 = .ok (.sipush 128, 3) := by decide +kernel
theorem d_w3_107 : decode prog_37_method_6_code 107 = .ok (.iload_n 0, 1) := by decide +kernel
theorem d_w3_108 : decode prog_37_method_6_code 108 = .ok (.bipush 63, 2) := by decide +kernel
theorem d_w3_110 : decode prog_37_method_6_code 110 = .ok (.iand, 1) := by decide +kernel
theorem d_w3_111 : decode prog_37_method_6_code 111 = .ok (.ior, 1) := by decide +kernel
theorem d_w3_112 : decode prog_37_method_6_code 112 = .ok (.i2b, 1) := by decide +kernel
theorem d_w3_113 : decode prog_37_method_6_code 113 = .ok (.bastore, 1) := by decide +kernel
theorem d_w3_114 : decode prog_37_method_6_code 114 = .ok (.goto 69, 3) := by decide +kernel
theorem d_w3_183 : decode prog_37_method_6_code 183 = .ok (.iload_n 3, 1) := by decide +kernel
theorem d_w3_184 : decode prog_37_method_6_code 184 = .ok (.ireturn, 1) := by decide +kernel
theorem pn_w3 : plainName "com/example/nuthatch/nuthatch/Utf8" = true := by first | (simp [plainName, overriddenIn]; done) | decide +kernel
theorem ef_w3 (m : MethodId) (p1 : Int32) (a2 : Addr) (p3 : Int32) : entryFrame m #[(.int p1), (.ref a2), (.int p3)] 4 = mkF m 0 #[.val (.int p1), .val (.ref a2), .val (.int p3), .unset] [] := by first | (simp [entryFrame, mkF, argsToLocals, Value.category]; done) | rfl
def Q_w3 (Z : State) (p1 : Int32) (a2 : Addr) (p3 : Int32) (g : Int32 → Int32) (h0 : Heap) (n0 : Nat) (v : Option Value) (h : Heap) (L : List Loc) : Prop := v = some (.int (((p3 + (1 : Int32)) + (1 : Int32)) + (1 : Int32))) ∧ Fr n0 L ∧ own_B Z h a2 (own_w3 p1 p3 g) ∧ h0.size ≤ h.size
set_option maxRecDepth 65536 in
set_option maxHeartbeats 40000000 in
theorem rm_w3 (l : Launch) (Z : State) (a0 : Array Value) (hw : ∀ d ∈ tables_1, d.before a0 Z = true) (ws : List Jvm.Cond) (p1 : Int32) (a2 : Addr) (p3 : Int32) (g : Int32 → Int32) (h0 : Heap) (n0 : Nat) (Z0 : n0 ≤ h0.size) (V : own_B Z h0 a2 g) (hp : own_P p3) (ga : n0 ≤ a2) (r1 : ¬ p1 < (128 : Int32)) (r2 : ¬ p1 < (2048 : Int32)) (r3 : p1 < (65536 : Int32)) :
    MetFree l (⟨"com/example/nuthatch/nuthatch/Utf8", "write", "(I[BI)I"⟩ : MethodName) (head1 (Jvm.Cond.code (⟨"com/example/nuthatch/nuthatch/Utf8", "write", "(I[BI)I"⟩ : MethodName) prog_37_method_6_code 4 (some .int) :: ws) ({ frames := 0, cells := 0, slots := 0, locals := 0 } : Room)) (fun a U => a = #[(.int p1), (.ref a2), (.int p3)] ∧ Z.Warmed39 U.vm ∧ U.heap = h0) (fun _ _ _ _ _ => True) (fun _ U o U' => ∃ v L, o = .returned v ∧ Q_w3 Z p1 a2 p3 g h0 n0 v U'.heap L ∧ FrameEnd U o U' L ({ frames := 0, cells := 0, slots := 0, locals := 0 } : Room).cells ({ frames := 0, cells := 0, slots := 0, locals := 0 } : Room).slots) := by
  refine MetFree.of_bodySF (plainFor_of_name pn_w3) hisR ?_
  intro p e s m args below meth c s₁ Bd hml0 hP hK
  obtain ⟨rfl, hZ, hh⟩ := hP
  have hx := Bd.exec
  have hby := Bd.bytes
  have hml : c.maxLocals = 4 := hml0
  have hown : s.vm.findClass "com/example/nuthatch/nuthatch/Utf8" = some m.cls := findClass_of_methodNamed Bd.named
  have hnm := (name_of_methodNamed Bd.named Bd.method).1
  have X0 : Stand p l e ({ frames := 0, cells := 0, slots := 0, locals := 0 } : Room) s m #[(.int p1), (.ref a2), (.int p3)] below meth c s₁ [] 0 0 := Stand.of_body Bd
  have e0 : s₁.heap = h0 := by rw [← hh, Bd.state]; rfl
  have N0 := Fr.nil n0
  have pre0 : ∀ t, Steps p.tables e below (s₁.setTop (mkF m 0 #[.val (.int p1), .val (.ref a2), .val (.int p3), .unset] [])) t → Steps p.tables e below (s₁.setTop (entryFrame m #[(.int p1), (.ref a2), (.int p3)] 4)) t := fun t k => castTop (ef_w3 m p1 a2 p3) k
  have pr2 : ∀ t, Steps p.tables e below (s₁.setTop (mkF m 80 #[.val (.int p1), .val (.ref a2), .val (.int p3), .val (.int (p3 + (1 : Int32)))] [(.int (((224 : Int32) ||| (p1 >>> ((12 : Int32) &&& 31))).toInt8.toInt32)), (.int p3), (.ref a2)])) t → Steps p.tables e below (s₁.setTop (entryFrame m #[(.int p1), (.ref a2), (.int p3)] 4)) t := fun t kt => pre0 t (by
    show Steps p.tables e below (s₁.setTop (mkF m 0 #[.val (.int p1), .val (.ref a2), .val (.int p3), .unset] [])) _
    refine XS.iloadN X0.here hx rfl (hb hby d_w3_0) rfl ?_
    show Steps p.tables e below (s₁.setTop (mkF m 1 #[.val (.int p1), .val (.ref a2), .val (.int p3), .unset] [(.int p3)])) _
    refine XS.istoreN X0.here hx rfl (hb hby d_w3_1) rfl (l' := #[.val (.int p1), .val (.ref a2), .val (.int p3), .val (.int p3)]) rfl ?_
    show Steps p.tables e below (s₁.setTop (mkF m 2 #[.val (.int p1), .val (.ref a2), .val (.int p3), .val (.int p3)] [])) _
    refine XS.iloadN X0.here hx rfl (hb hby d_w3_2) rfl ?_
    show Steps p.tables e below (s₁.setTop (mkF m 3 #[.val (.int p1), .val (.ref a2), .val (.int p3), .val (.int p3)] [(.int p1)])) _
    refine XS.sipush X0.here hx rfl (hb hby d_w3_3) ?_
    show Steps p.tables e below (s₁.setTop (mkF m 6 #[.val (.int p1), .val (.ref a2), .val (.int p3), .val (.int p3)] [(.int (128 : Int32)), (.int p1)])) _
    refine XS.icmpYes X0.here hx rfl (pc0 := 6) (pc' := 20) rfl (hb hby d_w3_6) rfl (flt (r1 : ¬ (p1 < (128 : Int32)))).2.1 (by decide) (by decide) ?_
    show Steps p.tables e below (s₁.setTop (mkF m 20 #[.val (.int p1), .val (.ref a2), .val (.int p3), .val (.int p3)] [])) _
    refine XS.iloadN X0.here hx rfl (hb hby d_w3_20) rfl ?_
    show Steps p.tables e below (s₁.setTop (mkF m 21 #[.val (.int p1), .val (.ref a2), .val (.int p3), .val (.int p3)] [(.int p1)])) _
    refine XS.sipush X0.here hx rfl (hb hby d_w3_21) ?_
    show Steps p.tables e below (s₁.setTop (mkF m 24 #[.val (.int p1), .val (.ref a2), .val (.int p3), .val (.int p3)] [(.int (2048 : Int32)), (.int p1)])) _
    refine XS.icmpYes X0.here hx rfl (pc0 := 24) (pc' := 60) rfl (hb hby d_w3_24) rfl (flt (r2 : ¬ (p1 < (2048 : Int32)))).2.1 (by decide) (by decide) ?_
    show Steps p.tables e below (s₁.setTop (mkF m 60 #[.val (.int p1), .val (.ref a2), .val (.int p3), .val (.int p3)] [])) _
    refine XS.iloadN X0.here hx rfl (hb hby d_w3_60) rfl ?_
    show Steps p.tables e below (s₁.setTop (mkF m 61 #[.val (.int p1), .val (.ref a2), .val (.int p3), .val (.int p3)] [(.int p1)])) _
    refine X0.ldcInt hx hown (mvT hZ (hw _ (List.mem_of_getElem? (i := 22) rfl))) (g := (mkF m 61 #[.val (.int p1), .val (.ref a2), .val (.int p3), .val (.int p3)] [(.int p1)])) rfl (hb hby d_w3_61) _ ?_
    show Steps p.tables e below (s₁.setTop (mkF m 63 #[.val (.int p1), .val (.ref a2), .val (.int p3), .val (.int p3)] [(.int (65536 : Int32)), (.int p1)])) _
    refine XS.icmpNo X0.here hx rfl (hb hby d_w3_63) rfl (tlt (r3 : p1 < (65536 : Int32))).2.1 ?_
    show Steps p.tables e below (s₁.setTop (mkF m 66 #[.val (.int p1), .val (.ref a2), .val (.int p3), .val (.int p3)] [])) _
    refine XS.aloadN X0.here hx rfl (hb hby d_w3_66) rfl rfl ?_
    show Steps p.tables e below (s₁.setTop (mkF m 67 #[.val (.int p1), .val (.ref a2), .val (.int p3), .val (.int p3)] [(.ref a2)])) _
    refine XS.iloadN X0.here hx rfl (hb hby d_w3_67) rfl ?_
    show Steps p.tables e below (s₁.setTop (mkF m 68 #[.val (.int p1), .val (.ref a2), .val (.int p3), .val (.int p3)] [(.int p3), (.ref a2)])) _
    refine XS.iinc X0.here hx rfl (hb hby d_w3_68) rfl (l' := #[.val (.int p1), .val (.ref a2), .val (.int p3), .val (.int (p3 + (1 : Int32)))]) rfl ?_
    show Steps p.tables e below (s₁.setTop (mkF m 71 #[.val (.int p1), .val (.ref a2), .val (.int p3), .val (.int (p3 + (1 : Int32)))] [(.int p3), (.ref a2)])) _
    refine XS.sipush X0.here hx rfl (hb hby d_w3_71) ?_
    show Steps p.tables e below (s₁.setTop (mkF m 74 #[.val (.int p1), .val (.ref a2), .val (.int p3), .val (.int (p3 + (1 : Int32)))] [(.int (224 : Int32)), (.int p3), (.ref a2)])) _
    refine XS.iloadN X0.here hx rfl (hb hby d_w3_74) rfl ?_
    show Steps p.tables e below (s₁.setTop (mkF m 75 #[.val (.int p1), .val (.ref a2), .val (.int p3), .val (.int (p3 + (1 : Int32)))] [(.int p1), (.int (224 : Int32)), (.int p3), (.ref a2)])) _
    refine XS.bipush X0.here hx rfl (hb hby d_w3_75) ?_
    show Steps p.tables e below (s₁.setTop (mkF m 77 #[.val (.int p1), .val (.ref a2), .val (.int p3), .val (.int (p3 + (1 : Int32)))] [(.int (12 : Int32)), (.int p1), (.int (224 : Int32)), (.int p3), (.ref a2)])) _
    refine XS.ishr X0.here hx rfl (hb hby d_w3_77) rfl ?_
    show Steps p.tables e below (s₁.setTop (mkF m 78 #[.val (.int p1), .val (.ref a2), .val (.int p3), .val (.int (p3 + (1 : Int32)))] [(.int (p1 >>> ((12 : Int32) &&& 31))), (.int (224 : Int32)), (.int p3), (.ref a2)])) _
    refine XS.ior X0.here hx rfl (hb hby d_w3_78) rfl ?_
    show Steps p.tables e below (s₁.setTop (mkF m 79 #[.val (.int p1), .val (.ref a2), .val (.int p3), .val (.int (p3 + (1 : Int32)))] [(.int ((224 : Int32) ||| (p1 >>> ((12 : Int32) &&& 31)))), (.int p3), (.ref a2)])) _
    refine XS.i2b X0.here hx rfl (hb hby d_w3_79) rfl ?_
    show Steps p.tables e below (s₁.setTop (mkF m 80 #[.val (.int p1), .val (.ref a2), .val (.int p3), .val (.int (p3 + (1 : Int32)))] [(.int (((224 : Int32) ||| (p1 >>> ((12 : Int32) &&& 31))).toInt8.toInt32)), (.int p3), (.ref a2)])) _
    exact kt)
  obtain ⟨T1, h1, X1, e1, V1, s1, st1⟩ := own_stB X0 hx hZ e0 V (j := p3) (own_ix0 hp) (f := (mkF m 80 #[.val (.int p1), .val (.ref a2), .val (.int p3), .val (.int (p3 + (1 : Int32)))] [(.int (((224 : Int32) ||| (p1 >>> ((12 : Int32) &&& 31))).toInt8.toInt32)), (.int p3), (.ref a2)])) rfl rfl (hb hby d_w3_80)
  have N1 := Fr.snoc X1 N0 ga
  have Z1 : n0 ≤ h1.size := Nat.le_trans Z0 s1
  have pr4 : ∀ t, Steps p.tables e below (T1.setTop (mkF m 98 #[.val (.int p1), .val (.ref a2), .val (.int p3), .val (.int ((p3 + (1 : Int32)) + (1 : Int32)))] [(.int (((128 : Int32) ||| ((p1 >>> ((6 : Int32) &&& 31)) &&& (63 : Int32))).toInt8.toInt32)), (.int (p3 + (1 : Int32))), (.ref a2)])) t → Steps p.tables e below (s₁.setTop (entryFrame m #[(.int p1), (.ref a2), (.int p3)] 4)) t := fun t kt => pr2 t (by
    refine st1 _ ?_
    show Steps p.tables e below (T1.setTop (mkF m 81 #[.val (.int p1), .val (.ref a2), .val (.int p3), .val (.int (p3 + (1 : Int32)))] [])) _
    refine XS.aloadN X1.here hx rfl (hb hby d_w3_81) rfl rfl ?_
    show Steps p.tables e below (T1.setTop (mkF m 82 #[.val (.int p1), .val (.ref a2), .val (.int p3), .val (.int (p3 + (1 : Int32)))] [(.ref a2)])) _
    refine XS.iloadN X1.here hx rfl (hb hby d_w3_82) rfl ?_
    show Steps p.tables e below (T1.setTop (mkF m 83 #[.val (.int p1), .val (.ref a2), .val (.int p3), .val (.int (p3 + (1 : Int32)))] [(.int (p3 + (1 : Int32))), (.ref a2)])) _
    refine XS.iinc X1.here hx rfl (hb hby d_w3_83) rfl (l' := #[.val (.int p1), .val (.ref a2), .val (.int p3), .val (.int ((p3 + (1 : Int32)) + (1 : Int32)))]) rfl ?_
    show Steps p.tables e below (T1.setTop (mkF m 86 #[.val (.int p1), .val (.ref a2), .val (.int p3), .val (.int ((p3 + (1 : Int32)) + (1 : Int32)))] [(.int (p3 + (1 : Int32))), (.ref a2)])) _
    refine XS.sipush X1.here hx rfl (hb hby d_w3_86) ?_
    show Steps p.tables e below (T1.setTop (mkF m 89 #[.val (.int p1), .val (.ref a2), .val (.int p3), .val (.int ((p3 + (1 : Int32)) + (1 : Int32)))] [(.int (128 : Int32)), (.int (p3 + (1 : Int32))), (.ref a2)])) _
    refine XS.iloadN X1.here hx rfl (hb hby d_w3_89) rfl ?_
    show Steps p.tables e below (T1.setTop (mkF m 90 #[.val (.int p1), .val (.ref a2), .val (.int p3), .val (.int ((p3 + (1 : Int32)) + (1 : Int32)))] [(.int p1), (.int (128 : Int32)), (.int (p3 + (1 : Int32))), (.ref a2)])) _
    refine XS.bipush X1.here hx rfl (hb hby d_w3_90) ?_
    show Steps p.tables e below (T1.setTop (mkF m 92 #[.val (.int p1), .val (.ref a2), .val (.int p3), .val (.int ((p3 + (1 : Int32)) + (1 : Int32)))] [(.int (6 : Int32)), (.int p1), (.int (128 : Int32)), (.int (p3 + (1 : Int32))), (.ref a2)])) _
    refine XS.ishr X1.here hx rfl (hb hby d_w3_92) rfl ?_
    show Steps p.tables e below (T1.setTop (mkF m 93 #[.val (.int p1), .val (.ref a2), .val (.int p3), .val (.int ((p3 + (1 : Int32)) + (1 : Int32)))] [(.int (p1 >>> ((6 : Int32) &&& 31))), (.int (128 : Int32)), (.int (p3 + (1 : Int32))), (.ref a2)])) _
    refine XS.bipush X1.here hx rfl (hb hby d_w3_93) ?_
    show Steps p.tables e below (T1.setTop (mkF m 95 #[.val (.int p1), .val (.ref a2), .val (.int p3), .val (.int ((p3 + (1 : Int32)) + (1 : Int32)))] [(.int (63 : Int32)), (.int (p1 >>> ((6 : Int32) &&& 31))), (.int (128 : Int32)), (.int (p3 + (1 : Int32))), (.ref a2)])) _
    refine XS.iand X1.here hx rfl (hb hby d_w3_95) rfl ?_
    show Steps p.tables e below (T1.setTop (mkF m 96 #[.val (.int p1), .val (.ref a2), .val (.int p3), .val (.int ((p3 + (1 : Int32)) + (1 : Int32)))] [(.int ((p1 >>> ((6 : Int32) &&& 31)) &&& (63 : Int32))), (.int (128 : Int32)), (.int (p3 + (1 : Int32))), (.ref a2)])) _
    refine XS.ior X1.here hx rfl (hb hby d_w3_96) rfl ?_
    show Steps p.tables e below (T1.setTop (mkF m 97 #[.val (.int p1), .val (.ref a2), .val (.int p3), .val (.int ((p3 + (1 : Int32)) + (1 : Int32)))] [(.int ((128 : Int32) ||| ((p1 >>> ((6 : Int32) &&& 31)) &&& (63 : Int32)))), (.int (p3 + (1 : Int32))), (.ref a2)])) _
    refine XS.i2b X1.here hx rfl (hb hby d_w3_97) rfl ?_
    show Steps p.tables e below (T1.setTop (mkF m 98 #[.val (.int p1), .val (.ref a2), .val (.int p3), .val (.int ((p3 + (1 : Int32)) + (1 : Int32)))] [(.int (((128 : Int32) ||| ((p1 >>> ((6 : Int32) &&& 31)) &&& (63 : Int32))).toInt8.toInt32)), (.int (p3 + (1 : Int32))), (.ref a2)])) _
    exact kt)
  obtain ⟨T3, h3, X3, e3, V3, s3, st3⟩ := own_stB X1 hx hZ e1 V1 (j := (p3 + (1 : Int32))) (own_ix1 hp) (f := (mkF m 98 #[.val (.int p1), .val (.ref a2), .val (.int p3), .val (.int ((p3 + (1 : Int32)) + (1 : Int32)))] [(.int (((128 : Int32) ||| ((p1 >>> ((6 : Int32) &&& 31)) &&& (63 : Int32))).toInt8.toInt32)), (.int (p3 + (1 : Int32))), (.ref a2)])) rfl rfl (hb hby d_w3_98)
  have N3 := Fr.snoc X3 N1 ga
  have Z3 : n0 ≤ h3.size := Nat.le_trans Z1 s3
  have pr6 : ∀ t, Steps p.tables e below (T3.setTop (mkF m 113 #[.val (.int p1), .val (.ref a2), .val (.int p3), .val (.int (((p3 + (1 : Int32)) + (1 : Int32)) + (1 : Int32)))] [(.int (((128 : Int32) ||| (p1 &&& (63 : Int32))).toInt8.toInt32)), (.int ((p3 + (1 : Int32)) + (1 : Int32))), (.ref a2)])) t → Steps p.tables e below (s₁.setTop (entryFrame m #[(.int p1), (.ref a2), (.int p3)] 4)) t := fun t kt => pr4 t (by
    refine st3 _ ?_
    show Steps p.tables e below (T3.setTop (mkF m 99 #[.val (.int p1), .val (.ref a2), .val (.int p3), .val (.int ((p3 + (1 : Int32)) + (1 : Int32)))] [])) _
    refine XS.aloadN X3.here hx rfl (hb hby d_w3_99) rfl rfl ?_
    show Steps p.tables e below (T3.setTop (mkF m 100 #[.val (.int p1), .val (.ref a2), .val (.int p3), .val (.int ((p3 + (1 : Int32)) + (1 : Int32)))] [(.ref a2)])) _
    refine XS.iloadN X3.here hx rfl (hb hby d_w3_100) rfl ?_
    show Steps p.tables e below (T3.setTop (mkF m 101 #[.val (.int p1), .val (.ref a2), .val (.int p3), .val (.int ((p3 + (1 : Int32)) + (1 : Int32)))] [(.int ((p3 + (1 : Int32)) + (1 : Int32))), (.ref a2)])) _
    refine XS.iinc X3.here hx rfl (hb hby d_w3_101) rfl (l' := #[.val (.int p1), .val (.ref a2), .val (.int p3), .val (.int (((p3 + (1 : Int32)) + (1 : Int32)) + (1 : Int32)))]) rfl ?_
    show Steps p.tables e below (T3.setTop (mkF m 104 #[.val (.int p1), .val (.ref a2), .val (.int p3), .val (.int (((p3 + (1 : Int32)) + (1 : Int32)) + (1 : Int32)))] [(.int ((p3 + (1 : Int32)) + (1 : Int32))), (.ref a2)])) _
    refine XS.sipush X3.here hx rfl (hb hby d_w3_104) ?_
    show Steps p.tables e below (T3.setTop (mkF m 107 #[.val (.int p1), .val (.ref a2), .val (.int p3), .val (.int (((p3 + (1 : Int32)) + (1 : Int32)) + (1 : Int32)))] [(.int (128 : Int32)), (.int ((p3 + (1 : Int32)) + (1 : Int32))), (.ref a2)])) _
    refine XS.iloadN X3.here hx rfl (hb hby d_w3_107) rfl ?_
    show Steps p.tables e below (T3.setTop (mkF m 108 #[.val (.int p1), .val (.ref a2), .val (.int p3), .val (.int (((p3 + (1 : Int32)) + (1 : Int32)) + (1 : Int32)))] [(.int p1), (.int (128 : Int32)), (.int ((p3 + (1 : Int32)) + (1 : Int32))), (.ref a2)])) _
    refine XS.bipush X3.here hx rfl (hb hby d_w3_108) ?_
    show Steps p.tables e below (T3.setTop (mkF m 110 #[.val (.int p1), .val (.ref a2), .val (.int p3), .val (.int (((p3 + (1 : Int32)) + (1 : Int32)) + (1 : Int32)))] [(.int (63 : Int32)), (.int p1), (.int (128 : Int32)), (.int ((p3 + (1 : Int32)) + (1 : Int32))), (.ref a2)])) _
    refine XS.iand X3.here hx rfl (hb hby d_w3_110) rfl ?_
    show Steps p.tables e below (T3.setTop (mkF m 111 #[.val (.int p1), .val (.ref a2), .val (.int p3), .val (.int (((p3 + (1 : Int32)) + (1 : Int32)) + (1 : Int32)))] [(.int (p1 &&& (63 : Int32))), (.int (128 : Int32)), (.int ((p3 + (1 : Int32)) + (1 : Int32))), (.ref a2)])) _
    refine XS.ior X3.here hx rfl (hb hby d_w3_111) rfl ?_
    show Steps p.tables e below (T3.setTop (mkF m 112 #[.val (.int p1), .val (.ref a2), .val (.int p3), .val (.int (((p3 + (1 : Int32)) + (1 : Int32)) + (1 : Int32)))] [(.int ((128 : Int32) ||| (p1 &&& (63 : Int32)))), (.int ((p3 + (1 : Int32)) + (1 : Int32))), (.ref a2)])) _
    refine XS.i2b X3.here hx rfl (hb hby d_w3_112) rfl ?_
    show Steps p.tables e below (T3.setTop (mkF m 113 #[.val (.int p1), .val (.ref a2), .val (.int p3), .val (.int (((p3 + (1 : Int32)) + (1 : Int32)) + (1 : Int32)))] [(.int (((128 : Int32) ||| (p1 &&& (63 : Int32))).toInt8.toInt32)), (.int ((p3 + (1 : Int32)) + (1 : Int32))), (.ref a2)])) _
    exact kt)
  obtain ⟨T5, h5, X5, e5, V5, s5, st5⟩ := own_stB X3 hx hZ e3 V3 (j := ((p3 + (1 : Int32)) + (1 : Int32))) (own_ix2 hp) (f := (mkF m 113 #[.val (.int p1), .val (.ref a2), .val (.int p3), .val (.int (((p3 + (1 : Int32)) + (1 : Int32)) + (1 : Int32)))] [(.int (((128 : Int32) ||| (p1 &&& (63 : Int32))).toInt8.toInt32)), (.int ((p3 + (1 : Int32)) + (1 : Int32))), (.ref a2)])) rfl rfl (hb hby d_w3_113)
  have N5 := Fr.snoc X5 N3 ga
  have Z5 : n0 ≤ h5.size := Nat.le_trans Z3 s5
  obtain ⟨fs, hr, hrun, hended, hW, hsame⟩ := X5.leave (v := some (.int (((p3 + (1 : Int32)) + (1 : Int32)) + (1 : Int32)))) (fun h => by rw [Bd.returns] at h; cases h)
  refine ⟨_, _, pr6 _ ?_, hrun, hended, _, _, rfl, ?_, ⟨_, rfl⟩, hW, hsame.mono (by decide) (by decide)⟩
  · refine st5 _ ?_
    show Steps p.tables e below (T5.setTop (mkF m 114 #[.val (.int p1), .val (.ref a2), .val (.int p3), .val (.int (((p3 + (1 : Int32)) + (1 : Int32)) + (1 : Int32)))] [])) _
    refine XS.goto X5.here hx rfl (pc0 := 114) (pc' := 183) rfl (hb hby d_w3_114) (by decide) (by decide) ?_
    show Steps p.tables e below (T5.setTop (mkF m 183 #[.val (.int p1), .val (.ref a2), .val (.int p3), .val (.int (((p3 + (1 : Int32)) + (1 : Int32)) + (1 : Int32)))] [])) _
    refine XS.iloadN X5.here hx rfl (hb hby d_w3_183) rfl ?_
    show Steps p.tables e below (T5.setTop (mkF m 184 #[.val (.int p1), .val (.ref a2), .val (.int p3), .val (.int (((p3 + (1 : Int32)) + (1 : Int32)) + (1 : Int32)))] [(.int (((p3 + (1 : Int32)) + (1 : Int32)) + (1 : Int32)))])) _
    exact retI X5 hx Bd.returns (hb hby d_w3_184) hr
  · show Q_w3 Z p1 a2 p3 g h0 n0 _ T5.heap _
    rw [e5]
    exact ⟨rfl, N5, V5, (Nat.le_trans (Nat.le_trans s1 s3) s5)⟩
theorem d_w4_0 : decode prog_37_method_6_code 0 = .ok (.iload_n 2, 1) := by decide +kernel
theorem d_w4_1 : decode prog_37_method_6_code 1 = .ok (.istore_n 3, 1) := by decide +kernel
theorem d_w4_2 : decode prog_37_method_6_code 2 = .ok (.iload_n 0, 1) := by decide +kernel
theorem d_w4_3 : decode prog_37_method_6_code 3 = .ok (.sipush 128, 3) := by decide +kernel
theorem d_w4_6 : decode prog_37_method_6_code 6 = .ok (.if_icmp .ge 14, 3) := by decide +kernel
theorem d_w4_20 : decode prog_37_method_6_code 20 = .ok (.iload_n 0, 1) := by decide +kernel
theorem d_w4_21 : decode prog_37_method_6_code 21 = .ok (.sipush 2048, 3) := by decide +kernel
theorem d_w4_24 : decode prog_37_method_6_code 24 = .ok (.if_icmp .ge 36, 3) := by decide +kernel
theorem d_w4_60 : decode prog_37_method_6_code 60 = .ok (.iload_n 0, 1) := by decide +kernel
theorem d_w4_61 : decode prog_37_method_6_code 61 = .ok (.ldc 7, 2) := by decide +kernel
theorem d_w4_63 : decode prog_37_method_6_code 63 = .ok (.if_icmp .ge 54, 3) := by decide +kernel
theorem d_w4_117 : decode prog_37_method_6_code 117 = .ok (.aload_n 1, 1) := by decide +kernel
theorem d_w4_118 : decode prog_37_method_6_code 118 = .ok (.iload_n 3, 1) := by decide +kernel
theorem d_w4_119 : decode prog_37_method_6_code 119 = .ok (.iinc 3 1, 3) := by decide +kernel
theorem d_w4_122 : decode prog_37_method_6_code 122 = .ok (.sipush 240, 3) := by decide +kernel
theorem d_w4_125 : decode prog_37_method_6_code 125 = .ok (.iload_n 0, 1) := by decide +kernel
theorem d_w4_126 : decode prog_37_method_6_code 126 = .ok (.bipush 18, 2) := by decide +kernel
theorem d_w4_128 : decode prog_37_method_6_code 128 = .ok (.ishr, 1) := by decide +kernel
theorem d_w4_129 : decode prog_37_method_6_code 129 = .ok (.ior, 1) := by decide +kernel
theorem d_w4_130 : decode prog_37_method_6_code 130 = .ok (.i2b, 1) := by decide +kernel
theorem d_w4_131 : decode prog_37_method_6_code 131 = .ok (.bastore, 1) := by decide +kernel
theorem d_w4_132 : decode prog_37_method_6_code 132 = .ok (.aload_n 1, 1) := by decide +kernel
theorem d_w4_133 : decode prog_37_method_6_code 133 = .ok (.iload_n 3, 1) := by decide +kernel
theorem d_w4_134 : decode prog_37_method_6_code 134 = .ok (.iinc 3 1, 3) := by decide +kernel
theorem d_w4_137 : decode prog_37_method_6_code 137 = .ok (.sipush 128, 3) := by decide +kernel
theorem d_w4_140 : decode prog_37_method_6_code 140 = .ok (.iload_n 0, 1) := by decide +kernel
theorem d_w4_141 : decode prog_37_method_6_code 141 = .ok (.bipush 12, 2) := by decide +kernel
theorem d_w4_143 : decode prog_37_method_6_code 143 = .ok (.ishr, 1) := by decide +kernel
theorem d_w4_144 : decode prog_37_method_6_code 144 = .ok (.bipush 63, 2) := by decide +kernel
theorem d_w4_146 : decode prog_37_method_6_code 146 = .ok (.iand, 1) := by decide +kernel
theorem d_w4_147 : decode prog_37_method_6_code 147 = .ok (.ior, 1) := by decide +kernel
theorem d_w4_148 : decode prog_37_method_6_code 148 = .ok (.i2b, 1) := by decide +kernel
theorem d_w4_149 : decode prog_37_method_6_code 149 = .ok (.bastore, 1) := by decide +kernel
theorem d_w4_150 : decode prog_37_method_6_code 150 = .ok (.aload_n 1, 1) := by decide +kernel
theorem d_w4_151 : decode prog_37_method_6_code 151 = .ok (.iload_n 3, 1) := by decide +kernel
theorem d_w4_152 : decode prog_37_method_6_code 152 = .ok (.iinc 3 1, 3) := by decide +kernel
theorem d_w4_155 : decode prog_37_method_6_code 155 = .ok (.sipush 128, 3) := by decide +kernel
theorem d_w4_158 : decode prog_37_method_6_code 158 = .ok (.iload_n 0, 1) := by decide +kernel
theorem d_w4_159 : decode prog_37_method_6_code 159 = .ok (.bipush 6, 2) := by decide +kernel
theorem d_w4_161 : decode prog_37_method_6_code 161 = .ok (.ishr, 1) := by decide +kernel
theorem d_w4_162 : decode prog_37_method_6_code 162 = .ok (.bipush 63, 2) := by decide +kernel
theorem d_w4_164 : decode prog_37_method_6_code 164 = .ok (.iand, 1) := by decide +kernel
theorem d_w4_165 : decode prog_37_method_6_code 165 = .ok (.ior, 1) := by decide +kernel
theorem d_w4_166 : decode prog_37_method_6_code 166 = .ok (.i2b, 1) := by decide +kernel
theorem d_w4_167 : decode prog_37_method_6_code 167 = .ok (.bastore, 1) := by decide +kernel
theorem d_w4_168 : decode prog_37_method_6_code 168 = .ok (.aload_n 1, 1) := by decide +kernel
theorem d_w4_169 : decode prog_37_method_6_code 169 = .ok (.iload_n 3, 1) := by decide +kernel
theorem d_w4_170 : decode prog_37_method_6_code 170 = .ok (.iinc 3 1, 3) := by decide +kernel
theorem d_w4_173 : decode prog_37_method_6_code 173 = .ok (.sipush 128, 3) := by decide +kernel
theorem d_w4_176 : decode prog_37_method_6_code 176 = .ok (.iload_n 0, 1) := by decide +kernel
theorem d_w4_177 : decode prog_37_method_6_code 177 = .ok (.bipush 63, 2) := by decide +kernel
theorem d_w4_179 : decode prog_37_method_6_code 179 = .ok (.iand, 1) := by decide +kernel
theorem d_w4_180 : decode prog_37_method_6_code 180 = .ok (.ior, 1) := by decide +kernel
theorem d_w4_181 : decode prog_37_method_6_code 181 = .ok (.i2b, 1) := by decide +kernel
theorem d_w4_182 : decode prog_37_method_6_code 182 = .ok (.bastore, 1) := by decide +kernel
theorem d_w4_183 : decode prog_37_method_6_code 183 = .ok (.iload_n 3, 1) := by decide +kernel
theorem d_w4_184 : decode prog_37_method_6_code 184 = .ok (.ireturn, 1) := by decide +kernel
theorem pn_w4 : plainName "com/example/nuthatch/nuthatch/Utf8" = true := by first | (simp [plainName, overriddenIn]; done) | decide +kernel
theorem ef_w4 (m : MethodId) (p1 : Int32) (a2 : Addr) (p3 : Int32) : entryFrame m #[(.int p1), (.ref a2), (.int p3)] 4 = mkF m 0 #[.val (.int p1), .val (.ref a2), .val (.int p3), .unset] [] := by first | (simp [entryFrame, mkF, argsToLocals, Value.category]; done) | rfl
def Q_w4 (Z : State) (p1 : Int32) (a2 : Addr) (p3 : Int32) (g : Int32 → Int32) (h0 : Heap) (n0 : Nat) (v : Option Value) (h : Heap) (L : List Loc) : Prop := v = some (.int ((((p3 + (1 : Int32)) + (1 : Int32)) + (1 : Int32)) + (1 : Int32))) ∧ Fr n0 L ∧ own_B Z h a2 (own_w4 p1 p3 g) ∧ h0.size ≤ h.size
set_option maxRecDepth 65536 in
set_option maxHeartbeats 40000000 in
theorem rm_w4 (l : Launch) (Z : State) (a0 : Array Value) (hw : ∀ d ∈ tables_1, d.before a0 Z = true) (ws : List Jvm.Cond) (p1 : Int32) (a2 : Addr) (p3 : Int32) (g : Int32 → Int32) (h0 : Heap) (n0 : Nat) (Z0 : n0 ≤ h0.size) (V : own_B Z h0 a2 g) (hp : own_P p3) (ga : n0 ≤ a2) (r1 : ¬ p1 < (128 : Int32)) (r2 : ¬ p1 < (2048 : Int32)) (r3 : ¬ p1 < (65536 : Int32)) :
    MetFree l (⟨"com/example/nuthatch/nuthatch/Utf8", "write", "(I[BI)I"⟩ : MethodName) (head1 (Jvm.Cond.code (⟨"com/example/nuthatch/nuthatch/Utf8", "write", "(I[BI)I"⟩ : MethodName) prog_37_method_6_code 4 (some .int) :: ws) ({ frames := 0, cells := 0, slots := 0, locals := 0 } : Room)) (fun a U => a = #[(.int p1), (.ref a2), (.int p3)] ∧ Z.Warmed39 U.vm ∧ U.heap = h0) (fun _ _ _ _ _ => True) (fun _ U o U' => ∃ v L, o = .returned v ∧ Q_w4 Z p1 a2 p3 g h0 n0 v U'.heap L ∧ FrameEnd U o U' L ({ frames := 0, cells := 0, slots := 0, locals := 0 } : Room).cells ({ frames := 0, cells := 0, slots := 0, locals := 0 } : Room).slots) := by
  refine MetFree.of_bodySF (plainFor_of_name pn_w4) hisR ?_
  intro p e s m args below meth c s₁ Bd hml0 hP hK
  obtain ⟨rfl, hZ, hh⟩ := hP
  have hx := Bd.exec
  have hby := Bd.bytes
  have hml : c.maxLocals = 4 := hml0
  have hown : s.vm.findClass "com/example/nuthatch/nuthatch/Utf8" = some m.cls := findClass_of_methodNamed Bd.named
  have hnm := (name_of_methodNamed Bd.named Bd.method).1
  have X0 : Stand p l e ({ frames := 0, cells := 0, slots := 0, locals := 0 } : Room) s m #[(.int p1), (.ref a2), (.int p3)] below meth c s₁ [] 0 0 := Stand.of_body Bd
  have e0 : s₁.heap = h0 := by rw [← hh, Bd.state]; rfl
  have N0 := Fr.nil n0
  have pre0 : ∀ t, Steps p.tables e below (s₁.setTop (mkF m 0 #[.val (.int p1), .val (.ref a2), .val (.int p3), .unset] [])) t → Steps p.tables e below (s₁.setTop (entryFrame m #[(.int p1), (.ref a2), (.int p3)] 4)) t := fun t k => castTop (ef_w4 m p1 a2 p3) k
  have pr2 : ∀ t, Steps p.tables e below (s₁.setTop (mkF m 131 #[.val (.int p1), .val (.ref a2), .val (.int p3), .val (.int (p3 + (1 : Int32)))] [(.int (((240 : Int32) ||| (p1 >>> ((18 : Int32) &&& 31))).toInt8.toInt32)), (.int p3), (.ref a2)])) t → Steps p.tables e below (s₁.setTop (entryFrame m #[(.int p1), (.ref a2), (.int p3)] 4)) t := fun t kt => pre0 t (by
    show Steps p.tables e below (s₁.setTop (mkF m 0 #[.val (.int p1), .val (.ref a2), .val (.int p3), .unset] [])) _
    refine XS.iloadN X0.here hx rfl (hb hby d_w4_0) rfl ?_
    show Steps p.tables e below (s₁.setTop (mkF m 1 #[.val (.int p1), .val (.ref a2), .val (.int p3), .unset] [(.int p3)])) _
    refine XS.istoreN X0.here hx rfl (hb hby d_w4_1) rfl (l' := #[.val (.int p1), .val (.ref a2), .val (.int p3), .val (.int p3)]) rfl ?_
    show Steps p.tables e below (s₁.setTop (mkF m 2 #[.val (.int p1), .val (.ref a2), .val (.int p3), .val (.int p3)] [])) _
    refine XS.iloadN X0.here hx rfl (hb hby d_w4_2) rfl ?_
    show Steps p.tables e below (s₁.setTop (mkF m 3 #[.val (.int p1), .val (.ref a2), .val (.int p3), .val (.int p3)] [(.int p1)])) _
    refine XS.sipush X0.here hx rfl (hb hby d_w4_3) ?_
    show Steps p.tables e below (s₁.setTop (mkF m 6 #[.val (.int p1), .val (.ref a2), .val (.int p3), .val (.int p3)] [(.int (128 : Int32)), (.int p1)])) _
    refine XS.icmpYes X0.here hx rfl (pc0 := 6) (pc' := 20) rfl (hb hby d_w4_6) rfl (flt (r1 : ¬ (p1 < (128 : Int32)))).2.1 (by decide) (by decide) ?_
    show Steps p.tables e below (s₁.setTop (mkF m 20 #[.val (.int p1), .val (.ref a2), .val (.int p3), .val (.int p3)] [])) _
    refine XS.iloadN X0.here hx rfl (hb hby d_w4_20) rfl ?_
    show Steps p.tables e below (s₁.setTop (mkF m 21 #[.val (.int p1), .val (.ref a2), .val (.int p3), .val (.int p3)] [(.int p1)])) _
    refine XS.sipush X0.here hx rfl (hb hby d_w4_21) ?_
    show Steps p.tables e below (s₁.setTop (mkF m 24 #[.val (.int p1), .val (.ref a2), .val (.int p3), .val (.int p3)] [(.int (2048 : Int32)), (.int p1)])) _
    refine XS.icmpYes X0.here hx rfl (pc0 := 24) (pc' := 60) rfl (hb hby d_w4_24) rfl (flt (r2 : ¬ (p1 < (2048 : Int32)))).2.1 (by decide) (by decide) ?_
    show Steps p.tables e below (s₁.setTop (mkF m 60 #[.val (.int p1), .val (.ref a2), .val (.int p3), .val (.int p3)] [])) _
    refine XS.iloadN X0.here hx rfl (hb hby d_w4_60) rfl ?_
    show Steps p.tables e below (s₁.setTop (mkF m 61 #[.val (.int p1), .val (.ref a2), .val (.int p3), .val (.int p3)] [(.int p1)])) _
    refine X0.ldcInt hx hown (mvT hZ (hw _ (List.mem_of_getElem? (i := 22) rfl))) (g := (mkF m 61 #[.val (.int p1), .val (.ref a2), .val (.int p3), .val (.int p3)] [(.int p1)])) rfl (hb hby d_w4_61) _ ?_
    show Steps p.tables e below (s₁.setTop (mkF m 63 #[.val (.int p1), .val (.ref a2), .val (.int p3), .val (.int p3)] [(.int (65536 : Int32)), (.int p1)])) _
    refine XS.icmpYes X0.here hx rfl (pc0 := 63) (pc' := 117) rfl (hb hby d_w4_63) rfl (flt (r3 : ¬ (p1 < (65536 : Int32)))).2.1 (by decide) (by decide) ?_
    show Steps p.tables e below (s₁.setTop (mkF m 117 #[.val (.int p1), .val (.ref a2), .val (.int p3), .val (.int p3)] [])) _
    refine XS.aloadN X0.here hx rfl (hb hby d_w4_117) rfl rfl ?_
    show Steps p.tables e below (s₁.setTop (mkF m 118 #[.val (.int p1), .val (.ref a2), .val (.int p3), .val (.int p3)] [(.ref a2)])) _
    refine XS.iloadN X0.here hx rfl (hb hby d_w4_118) rfl ?_
    show Steps p.tables e below (s₁.setTop (mkF m 119 #[.val (.int p1), .val (.ref a2), .val (.int p3), .val (.int p3)] [(.int p3), (.ref a2)])) _
    refine XS.iinc X0.here hx rfl (hb hby d_w4_119) rfl (l' := #[.val (.int p1), .val (.ref a2), .val (.int p3), .val (.int (p3 + (1 : Int32)))]) rfl ?_
    show Steps p.tables e below (s₁.setTop (mkF m 122 #[.val (.int p1), .val (.ref a2), .val (.int p3), .val (.int (p3 + (1 : Int32)))] [(.int p3), (.ref a2)])) _
    refine XS.sipush X0.here hx rfl (hb hby d_w4_122) ?_
    show Steps p.tables e below (s₁.setTop (mkF m 125 #[.val (.int p1), .val (.ref a2), .val (.int p3), .val (.int (p3 + (1 : Int32)))] [(.int (240 : Int32)), (.int p3), (.ref a2)])) _
    refine XS.iloadN X0.here hx rfl (hb hby d_w4_125) rfl ?_
    show Steps p.tables e below (s₁.setTop (mkF m 126 #[.val (.int p1), .val (.ref a2), .val (.int p3), .val (.int (p3 + (1 : Int32)))] [(.int p1), (.int (240 : Int32)), (.int p3), (.ref a2)])) _
    refine XS.bipush X0.here hx rfl (hb hby d_w4_126) ?_
    show Steps p.tables e below (s₁.setTop (mkF m 128 #[.val (.int p1), .val (.ref a2), .val (.int p3), .val (.int (p3 + (1 : Int32)))] [(.int (18 : Int32)), (.int p1), (.int (240 : Int32)), (.int p3), (.ref a2)])) _
    refine XS.ishr X0.here hx rfl (hb hby d_w4_128) rfl ?_
    show Steps p.tables e below (s₁.setTop (mkF m 129 #[.val (.int p1), .val (.ref a2), .val (.int p3), .val (.int (p3 + (1 : Int32)))] [(.int (p1 >>> ((18 : Int32) &&& 31))), (.int (240 : Int32)), (.int p3), (.ref a2)])) _
    refine XS.ior X0.here hx rfl (hb hby d_w4_129) rfl ?_
    show Steps p.tables e below (s₁.setTop (mkF m 130 #[.val (.int p1), .val (.ref a2), .val (.int p3), .val (.int (p3 + (1 : Int32)))] [(.int ((240 : Int32) ||| (p1 >>> ((18 : Int32) &&& 31)))), (.int p3), (.ref a2)])) _
    refine XS.i2b X0.here hx rfl (hb hby d_w4_130) rfl ?_
    show Steps p.tables e below (s₁.setTop (mkF m 131 #[.val (.int p1), .val (.ref a2), .val (.int p3), .val (.int (p3 + (1 : Int32)))] [(.int (((240 : Int32) ||| (p1 >>> ((18 : Int32) &&& 31))).toInt8.toInt32)), (.int p3), (.ref a2)])) _
    exact kt)
  obtain ⟨T1, h1, X1, e1, V1, s1, st1⟩ := own_stB X0 hx hZ e0 V (j := p3) (own_ix0 hp) (f := (mkF m 131 #[.val (.int p1), .val (.ref a2), .val (.int p3), .val (.int (p3 + (1 : Int32)))] [(.int (((240 : Int32) ||| (p1 >>> ((18 : Int32) &&& 31))).toInt8.toInt32)), (.int p3), (.ref a2)])) rfl rfl (hb hby d_w4_131)
  have N1 := Fr.snoc X1 N0 ga
  have Z1 : n0 ≤ h1.size := Nat.le_trans Z0 s1
  have pr4 : ∀ t, Steps p.tables e below (T1.setTop (mkF m 149 #[.val (.int p1), .val (.ref a2), .val (.int p3), .val (.int ((p3 + (1 : Int32)) + (1 : Int32)))] [(.int (((128 : Int32) ||| ((p1 >>> ((12 : Int32) &&& 31)) &&& (63 : Int32))).toInt8.toInt32)), (.int (p3 + (1 : Int32))), (.ref a2)])) t → Steps p.tables e below (s₁.setTop (entryFrame m #[(.int p1), (.ref a2), (.int p3)] 4)) t := fun t kt => pr2 t (by
    refine st1 _ ?_
    show Steps p.tables e below (T1.setTop (mkF m 132 #[.val (.int p1), .val (.ref a2), .val (.int p3), .val (.int (p3 + (1 : Int32)))] [])) _
    refine XS.aloadN X1.here hx rfl (hb hby d_w4_132) rfl rfl ?_
    show Steps p.tables e below (T1.setTop (mkF m 133 #[.val (.int p1), .val (.ref a2), .val (.int p3), .val (.int (p3 + (1 : Int32)))] [(.ref a2)])) _
    refine XS.iloadN X1.here hx rfl (hb hby d_w4_133) rfl ?_
    show Steps p.tables e below (T1.setTop (mkF m 134 #[.val (.int p1), .val (.ref a2), .val (.int p3), .val (.int (p3 + (1 : Int32)))] [(.int (p3 + (1 : Int32))), (.ref a2)])) _
    refine XS.iinc X1.here hx rfl (hb hby d_w4_134) rfl (l' := #[.val (.int p1), .val (.ref a2), .val (.int p3), .val (.int ((p3 + (1 : Int32)) + (1 : Int32)))]) rfl ?_
    show Steps p.tables e below (T1.setTop (mkF m 137 #[.val (.int p1), .val (.ref a2), .val (.int p3), .val (.int ((p3 + (1 : Int32)) + (1 : Int32)))] [(.int (p3 + (1 : Int32))), (.ref a2)])) _
    refine XS.sipush X1.here hx rfl (hb hby d_w4_137) ?_
    show Steps p.tables e below (T1.setTop (mkF m 140 #[.val (.int p1), .val (.ref a2), .val (.int p3), .val (.int ((p3 + (1 : Int32)) + (1 : Int32)))] [(.int (128 : Int32)), (.int (p3 + (1 : Int32))), (.ref a2)])) _
    refine XS.iloadN X1.here hx rfl (hb hby d_w4_140) rfl ?_
    show Steps p.tables e below (T1.setTop (mkF m 141 #[.val (.int p1), .val (.ref a2), .val (.int p3), .val (.int ((p3 + (1 : Int32)) + (1 : Int32)))] [(.int p1), (.int (128 : Int32)), (.int (p3 + (1 : Int32))), (.ref a2)])) _
    refine XS.bipush X1.here hx rfl (hb hby d_w4_141) ?_
    show Steps p.tables e below (T1.setTop (mkF m 143 #[.val (.int p1), .val (.ref a2), .val (.int p3), .val (.int ((p3 + (1 : Int32)) + (1 : Int32)))] [(.int (12 : Int32)), (.int p1), (.int (128 : Int32)), (.int (p3 + (1 : Int32))), (.ref a2)])) _
    refine XS.ishr X1.here hx rfl (hb hby d_w4_143) rfl ?_
    show Steps p.tables e below (T1.setTop (mkF m 144 #[.val (.int p1), .val (.ref a2), .val (.int p3), .val (.int ((p3 + (1 : Int32)) + (1 : Int32)))] [(.int (p1 >>> ((12 : Int32) &&& 31))), (.int (128 : Int32)), (.int (p3 + (1 : Int32))), (.ref a2)])) _
    refine XS.bipush X1.here hx rfl (hb hby d_w4_144) ?_
    show Steps p.tables e below (T1.setTop (mkF m 146 #[.val (.int p1), .val (.ref a2), .val (.int p3), .val (.int ((p3 + (1 : Int32)) + (1 : Int32)))] [(.int (63 : Int32)), (.int (p1 >>> ((12 : Int32) &&& 31))), (.int (128 : Int32)), (.int (p3 + (1 : Int32))), (.ref a2)])) _
    refine XS.iand X1.here hx rfl (hb hby d_w4_146) rfl ?_
    show Steps p.tables e below (T1.setTop (mkF m 147 #[.val (.int p1), .val (.ref a2), .val (.int p3), .val (.int ((p3 + (1 : Int32)) + (1 : Int32)))] [(.int ((p1 >>> ((12 : Int32) &&& 31)) &&& (63 : Int32))), (.int (128 : Int32)), (.int (p3 + (1 : Int32))), (.ref a2)])) _
    refine XS.ior X1.here hx rfl (hb hby d_w4_147) rfl ?_
    show Steps p.tables e below (T1.setTop (mkF m 148 #[.val (.int p1), .val (.ref a2), .val (.int p3), .val (.int ((p3 + (1 : Int32)) + (1 : Int32)))] [(.int ((128 : Int32) ||| ((p1 >>> ((12 : Int32) &&& 31)) &&& (63 : Int32)))), (.int (p3 + (1 : Int32))), (.ref a2)])) _
    refine XS.i2b X1.here hx rfl (hb hby d_w4_148) rfl ?_
    show Steps p.tables e below (T1.setTop (mkF m 149 #[.val (.int p1), .val (.ref a2), .val (.int p3), .val (.int ((p3 + (1 : Int32)) + (1 : Int32)))] [(.int (((128 : Int32) ||| ((p1 >>> ((12 : Int32) &&& 31)) &&& (63 : Int32))).toInt8.toInt32)), (.int (p3 + (1 : Int32))), (.ref a2)])) _
    exact kt)
  obtain ⟨T3, h3, X3, e3, V3, s3, st3⟩ := own_stB X1 hx hZ e1 V1 (j := (p3 + (1 : Int32))) (own_ix1 hp) (f := (mkF m 149 #[.val (.int p1), .val (.ref a2), .val (.int p3), .val (.int ((p3 + (1 : Int32)) + (1 : Int32)))] [(.int (((128 : Int32) ||| ((p1 >>> ((12 : Int32) &&& 31)) &&& (63 : Int32))).toInt8.toInt32)), (.int (p3 + (1 : Int32))), (.ref a2)])) rfl rfl (hb hby d_w4_149)
  have N3 := Fr.snoc X3 N1 ga
  have Z3 : n0 ≤ h3.size := Nat.le_trans Z1 s3
  have pr6 : ∀ t, Steps p.tables e below (T3.setTop (mkF m 167 #[.val (.int p1), .val (.ref a2), .val (.int p3), .val (.int (((p3 + (1 : Int32)) + (1 : Int32)) + (1 : Int32)))] [(.int (((128 : Int32) ||| ((p1 >>> ((6 : Int32) &&& 31)) &&& (63 : Int32))).toInt8.toInt32)), (.int ((p3 + (1 : Int32)) + (1 : Int32))), (.ref a2)])) t → Steps p.tables e below (s₁.setTop (entryFrame m #[(.int p1), (.ref a2), (.int p3)] 4)) t := fun t kt => pr4 t (by
    refine st3 _ ?_
    show Steps p.tables e below (T3.setTop (mkF m 150 #[.val (.int p1), .val (.ref a2), .val (.int p3), .val (.int ((p3 + (1 : Int32)) + (1 : Int32)))] [])) _
    refine XS.aloadN X3.here hx rfl (hb hby d_w4_150) rfl rfl ?_
    show Steps p.tables e below (T3.setTop (mkF m 151 #[.val (.int p1), .val (.ref a2), .val (.int p3), .val (.int ((p3 + (1 : Int32)) + (1 : Int32)))] [(.ref a2)])) _
    refine XS.iloadN X3.here hx rfl (hb hby d_w4_151) rfl ?_
    show Steps p.tables e below (T3.setTop (mkF m 152 #[.val (.int p1), .val (.ref a2), .val (.int p3), .val (.int ((p3 + (1 : Int32)) + (1 : Int32)))] [(.int ((p3 + (1 : Int32)) + (1 : Int32))), (.ref a2)])) _
    refine XS.iinc X3.here hx rfl (hb hby d_w4_152) rfl (l' := #[.val (.int p1), .val (.ref a2), .val (.int p3), .val (.int (((p3 + (1 : Int32)) + (1 : Int32)) + (1 : Int32)))]) rfl ?_
    show Steps p.tables e below (T3.setTop (mkF m 155 #[.val (.int p1), .val (.ref a2), .val (.int p3), .val (.int (((p3 + (1 : Int32)) + (1 : Int32)) + (1 : Int32)))] [(.int ((p3 + (1 : Int32)) + (1 : Int32))), (.ref a2)])) _
    refine XS.sipush X3.here hx rfl (hb hby d_w4_155) ?_
    show Steps p.tables e below (T3.setTop (mkF m 158 #[.val (.int p1), .val (.ref a2), .val (.int p3), .val (.int (((p3 + (1 : Int32)) + (1 : Int32)) + (1 : Int32)))] [(.int (128 : Int32)), (.int ((p3 + (1 : Int32)) + (1 : Int32))), (.ref a2)])) _
    refine XS.iloadN X3.here hx rfl (hb hby d_w4_158) rfl ?_
    show Steps p.tables e below (T3.setTop (mkF m 159 #[.val (.int p1), .val (.ref a2), .val (.int p3), .val (.int (((p3 + (1 : Int32)) + (1 : Int32)) + (1 : Int32)))] [(.int p1), (.int (128 : Int32)), (.int ((p3 + (1 : Int32)) + (1 : Int32))), (.ref a2)])) _
    refine XS.bipush X3.here hx rfl (hb hby d_w4_159) ?_
    show Steps p.tables e below (T3.setTop (mkF m 161 #[.val (.int p1), .val (.ref a2), .val (.int p3), .val (.int (((p3 + (1 : Int32)) + (1 : Int32)) + (1 : Int32)))] [(.int (6 : Int32)), (.int p1), (.int (128 : Int32)), (.int ((p3 + (1 : Int32)) + (1 : Int32))), (.ref a2)])) _
    refine XS.ishr X3.here hx rfl (hb hby d_w4_161) rfl ?_
    show Steps p.tables e below (T3.setTop (mkF m 162 #[.val (.int p1), .val (.ref a2), .val (.int p3), .val (.int (((p3 + (1 : Int32)) + (1 : Int32)) + (1 : Int32)))] [(.int (p1 >>> ((6 : Int32) &&& 31))), (.int (128 : Int32)), (.int ((p3 + (1 : Int32)) + (1 : Int32))), (.ref a2)])) _
    refine XS.bipush X3.here hx rfl (hb hby d_w4_162) ?_
    show Steps p.tables e below (T3.setTop (mkF m 164 #[.val (.int p1), .val (.ref a2), .val (.int p3), .val (.int (((p3 + (1 : Int32)) + (1 : Int32)) + (1 : Int32)))] [(.int (63 : Int32)), (.int (p1 >>> ((6 : Int32) &&& 31))), (.int (128 : Int32)), (.int ((p3 + (1 : Int32)) + (1 : Int32))), (.ref a2)])) _
    refine XS.iand X3.here hx rfl (hb hby d_w4_164) rfl ?_
    show Steps p.tables e below (T3.setTop (mkF m 165 #[.val (.int p1), .val (.ref a2), .val (.int p3), .val (.int (((p3 + (1 : Int32)) + (1 : Int32)) + (1 : Int32)))] [(.int ((p1 >>> ((6 : Int32) &&& 31)) &&& (63 : Int32))), (.int (128 : Int32)), (.int ((p3 + (1 : Int32)) + (1 : Int32))), (.ref a2)])) _
    refine XS.ior X3.here hx rfl (hb hby d_w4_165) rfl ?_
    show Steps p.tables e below (T3.setTop (mkF m 166 #[.val (.int p1), .val (.ref a2), .val (.int p3), .val (.int (((p3 + (1 : Int32)) + (1 : Int32)) + (1 : Int32)))] [(.int ((128 : Int32) ||| ((p1 >>> ((6 : Int32) &&& 31)) &&& (63 : Int32)))), (.int ((p3 + (1 : Int32)) + (1 : Int32))), (.ref a2)])) _
    refine XS.i2b X3.here hx rfl (hb hby d_w4_166) rfl ?_
    show Steps p.tables e below (T3.setTop (mkF m 167 #[.val (.int p1), .val (.ref a2), .val (.int p3), .val (.int (((p3 + (1 : Int32)) + (1 : Int32)) + (1 : Int32)))] [(.int (((128 : Int32) ||| ((p1 >>> ((6 : Int32) &&& 31)) &&& (63 : Int32))).toInt8.toInt32)), (.int ((p3 + (1 : Int32)) + (1 : Int32))), (.ref a2)])) _
    exact kt)
  obtain ⟨T5, h5, X5, e5, V5, s5, st5⟩ := own_stB X3 hx hZ e3 V3 (j := ((p3 + (1 : Int32)) + (1 : Int32))) (own_ix2 hp) (f := (mkF m 167 #[.val (.int p1), .val (.ref a2), .val (.int p3), .val (.int (((p3 + (1 : Int32)) + (1 : Int32)) + (1 : Int32)))] [(.int (((128 : Int32) ||| ((p1 >>> ((6 : Int32) &&& 31)) &&& (63 : Int32))).toInt8.toInt32)), (.int ((p3 + (1 : Int32)) + (1 : Int32))), (.ref a2)])) rfl rfl (hb hby d_w4_167)
  have N5 := Fr.snoc X5 N3 ga
  have Z5 : n0 ≤ h5.size := Nat.le_trans Z3 s5
  have pr8 : ∀ t, Steps p.tables e below (T5.setTop (mkF m 182 #[.val (.int p1), .val (.ref a2), .val (.int p3), .val (.int ((((p3 + (1 : Int32)) + (1 : Int32)) + (1 : Int32)) + (1 : Int32)))] [(.int (((128 : Int32) ||| (p1 &&& (63 : Int32))).toInt8.toInt32)), (.int (((p3 + (1 : Int32)) + (1 : Int32)) + (1 : Int32))), (.ref a2)])) t → Steps p.tables e below (s₁.setTop (entryFrame m #[(.int p1), (.ref a2), (.int p3)] 4)) t := fun t kt => pr6 t (by
    refine st5 _ ?_
    show Steps p.tables e below (T5.setTop (mkF m 168 #[.val (.int p1), .val (.ref a2), .val (.int p3), .val (.int (((p3 + (1 : Int32)) + (1 : Int32)) + (1 : Int32)))] [])) _
    refine XS.aloadN X5.here hx rfl (hb hby d_w4_168) rfl rfl ?_
    show Steps p.tables e below (T5.setTop (mkF m 169 #[.val (.int p1), .val (.ref a2), .val (.int p3), .val (.int (((p3 + (1 : Int32)) + (1 : Int32)) + (1 : Int32)))] [(.ref a2)])) _
    refine XS.iloadN X5.here hx rfl (hb hby d_w4_169) rfl ?_
    show Steps p.tables e below (T5.setTop (mkF m 170 #[.val (.int p1), .val (.ref a2), .val (.int p3), .val (.int (((p3 + (1 : Int32)) + (1 : Int32)) + (1 : Int32)))] [(.int (((p3 + (1 : Int32)) + (1 : Int32)) + (1 : Int32))), (.ref a2)])) _
    refine XS.iinc X5.here hx rfl (hb hby d_w4_170) rfl (l' := #[.val (.int p1), .val (.ref a2), .val (.int p3), .val (.int ((((p3 + (1 : Int32)) + (1 : Int32)) + (1 : Int32)) + (1 : Int32)))]) rfl ?_
    show Steps p.tables e below (T5.setTop (mkF m 173 #[.val (.int p1), .val (.ref a2), .val (.int p3), .val (.int ((((p3 + (1 : Int32)) + (1 : Int32)) + (1 : Int32)) + (1 : Int32)))] [(.int (((p3 + (1 : Int32)) + (1 : Int32)) + (1 : Int32))), (.ref a2)])) _
    refine XS.sipush X5.here hx rfl (hb hby d_w4_173) ?_
    show Steps p.tables e below (T5.setTop (mkF m 176 #[.val (.int p1), .val (.ref a2), .val (.int p3), .val (.int ((((p3 + (1 : Int32)) + (1 : Int32)) + (1 : Int32)) + (1 : Int32)))] [(.int (128 : Int32)), (.int (((p3 + (1 : Int32)) + (1 : Int32)) + (1 : Int32))), (.ref a2)])) _
    refine XS.iloadN X5.here hx rfl (hb hby d_w4_176) rfl ?_
    show Steps p.tables e below (T5.setTop (mkF m 177 #[.val (.int p1), .val (.ref a2), .val (.int p3), .val (.int ((((p3 + (1 : Int32)) + (1 : Int32)) + (1 : Int32)) + (1 : Int32)))] [(.int p1), (.int (128 : Int32)), (.int (((p3 + (1 : Int32)) + (1 : Int32)) + (1 : Int32))), (.ref a2)])) _
    refine XS.bipush X5.here hx rfl (hb hby d_w4_177) ?_
    show Steps p.tables e below (T5.setTop (mkF m 179 #[.val (.int p1), .val (.ref a2), .val (.int p3), .val (.int ((((p3 + (1 : Int32)) + (1 : Int32)) + (1 : Int32)) + (1 : Int32)))] [(.int (63 : Int32)), (.int p1), (.int (128 : Int32)), (.int (((p3 + (1 : Int32)) + (1 : Int32)) + (1 : Int32))), (.ref a2)])) _
    refine XS.iand X5.here hx rfl (hb hby d_w4_179) rfl ?_
    show Steps p.tables e below (T5.setTop (mkF m 180 #[.val (.int p1), .val (.ref a2), .val (.int p3), .val (.int ((((p3 + (1 : Int32)) + (1 : Int32)) + (1 : Int32)) + (1 : Int32)))] [(.int (p1 &&& (63 : Int32))), (.int (128 : Int32)), (.int (((p3 + (1 : Int32)) + (1 : Int32)) + (1 : Int32))), (.ref a2)])) _
    refine XS.ior X5.here hx rfl (hb hby d_w4_180) rfl ?_
    show Steps p.tables e below (T5.setTop (mkF m 181 #[.val (.int p1), .val (.ref a2), .val (.int p3), .val (.int ((((p3 + (1 : Int32)) + (1 : Int32)) + (1 : Int32)) + (1 : Int32)))] [(.int ((128 : Int32) ||| (p1 &&& (63 : Int32)))), (.int (((p3 + (1 : Int32)) + (1 : Int32)) + (1 : Int32))), (.ref a2)])) _
    refine XS.i2b X5.here hx rfl (hb hby d_w4_181) rfl ?_
    show Steps p.tables e below (T5.setTop (mkF m 182 #[.val (.int p1), .val (.ref a2), .val (.int p3), .val (.int ((((p3 + (1 : Int32)) + (1 : Int32)) + (1 : Int32)) + (1 : Int32)))] [(.int (((128 : Int32) ||| (p1 &&& (63 : Int32))).toInt8.toInt32)), (.int (((p3 + (1 : Int32)) + (1 : Int32)) + (1 : Int32))), (.ref a2)])) _
    exact kt)
  obtain ⟨T7, h7, X7, e7, V7, s7, st7⟩ := own_stB X5 hx hZ e5 V5 (j := (((p3 + (1 : Int32)) + (1 : Int32)) + (1 : Int32))) (own_ix3 hp) (f := (mkF m 182 #[.val (.int p1), .val (.ref a2), .val (.int p3), .val (.int ((((p3 + (1 : Int32)) + (1 : Int32)) + (1 : Int32)) + (1 : Int32)))] [(.int (((128 : Int32) ||| (p1 &&& (63 : Int32))).toInt8.toInt32)), (.int (((p3 + (1 : Int32)) + (1 : Int32)) + (1 : Int32))), (.ref a2)])) rfl rfl (hb hby d_w4_182)
  have N7 := Fr.snoc X7 N5 ga
  have Z7 : n0 ≤ h7.size := Nat.le_trans Z5 s7
  obtain ⟨fs, hr, hrun, hended, hW, hsame⟩ := X7.leave (v := some (.int ((((p3 + (1 : Int32)) + (1 : Int32)) + (1 : Int32)) + (1 : Int32)))) (fun h => by rw [Bd.returns] at h; cases h)
  refine ⟨_, _, pr8 _ ?_, hrun, hended, _, _, rfl, ?_, ⟨_, rfl⟩, hW, hsame.mono (by decide) (by decide)⟩
  · refine st7 _ ?_
    show Steps p.tables e below (T7.setTop (mkF m 183 #[.val (.int p1), .val (.ref a2), .val (.int p3), .val (.int ((((p3 + (1 : Int32)) + (1 : Int32)) + (1 : Int32)) + (1 : Int32)))] [])) _
    refine XS.iloadN X7.here hx rfl (hb hby d_w4_183) rfl ?_
    show Steps p.tables e below (T7.setTop (mkF m 184 #[.val (.int p1), .val (.ref a2), .val (.int p3), .val (.int ((((p3 + (1 : Int32)) + (1 : Int32)) + (1 : Int32)) + (1 : Int32)))] [(.int ((((p3 + (1 : Int32)) + (1 : Int32)) + (1 : Int32)) + (1 : Int32)))])) _
    exact retI X7 hx Bd.returns (hb hby d_w4_184) hr
  · show Q_w4 Z p1 a2 p3 g h0 n0 _ T7.heap _
    rw [e7]
    exact ⟨rfl, N7, V7, (Nat.le_trans (Nat.le_trans (Nat.le_trans s1 s3) s5) s7)⟩
theorem d_kt_0 : decode method_2_code 0 = .ok (.iload_n 1, 1) := by decide +kernel
theorem d_kt_1 : decode method_2_code 1 = .ok (.iload_n 2, 1) := by decide +kernel
theorem d_kt_2 : decode method_2_code 2 = .ok (.if_icmp .lt 8, 3) := by decide +kernel
theorem d_kt_5 : decode method_2_code 5 = .ok (.iload_n 1, 1) := by decide +kernel
theorem d_kt_6 : decode method_2_code 6 = .ok (.iload_n 3, 1) := by decide +kernel
theorem d_kt_7 : decode method_2_code 7 = .ok (.if_icmp .lt 19, 3) := by decide +kernel
theorem d_kt_10 : decode method_2_code 10 = .ok (.aload_n 0, 1) := by decide +kernel
theorem d_kt_11 : decode method_2_code 11 = .ok (.iload_n 1, 1) := by decide +kernel
theorem d_kt_12 : decode method_2_code 12 = .ok (.baload, 1) := by decide +kernel
theorem d_kt_13 : decode method_2_code 13 = .ok (.iload 4, 2) := by decide +kernel
theorem d_kt_15 : decode method_2_code 15 = .ok (.if_icmp .ne 7, 3) := by decide +kernel
theorem d_kt_18 : decode method_2_code 18 = .ok (.iconst 1, 1) := by decide +kernel
theorem d_kt_19 : decode method_2_code 19 = .ok (.goto 8, 3) := by decide +kernel
theorem d_kt_26 : decode method_2_code 26 = .ok (.iconst 1, 1) := by decide +kernel
theorem d_kt_27 : decode method_2_code 27 = .ok (.ireturn, 1) := by decide +kernel
theorem pn_kt : plainName "com/example/nuthatch/nuthatch/Utf8WritePinLaw" = true := by first | (simp [plainName, overriddenIn]; done) | decide +kernel
theorem ef_kt (m : MethodId) (a1 : Addr) (p2 : Int32) (p3 : Int32) (p4 : Int32) (p5 : Int32) : entryFrame m #[(.ref a1), (.int p2), (.int p3), (.int p4), (.int p5)] 5 = mkF m 0 #[.val (.ref a1), .val (.int p2), .val (.int p3), .val (.int p4), .val (.int p5)] [] := by first | (simp [entryFrame, mkF, argsToLocals, Value.category]; done) | rfl
def Q_kt (Z : State) (a1 : Addr) (p2 : Int32) (p3 : Int32) (p4 : Int32) (p5 : Int32) (g : Int32 → Int32) (h0 : Heap) (n0 : Nat) (v : Option Value) (h : Heap) (L : List Loc) : Prop := v = some (.int (1 : Int32)) ∧ Fr n0 L ∧ h = h0
set_option maxRecDepth 65536 in
set_option maxHeartbeats 40000000 in
theorem rm_kt (l : Launch) (Z : State) (a0 : Array Value) (hw : ∀ d ∈ tables_1, d.before a0 Z = true) (ws : List Jvm.Cond) (a1 : Addr) (p2 : Int32) (p3 : Int32) (p4 : Int32) (p5 : Int32) (g : Int32 → Int32) (h0 : Heap) (n0 : Nat) (Z0 : n0 ≤ h0.size) (V : own_B Z h0 a1 g) (hi : ¬ p2 < 0 ∧ p2 < 8) (hk : (p2 < p3 ∨ ¬ p2 < p4) → g p2 = p5) :
    MetFree l (⟨"com/example/nuthatch/nuthatch/Utf8WritePinLaw", "kept", "([BIIIB)Z"⟩ : MethodName) (head1 (Jvm.Cond.code (⟨"com/example/nuthatch/nuthatch/Utf8WritePinLaw", "kept", "([BIIIB)Z"⟩ : MethodName) method_2_code 5 (some .boolean) :: ws) ({ frames := 0, cells := 0, slots := 0, locals := 0 } : Room)) (fun a U => a = #[(.ref a1), (.int p2), (.int p3), (.int p4), (.int p5)] ∧ Z.Warmed39 U.vm ∧ U.heap = h0) (fun _ _ _ _ _ => True) (fun _ U o U' => ∃ v L, o = .returned v ∧ Q_kt Z a1 p2 p3 p4 p5 g h0 n0 v U'.heap L ∧ FrameEnd U o U' L ({ frames := 0, cells := 0, slots := 0, locals := 0 } : Room).cells ({ frames := 0, cells := 0, slots := 0, locals := 0 } : Room).slots) := by
  refine MetFree.of_bodySF (plainFor_of_name pn_kt) hisR ?_
  intro p e s m args below meth c s₁ Bd hml0 hP hK
  obtain ⟨rfl, hZ, hh⟩ := hP
  have hx := Bd.exec
  have hby := Bd.bytes
  have hml : c.maxLocals = 5 := hml0
  have hown : s.vm.findClass "com/example/nuthatch/nuthatch/Utf8WritePinLaw" = some m.cls := findClass_of_methodNamed Bd.named
  have hnm := (name_of_methodNamed Bd.named Bd.method).1
  have X0 : Stand p l e ({ frames := 0, cells := 0, slots := 0, locals := 0 } : Room) s m #[(.ref a1), (.int p2), (.int p3), (.int p4), (.int p5)] below meth c s₁ [] 0 0 := Stand.of_body Bd
  have e0 : s₁.heap = h0 := by rw [← hh, Bd.state]; rfl
  have N0 := Fr.nil n0
  have pre0 : ∀ t, Steps p.tables e below (s₁.setTop (mkF m 0 #[.val (.ref a1), .val (.int p2), .val (.int p3), .val (.int p4), .val (.int p5)] [])) t → Steps p.tables e below (s₁.setTop (entryFrame m #[(.ref a1), (.int p2), (.int p3), (.int p4), (.int p5)] 5)) t := fun t k => castTop (ef_kt m a1 p2 p3 p4 p5) k
  obtain ⟨cl, Ar, Sz, Hs⟩ := V
  have pr2 : ∀ t, Steps p.tables e below (s₁.setTop (mkF m 2 #[.val (.ref a1), .val (.int p2), .val (.int p3), .val (.int p4), .val (.int p5)] [(.int p3), (.int p2)])) t → Steps p.tables e below (s₁.setTop (entryFrame m #[(.ref a1), (.int p2), (.int p3), (.int p4), (.int p5)] 5)) t := fun t kt => pre0 t (by
    show Steps p.tables e below (s₁.setTop (mkF m 0 #[.val (.ref a1), .val (.int p2), .val (.int p3), .val (.int p4), .val (.int p5)] [])) _
    refine XS.iloadN X0.here hx rfl (hb hby d_kt_0) rfl ?_
    show Steps p.tables e below (s₁.setTop (mkF m 1 #[.val (.ref a1), .val (.int p2), .val (.int p3), .val (.int p4), .val (.int p5)] [(.int p2)])) _
    refine XS.iloadN X0.here hx rfl (hb hby d_kt_1) rfl ?_
    exact kt)
  by_cases hc2_1 : p2 < p3
  · obtain ⟨fs, hr, hrun, hended, hW, hsame⟩ := X0.leave (v := some (.int (nar .boolean (1 : Int32)))) (fun h => by rw [Bd.returns] at h; cases h)
    refine ⟨_, _, pr2 _ ?_, hrun, hended, _, _, rfl, ?_, ⟨_, rfl⟩, hW, hsame.mono (by decide) (by decide)⟩
    · show Steps p.tables e below (s₁.setTop (mkF m 2 #[.val (.ref a1), .val (.int p2), .val (.int p3), .val (.int p4), .val (.int p5)] [(.int p3), (.int p2)])) _
      refine XS.icmpYes X0.here hx rfl (pc0 := 2) (pc' := 10) rfl (hb hby d_kt_2) rfl (tlt hc2_1).1 (by decide) (by decide) ?_
      show Steps p.tables e below (s₁.setTop (mkF m 10 #[.val (.ref a1), .val (.int p2), .val (.int p3), .val (.int p4), .val (.int p5)] [])) _
      refine XS.aloadN X0.here hx rfl (hb hby d_kt_10) rfl rfl ?_
      show Steps p.tables e below (s₁.setTop (mkF m 11 #[.val (.ref a1), .val (.int p2), .val (.int p3), .val (.int p4), .val (.int p5)] [(.ref a1)])) _
      refine XS.iloadN X0.here hx rfl (hb hby d_kt_11) rfl ?_
      show Steps p.tables e below (s₁.setTop (mkF m 12 #[.val (.ref a1), .val (.int p2), .val (.int p3), .val (.int p4), .val (.int p5)] [(.int p2), (.ref a1)])) _
      refine X0.baloadBytes hx (j := p2) (v := (.int (g p2))) (by rw [e0]; exact Ar.1) (State.isArrayOf_alike hZ.alike Ar.2.1) Ar.2.2 (own_in Sz hi) (Hs p2 hi.1 hi.2) (g := (mkF m 12 #[.val (.ref a1), .val (.int p2), .val (.int p3), .val (.int p4), .val (.int p5)] [(.int p2), (.ref a1)])) rfl rfl (hb hby d_kt_12) _ ?_
      show Steps p.tables e below (s₁.setTop (mkF m 13 #[.val (.ref a1), .val (.int p2), .val (.int p3), .val (.int p4), .val (.int p5)] [(.int (g p2))])) _
      refine XS.iload X0.here hx rfl (hb hby d_kt_13) rfl ?_
      show Steps p.tables e below (s₁.setTop (mkF m 15 #[.val (.ref a1), .val (.int p2), .val (.int p3), .val (.int p4), .val (.int p5)] [(.int p5), (.int (g p2))])) _
      refine XS.icmpNo X0.here hx rfl (hb hby d_kt_15) rfl (teq (hk (Or.inl hc2_1) : (g p2) = p5)).2 ?_
      show Steps p.tables e below (s₁.setTop (mkF m 18 #[.val (.ref a1), .val (.int p2), .val (.int p3), .val (.int p4), .val (.int p5)] [])) _
      refine XS.iconst X0.here hx rfl (hb hby d_kt_18) ?_
      show Steps p.tables e below (s₁.setTop (mkF m 19 #[.val (.ref a1), .val (.int p2), .val (.int p3), .val (.int p4), .val (.int p5)] [(.int (1 : Int32))])) _
      refine XS.goto X0.here hx rfl (pc0 := 19) (pc' := 27) rfl (hb hby d_kt_19) (by decide) (by decide) ?_
      show Steps p.tables e below (s₁.setTop (mkF m 27 #[.val (.ref a1), .val (.int p2), .val (.int p3), .val (.int p4), .val (.int p5)] [(.int (1 : Int32))])) _
      exact retN X0 hx (t := .boolean) Bd.returns (by simp) (hb hby d_kt_27) hr
    · show Q_kt Z a1 p2 p3 p4 p5 g h0 n0 _ s₁.heap _
      rw [e0]
      exact ⟨(congrArg (fun zz => some (Value.int zz)) (by rfl : nar .boolean (1 : Int32) = (1 : Int32))), N0, rfl⟩
  · have pr4 : ∀ t, Steps p.tables e below (s₁.setTop (mkF m 7 #[.val (.ref a1), .val (.int p2), .val (.int p3), .val (.int p4), .val (.int p5)] [(.int p4), (.int p2)])) t → Steps p.tables e below (s₁.setTop (entryFrame m #[(.ref a1), (.int p2), (.int p3), (.int p4), (.int p5)] 5)) t := fun t kt => pr2 t (by
      show Steps p.tables e below (s₁.setTop (mkF m 2 #[.val (.ref a1), .val (.int p2), .val (.int p3), .val (.int p4), .val (.int p5)] [(.int p3), (.int p2)])) _
      refine XS.icmpNo X0.here hx rfl (hb hby d_kt_2) rfl (flt hc2_1).1 ?_
      show Steps p.tables e below (s₁.setTop (mkF m 5 #[.val (.ref a1), .val (.int p2), .val (.int p3), .val (.int p4), .val (.int p5)] [])) _
      refine XS.iloadN X0.here hx rfl (hb hby d_kt_5) rfl ?_
      show Steps p.tables e below (s₁.setTop (mkF m 6 #[.val (.ref a1), .val (.int p2), .val (.int p3), .val (.int p4), .val (.int p5)] [(.int p2)])) _
      refine XS.iloadN X0.here hx rfl (hb hby d_kt_6) rfl ?_
      exact kt)
    by_cases hc7_3 : p2 < p4
    · obtain ⟨fs, hr, hrun, hended, hW, hsame⟩ := X0.leave (v := some (.int (nar .boolean (1 : Int32)))) (fun h => by rw [Bd.returns] at h; cases h)
      refine ⟨_, _, pr4 _ ?_, hrun, hended, _, _, rfl, ?_, ⟨_, rfl⟩, hW, hsame.mono (by decide) (by decide)⟩
      · show Steps p.tables e below (s₁.setTop (mkF m 7 #[.val (.ref a1), .val (.int p2), .val (.int p3), .val (.int p4), .val (.int p5)] [(.int p4), (.int p2)])) _
        refine XS.icmpYes X0.here hx rfl (pc0 := 7) (pc' := 26) rfl (hb hby d_kt_7) rfl (tlt hc7_3).1 (by decide) (by decide) ?_
        show Steps p.tables e below (s₁.setTop (mkF m 26 #[.val (.ref a1), .val (.int p2), .val (.int p3), .val (.int p4), .val (.int p5)] [])) _
        refine XS.iconst X0.here hx rfl (hb hby d_kt_26) ?_
        show Steps p.tables e below (s₁.setTop (mkF m 27 #[.val (.ref a1), .val (.int p2), .val (.int p3), .val (.int p4), .val (.int p5)] [(.int (1 : Int32))])) _
        exact retN X0 hx (t := .boolean) Bd.returns (by simp) (hb hby d_kt_27) hr
      · show Q_kt Z a1 p2 p3 p4 p5 g h0 n0 _ s₁.heap _
        rw [e0]
        exact ⟨(congrArg (fun zz => some (Value.int zz)) (by rfl : nar .boolean (1 : Int32) = (1 : Int32))), N0, rfl⟩
    · obtain ⟨fs, hr, hrun, hended, hW, hsame⟩ := X0.leave (v := some (.int (nar .boolean (1 : Int32)))) (fun h => by rw [Bd.returns] at h; cases h)
      refine ⟨_, _, pr4 _ ?_, hrun, hended, _, _, rfl, ?_, ⟨_, rfl⟩, hW, hsame.mono (by decide) (by decide)⟩
      · show Steps p.tables e below (s₁.setTop (mkF m 7 #[.val (.ref a1), .val (.int p2), .val (.int p3), .val (.int p4), .val (.int p5)] [(.int p4), (.int p2)])) _
        refine XS.icmpNo X0.here hx rfl (hb hby d_kt_7) rfl (flt hc7_3).1 ?_
        show Steps p.tables e below (s₁.setTop (mkF m 10 #[.val (.ref a1), .val (.int p2), .val (.int p3), .val (.int p4), .val (.int p5)] [])) _
        refine XS.aloadN X0.here hx rfl (hb hby d_kt_10) rfl rfl ?_
        show Steps p.tables e below (s₁.setTop (mkF m 11 #[.val (.ref a1), .val (.int p2), .val (.int p3), .val (.int p4), .val (.int p5)] [(.ref a1)])) _
        refine XS.iloadN X0.here hx rfl (hb hby d_kt_11) rfl ?_
        show Steps p.tables e below (s₁.setTop (mkF m 12 #[.val (.ref a1), .val (.int p2), .val (.int p3), .val (.int p4), .val (.int p5)] [(.int p2), (.ref a1)])) _
        refine X0.baloadBytes hx (j := p2) (v := (.int (g p2))) (by rw [e0]; exact Ar.1) (State.isArrayOf_alike hZ.alike Ar.2.1) Ar.2.2 (own_in Sz hi) (Hs p2 hi.1 hi.2) (g := (mkF m 12 #[.val (.ref a1), .val (.int p2), .val (.int p3), .val (.int p4), .val (.int p5)] [(.int p2), (.ref a1)])) rfl rfl (hb hby d_kt_12) _ ?_
        show Steps p.tables e below (s₁.setTop (mkF m 13 #[.val (.ref a1), .val (.int p2), .val (.int p3), .val (.int p4), .val (.int p5)] [(.int (g p2))])) _
        refine XS.iload X0.here hx rfl (hb hby d_kt_13) rfl ?_
        show Steps p.tables e below (s₁.setTop (mkF m 15 #[.val (.ref a1), .val (.int p2), .val (.int p3), .val (.int p4), .val (.int p5)] [(.int p5), (.int (g p2))])) _
        refine XS.icmpNo X0.here hx rfl (hb hby d_kt_15) rfl (teq (hk (Or.inr hc7_3) : (g p2) = p5)).2 ?_
        show Steps p.tables e below (s₁.setTop (mkF m 18 #[.val (.ref a1), .val (.int p2), .val (.int p3), .val (.int p4), .val (.int p5)] [])) _
        refine XS.iconst X0.here hx rfl (hb hby d_kt_18) ?_
        show Steps p.tables e below (s₁.setTop (mkF m 19 #[.val (.ref a1), .val (.int p2), .val (.int p3), .val (.int p4), .val (.int p5)] [(.int (1 : Int32))])) _
        refine XS.goto X0.here hx rfl (pc0 := 19) (pc' := 27) rfl (hb hby d_kt_19) (by decide) (by decide) ?_
        show Steps p.tables e below (s₁.setTop (mkF m 27 #[.val (.ref a1), .val (.int p2), .val (.int p3), .val (.int p4), .val (.int p5)] [(.int (1 : Int32))])) _
        exact retN X0 hx (t := .boolean) Bd.returns (by simp) (hb hby d_kt_27) hr
      · show Q_kt Z a1 p2 p3 p4 p5 g h0 n0 _ s₁.heap _
        rw [e0]
        exact ⟨(congrArg (fun zz => some (Value.int zz)) (by rfl : nar .boolean (1 : Int32) = (1 : Int32))), N0, rfl⟩
theorem d_sl_0 : decode prog_37_method_3_code 0 = .ok (.iload_n 0, 1) := by decide +kernel
theorem d_sl_1 : decode prog_37_method_3_code 1 = .ok (.sipush 255, 3) := by decide +kernel
theorem d_sl_4 : decode prog_37_method_3_code 4 = .ok (.iand, 1) := by decide +kernel
theorem d_sl_5 : decode prog_37_method_3_code 5 = .ok (.istore_n 1, 1) := by decide +kernel
theorem d_sl_6 : decode prog_37_method_3_code 6 = .ok (.iload_n 1, 1) := by decide +kernel
theorem d_sl_7 : decode prog_37_method_3_code 7 = .ok (.sipush 194, 3) := by decide +kernel
theorem d_sl_10 : decode prog_37_method_3_code 10 = .ok (.if_icmp .ge 7, 3) := by decide +kernel
theorem d_sl_13 : decode prog_37_method_3_code 13 = .ok (.iconst 0, 1) := by decide +kernel
theorem d_sl_14 : decode prog_37_method_3_code 14 = .ok (.goto 37, 3) := by decide +kernel
theorem d_sl_17 : decode prog_37_method_3_code 17 = .ok (.iload_n 1, 1) := by decide +kernel
theorem d_sl_18 : decode prog_37_method_3_code 18 = .ok (.sipush 224, 3) := by decide +kernel
theorem d_sl_21 : decode prog_37_method_3_code 21 = .ok (.if_icmp .ge 7, 3) := by decide +kernel
theorem d_sl_24 : decode prog_37_method_3_code 24 = .ok (.iconst 2, 1) := by decide +kernel
theorem d_sl_25 : decode prog_37_method_3_code 25 = .ok (.goto 26, 3) := by decide +kernel
theorem d_sl_28 : decode prog_37_method_3_code 28 = .ok (.iload_n 1, 1) := by decide +kernel
theorem d_sl_29 : decode prog_37_method_3_code 29 = .ok (.sipush 240, 3) := by decide +kernel
theorem d_sl_32 : decode prog_37_method_3_code 32 = .ok (.if_icmp .ge 7, 3) := by decide +kernel
theorem d_sl_35 : decode prog_37_method_3_code 35 = .ok (.iconst 3, 1) := by decide +kernel
theorem d_sl_36 : decode prog_37_method_3_code 36 = .ok (.goto 15, 3) := by decide +kernel
theorem d_sl_39 : decode prog_37_method_3_code 39 = .ok (.iload_n 1, 1) := by decide +kernel
theorem d_sl_40 : decode prog_37_method_3_code 40 = .ok (.sipush 245, 3) := by decide +kernel
theorem d_sl_43 : decode prog_37_method_3_code 43 = .ok (.if_icmp .ge 7, 3) := by decide +kernel
theorem d_sl_46 : decode prog_37_method_3_code 46 = .ok (.iconst 4, 1) := by decide +kernel
theorem d_sl_47 : decode prog_37_method_3_code 47 = .ok (.goto 4, 3) := by decide +kernel
theorem d_sl_50 : decode prog_37_method_3_code 50 = .ok (.iconst 0, 1) := by decide +kernel
theorem d_sl_51 : decode prog_37_method_3_code 51 = .ok (.ireturn, 1) := by decide +kernel
theorem pn_sl : plainName "com/example/nuthatch/nuthatch/Utf8" = true := by first | (simp [plainName, overriddenIn]; done) | decide +kernel
theorem ef_sl (m : MethodId) (p1 : Int32) : entryFrame m #[(.int p1)] 2 = mkF m 0 #[.val (.int p1), .unset] [] := by first | (simp [entryFrame, mkF, argsToLocals, Value.category]; done) | rfl
def Q_sl (Z : State) (p1 : Int32) (h0 : Heap) (n0 : Nat) (v : Option Value) (h : Heap) (L : List Loc) : Prop := v = some (.int (own_sl p1)) ∧ Fr n0 L ∧ h = h0
set_option maxRecDepth 65536 in
set_option maxHeartbeats 40000000 in
theorem rm_sl (l : Launch) (Z : State) (a0 : Array Value) (hw : ∀ d ∈ tables_1, d.before a0 Z = true) (ws : List Jvm.Cond) (p1 : Int32) (h0 : Heap) (n0 : Nat) (Z0 : n0 ≤ h0.size) :
    MetFree l (⟨"com/example/nuthatch/nuthatch/Utf8", "sequenceLength", "(B)I"⟩ : MethodName) (head1 (Jvm.Cond.code (⟨"com/example/nuthatch/nuthatch/Utf8", "sequenceLength", "(B)I"⟩ : MethodName) prog_37_method_3_code 2 (some .int) :: ws) ({ frames := 0, cells := 0, slots := 0, locals := 0 } : Room)) (fun a U => a = #[(.int p1)] ∧ Z.Warmed39 U.vm ∧ U.heap = h0) (fun _ _ _ _ _ => True) (fun _ U o U' => ∃ v L, o = .returned v ∧ Q_sl Z p1 h0 n0 v U'.heap L ∧ FrameEnd U o U' L ({ frames := 0, cells := 0, slots := 0, locals := 0 } : Room).cells ({ frames := 0, cells := 0, slots := 0, locals := 0 } : Room).slots) := by
  refine MetFree.of_bodySF (plainFor_of_name pn_sl) hisR ?_
  intro p e s m args below meth c s₁ Bd hml0 hP hK
  obtain ⟨rfl, hZ, hh⟩ := hP
  have hx := Bd.exec
  have hby := Bd.bytes
  have hml : c.maxLocals = 2 := hml0
  have hown : s.vm.findClass "com/example/nuthatch/nuthatch/Utf8" = some m.cls := findClass_of_methodNamed Bd.named
  have hnm := (name_of_methodNamed Bd.named Bd.method).1
  have X0 : Stand p l e ({ frames := 0, cells := 0, slots := 0, locals := 0 } : Room) s m #[(.int p1)] below meth c s₁ [] 0 0 := Stand.of_body Bd
  have e0 : s₁.heap = h0 := by rw [← hh, Bd.state]; rfl
  have N0 := Fr.nil n0
  have pre0 : ∀ t, Steps p.tables e below (s₁.setTop (mkF m 0 #[.val (.int p1), .unset] [])) t → Steps p.tables e below (s₁.setTop (entryFrame m #[(.int p1)] 2)) t := fun t k => castTop (ef_sl m p1) k
  have pr2 : ∀ t, Steps p.tables e below (s₁.setTop (mkF m 10 #[.val (.int p1), .val (.int (p1 &&& (255 : Int32)))] [(.int (194 : Int32)), (.int (p1 &&& (255 : Int32)))])) t → Steps p.tables e below (s₁.setTop (entryFrame m #[(.int p1)] 2)) t := fun t kt => pre0 t (by
    show Steps p.tables e below (s₁.setTop (mkF m 0 #[.val (.int p1), .unset] [])) _
    refine XS.iloadN X0.here hx rfl (hb hby d_sl_0) rfl ?_
    show Steps p.tables e below (s₁.setTop (mkF m 1 #[.val (.int p1), .unset] [(.int p1)])) _
    refine XS.sipush X0.here hx rfl (hb hby d_sl_1) ?_
    show Steps p.tables e below (s₁.setTop (mkF m 4 #[.val (.int p1), .unset] [(.int (255 : Int32)), (.int p1)])) _
    refine XS.iand X0.here hx rfl (hb hby d_sl_4) rfl ?_
    show Steps p.tables e below (s₁.setTop (mkF m 5 #[.val (.int p1), .unset] [(.int (p1 &&& (255 : Int32)))])) _
    refine XS.istoreN X0.here hx rfl (hb hby d_sl_5) rfl (l' := #[.val (.int p1), .val (.int (p1 &&& (255 : Int32)))]) rfl ?_
    show Steps p.tables e below (s₁.setTop (mkF m 6 #[.val (.int p1), .val (.int (p1 &&& (255 : Int32)))] [])) _
    refine XS.iloadN X0.here hx rfl (hb hby d_sl_6) rfl ?_
    show Steps p.tables e below (s₁.setTop (mkF m 7 #[.val (.int p1), .val (.int (p1 &&& (255 : Int32)))] [(.int (p1 &&& (255 : Int32)))])) _
    refine XS.sipush X0.here hx rfl (hb hby d_sl_7) ?_
    exact kt)
  by_cases hc10_1 : (p1 &&& (255 : Int32)) < (194 : Int32)
  · obtain ⟨fs, hr, hrun, hended, hW, hsame⟩ := X0.leave (v := some (.int (0 : Int32))) (fun h => by rw [Bd.returns] at h; cases h)
    refine ⟨_, _, pr2 _ ?_, hrun, hended, _, _, rfl, ?_, ⟨_, rfl⟩, hW, hsame.mono (by decide) (by decide)⟩
    · show Steps p.tables e below (s₁.setTop (mkF m 10 #[.val (.int p1), .val (.int (p1 &&& (255 : Int32)))] [(.int (194 : Int32)), (.int (p1 &&& (255 : Int32)))])) _
      refine XS.icmpNo X0.here hx rfl (hb hby d_sl_10) rfl (tlt hc10_1).2.1 ?_
      show Steps p.tables e below (s₁.setTop (mkF m 13 #[.val (.int p1), .val (.int (p1 &&& (255 : Int32)))] [])) _
      refine XS.iconst X0.here hx rfl (hb hby d_sl_13) ?_
      show Steps p.tables e below (s₁.setTop (mkF m 14 #[.val (.int p1), .val (.int (p1 &&& (255 : Int32)))] [(.int (0 : Int32))])) _
      refine XS.goto X0.here hx rfl (pc0 := 14) (pc' := 51) rfl (hb hby d_sl_14) (by decide) (by decide) ?_
      show Steps p.tables e below (s₁.setTop (mkF m 51 #[.val (.int p1), .val (.int (p1 &&& (255 : Int32)))] [(.int (0 : Int32))])) _
      exact retI X0 hx Bd.returns (hb hby d_sl_51) hr
    · show Q_sl Z p1 h0 n0 _ s₁.heap _
      rw [e0]
      exact ⟨(congrArg (fun zz => some (Value.int zz)) (by simp only [own_sl, hc10_1, if_true, if_false] : (0 : Int32) = (own_sl p1))), N0, rfl⟩
  · have pr4 : ∀ t, Steps p.tables e below (s₁.setTop (mkF m 21 #[.val (.int p1), .val (.int (p1 &&& (255 : Int32)))] [(.int (224 : Int32)), (.int (p1 &&& (255 : Int32)))])) t → Steps p.tables e below (s₁.setTop (entryFrame m #[(.int p1)] 2)) t := fun t kt => pr2 t (by
      show Steps p.tables e below (s₁.setTop (mkF m 10 #[.val (.int p1), .val (.int (p1 &&& (255 : Int32)))] [(.int (194 : Int32)), (.int (p1 &&& (255 : Int32)))])) _
      refine XS.icmpYes X0.here hx rfl (pc0 := 10) (pc' := 17) rfl (hb hby d_sl_10) rfl (flt hc10_1).2.1 (by decide) (by decide) ?_
      show Steps p.tables e below (s₁.setTop (mkF m 17 #[.val (.int p1), .val (.int (p1 &&& (255 : Int32)))] [])) _
      refine XS.iloadN X0.here hx rfl (hb hby d_sl_17) rfl ?_
      show Steps p.tables e below (s₁.setTop (mkF m 18 #[.val (.int p1), .val (.int (p1 &&& (255 : Int32)))] [(.int (p1 &&& (255 : Int32)))])) _
      refine XS.sipush X0.here hx rfl (hb hby d_sl_18) ?_
      exact kt)
    by_cases hc21_3 : (p1 &&& (255 : Int32)) < (224 : Int32)
    · obtain ⟨fs, hr, hrun, hended, hW, hsame⟩ := X0.leave (v := some (.int (2 : Int32))) (fun h => by rw [Bd.returns] at h; cases h)
      refine ⟨_, _, pr4 _ ?_, hrun, hended, _, _, rfl, ?_, ⟨_, rfl⟩, hW, hsame.mono (by decide) (by decide)⟩
      · show Steps p.tables e below (s₁.setTop (mkF m 21 #[.val (.int p1), .val (.int (p1 &&& (255 : Int32)))] [(.int (224 : Int32)), (.int (p1 &&& (255 : Int32)))])) _
        refine XS.icmpNo X0.here hx rfl (hb hby d_sl_21) rfl (tlt hc21_3).2.1 ?_
        show Steps p.tables e below (s₁.setTop (mkF m 24 #[.val (.int p1), .val (.int (p1 &&& (255 : Int32)))] [])) _
        refine XS.iconst X0.here hx rfl (hb hby d_sl_24) ?_
        show Steps p.tables e below (s₁.setTop (mkF m 25 #[.val (.int p1), .val (.int (p1 &&& (255 : Int32)))] [(.int (2 : Int32))])) _
        refine XS.goto X0.here hx rfl (pc0 := 25) (pc' := 51) rfl (hb hby d_sl_25) (by decide) (by decide) ?_
        show Steps p.tables e below (s₁.setTop (mkF m 51 #[.val (.int p1), .val (.int (p1 &&& (255 : Int32)))] [(.int (2 : Int32))])) _
        exact retI X0 hx Bd.returns (hb hby d_sl_51) hr
      · show Q_sl Z p1 h0 n0 _ s₁.heap _
        rw [e0]
        exact ⟨(congrArg (fun zz => some (Value.int zz)) (by simp only [own_sl, hc10_1, hc21_3, if_true, if_false] : (2 : Int32) = (own_sl p1))), N0, rfl⟩
    · have pr6 : ∀ t, Steps p.tables e below (s₁.setTop (mkF m 32 #[.val (.int p1), .val (.int (p1 &&& (255 : Int32)))] [(.int (240 : Int32)), (.int (p1 &&& (255 : Int32)))])) t → Steps p.tables e below (s₁.setTop (entryFrame m #[(.int p1)] 2)) t := fun t kt => pr4 t (by
        show Steps p.tables e below (s₁.setTop (mkF m 21 #[.val (.int p1), .val (.int (p1 &&& (255 : Int32)))] [(.int (224 : Int32)), (.int (p1 &&& (255 : Int32)))])) _
        refine XS.icmpYes X0.here hx rfl (pc0 := 21) (pc' := 28) rfl (hb hby d_sl_21) rfl (flt hc21_3).2.1 (by decide) (by decide) ?_
        show Steps p.tables e below (s₁.setTop (mkF m 28 #[.val (.int p1), .val (.int (p1 &&& (255 : Int32)))] [])) _
        refine XS.iloadN X0.here hx rfl (hb hby d_sl_28) rfl ?_
        show Steps p.tables e below (s₁.setTop (mkF m 29 #[.val (.int p1), .val (.int (p1 &&& (255 : Int32)))] [(.int (p1 &&& (255 : Int32)))])) _
        refine XS.sipush X0.here hx rfl (hb hby d_sl_29) ?_
        exact kt)
      by_cases hc32_5 : (p1 &&& (255 : Int32)) < (240 : Int32)
      · obtain ⟨fs, hr, hrun, hended, hW, hsame⟩ := X0.leave (v := some (.int (3 : Int32))) (fun h => by rw [Bd.returns] at h; cases h)
        refine ⟨_, _, pr6 _ ?_, hrun, hended, _, _, rfl, ?_, ⟨_, rfl⟩, hW, hsame.mono (by decide) (by decide)⟩
        · show Steps p.tables e below (s₁.setTop (mkF m 32 #[.val (.int p1), .val (.int (p1 &&& (255 : Int32)))] [(.int (240 : Int32)), (.int (p1 &&& (255 : Int32)))])) _
          refine XS.icmpNo X0.here hx rfl (hb hby d_sl_32) rfl (tlt hc32_5).2.1 ?_
          show Steps p.tables e below (s₁.setTop (mkF m 35 #[.val (.int p1), .val (.int (p1 &&& (255 : Int32)))] [])) _
          refine XS.iconst X0.here hx rfl (hb hby d_sl_35) ?_
          show Steps p.tables e below (s₁.setTop (mkF m 36 #[.val (.int p1), .val (.int (p1 &&& (255 : Int32)))] [(.int (3 : Int32))])) _
          refine XS.goto X0.here hx rfl (pc0 := 36) (pc' := 51) rfl (hb hby d_sl_36) (by decide) (by decide) ?_
          show Steps p.tables e below (s₁.setTop (mkF m 51 #[.val (.int p1), .val (.int (p1 &&& (255 : Int32)))] [(.int (3 : Int32))])) _
          exact retI X0 hx Bd.returns (hb hby d_sl_51) hr
        · show Q_sl Z p1 h0 n0 _ s₁.heap _
          rw [e0]
          exact ⟨(congrArg (fun zz => some (Value.int zz)) (by simp only [own_sl, hc10_1, hc21_3, hc32_5, if_true, if_false] : (3 : Int32) = (own_sl p1))), N0, rfl⟩
      · have pr8 : ∀ t, Steps p.tables e below (s₁.setTop (mkF m 43 #[.val (.int p1), .val (.int (p1 &&& (255 : Int32)))] [(.int (245 : Int32)), (.int (p1 &&& (255 : Int32)))])) t → Steps p.tables e below (s₁.setTop (entryFrame m #[(.int p1)] 2)) t := fun t kt => pr6 t (by
          show Steps p.tables e below (s₁.setTop (mkF m 32 #[.val (.int p1), .val (.int (p1 &&& (255 : Int32)))] [(.int (240 : Int32)), (.int (p1 &&& (255 : Int32)))])) _
          refine XS.icmpYes X0.here hx rfl (pc0 := 32) (pc' := 39) rfl (hb hby d_sl_32) rfl (flt hc32_5).2.1 (by decide) (by decide) ?_
          show Steps p.tables e below (s₁.setTop (mkF m 39 #[.val (.int p1), .val (.int (p1 &&& (255 : Int32)))] [])) _
          refine XS.iloadN X0.here hx rfl (hb hby d_sl_39) rfl ?_
          show Steps p.tables e below (s₁.setTop (mkF m 40 #[.val (.int p1), .val (.int (p1 &&& (255 : Int32)))] [(.int (p1 &&& (255 : Int32)))])) _
          refine XS.sipush X0.here hx rfl (hb hby d_sl_40) ?_
          exact kt)
        by_cases hc43_7 : (p1 &&& (255 : Int32)) < (245 : Int32)
        · obtain ⟨fs, hr, hrun, hended, hW, hsame⟩ := X0.leave (v := some (.int (4 : Int32))) (fun h => by rw [Bd.returns] at h; cases h)
          refine ⟨_, _, pr8 _ ?_, hrun, hended, _, _, rfl, ?_, ⟨_, rfl⟩, hW, hsame.mono (by decide) (by decide)⟩
          · show Steps p.tables e below (s₁.setTop (mkF m 43 #[.val (.int p1), .val (.int (p1 &&& (255 : Int32)))] [(.int (245 : Int32)), (.int (p1 &&& (255 : Int32)))])) _
            refine XS.icmpNo X0.here hx rfl (hb hby d_sl_43) rfl (tlt hc43_7).2.1 ?_
            show Steps p.tables e below (s₁.setTop (mkF m 46 #[.val (.int p1), .val (.int (p1 &&& (255 : Int32)))] [])) _
            refine XS.iconst X0.here hx rfl (hb hby d_sl_46) ?_
            show Steps p.tables e below (s₁.setTop (mkF m 47 #[.val (.int p1), .val (.int (p1 &&& (255 : Int32)))] [(.int (4 : Int32))])) _
            refine XS.goto X0.here hx rfl (pc0 := 47) (pc' := 51) rfl (hb hby d_sl_47) (by decide) (by decide) ?_
            show Steps p.tables e below (s₁.setTop (mkF m 51 #[.val (.int p1), .val (.int (p1 &&& (255 : Int32)))] [(.int (4 : Int32))])) _
            exact retI X0 hx Bd.returns (hb hby d_sl_51) hr
          · show Q_sl Z p1 h0 n0 _ s₁.heap _
            rw [e0]
            exact ⟨(congrArg (fun zz => some (Value.int zz)) (by simp only [own_sl, hc10_1, hc21_3, hc32_5, hc43_7, if_true, if_false] : (4 : Int32) = (own_sl p1))), N0, rfl⟩
        · obtain ⟨fs, hr, hrun, hended, hW, hsame⟩ := X0.leave (v := some (.int (0 : Int32))) (fun h => by rw [Bd.returns] at h; cases h)
          refine ⟨_, _, pr8 _ ?_, hrun, hended, _, _, rfl, ?_, ⟨_, rfl⟩, hW, hsame.mono (by decide) (by decide)⟩
          · show Steps p.tables e below (s₁.setTop (mkF m 43 #[.val (.int p1), .val (.int (p1 &&& (255 : Int32)))] [(.int (245 : Int32)), (.int (p1 &&& (255 : Int32)))])) _
            refine XS.icmpYes X0.here hx rfl (pc0 := 43) (pc' := 50) rfl (hb hby d_sl_43) rfl (flt hc43_7).2.1 (by decide) (by decide) ?_
            show Steps p.tables e below (s₁.setTop (mkF m 50 #[.val (.int p1), .val (.int (p1 &&& (255 : Int32)))] [])) _
            refine XS.iconst X0.here hx rfl (hb hby d_sl_50) ?_
            show Steps p.tables e below (s₁.setTop (mkF m 51 #[.val (.int p1), .val (.int (p1 &&& (255 : Int32)))] [(.int (0 : Int32))])) _
            exact retI X0 hx Bd.returns (hb hby d_sl_51) hr
          · show Q_sl Z p1 h0 n0 _ s₁.heap _
            rw [e0]
            exact ⟨(congrArg (fun zz => some (Value.int zz)) (by simp only [own_sl, hc10_1, hc21_3, hc32_5, hc43_7, if_true, if_false] : (0 : Int32) = (own_sl p1))), N0, rfl⟩
theorem d_fo_0 : decode prog_37_method_4_code 0 = .ok (.iload_n 0, 1) := by decide +kernel
theorem d_fo_1 : decode prog_37_method_4_code 1 = .ok (.sipush 192, 3) := by decide +kernel
theorem d_fo_4 : decode prog_37_method_4_code 4 = .ok (.iand, 1) := by decide +kernel
theorem d_fo_5 : decode prog_37_method_4_code 5 = .ok (.sipush 128, 3) := by decide +kernel
theorem d_fo_8 : decode prog_37_method_4_code 8 = .ok (.if_icmp .ne 7, 3) := by decide +kernel
theorem d_fo_11 : decode prog_37_method_4_code 11 = .ok (.iconst 1, 1) := by decide +kernel
theorem d_fo_12 : decode prog_37_method_4_code 12 = .ok (.goto 4, 3) := by decide +kernel
theorem d_fo_15 : decode prog_37_method_4_code 15 = .ok (.iconst 0, 1) := by decide +kernel
theorem d_fo_16 : decode prog_37_method_4_code 16 = .ok (.ireturn, 1) := by decide +kernel
theorem pn_fo : plainName "com/example/nuthatch/nuthatch/Utf8" = true := by first | (simp [plainName, overriddenIn]; done) | decide +kernel
theorem ef_fo (m : MethodId) (p1 : Int32) : entryFrame m #[(.int p1)] 1 = mkF m 0 #[.val (.int p1)] [] := by first | (simp [entryFrame, mkF, argsToLocals, Value.category]; done) | rfl
def Q_fo (Z : State) (p1 : Int32) (h0 : Heap) (n0 : Nat) (v : Option Value) (h : Heap) (L : List Loc) : Prop := v = some (.int (own_b (own_fo p1))) ∧ Fr n0 L ∧ h = h0
set_option maxRecDepth 65536 in
set_option maxHeartbeats 40000000 in
theorem rm_fo (l : Launch) (Z : State) (a0 : Array Value) (hw : ∀ d ∈ tables_1, d.before a0 Z = true) (ws : List Jvm.Cond) (p1 : Int32) (h0 : Heap) (n0 : Nat) (Z0 : n0 ≤ h0.size) :
    MetFree l (⟨"com/example/nuthatch/nuthatch/Utf8", "follows", "(I)Z"⟩ : MethodName) (head1 (Jvm.Cond.code (⟨"com/example/nuthatch/nuthatch/Utf8", "follows", "(I)Z"⟩ : MethodName) prog_37_method_4_code 1 (some .boolean) :: ws) ({ frames := 0, cells := 0, slots := 0, locals := 0 } : Room)) (fun a U => a = #[(.int p1)] ∧ Z.Warmed39 U.vm ∧ U.heap = h0) (fun _ _ _ _ _ => True) (fun _ U o U' => ∃ v L, o = .returned v ∧ Q_fo Z p1 h0 n0 v U'.heap L ∧ FrameEnd U o U' L ({ frames := 0, cells := 0, slots := 0, locals := 0 } : Room).cells ({ frames := 0, cells := 0, slots := 0, locals := 0 } : Room).slots) := by
  refine MetFree.of_bodySF (plainFor_of_name pn_fo) hisR ?_
  intro p e s m args below meth c s₁ Bd hml0 hP hK
  obtain ⟨rfl, hZ, hh⟩ := hP
  have hx := Bd.exec
  have hby := Bd.bytes
  have hml : c.maxLocals = 1 := hml0
  have hown : s.vm.findClass "com/example/nuthatch/nuthatch/Utf8" = some m.cls := findClass_of_methodNamed Bd.named
  have hnm := (name_of_methodNamed Bd.named Bd.method).1
  have X0 : Stand p l e ({ frames := 0, cells := 0, slots := 0, locals := 0 } : Room) s m #[(.int p1)] below meth c s₁ [] 0 0 := Stand.of_body Bd
  have e0 : s₁.heap = h0 := by rw [← hh, Bd.state]; rfl
  have N0 := Fr.nil n0
  have pre0 : ∀ t, Steps p.tables e below (s₁.setTop (mkF m 0 #[.val (.int p1)] [])) t → Steps p.tables e below (s₁.setTop (entryFrame m #[(.int p1)] 1)) t := fun t k => castTop (ef_fo m p1) k
  have pr2 : ∀ t, Steps p.tables e below (s₁.setTop (mkF m 8 #[.val (.int p1)] [(.int (128 : Int32)), (.int (p1 &&& (192 : Int32)))])) t → Steps p.tables e below (s₁.setTop (entryFrame m #[(.int p1)] 1)) t := fun t kt => pre0 t (by
    show Steps p.tables e below (s₁.setTop (mkF m 0 #[.val (.int p1)] [])) _
    refine XS.iloadN X0.here hx rfl (hb hby d_fo_0) rfl ?_
    show Steps p.tables e below (s₁.setTop (mkF m 1 #[.val (.int p1)] [(.int p1)])) _
    refine XS.sipush X0.here hx rfl (hb hby d_fo_1) ?_
    show Steps p.tables e below (s₁.setTop (mkF m 4 #[.val (.int p1)] [(.int (192 : Int32)), (.int p1)])) _
    refine XS.iand X0.here hx rfl (hb hby d_fo_4) rfl ?_
    show Steps p.tables e below (s₁.setTop (mkF m 5 #[.val (.int p1)] [(.int (p1 &&& (192 : Int32)))])) _
    refine XS.sipush X0.here hx rfl (hb hby d_fo_5) ?_
    exact kt)
  by_cases hc8_1 : (p1 &&& (192 : Int32)) = (128 : Int32)
  · obtain ⟨fs, hr, hrun, hended, hW, hsame⟩ := X0.leave (v := some (.int (nar .boolean (1 : Int32)))) (fun h => by rw [Bd.returns] at h; cases h)
    refine ⟨_, _, pr2 _ ?_, hrun, hended, _, _, rfl, ?_, ⟨_, rfl⟩, hW, hsame.mono (by decide) (by decide)⟩
    · show Steps p.tables e below (s₁.setTop (mkF m 8 #[.val (.int p1)] [(.int (128 : Int32)), (.int (p1 &&& (192 : Int32)))])) _
      refine XS.icmpNo X0.here hx rfl (hb hby d_fo_8) rfl (teq hc8_1).2 ?_
      show Steps p.tables e below (s₁.setTop (mkF m 11 #[.val (.int p1)] [])) _
      refine XS.iconst X0.here hx rfl (hb hby d_fo_11) ?_
      show Steps p.tables e below (s₁.setTop (mkF m 12 #[.val (.int p1)] [(.int (1 : Int32))])) _
      refine XS.goto X0.here hx rfl (pc0 := 12) (pc' := 16) rfl (hb hby d_fo_12) (by decide) (by decide) ?_
      show Steps p.tables e below (s₁.setTop (mkF m 16 #[.val (.int p1)] [(.int (1 : Int32))])) _
      exact retN X0 hx (t := .boolean) Bd.returns (by simp) (hb hby d_fo_16) hr
    · show Q_fo Z p1 h0 n0 _ s₁.heap _
      rw [e0]
      exact ⟨(congrArg (fun zz => some (Value.int zz)) (by rw [show own_fo p1 = true from by simp [own_fo, hc8_1]]; rfl : nar .boolean (1 : Int32) = (own_b (own_fo p1)))), N0, rfl⟩
  · obtain ⟨fs, hr, hrun, hended, hW, hsame⟩ := X0.leave (v := some (.int (nar .boolean (0 : Int32)))) (fun h => by rw [Bd.returns] at h; cases h)
    refine ⟨_, _, pr2 _ ?_, hrun, hended, _, _, rfl, ?_, ⟨_, rfl⟩, hW, hsame.mono (by decide) (by decide)⟩
    · show Steps p.tables e below (s₁.setTop (mkF m 8 #[.val (.int p1)] [(.int (128 : Int32)), (.int (p1 &&& (192 : Int32)))])) _
      refine XS.icmpYes X0.here hx rfl (pc0 := 8) (pc' := 15) rfl (hb hby d_fo_8) rfl (feq hc8_1).2 (by decide) (by decide) ?_
      show Steps p.tables e below (s₁.setTop (mkF m 15 #[.val (.int p1)] [])) _
      refine XS.iconst X0.here hx rfl (hb hby d_fo_15) ?_
      show Steps p.tables e below (s₁.setTop (mkF m 16 #[.val (.int p1)] [(.int (0 : Int32))])) _
      exact retN X0 hx (t := .boolean) Bd.returns (by simp) (hb hby d_fo_16) hr
    · show Q_fo Z p1 h0 n0 _ s₁.heap _
      rw [e0]
      exact ⟨(congrArg (fun zz => some (Value.int zz)) (by rw [show own_fo p1 = false from by simp [own_fo, hc8_1]]; rfl : nar .boolean (0 : Int32) = (own_b (own_fo p1)))), N0, rfl⟩
theorem d_cp2_0 : decode prog_37_method_5_code 0 = .ok (.iload_n 2, 1) := by decide +kernel
theorem d_cp2_1 : decode prog_37_method_5_code 1 = .ok (.iconst 2, 1) := by decide +kernel
theorem d_cp2_2 : decode prog_37_method_5_code 2 = .ok (.if_icmp .ne 50, 3) := by decide +kernel
theorem d_cp2_5 : decode prog_37_method_5_code 5 = .ok (.aload_n 0, 1) := by decide +kernel
theorem d_cp2_6 : decode prog_37_method_5_code 6 = .ok (.iload_n 1, 1) := by decide +kernel
theorem d_cp2_7 : decode prog_37_method_5_code 7 = .ok (.baload, 1) := by decide +kernel
theorem d_cp2_8 : decode prog_37_method_5_code 8 = .ok (.bipush 31, 2) := by decide +kernel
theorem d_cp2_10 : decode prog_37_method_5_code 10 = .ok (.iand, 1) := by decide +kernel
theorem d_cp2_11 : decode prog_37_method_5_code 11 = .ok (.bipush 6, 2) := by decide +kernel
theorem d_cp2_13 : decode prog_37_method_5_code 13 = .ok (.ishl, 1) := by decide +kernel
theorem d_cp2_14 : decode prog_37_method_5_code 14 = .ok (.aload_n 0, 1) := by decide +kernel
theorem d_cp2_15 : decode prog_37_method_5_code 15 = .ok (.iload_n 1, 1) := by decide +kernel
theorem d_cp2_16 : decode prog_37_method_5_code 16 = .ok (.iconst 1, 1) := by decide +kernel
theorem d_cp2_17 : decode prog_37_method_5_code 17 = .ok (.iadd, 1) := by decide +kernel
theorem d_cp2_18 : decode prog_37_method_5_code 18 = .ok (.baload, 1) := by decide +kernel
theorem d_cp2_19 : decode prog_37_method_5_code 19 = .ok (.bipush 63, 2) := by decide +kernel
theorem d_cp2_21 : decode prog_37_method_5_code 21 = .ok (.iand, 1) := by decide +kernel
theorem d_cp2_22 : decode prog_37_method_5_code 22 = .ok (.ior, 1) := by decide +kernel
theorem d_cp2_23 : decode prog_37_method_5_code 23 = .ok (.istore_n 3, 1) := by decide +kernel
theorem d_cp2_24 : decode prog_37_method_5_code 24 = .ok (.aload_n 0, 1) := by decide +kernel
theorem d_cp2_25 : decode prog_37_method_5_code 25 = .ok (.iload_n 1, 1) := by decide +kernel
theorem d_cp2_26 : decode prog_37_method_5_code 26 = .ok (.iconst 1, 1) := by decide +kernel
theorem d_cp2_27 : decode prog_37_method_5_code 27 = .ok (.iadd, 1) := by decide +kernel
theorem d_cp2_28 : decode prog_37_method_5_code 28 = .ok (.baload, 1) := by decide +kernel
theorem d_cp2_29 : decode prog_37_method_5_code 29 = .ok (.invokestatic 8, 3) := by decide +kernel
theorem d_cp2_32 : decode prog_37_method_5_code 32 = .ok (.ifCond .eq 14, 3) := by decide +kernel
theorem d_cp2_35 : decode prog_37_method_5_code 35 = .ok (.iload_n 3, 1) := by decide +kernel
theorem d_cp2_36 : decode prog_37_method_5_code 36 = .ok (.sipush 128, 3) := by decide +kernel
theorem d_cp2_39 : decode prog_37_method_5_code 39 = .ok (.if_icmp .lt 7, 3) := by decide +kernel
theorem d_cp2_42 : decode prog_37_method_5_code 42 = .ok (.iconst 1, 1) := by decide +kernel
theorem d_cp2_43 : decode prog_37_method_5_code 43 = .ok (.goto 4, 3) := by decide +kernel
theorem d_cp2_47 : decode prog_37_method_5_code 47 = .ok (.istore 4, 2) := by decide +kernel
theorem d_cp2_49 : decode prog_37_method_5_code 49 = .ok (.goto 207, 3) := by decide +kernel
theorem d_cp2_256 : decode prog_37_method_5_code 256 = .ok (.iload 4, 2) := by decide +kernel
theorem d_cp2_258 : decode prog_37_method_5_code 258 = .ok (.ifCond .eq 7, 3) := by decide +kernel
theorem d_cp2_261 : decode prog_37_method_5_code 261 = .ok (.iload_n 3, 1) := by decide +kernel
theorem d_cp2_262 : decode prog_37_method_5_code 262 = .ok (.goto 4, 3) := by decide +kernel
theorem d_cp2_266 : decode prog_37_method_5_code 266 = .ok (.ireturn, 1) := by decide +kernel
theorem pn_cp2 : plainName "com/example/nuthatch/nuthatch/Utf8" = true := by first | (simp [plainName, overriddenIn]; done) | decide +kernel
theorem pd_cp2_0 : parseMethodDescriptor "(I)Z" = some ⟨[.int], some .boolean⟩ := by decide +kernel
theorem ef_cp2 (m : MethodId) (a1 : Addr) (p2 : Int32) (p3 : Int32) : entryFrame m #[(.ref a1), (.int p2), (.int p3)] 5 = mkF m 0 #[.val (.ref a1), .val (.int p2), .val (.int p3), .unset, .unset] [] := by first | (simp [entryFrame, mkF, argsToLocals, Value.category]; done) | rfl
def Q_cp2 (Z : State) (a1 : Addr) (p2 : Int32) (p3 : Int32) (g : Int32 → Int32) (u0 : Int32) (h0 : Heap) (n0 : Nat) (v : Option Value) (h : Heap) (L : List Loc) : Prop := v = some (.int u0) ∧ Fr n0 L ∧ h = h0
set_option maxRecDepth 65536 in
set_option maxHeartbeats 40000000 in
theorem rm_cp2 (l : Launch) (Z : State) (a0 : Array Value) (hw : ∀ d ∈ tables_1, d.before a0 Z = true) (ws : List Jvm.Cond) (a1 : Addr) (p2 : Int32) (p3 : Int32) (g : Int32 → Int32) (u0 : Int32) (h0 : Heap) (n0 : Nat) (Z0 : n0 ≤ h0.size) (V : own_B Z h0 a1 g) (hp : own_P p2) (hn : p3 = (2 : Int32)) (hd : ((((g p2) &&& (31 : Int32)) <<< ((6 : Int32) &&& 31)) ||| ((g (p2 + (1 : Int32))) &&& (63 : Int32))) = u0) (f1 : ((g (p2 + (1 : Int32))) &&& (192 : Int32)) = (128 : Int32)) (r1 : ¬ u0 < (128 : Int32)) :
    MetFree l (⟨"com/example/nuthatch/nuthatch/Utf8", "codePoint", "([BII)I"⟩ : MethodName) (head1 (Jvm.Cond.code (⟨"com/example/nuthatch/nuthatch/Utf8", "codePoint", "([BII)I"⟩ : MethodName) prog_37_method_5_code 5 (some .int) :: ws) ({ frames := 1, cells := 0, slots := 0, locals := 12 } : Room)) (fun a U => a = #[(.ref a1), (.int p2), (.int p3)] ∧ Z.Warmed39 U.vm ∧ U.heap = h0) (fun _ _ _ _ _ => True) (fun _ U o U' => ∃ v L, o = .returned v ∧ Q_cp2 Z a1 p2 p3 g u0 h0 n0 v U'.heap L ∧ FrameEnd U o U' L ({ frames := 1, cells := 0, slots := 0, locals := 12 } : Room).cells ({ frames := 1, cells := 0, slots := 0, locals := 12 } : Room).slots) := by
  refine MetFree.of_bodySF (plainFor_of_name pn_cp2) hisR ?_
  intro p e s m args below meth c s₁ Bd hml0 hP hK
  obtain ⟨rfl, hZ, hh⟩ := hP
  have hx := Bd.exec
  have hby := Bd.bytes
  have hml : c.maxLocals = 5 := hml0
  have hown : s.vm.findClass "com/example/nuthatch/nuthatch/Utf8" = some m.cls := findClass_of_methodNamed Bd.named
  have hnm := (name_of_methodNamed Bd.named Bd.method).1
  have X0 : Stand p l e ({ frames := 1, cells := 0, slots := 0, locals := 12 } : Room) s m #[(.ref a1), (.int p2), (.int p3)] below meth c s₁ [] 0 0 := Stand.of_body Bd
  have e0 : s₁.heap = h0 := by rw [← hh, Bd.state]; rfl
  have N0 := Fr.nil n0
  have pre0 : ∀ t, Steps p.tables e below (s₁.setTop (mkF m 0 #[.val (.ref a1), .val (.int p2), .val (.int p3), .unset, .unset] [])) t → Steps p.tables e below (s₁.setTop (entryFrame m #[(.ref a1), (.int p2), (.int p3)] 5)) t := fun t k => castTop (ef_cp2 m a1 p2 p3) k
  obtain ⟨cl, Ar, Sz, Hs⟩ := V
  have sg1 : ∀ t, Steps p.tables e below (s₁.setTop (mkF m 24 #[.val (.ref a1), .val (.int p2), .val (.int p3), .val (.int u0), .unset] [])) t → Steps p.tables e below (s₁.setTop (mkF m 5 #[.val (.ref a1), .val (.int p2), .val (.int p3), .unset, .unset] [])) t := by
    intro t kt
    show Steps p.tables e below (s₁.setTop (mkF m 5 #[.val (.ref a1), .val (.int p2), .val (.int p3), .unset, .unset] [])) _
    refine XS.aloadN X0.here hx rfl (hb hby d_cp2_5) rfl rfl ?_
    show Steps p.tables e below (s₁.setTop (mkF m 6 #[.val (.ref a1), .val (.int p2), .val (.int p3), .unset, .unset] [(.ref a1)])) _
    refine XS.iloadN X0.here hx rfl (hb hby d_cp2_6) rfl ?_
    show Steps p.tables e below (s₁.setTop (mkF m 7 #[.val (.ref a1), .val (.int p2), .val (.int p3), .unset, .unset] [(.int p2), (.ref a1)])) _
    refine X0.baloadBytes hx (j := p2) (v := (.int (g p2))) (by rw [e0]; exact Ar.1) (State.isArrayOf_alike hZ.alike Ar.2.1) Ar.2.2 (own_in Sz (own_ix0 hp)) (Hs p2 (own_ix0 hp).1 (own_ix0 hp).2) (g := (mkF m 7 #[.val (.ref a1), .val (.int p2), .val (.int p3), .unset, .unset] [(.int p2), (.ref a1)])) rfl rfl (hb hby d_cp2_7) _ ?_
    show Steps p.tables e below (s₁.setTop (mkF m 8 #[.val (.ref a1), .val (.int p2), .val (.int p3), .unset, .unset] [(.int (g p2))])) _
    refine XS.bipush X0.here hx rfl (hb hby d_cp2_8) ?_
    show Steps p.tables e below (s₁.setTop (mkF m 10 #[.val (.ref a1), .val (.int p2), .val (.int p3), .unset, .unset] [(.int (31 : Int32)), (.int (g p2))])) _
    refine XS.iand X0.here hx rfl (hb hby d_cp2_10) rfl ?_
    show Steps p.tables e below (s₁.setTop (mkF m 11 #[.val (.ref a1), .val (.int p2), .val (.int p3), .unset, .unset] [(.int ((g p2) &&& (31 : Int32)))])) _
    refine XS.bipush X0.here hx rfl (hb hby d_cp2_11) ?_
    show Steps p.tables e below (s₁.setTop (mkF m 13 #[.val (.ref a1), .val (.int p2), .val (.int p3), .unset, .unset] [(.int (6 : Int32)), (.int ((g p2) &&& (31 : Int32)))])) _
    refine XS.ishl X0.here hx rfl (hb hby d_cp2_13) rfl ?_
    show Steps p.tables e below (s₁.setTop (mkF m 14 #[.val (.ref a1), .val (.int p2), .val (.int p3), .unset, .unset] [(.int (((g p2) &&& (31 : Int32)) <<< ((6 : Int32) &&& 31)))])) _
    refine XS.aloadN X0.here hx rfl (hb hby d_cp2_14) rfl rfl ?_
    show Steps p.tables e below (s₁.setTop (mkF m 15 #[.val (.ref a1), .val (.int p2), .val (.int p3), .unset, .unset] [(.ref a1), (.int (((g p2) &&& (31 : Int32)) <<< ((6 : Int32) &&& 31)))])) _
    refine XS.iloadN X0.here hx rfl (hb hby d_cp2_15) rfl ?_
    show Steps p.tables e below (s₁.setTop (mkF m 16 #[.val (.ref a1), .val (.int p2), .val (.int p3), .unset, .unset] [(.int p2), (.ref a1), (.int (((g p2) &&& (31 : Int32)) <<< ((6 : Int32) &&& 31)))])) _
    refine XS.iconst X0.here hx rfl (hb hby d_cp2_16) ?_
    show Steps p.tables e below (s₁.setTop (mkF m 17 #[.val (.ref a1), .val (.int p2), .val (.int p3), .unset, .unset] [(.int (1 : Int32)), (.int p2), (.ref a1), (.int (((g p2) &&& (31 : Int32)) <<< ((6 : Int32) &&& 31)))])) _
    refine XS.iadd X0.here hx rfl (hb hby d_cp2_17) rfl ?_
    show Steps p.tables e below (s₁.setTop (mkF m 18 #[.val (.ref a1), .val (.int p2), .val (.int p3), .unset, .unset] [(.int (p2 + (1 : Int32))), (.ref a1), (.int (((g p2) &&& (31 : Int32)) <<< ((6 : Int32) &&& 31)))])) _
    refine X0.baloadBytes hx (j := (p2 + (1 : Int32))) (v := (.int (g (p2 + (1 : Int32))))) (by rw [e0]; exact Ar.1) (State.isArrayOf_alike hZ.alike Ar.2.1) Ar.2.2 (own_in Sz (own_ix1 hp)) (Hs (p2 + (1 : Int32)) (own_ix1 hp).1 (own_ix1 hp).2) (g := (mkF m 18 #[.val (.ref a1), .val (.int p2), .val (.int p3), .unset, .unset] [(.int (p2 + (1 : Int32))), (.ref a1), (.int (((g p2) &&& (31 : Int32)) <<< ((6 : Int32) &&& 31)))])) rfl rfl (hb hby d_cp2_18) _ ?_
    show Steps p.tables e below (s₁.setTop (mkF m 19 #[.val (.ref a1), .val (.int p2), .val (.int p3), .unset, .unset] [(.int (g (p2 + (1 : Int32)))), (.int (((g p2) &&& (31 : Int32)) <<< ((6 : Int32) &&& 31)))])) _
    refine XS.bipush X0.here hx rfl (hb hby d_cp2_19) ?_
    show Steps p.tables e below (s₁.setTop (mkF m 21 #[.val (.ref a1), .val (.int p2), .val (.int p3), .unset, .unset] [(.int (63 : Int32)), (.int (g (p2 + (1 : Int32)))), (.int (((g p2) &&& (31 : Int32)) <<< ((6 : Int32) &&& 31)))])) _
    refine XS.iand X0.here hx rfl (hb hby d_cp2_21) rfl ?_
    show Steps p.tables e below (s₁.setTop (mkF m 22 #[.val (.ref a1), .val (.int p2), .val (.int p3), .unset, .unset] [(.int ((g (p2 + (1 : Int32))) &&& (63 : Int32))), (.int (((g p2) &&& (31 : Int32)) <<< ((6 : Int32) &&& 31)))])) _
    refine XS.ior X0.here hx rfl (hb hby d_cp2_22) rfl ?_
    show Steps p.tables e below (s₁.setTop (mkF m 23 #[.val (.ref a1), .val (.int p2), .val (.int p3), .unset, .unset] [(.int ((((g p2) &&& (31 : Int32)) <<< ((6 : Int32) &&& 31)) ||| ((g (p2 + (1 : Int32))) &&& (63 : Int32))))])) _
    refine XS.istoreN X0.here hx rfl (hb hby d_cp2_23) rfl (l' := #[.val (.ref a1), .val (.int p2), .val (.int p3), .val (.int ((((g p2) &&& (31 : Int32)) <<< ((6 : Int32) &&& 31)) ||| ((g (p2 + (1 : Int32))) &&& (63 : Int32)))), .unset]) rfl ?_
    show Steps p.tables e below (s₁.setTop (mkF m 24 #[.val (.ref a1), .val (.int p2), .val (.int p3), .val (.int ((((g p2) &&& (31 : Int32)) <<< ((6 : Int32) &&& 31)) ||| ((g (p2 + (1 : Int32))) &&& (63 : Int32)))), .unset] [])) _
    refine castTop (congrArg (fun zz => (mkF m 24 #[.val (.ref a1), .val (.int p2), .val (.int p3), .val (.int zz), .unset] [])) (by exact hd : ((((g p2) &&& (31 : Int32)) <<< ((6 : Int32) &&& 31)) ||| ((g (p2 + (1 : Int32))) &&& (63 : Int32))) = u0)) ?_
    exact kt
  have pr3 : ∀ t, Steps p.tables e below (s₁.setTop (mkF m 29 #[.val (.ref a1), .val (.int p2), .val (.int p3), .val (.int u0), .unset] [(.int (g (p2 + (1 : Int32))))])) t → Steps p.tables e below (s₁.setTop (entryFrame m #[(.ref a1), (.int p2), (.int p3)] 5)) t := fun t kt => pre0 t (by
    show Steps p.tables e below (s₁.setTop (mkF m 0 #[.val (.ref a1), .val (.int p2), .val (.int p3), .unset, .unset] [])) _
    refine XS.iloadN X0.here hx rfl (hb hby d_cp2_0) rfl ?_
    show Steps p.tables e below (s₁.setTop (mkF m 1 #[.val (.ref a1), .val (.int p2), .val (.int p3), .unset, .unset] [(.int p3)])) _
    refine XS.iconst X0.here hx rfl (hb hby d_cp2_1) ?_
    show Steps p.tables e below (s₁.setTop (mkF m 2 #[.val (.ref a1), .val (.int p2), .val (.int p3), .unset, .unset] [(.int (2 : Int32)), (.int p3)])) _
    refine XS.icmpNo X0.here hx rfl (hb hby d_cp2_2) rfl (teq (hn : p3 = (2 : Int32))).2 ?_
    show Steps p.tables e below (s₁.setTop (mkF m 5 #[.val (.ref a1), .val (.int p2), .val (.int p3), .unset, .unset] [])) _
    refine sg1 _ ?_
    show Steps p.tables e below (s₁.setTop (mkF m 24 #[.val (.ref a1), .val (.int p2), .val (.int p3), .val (.int u0), .unset] [])) _
    refine XS.aloadN X0.here hx rfl (hb hby d_cp2_24) rfl rfl ?_
    show Steps p.tables e below (s₁.setTop (mkF m 25 #[.val (.ref a1), .val (.int p2), .val (.int p3), .val (.int u0), .unset] [(.ref a1)])) _
    refine XS.iloadN X0.here hx rfl (hb hby d_cp2_25) rfl ?_
    show Steps p.tables e below (s₁.setTop (mkF m 26 #[.val (.ref a1), .val (.int p2), .val (.int p3), .val (.int u0), .unset] [(.int p2), (.ref a1)])) _
    refine XS.iconst X0.here hx rfl (hb hby d_cp2_26) ?_
    show Steps p.tables e below (s₁.setTop (mkF m 27 #[.val (.ref a1), .val (.int p2), .val (.int p3), .val (.int u0), .unset] [(.int (1 : Int32)), (.int p2), (.ref a1)])) _
    refine XS.iadd X0.here hx rfl (hb hby d_cp2_27) rfl ?_
    show Steps p.tables e below (s₁.setTop (mkF m 28 #[.val (.ref a1), .val (.int p2), .val (.int p3), .val (.int u0), .unset] [(.int (p2 + (1 : Int32))), (.ref a1)])) _
    refine X0.baloadBytes hx (j := (p2 + (1 : Int32))) (v := (.int (g (p2 + (1 : Int32))))) (by rw [e0]; exact Ar.1) (State.isArrayOf_alike hZ.alike Ar.2.1) Ar.2.2 (own_in Sz (own_ix1 hp)) (Hs (p2 + (1 : Int32)) (own_ix1 hp).1 (own_ix1 hp).2) (g := (mkF m 28 #[.val (.ref a1), .val (.int p2), .val (.int p3), .val (.int u0), .unset] [(.int (p2 + (1 : Int32))), (.ref a1)])) rfl rfl (hb hby d_cp2_28) _ ?_
    show Steps p.tables e below (s₁.setTop (mkF m 29 #[.val (.ref a1), .val (.int p2), .val (.int p3), .val (.int u0), .unset] [(.int (g (p2 + (1 : Int32))))])) _
    exact kt)
  obtain ⟨_, _, ⟨T2, L2, k2, n2⟩, -, X2, ⟨Lc2, hQ2, l2, y2, z2⟩, st2⟩ := Jvm.LawKit.callS X0 hx (y := (⟨"com/example/nuthatch/nuthatch/Utf8", "follows", "(I)Z"⟩ : MethodName)) hown (mvT hZ (hw _ (List.mem_of_getElem? (i := 18) rfl))) (mvT hZ (hw _ (List.mem_of_getElem? (i := 19) rfl))) (mvT hZ (hw _ (List.mem_of_getElem? (i := 5) rfl))) (mvT hZ (hw _ (List.mem_of_getElem? (i := 20) rfl))) (by decide) (backOf (W := 0) (rm_fo l Z a0 hw [] (g (p2 + (1 : Int32))) h0 n0 Z0 ) hZ (hw _ (List.mem_of_getElem? (i := 20) rfl)) (hw _ (List.mem_of_getElem? (i := 5) rfl)) (by decide) (by decide)) (g := (mkF m 29 #[.val (.ref a1), .val (.int p2), .val (.int p3), .val (.int u0), .unset] [(.int (g (p2 + (1 : Int32))))])) rfl (by rw [hml]; rfl) (argsL := [(.int (g (p2 + (1 : Int32))))]) (rest := []) (lenOf pd_cp2_0 rfl) rfl (by show 2 * 0 + _ ≤ _; exact Nat.le_of_eq rfl) (hb hby d_cp2_29) (fun _ _ => ⟨rfl, e0, (by decide : 0 + 0 ≤ _), (by decide : 0 + 0 ≤ _)⟩)
  dsimp only [Pt.U, Pt.locs, Pt.cells, Pt.slots] at X2 l2 y2 z2 st2 hQ2
  subst l2 y2 z2
  obtain ⟨rfl, N2q, e2⟩ := hQ2
  have N2 := Fr.app N0 N2q
  obtain ⟨fs, hr, hrun, hended, hW, hsame⟩ := X2.leave (v := some (.int u0)) (fun h => by rw [Bd.returns] at h; cases h)
  refine ⟨_, _, pr3 _ ?_, hrun, hended, _, _, rfl, ?_, ⟨_, rfl⟩, hW, hsame.mono (by decide) (by decide)⟩
  · refine st2 _ ?_
    show Steps p.tables e below (T2.setTop (mkF m 32 #[.val (.ref a1), .val (.int p2), .val (.int p3), .val (.int u0), .unset] [(.int (own_b (own_fo (g (p2 + (1 : Int32))))))])) _
    refine XS.ifNo X2.here hx rfl (hb hby d_cp2_32) rfl ((if0 _ _).trans (feq (own_b1 (own_fot f1 : (own_fo (g (p2 + (1 : Int32)))) = true))).1) ?_
    show Steps p.tables e below (T2.setTop (mkF m 35 #[.val (.ref a1), .val (.int p2), .val (.int p3), .val (.int u0), .unset] [])) _
    refine XS.iloadN X2.here hx rfl (hb hby d_cp2_35) rfl ?_
    show Steps p.tables e below (T2.setTop (mkF m 36 #[.val (.ref a1), .val (.int p2), .val (.int p3), .val (.int u0), .unset] [(.int u0)])) _
    refine XS.sipush X2.here hx rfl (hb hby d_cp2_36) ?_
    show Steps p.tables e below (T2.setTop (mkF m 39 #[.val (.ref a1), .val (.int p2), .val (.int p3), .val (.int u0), .unset] [(.int (128 : Int32)), (.int u0)])) _
    refine XS.icmpNo X2.here hx rfl (hb hby d_cp2_39) rfl (flt (r1 : ¬ (u0 < (128 : Int32)))).1 ?_
    show Steps p.tables e below (T2.setTop (mkF m 42 #[.val (.ref a1), .val (.int p2), .val (.int p3), .val (.int u0), .unset] [])) _
    refine XS.iconst X2.here hx rfl (hb hby d_cp2_42) ?_
    show Steps p.tables e below (T2.setTop (mkF m 43 #[.val (.ref a1), .val (.int p2), .val (.int p3), .val (.int u0), .unset] [(.int (1 : Int32))])) _
    refine XS.goto X2.here hx rfl (pc0 := 43) (pc' := 47) rfl (hb hby d_cp2_43) (by decide) (by decide) ?_
    show Steps p.tables e below (T2.setTop (mkF m 47 #[.val (.ref a1), .val (.int p2), .val (.int p3), .val (.int u0), .unset] [(.int (1 : Int32))])) _
    refine XS.istore X2.here hx rfl (hb hby d_cp2_47) rfl (l' := #[.val (.ref a1), .val (.int p2), .val (.int p3), .val (.int u0), .val (.int (1 : Int32))]) rfl ?_
    show Steps p.tables e below (T2.setTop (mkF m 49 #[.val (.ref a1), .val (.int p2), .val (.int p3), .val (.int u0), .val (.int (1 : Int32))] [])) _
    refine XS.goto X2.here hx rfl (pc0 := 49) (pc' := 256) rfl (hb hby d_cp2_49) (by decide) (by decide) ?_
    show Steps p.tables e below (T2.setTop (mkF m 256 #[.val (.ref a1), .val (.int p2), .val (.int p3), .val (.int u0), .val (.int (1 : Int32))] [])) _
    refine XS.iload X2.here hx rfl (hb hby d_cp2_256) rfl ?_
    show Steps p.tables e below (T2.setTop (mkF m 258 #[.val (.ref a1), .val (.int p2), .val (.int p3), .val (.int u0), .val (.int (1 : Int32))] [(.int (1 : Int32))])) _
    refine XS.ifNo X2.here hx rfl (hb hby d_cp2_258) rfl ((if0 _ _).trans (feq (by decide : ¬ ((1 : Int32) = (0 : Int32)))).1) ?_
    show Steps p.tables e below (T2.setTop (mkF m 261 #[.val (.ref a1), .val (.int p2), .val (.int p3), .val (.int u0), .val (.int (1 : Int32))] [])) _
    refine XS.iloadN X2.here hx rfl (hb hby d_cp2_261) rfl ?_
    show Steps p.tables e below (T2.setTop (mkF m 262 #[.val (.ref a1), .val (.int p2), .val (.int p3), .val (.int u0), .val (.int (1 : Int32))] [(.int u0)])) _
    refine XS.goto X2.here hx rfl (pc0 := 262) (pc' := 266) rfl (hb hby d_cp2_262) (by decide) (by decide) ?_
    show Steps p.tables e below (T2.setTop (mkF m 266 #[.val (.ref a1), .val (.int p2), .val (.int p3), .val (.int u0), .val (.int (1 : Int32))] [(.int u0)])) _
    exact retI X2 hx Bd.returns (hb hby d_cp2_266) hr
  · show Q_cp2 Z a1 p2 p3 g u0 h0 n0 _ T2.heap _
    rw [e2]
    exact ⟨rfl, N2, rfl⟩
theorem d_cp3_0 : decode prog_37_method_5_code 0 = .ok (.iload_n 2, 1) := by decide +kernel
theorem d_cp3_1 : decode prog_37_method_5_code 1 = .ok (.iconst 2, 1) := by decide +kernel
theorem d_cp3_2 : decode prog_37_method_5_code 2 = .ok (.if_icmp .ne 50, 3) := by decide +kernel
theorem d_cp3_52 : decode prog_37_method_5_code 52 = .ok (.iload_n 2, 1) := by decide +kernel
theorem d_cp3_53 : decode prog_37_method_5_code 53 = .ok (.iconst 3, 1) := by decide +kernel
theorem d_cp3_54 : decode prog_37_method_5_code 54 = .ok (.if_icmp .ne 95, 3) := by decide +kernel
theorem d_cp3_57 : decode prog_37_method_5_code 57 = .ok (.aload_n 0, 1) := by decide +kernel
theorem d_cp3_58 : decode prog_37_method_5_code 58 = .ok (.iload_n 1, 1) := by decide +kernel
theorem d_cp3_59 : decode prog_37_method_5_code 59 = .ok (.baload, 1) := by decide +kernel
theorem d_cp3_60 : decode prog_37_method_5_code 60 = .ok (.bipush 15, 2) := by decide +kernel
theorem d_cp3_62 : decode prog_37_method_5_code 62 = .ok (.iand, 1) := by decide +kernel
theorem d_cp3_63 : decode prog_37_method_5_code 63 = .ok (.bipush 12, 2) := by decide +kernel
theorem d_cp3_65 : decode prog_37_method_5_code 65 = .ok (.ishl, 1) := by decide +kernel
theorem d_cp3_66 : decode prog_37_method_5_code 66 = .ok (.aload_n 0, 1) := by decide +kernel
theorem d_cp3_67 : decode prog_37_method_5_code 67 = .ok (.iload_n 1, 1) := by decide +kernel
theorem d_cp3_68 : decode prog_37_method_5_code 68 = .ok (.iconst 1, 1) := by decide +kernel
theorem d_cp3_69 : decode prog_37_method_5_code 69 = .ok (.iadd, 1) := by decide +kernel
theorem d_cp3_70 : decode prog_37_method_5_code 70 = .ok (.baload, 1) := by decide +kernel
theorem d_cp3_71 : decode prog_37_method_5_code 71 = .ok (.bipush 63, 2) := by decide +kernel
theorem d_cp3_73 : decode prog_37_method_5_code 73 = .ok (.iand, 1) := by decide +kernel
theorem d_cp3_74 : decode prog_37_method_5_code 74 = .ok (.bipush 6, 2) := by decide +kernel
theorem d_cp3_76 : decode prog_37_method_5_code 76 = .ok (.ishl, 1) := by decide +kernel
theorem d_cp3_77 : decode prog_37_method_5_code 77 = .ok (.ior, 1) := by decide +kernel
theorem d_cp3_78 : decode prog_37_method_5_code 78 = .ok (.aload_n 0, 1) := by decide +kernel
theorem d_cp3_79 : decode prog_37_method_5_code 79 = .ok (.iload_n 1, 1) := by decide +kernel
theorem d_cp3_80 : decode prog_37_method_5_code 80 = .ok (.iconst 2, 1) := by decide +kernel
theorem d_cp3_81 : decode prog_37_method_5_code 81 = .ok (.iadd, 1) := by decide +kernel
theorem d_cp3_82 : decode prog_37_method_5_code 82 = .ok (.baload, 1) := by decide +kernel
theorem d_cp3_83 : decode prog_37_method_5_code 83 = .ok (.bipush 63, 2) := by decide +kernel
theorem d_cp3_85 : decode prog_37_method_5_code 85 = .ok (.iand, 1) := by decide +kernel
theorem d_cp3_86 : decode prog_37_method_5_code 86 = .ok (.ior, 1) := by decide +kernel
theorem d_cp3_87 : decode prog_37_method_5_code 87 = .ok (.istore_n 3, 1) := by decide +kernel
theorem d_cp3_88 : decode prog_37_method_5_code 88 = .ok (.aload_n 0, 1) := by decide +kernel
theorem d_cp3_89 : decode prog_37_method_5_code 89 = .ok (.iload_n 1, 1) := by decide +kernel
theorem d_cp3_90 : decode prog_37_method_5_code 90 = .ok (.iconst 1, 1) := by decide +kernel
theorem d_cp3_91 : decode prog_37_method_5_code 91 = .ok (.iadd, 1) := by decide +kernel
theorem d_cp3_92 : decode prog_37_method_5_code 92 = .ok (.baload, 1) := by decide +kernel
theorem d_cp3_93 : decode prog_37_method_5_code 93 = .ok (.invokestatic 8, 3) := by decide +kernel
theorem d_cp3_96 : decode prog_37_method_5_code 96 = .ok (.ifCond .eq 25, 3) := by decide +kernel
theorem d_cp3_99 : decode prog_37_method_5_code 99 = .ok (.aload_n 0, 1) := by decide +kernel
theorem d_cp3_100 : decode prog_37_method_5_code 100 = .ok (.iload_n 1, 1) := by decide +kernel
theorem d_cp3_101 : decode prog_37_method_5_code 101 = .ok (.iconst 2, 1) := by decide +kernel
theorem d_cp3_102 : decode prog_37_method_5_code 102 = .ok (.iadd, 1) := by decide +kernel
theorem d_cp3_103 : decode prog_37_method_5_code 103 = .ok (.baload, 1) := by decide +kernel
theorem d_cp3_104 : decode prog_37_method_5_code 104 = .ok (.invokestatic 8, 3) := by decide +kernel
theorem d_cp3_107 : decode prog_37_method_5_code 107 = .ok (.ifCond .eq 14, 3) := by decide +kernel
theorem d_cp3_110 : decode prog_37_method_5_code 110 = .ok (.iload_n 3, 1) := by decide +kernel
theorem d_cp3_111 : decode prog_37_method_5_code 111 = .ok (.sipush 2048, 3) := by decide +kernel
theorem d_cp3_114 : decode prog_37_method_5_code 114 = .ok (.if_icmp .lt 7, 3) := by decide +kernel
theorem d_cp3_117 : decode prog_37_method_5_code 117 = .ok (.iconst 1, 1) := by decide +kernel
theorem d_cp3_118 : decode prog_37_method_5_code 118 = .ok (.goto 4, 3) := by decide +kernel
theorem d_cp3_122 : decode prog_37_method_5_code 122 = .ok (.istore 4, 2) := by decide +kernel
theorem d_cp3_124 : decode prog_37_method_5_code 124 = .ok (.iload 4, 2) := by decide +kernel
theorem d_cp3_126 : decode prog_37_method_5_code 126 = .ok (.iload_n 3, 1) := by decide +kernel
theorem d_cp3_127 : decode prog_37_method_5_code 127 = .ok (.ldc 16, 2) := by decide +kernel
theorem d_cp3_129 : decode prog_37_method_5_code 129 = .ok (.if_icmp .lt 9, 3) := by decide +kernel
theorem d_cp3_132 : decode prog_37_method_5_code 132 = .ok (.iload_n 3, 1) := by decide +kernel
theorem d_cp3_133 : decode prog_37_method_5_code 133 = .ok (.ldc 17, 2) := by decide +kernel
theorem d_cp3_135 : decode prog_37_method_5_code 135 = .ok (.if_icmp .le 7, 3) := by decide +kernel
theorem d_cp3_138 : decode prog_37_method_5_code 138 = .ok (.iconst 1, 1) := by decide +kernel
theorem d_cp3_139 : decode prog_37_method_5_code 139 = .ok (.goto 4, 3) := by decide +kernel
theorem d_cp3_142 : decode prog_37_method_5_code 142 = .ok (.iconst 0, 1) := by decide +kernel
theorem d_cp3_143 : decode prog_37_method_5_code 143 = .ok (.iand, 1) := by decide +kernel
theorem d_cp3_144 : decode prog_37_method_5_code 144 = .ok (.istore 4, 2) := by decide +kernel
theorem d_cp3_146 : decode prog_37_method_5_code 146 = .ok (.goto 110, 3) := by decide +kernel
theorem d_cp3_256 : decode prog_37_method_5_code 256 = .ok (.iload 4, 2) := by decide +kernel
theorem d_cp3_258 : decode prog_37_method_5_code 258 = .ok (.ifCond .eq 7, 3) := by decide +kernel
theorem d_cp3_261 : decode prog_37_method_5_code 261 = .ok (.iload_n 3, 1) := by decide +kernel
theorem d_cp3_262 : decode prog_37_method_5_code 262 = .ok (.goto 4, 3) := by decide +kernel
theorem d_cp3_266 : decode prog_37_method_5_code 266 = .ok (.ireturn, 1) := by decide +kernel
theorem pn_cp3 : plainName "com/example/nuthatch/nuthatch/Utf8" = true := by first | (simp [plainName, overriddenIn]; done) | decide +kernel
theorem pd_cp3_0 : parseMethodDescriptor "(I)Z" = some ⟨[.int], some .boolean⟩ := by decide +kernel
theorem ef_cp3 (m : MethodId) (a1 : Addr) (p2 : Int32) (p3 : Int32) : entryFrame m #[(.ref a1), (.int p2), (.int p3)] 5 = mkF m 0 #[.val (.ref a1), .val (.int p2), .val (.int p3), .unset, .unset] [] := by first | (simp [entryFrame, mkF, argsToLocals, Value.category]; done) | rfl
def Q_cp3 (Z : State) (a1 : Addr) (p2 : Int32) (p3 : Int32) (g : Int32 → Int32) (u0 : Int32) (h0 : Heap) (n0 : Nat) (v : Option Value) (h : Heap) (L : List Loc) : Prop := v = some (.int u0) ∧ Fr n0 L ∧ h = h0
set_option maxRecDepth 65536 in
set_option maxHeartbeats 40000000 in
theorem rm_cp3 (l : Launch) (Z : State) (a0 : Array Value) (hw : ∀ d ∈ tables_1, d.before a0 Z = true) (ws : List Jvm.Cond) (a1 : Addr) (p2 : Int32) (p3 : Int32) (g : Int32 → Int32) (u0 : Int32) (h0 : Heap) (n0 : Nat) (Z0 : n0 ≤ h0.size) (V : own_B Z h0 a1 g) (hp : own_P p2) (hn : p3 = (3 : Int32)) (hd : (((((g p2) &&& (15 : Int32)) <<< ((12 : Int32) &&& 31)) ||| (((g (p2 + (1 : Int32))) &&& (63 : Int32)) <<< ((6 : Int32) &&& 31))) ||| ((g (p2 + (2 : Int32))) &&& (63 : Int32))) = u0) (f1 : ((g (p2 + (1 : Int32))) &&& (192 : Int32)) = (128 : Int32)) (f2 : ((g (p2 + (2 : Int32))) &&& (192 : Int32)) = (128 : Int32)) (r1 : ¬ u0 < (2048 : Int32)) (r2 : u0 < (55296 : Int32) ∨ (57343 : Int32) < u0) :
    MetFree l (⟨"com/example/nuthatch/nuthatch/Utf8", "codePoint", "([BII)I"⟩ : MethodName) (head1 (Jvm.Cond.code (⟨"com/example/nuthatch/nuthatch/Utf8", "codePoint", "([BII)I"⟩ : MethodName) prog_37_method_5_code 5 (some .int) :: ws) ({ frames := 1, cells := 0, slots := 0, locals := 12 } : Room)) (fun a U => a = #[(.ref a1), (.int p2), (.int p3)] ∧ Z.Warmed39 U.vm ∧ U.heap = h0) (fun _ _ _ _ _ => True) (fun _ U o U' => ∃ v L, o = .returned v ∧ Q_cp3 Z a1 p2 p3 g u0 h0 n0 v U'.heap L ∧ FrameEnd U o U' L ({ frames := 1, cells := 0, slots := 0, locals := 12 } : Room).cells ({ frames := 1, cells := 0, slots := 0, locals := 12 } : Room).slots) := by
  refine MetFree.of_bodySF (plainFor_of_name pn_cp3) hisR ?_
  intro p e s m args below meth c s₁ Bd hml0 hP hK
  obtain ⟨rfl, hZ, hh⟩ := hP
  have hx := Bd.exec
  have hby := Bd.bytes
  have hml : c.maxLocals = 5 := hml0
  have hown : s.vm.findClass "com/example/nuthatch/nuthatch/Utf8" = some m.cls := findClass_of_methodNamed Bd.named
  have hnm := (name_of_methodNamed Bd.named Bd.method).1
  have X0 : Stand p l e ({ frames := 1, cells := 0, slots := 0, locals := 12 } : Room) s m #[(.ref a1), (.int p2), (.int p3)] below meth c s₁ [] 0 0 := Stand.of_body Bd
  have e0 : s₁.heap = h0 := by rw [← hh, Bd.state]; rfl
  have N0 := Fr.nil n0
  have pre0 : ∀ t, Steps p.tables e below (s₁.setTop (mkF m 0 #[.val (.ref a1), .val (.int p2), .val (.int p3), .unset, .unset] [])) t → Steps p.tables e below (s₁.setTop (entryFrame m #[(.ref a1), (.int p2), (.int p3)] 5)) t := fun t k => castTop (ef_cp3 m a1 p2 p3) k
  obtain ⟨cl, Ar, Sz, Hs⟩ := V
  have sg1 : ∀ t, Steps p.tables e below (s₁.setTop (mkF m 88 #[.val (.ref a1), .val (.int p2), .val (.int p3), .val (.int u0), .unset] [])) t → Steps p.tables e below (s₁.setTop (mkF m 57 #[.val (.ref a1), .val (.int p2), .val (.int p3), .unset, .unset] [])) t := by
    intro t kt
    show Steps p.tables e below (s₁.setTop (mkF m 57 #[.val (.ref a1), .val (.int p2), .val (.int p3), .unset, .unset] [])) _
    refine XS.aloadN X0.here hx rfl (hb hby d_cp3_57) rfl rfl ?_
    show Steps p.tables e below (s₁.setTop (mkF m 58 #[.val (.ref a1), .val (.int p2), .val (.int p3), .unset, .unset] [(.ref a1)])) _
    refine XS.iloadN X0.here hx rfl (hb hby d_cp3_58) rfl ?_
    show Steps p.tables e below (s₁.setTop (mkF m 59 #[.val (.ref a1), .val (.int p2), .val (.int p3), .unset, .unset] [(.int p2), (.ref a1)])) _
    refine X0.baloadBytes hx (j := p2) (v := (.int (g p2))) (by rw [e0]; exact Ar.1) (State.isArrayOf_alike hZ.alike Ar.2.1) Ar.2.2 (own_in Sz (own_ix0 hp)) (Hs p2 (own_ix0 hp).1 (own_ix0 hp).2) (g := (mkF m 59 #[.val (.ref a1), .val (.int p2), .val (.int p3), .unset, .unset] [(.int p2), (.ref a1)])) rfl rfl (hb hby d_cp3_59) _ ?_
    show Steps p.tables e below (s₁.setTop (mkF m 60 #[.val (.ref a1), .val (.int p2), .val (.int p3), .unset, .unset] [(.int (g p2))])) _
    refine XS.bipush X0.here hx rfl (hb hby d_cp3_60) ?_
    show Steps p.tables e below (s₁.setTop (mkF m 62 #[.val (.ref a1), .val (.int p2), .val (.int p3), .unset, .unset] [(.int (15 : Int32)), (.int (g p2))])) _
    refine XS.iand X0.here hx rfl (hb hby d_cp3_62) rfl ?_
    show Steps p.tables e below (s₁.setTop (mkF m 63 #[.val (.ref a1), .val (.int p2), .val (.int p3), .unset, .unset] [(.int ((g p2) &&& (15 : Int32)))])) _
    refine XS.bipush X0.here hx rfl (hb hby d_cp3_63) ?_
    show Steps p.tables e below (s₁.setTop (mkF m 65 #[.val (.ref a1), .val (.int p2), .val (.int p3), .unset, .unset] [(.int (12 : Int32)), (.int ((g p2) &&& (15 : Int32)))])) _
    refine XS.ishl X0.here hx rfl (hb hby d_cp3_65) rfl ?_
    show Steps p.tables e below (s₁.setTop (mkF m 66 #[.val (.ref a1), .val (.int p2), .val (.int p3), .unset, .unset] [(.int (((g p2) &&& (15 : Int32)) <<< ((12 : Int32) &&& 31)))])) _
    refine XS.aloadN X0.here hx rfl (hb hby d_cp3_66) rfl rfl ?_
    show Steps p.tables e below (s₁.setTop (mkF m 67 #[.val (.ref a1), .val (.int p2), .val (.int p3), .unset, .unset] [(.ref a1), (.int (((g p2) &&& (15 : Int32)) <<< ((12 : Int32) &&& 31)))])) _
    refine XS.iloadN X0.here hx rfl (hb hby d_cp3_67) rfl ?_
    show Steps p.tables e below (s₁.setTop (mkF m 68 #[.val (.ref a1), .val (.int p2), .val (.int p3), .unset, .unset] [(.int p2), (.ref a1), (.int (((g p2) &&& (15 : Int32)) <<< ((12 : Int32) &&& 31)))])) _
    refine XS.iconst X0.here hx rfl (hb hby d_cp3_68) ?_
    show Steps p.tables e below (s₁.setTop (mkF m 69 #[.val (.ref a1), .val (.int p2), .val (.int p3), .unset, .unset] [(.int (1 : Int32)), (.int p2), (.ref a1), (.int (((g p2) &&& (15 : Int32)) <<< ((12 : Int32) &&& 31)))])) _
    refine XS.iadd X0.here hx rfl (hb hby d_cp3_69) rfl ?_
    show Steps p.tables e below (s₁.setTop (mkF m 70 #[.val (.ref a1), .val (.int p2), .val (.int p3), .unset, .unset] [(.int (p2 + (1 : Int32))), (.ref a1), (.int (((g p2) &&& (15 : Int32)) <<< ((12 : Int32) &&& 31)))])) _
    refine X0.baloadBytes hx (j := (p2 + (1 : Int32))) (v := (.int (g (p2 + (1 : Int32))))) (by rw [e0]; exact Ar.1) (State.isArrayOf_alike hZ.alike Ar.2.1) Ar.2.2 (own_in Sz (own_ix1 hp)) (Hs (p2 + (1 : Int32)) (own_ix1 hp).1 (own_ix1 hp).2) (g := (mkF m 70 #[.val (.ref a1), .val (.int p2), .val (.int p3), .unset, .unset] [(.int (p2 + (1 : Int32))), (.ref a1), (.int (((g p2) &&& (15 : Int32)) <<< ((12 : Int32) &&& 31)))])) rfl rfl (hb hby d_cp3_70) _ ?_
    show Steps p.tables e below (s₁.setTop (mkF m 71 #[.val (.ref a1), .val (.int p2), .val (.int p3), .unset, .unset] [(.int (g (p2 + (1 : Int32)))), (.int (((g p2) &&& (15 : Int32)) <<< ((12 : Int32) &&& 31)))])) _
    refine XS.bipush X0.here hx rfl (hb hby d_cp3_71) ?_
    show Steps p.tables e below (s₁.setTop (mkF m 73 #[.val (.ref a1), .val (.int p2), .val (.int p3), .unset, .unset] [(.int (63 : Int32)), (.int (g (p2 + (1 : Int32)))), (.int (((g p2) &&& (15 : Int32)) <<< ((12 : Int32) &&& 31)))])) _
    refine XS.iand X0.here hx rfl (hb hby d_cp3_73) rfl ?_
    show Steps p.tables e below (s₁.setTop (mkF m 74 #[.val (.ref a1), .val (.int p2), .val (.int p3), .unset, .unset] [(.int ((g (p2 + (1 : Int32))) &&& (63 : Int32))), (.int (((g p2) &&& (15 : Int32)) <<< ((12 : Int32) &&& 31)))])) _
    refine XS.bipush X0.here hx rfl (hb hby d_cp3_74) ?_
    show Steps p.tables e below (s₁.setTop (mkF m 76 #[.val (.ref a1), .val (.int p2), .val (.int p3), .unset, .unset] [(.int (6 : Int32)), (.int ((g (p2 + (1 : Int32))) &&& (63 : Int32))), (.int (((g p2) &&& (15 : Int32)) <<< ((12 : Int32) &&& 31)))])) _
    refine XS.ishl X0.here hx rfl (hb hby d_cp3_76) rfl ?_
    show Steps p.tables e below (s₁.setTop (mkF m 77 #[.val (.ref a1), .val (.int p2), .val (.int p3), .unset, .unset] [(.int (((g (p2 + (1 : Int32))) &&& (63 : Int32)) <<< ((6 : Int32) &&& 31))), (.int (((g p2) &&& (15 : Int32)) <<< ((12 : Int32) &&& 31)))])) _
    refine XS.ior X0.here hx rfl (hb hby d_cp3_77) rfl ?_
    show Steps p.tables e below (s₁.setTop (mkF m 78 #[.val (.ref a1), .val (.int p2), .val (.int p3), .unset, .unset] [(.int ((((g p2) &&& (15 : Int32)) <<< ((12 : Int32) &&& 31)) ||| (((g (p2 + (1 : Int32))) &&& (63 : Int32)) <<< ((6 : Int32) &&& 31))))])) _
    refine XS.aloadN X0.here hx rfl (hb hby d_cp3_78) rfl rfl ?_
    show Steps p.tables e below (s₁.setTop (mkF m 79 #[.val (.ref a1), .val (.int p2), .val (.int p3), .unset, .unset] [(.ref a1), (.int ((((g p2) &&& (15 : Int32)) <<< ((12 : Int32) &&& 31)) ||| (((g (p2 + (1 : Int32))) &&& (63 : Int32)) <<< ((6 : Int32) &&& 31))))])) _
    refine XS.iloadN X0.here hx rfl (hb hby d_cp3_79) rfl ?_
    show Steps p.tables e below (s₁.setTop (mkF m 80 #[.val (.ref a1), .val (.int p2), .val (.int p3), .unset, .unset] [(.int p2), (.ref a1), (.int ((((g p2) &&& (15 : Int32)) <<< ((12 : Int32) &&& 31)) ||| (((g (p2 + (1 : Int32))) &&& (63 : Int32)) <<< ((6 : Int32) &&& 31))))])) _
    refine XS.iconst X0.here hx rfl (hb hby d_cp3_80) ?_
    show Steps p.tables e below (s₁.setTop (mkF m 81 #[.val (.ref a1), .val (.int p2), .val (.int p3), .unset, .unset] [(.int (2 : Int32)), (.int p2), (.ref a1), (.int ((((g p2) &&& (15 : Int32)) <<< ((12 : Int32) &&& 31)) ||| (((g (p2 + (1 : Int32))) &&& (63 : Int32)) <<< ((6 : Int32) &&& 31))))])) _
    refine XS.iadd X0.here hx rfl (hb hby d_cp3_81) rfl ?_
    show Steps p.tables e below (s₁.setTop (mkF m 82 #[.val (.ref a1), .val (.int p2), .val (.int p3), .unset, .unset] [(.int (p2 + (2 : Int32))), (.ref a1), (.int ((((g p2) &&& (15 : Int32)) <<< ((12 : Int32) &&& 31)) ||| (((g (p2 + (1 : Int32))) &&& (63 : Int32)) <<< ((6 : Int32) &&& 31))))])) _
    refine X0.baloadBytes hx (j := (p2 + (2 : Int32))) (v := (.int (g (p2 + (2 : Int32))))) (by rw [e0]; exact Ar.1) (State.isArrayOf_alike hZ.alike Ar.2.1) Ar.2.2 (own_in Sz (own_iy2 hp)) (Hs (p2 + (2 : Int32)) (own_iy2 hp).1 (own_iy2 hp).2) (g := (mkF m 82 #[.val (.ref a1), .val (.int p2), .val (.int p3), .unset, .unset] [(.int (p2 + (2 : Int32))), (.ref a1), (.int ((((g p2) &&& (15 : Int32)) <<< ((12 : Int32) &&& 31)) ||| (((g (p2 + (1 : Int32))) &&& (63 : Int32)) <<< ((6 : Int32) &&& 31))))])) rfl rfl (hb hby d_cp3_82) _ ?_
    show Steps p.tables e below (s₁.setTop (mkF m 83 #[.val (.ref a1), .val (.int p2), .val (.int p3), .unset, .unset] [(.int (g (p2 + (2 : Int32)))), (.int ((((g p2) &&& (15 : Int32)) <<< ((12 : Int32) &&& 31)) ||| (((g (p2 + (1 : Int32))) &&& (63 : Int32)) <<< ((6 : Int32) &&& 31))))])) _
    refine XS.bipush X0.here hx rfl (hb hby d_cp3_83) ?_
    show Steps p.tables e below (s₁.setTop (mkF m 85 #[.val (.ref a1), .val (.int p2), .val (.int p3), .unset, .unset] [(.int (63 : Int32)), (.int (g (p2 + (2 : Int32)))), (.int ((((g p2) &&& (15 : Int32)) <<< ((12 : Int32) &&& 31)) ||| (((g (p2 + (1 : Int32))) &&& (63 : Int32)) <<< ((6 : Int32) &&& 31))))])) _
    refine XS.iand X0.here hx rfl (hb hby d_cp3_85) rfl ?_
    show Steps p.tables e below (s₁.setTop (mkF m 86 #[.val (.ref a1), .val (.int p2), .val (.int p3), .unset, .unset] [(.int ((g (p2 + (2 : Int32))) &&& (63 : Int32))), (.int ((((g p2) &&& (15 : Int32)) <<< ((12 : Int32) &&& 31)) ||| (((g (p2 + (1 : Int32))) &&& (63 : Int32)) <<< ((6 : Int32) &&& 31))))])) _
    refine XS.ior X0.here hx rfl (hb hby d_cp3_86) rfl ?_
    show Steps p.tables e below (s₁.setTop (mkF m 87 #[.val (.ref a1), .val (.int p2), .val (.int p3), .unset, .unset] [(.int (((((g p2) &&& (15 : Int32)) <<< ((12 : Int32) &&& 31)) ||| (((g (p2 + (1 : Int32))) &&& (63 : Int32)) <<< ((6 : Int32) &&& 31))) ||| ((g (p2 + (2 : Int32))) &&& (63 : Int32))))])) _
    refine XS.istoreN X0.here hx rfl (hb hby d_cp3_87) rfl (l' := #[.val (.ref a1), .val (.int p2), .val (.int p3), .val (.int (((((g p2) &&& (15 : Int32)) <<< ((12 : Int32) &&& 31)) ||| (((g (p2 + (1 : Int32))) &&& (63 : Int32)) <<< ((6 : Int32) &&& 31))) ||| ((g (p2 + (2 : Int32))) &&& (63 : Int32)))), .unset]) rfl ?_
    show Steps p.tables e below (s₁.setTop (mkF m 88 #[.val (.ref a1), .val (.int p2), .val (.int p3), .val (.int (((((g p2) &&& (15 : Int32)) <<< ((12 : Int32) &&& 31)) ||| (((g (p2 + (1 : Int32))) &&& (63 : Int32)) <<< ((6 : Int32) &&& 31))) ||| ((g (p2 + (2 : Int32))) &&& (63 : Int32)))), .unset] [])) _
    refine castTop (congrArg (fun zz => (mkF m 88 #[.val (.ref a1), .val (.int p2), .val (.int p3), .val (.int zz), .unset] [])) (by exact hd : (((((g p2) &&& (15 : Int32)) <<< ((12 : Int32) &&& 31)) ||| (((g (p2 + (1 : Int32))) &&& (63 : Int32)) <<< ((6 : Int32) &&& 31))) ||| ((g (p2 + (2 : Int32))) &&& (63 : Int32))) = u0)) ?_
    exact kt
  have pr3 : ∀ t, Steps p.tables e below (s₁.setTop (mkF m 93 #[.val (.ref a1), .val (.int p2), .val (.int p3), .val (.int u0), .unset] [(.int (g (p2 + (1 : Int32))))])) t → Steps p.tables e below (s₁.setTop (entryFrame m #[(.ref a1), (.int p2), (.int p3)] 5)) t := fun t kt => pre0 t (by
    show Steps p.tables e below (s₁.setTop (mkF m 0 #[.val (.ref a1), .val (.int p2), .val (.int p3), .unset, .unset] [])) _
    refine XS.iloadN X0.here hx rfl (hb hby d_cp3_0) rfl ?_
    show Steps p.tables e below (s₁.setTop (mkF m 1 #[.val (.ref a1), .val (.int p2), .val (.int p3), .unset, .unset] [(.int p3)])) _
    refine XS.iconst X0.here hx rfl (hb hby d_cp3_1) ?_
    show Steps p.tables e below (s₁.setTop (mkF m 2 #[.val (.ref a1), .val (.int p2), .val (.int p3), .unset, .unset] [(.int (2 : Int32)), (.int p3)])) _
    refine XS.icmpYes X0.here hx rfl (pc0 := 2) (pc' := 52) rfl (hb hby d_cp3_2) rfl (feq ((by rw [hn]; decide) : ¬ (p3 = (2 : Int32)))).2 (by decide) (by decide) ?_
    show Steps p.tables e below (s₁.setTop (mkF m 52 #[.val (.ref a1), .val (.int p2), .val (.int p3), .unset, .unset] [])) _
    refine XS.iloadN X0.here hx rfl (hb hby d_cp3_52) rfl ?_
    show Steps p.tables e below (s₁.setTop (mkF m 53 #[.val (.ref a1), .val (.int p2), .val (.int p3), .unset, .unset] [(.int p3)])) _
    refine XS.iconst X0.here hx rfl (hb hby d_cp3_53) ?_
    show Steps p.tables e below (s₁.setTop (mkF m 54 #[.val (.ref a1), .val (.int p2), .val (.int p3), .unset, .unset] [(.int (3 : Int32)), (.int p3)])) _
    refine XS.icmpNo X0.here hx rfl (hb hby d_cp3_54) rfl (teq (hn : p3 = (3 : Int32))).2 ?_
    show Steps p.tables e below (s₁.setTop (mkF m 57 #[.val (.ref a1), .val (.int p2), .val (.int p3), .unset, .unset] [])) _
    refine sg1 _ ?_
    show Steps p.tables e below (s₁.setTop (mkF m 88 #[.val (.ref a1), .val (.int p2), .val (.int p3), .val (.int u0), .unset] [])) _
    refine XS.aloadN X0.here hx rfl (hb hby d_cp3_88) rfl rfl ?_
    show Steps p.tables e below (s₁.setTop (mkF m 89 #[.val (.ref a1), .val (.int p2), .val (.int p3), .val (.int u0), .unset] [(.ref a1)])) _
    refine XS.iloadN X0.here hx rfl (hb hby d_cp3_89) rfl ?_
    show Steps p.tables e below (s₁.setTop (mkF m 90 #[.val (.ref a1), .val (.int p2), .val (.int p3), .val (.int u0), .unset] [(.int p2), (.ref a1)])) _
    refine XS.iconst X0.here hx rfl (hb hby d_cp3_90) ?_
    show Steps p.tables e below (s₁.setTop (mkF m 91 #[.val (.ref a1), .val (.int p2), .val (.int p3), .val (.int u0), .unset] [(.int (1 : Int32)), (.int p2), (.ref a1)])) _
    refine XS.iadd X0.here hx rfl (hb hby d_cp3_91) rfl ?_
    show Steps p.tables e below (s₁.setTop (mkF m 92 #[.val (.ref a1), .val (.int p2), .val (.int p3), .val (.int u0), .unset] [(.int (p2 + (1 : Int32))), (.ref a1)])) _
    refine X0.baloadBytes hx (j := (p2 + (1 : Int32))) (v := (.int (g (p2 + (1 : Int32))))) (by rw [e0]; exact Ar.1) (State.isArrayOf_alike hZ.alike Ar.2.1) Ar.2.2 (own_in Sz (own_ix1 hp)) (Hs (p2 + (1 : Int32)) (own_ix1 hp).1 (own_ix1 hp).2) (g := (mkF m 92 #[.val (.ref a1), .val (.int p2), .val (.int p3), .val (.int u0), .unset] [(.int (p2 + (1 : Int32))), (.ref a1)])) rfl rfl (hb hby d_cp3_92) _ ?_
    show Steps p.tables e below (s₁.setTop (mkF m 93 #[.val (.ref a1), .val (.int p2), .val (.int p3), .val (.int u0), .unset] [(.int (g (p2 + (1 : Int32))))])) _
    exact kt)
  obtain ⟨_, _, ⟨T2, L2, k2, n2⟩, -, X2, ⟨Lc2, hQ2, l2, y2, z2⟩, st2⟩ := Jvm.LawKit.callS X0 hx (y := (⟨"com/example/nuthatch/nuthatch/Utf8", "follows", "(I)Z"⟩ : MethodName)) hown (mvT hZ (hw _ (List.mem_of_getElem? (i := 18) rfl))) (mvT hZ (hw _ (List.mem_of_getElem? (i := 19) rfl))) (mvT hZ (hw _ (List.mem_of_getElem? (i := 5) rfl))) (mvT hZ (hw _ (List.mem_of_getElem? (i := 20) rfl))) (by decide) (backOf (W := 0) (rm_fo l Z a0 hw [] (g (p2 + (1 : Int32))) h0 n0 Z0 ) hZ (hw _ (List.mem_of_getElem? (i := 20) rfl)) (hw _ (List.mem_of_getElem? (i := 5) rfl)) (by decide) (by decide)) (g := (mkF m 93 #[.val (.ref a1), .val (.int p2), .val (.int p3), .val (.int u0), .unset] [(.int (g (p2 + (1 : Int32))))])) rfl (by rw [hml]; rfl) (argsL := [(.int (g (p2 + (1 : Int32))))]) (rest := []) (lenOf pd_cp3_0 rfl) rfl (by show 2 * 0 + _ ≤ _; exact Nat.le_of_eq rfl) (hb hby d_cp3_93) (fun _ _ => ⟨rfl, e0, (by decide : 0 + 0 ≤ _), (by decide : 0 + 0 ≤ _)⟩)
  dsimp only [Pt.U, Pt.locs, Pt.cells, Pt.slots] at X2 l2 y2 z2 st2 hQ2
  subst l2 y2 z2
  obtain ⟨rfl, N2q, e2⟩ := hQ2
  have N2 := Fr.app N0 N2q
  have pr5 : ∀ t, Steps p.tables e below (T2.setTop (mkF m 104 #[.val (.ref a1), .val (.int p2), .val (.int p3), .val (.int u0), .unset] [(.int (g (p2 + (2 : Int32))))])) t → Steps p.tables e below (s₁.setTop (entryFrame m #[(.ref a1), (.int p2), (.int p3)] 5)) t := fun t kt => pr3 t (by
    refine st2 _ ?_
    show Steps p.tables e below (T2.setTop (mkF m 96 #[.val (.ref a1), .val (.int p2), .val (.int p3), .val (.int u0), .unset] [(.int (own_b (own_fo (g (p2 + (1 : Int32))))))])) _
    refine XS.ifNo X2.here hx rfl (hb hby d_cp3_96) rfl ((if0 _ _).trans (feq (own_b1 (own_fot f1 : (own_fo (g (p2 + (1 : Int32)))) = true))).1) ?_
    show Steps p.tables e below (T2.setTop (mkF m 99 #[.val (.ref a1), .val (.int p2), .val (.int p3), .val (.int u0), .unset] [])) _
    refine XS.aloadN X2.here hx rfl (hb hby d_cp3_99) rfl rfl ?_
    show Steps p.tables e below (T2.setTop (mkF m 100 #[.val (.ref a1), .val (.int p2), .val (.int p3), .val (.int u0), .unset] [(.ref a1)])) _
    refine XS.iloadN X2.here hx rfl (hb hby d_cp3_100) rfl ?_
    show Steps p.tables e below (T2.setTop (mkF m 101 #[.val (.ref a1), .val (.int p2), .val (.int p3), .val (.int u0), .unset] [(.int p2), (.ref a1)])) _
    refine XS.iconst X2.here hx rfl (hb hby d_cp3_101) ?_
    show Steps p.tables e below (T2.setTop (mkF m 102 #[.val (.ref a1), .val (.int p2), .val (.int p3), .val (.int u0), .unset] [(.int (2 : Int32)), (.int p2), (.ref a1)])) _
    refine XS.iadd X2.here hx rfl (hb hby d_cp3_102) rfl ?_
    show Steps p.tables e below (T2.setTop (mkF m 103 #[.val (.ref a1), .val (.int p2), .val (.int p3), .val (.int u0), .unset] [(.int (p2 + (2 : Int32))), (.ref a1)])) _
    refine X2.baloadBytes hx (j := (p2 + (2 : Int32))) (v := (.int (g (p2 + (2 : Int32))))) (by rw [e2]; exact Ar.1) (State.isArrayOf_alike hZ.alike Ar.2.1) Ar.2.2 (own_in Sz (own_iy2 hp)) (Hs (p2 + (2 : Int32)) (own_iy2 hp).1 (own_iy2 hp).2) (g := (mkF m 103 #[.val (.ref a1), .val (.int p2), .val (.int p3), .val (.int u0), .unset] [(.int (p2 + (2 : Int32))), (.ref a1)])) rfl rfl (hb hby d_cp3_103) _ ?_
    show Steps p.tables e below (T2.setTop (mkF m 104 #[.val (.ref a1), .val (.int p2), .val (.int p3), .val (.int u0), .unset] [(.int (g (p2 + (2 : Int32))))])) _
    exact kt)
  obtain ⟨_, _, ⟨T4, L4, k4, n4⟩, -, X4, ⟨Lc4, hQ4, l4, y4, z4⟩, st4⟩ := Jvm.LawKit.callS X2 hx (y := (⟨"com/example/nuthatch/nuthatch/Utf8", "follows", "(I)Z"⟩ : MethodName)) hown (mvT hZ (hw _ (List.mem_of_getElem? (i := 18) rfl))) (mvT hZ (hw _ (List.mem_of_getElem? (i := 19) rfl))) (mvT hZ (hw _ (List.mem_of_getElem? (i := 5) rfl))) (mvT hZ (hw _ (List.mem_of_getElem? (i := 20) rfl))) (by decide) (backOf (W := 0) (rm_fo l Z a0 hw [] (g (p2 + (2 : Int32))) h0 n0 Z0 ) hZ (hw _ (List.mem_of_getElem? (i := 20) rfl)) (hw _ (List.mem_of_getElem? (i := 5) rfl)) (by decide) (by decide)) (g := (mkF m 104 #[.val (.ref a1), .val (.int p2), .val (.int p3), .val (.int u0), .unset] [(.int (g (p2 + (2 : Int32))))])) rfl (by rw [hml]; rfl) (argsL := [(.int (g (p2 + (2 : Int32))))]) (rest := []) (lenOf pd_cp3_0 rfl) rfl (by show 2 * 0 + _ ≤ _; exact Nat.le_of_eq rfl) (hb hby d_cp3_104) (fun _ _ => ⟨rfl, e2, (by decide : 0 + 0 ≤ _), (by decide : 0 + 0 ≤ _)⟩)
  dsimp only [Pt.U, Pt.locs, Pt.cells, Pt.slots] at X4 l4 y4 z4 st4 hQ4
  subst l4 y4 z4
  obtain ⟨rfl, N4q, e4⟩ := hQ4
  have N4 := Fr.app N2 N4q
  have sg6 : ∀ t, Steps p.tables e below (T4.setTop (mkF m 146 #[.val (.ref a1), .val (.int p2), .val (.int p3), .val (.int u0), .val (.int (1 : Int32))] [])) t → Steps p.tables e below (T4.setTop (mkF m 124 #[.val (.ref a1), .val (.int p2), .val (.int p3), .val (.int u0), .val (.int (1 : Int32))] [])) t := by
    intro t kt
    show Steps p.tables e below (T4.setTop (mkF m 124 #[.val (.ref a1), .val (.int p2), .val (.int p3), .val (.int u0), .val (.int (1 : Int32))] [])) _
    refine XS.iload X4.here hx rfl (hb hby d_cp3_124) rfl ?_
    show Steps p.tables e below (T4.setTop (mkF m 126 #[.val (.ref a1), .val (.int p2), .val (.int p3), .val (.int u0), .val (.int (1 : Int32))] [(.int (1 : Int32))])) _
    refine XS.iloadN X4.here hx rfl (hb hby d_cp3_126) rfl ?_
    show Steps p.tables e below (T4.setTop (mkF m 127 #[.val (.ref a1), .val (.int p2), .val (.int p3), .val (.int u0), .val (.int (1 : Int32))] [(.int u0), (.int (1 : Int32))])) _
    refine X4.ldcInt hx hown (mvT hZ (hw _ (List.mem_of_getElem? (i := 25) rfl))) (g := (mkF m 127 #[.val (.ref a1), .val (.int p2), .val (.int p3), .val (.int u0), .val (.int (1 : Int32))] [(.int u0), (.int (1 : Int32))])) rfl (hb hby d_cp3_127) _ ?_
    by_cases hc129_7 : u0 < (55296 : Int32)
    · show Steps p.tables e below (T4.setTop (mkF m 129 #[.val (.ref a1), .val (.int p2), .val (.int p3), .val (.int u0), .val (.int (1 : Int32))] [(.int (55296 : Int32)), (.int u0), (.int (1 : Int32))])) _
      refine XS.icmpYes X4.here hx rfl (pc0 := 129) (pc' := 138) rfl (hb hby d_cp3_129) rfl (tlt hc129_7).1 (by decide) (by decide) ?_
      show Steps p.tables e below (T4.setTop (mkF m 138 #[.val (.ref a1), .val (.int p2), .val (.int p3), .val (.int u0), .val (.int (1 : Int32))] [(.int (1 : Int32))])) _
      refine XS.iconst X4.here hx rfl (hb hby d_cp3_138) ?_
      show Steps p.tables e below (T4.setTop (mkF m 139 #[.val (.ref a1), .val (.int p2), .val (.int p3), .val (.int u0), .val (.int (1 : Int32))] [(.int (1 : Int32)), (.int (1 : Int32))])) _
      refine XS.goto X4.here hx rfl (pc0 := 139) (pc' := 143) rfl (hb hby d_cp3_139) (by decide) (by decide) ?_
      show Steps p.tables e below (T4.setTop (mkF m 143 #[.val (.ref a1), .val (.int p2), .val (.int p3), .val (.int u0), .val (.int (1 : Int32))] [(.int (1 : Int32)), (.int (1 : Int32))])) _
      refine XS.iand X4.here hx rfl (hb hby d_cp3_143) rfl ?_
      show Steps p.tables e below (T4.setTop (mkF m 144 #[.val (.ref a1), .val (.int p2), .val (.int p3), .val (.int u0), .val (.int (1 : Int32))] [(.int (1 : Int32))])) _
      refine XS.istore X4.here hx rfl (hb hby d_cp3_144) rfl (l' := #[.val (.ref a1), .val (.int p2), .val (.int p3), .val (.int u0), .val (.int (1 : Int32))]) rfl ?_
      show Steps p.tables e below (T4.setTop (mkF m 146 #[.val (.ref a1), .val (.int p2), .val (.int p3), .val (.int u0), .val (.int (1 : Int32))] [])) _
      exact kt
    · show Steps p.tables e below (T4.setTop (mkF m 129 #[.val (.ref a1), .val (.int p2), .val (.int p3), .val (.int u0), .val (.int (1 : Int32))] [(.int (55296 : Int32)), (.int u0), (.int (1 : Int32))])) _
      refine XS.icmpNo X4.here hx rfl (hb hby d_cp3_129) rfl (flt hc129_7).1 ?_
      show Steps p.tables e below (T4.setTop (mkF m 132 #[.val (.ref a1), .val (.int p2), .val (.int p3), .val (.int u0), .val (.int (1 : Int32))] [(.int (1 : Int32))])) _
      refine XS.iloadN X4.here hx rfl (hb hby d_cp3_132) rfl ?_
      show Steps p.tables e below (T4.setTop (mkF m 133 #[.val (.ref a1), .val (.int p2), .val (.int p3), .val (.int u0), .val (.int (1 : Int32))] [(.int u0), (.int (1 : Int32))])) _
      refine X4.ldcInt hx hown (mvT hZ (hw _ (List.mem_of_getElem? (i := 26) rfl))) (g := (mkF m 133 #[.val (.ref a1), .val (.int p2), .val (.int p3), .val (.int u0), .val (.int (1 : Int32))] [(.int u0), (.int (1 : Int32))])) rfl (hb hby d_cp3_133) _ ?_
      by_cases hc135_8 : (57343 : Int32) < u0
      · show Steps p.tables e below (T4.setTop (mkF m 135 #[.val (.ref a1), .val (.int p2), .val (.int p3), .val (.int u0), .val (.int (1 : Int32))] [(.int (57343 : Int32)), (.int u0), (.int (1 : Int32))])) _
        refine XS.icmpNo X4.here hx rfl (hb hby d_cp3_135) rfl (tlt hc135_8).2.2.2 ?_
        show Steps p.tables e below (T4.setTop (mkF m 138 #[.val (.ref a1), .val (.int p2), .val (.int p3), .val (.int u0), .val (.int (1 : Int32))] [(.int (1 : Int32))])) _
        refine XS.iconst X4.here hx rfl (hb hby d_cp3_138) ?_
        show Steps p.tables e below (T4.setTop (mkF m 139 #[.val (.ref a1), .val (.int p2), .val (.int p3), .val (.int u0), .val (.int (1 : Int32))] [(.int (1 : Int32)), (.int (1 : Int32))])) _
        refine XS.goto X4.here hx rfl (pc0 := 139) (pc' := 143) rfl (hb hby d_cp3_139) (by decide) (by decide) ?_
        show Steps p.tables e below (T4.setTop (mkF m 143 #[.val (.ref a1), .val (.int p2), .val (.int p3), .val (.int u0), .val (.int (1 : Int32))] [(.int (1 : Int32)), (.int (1 : Int32))])) _
        refine XS.iand X4.here hx rfl (hb hby d_cp3_143) rfl ?_
        show Steps p.tables e below (T4.setTop (mkF m 144 #[.val (.ref a1), .val (.int p2), .val (.int p3), .val (.int u0), .val (.int (1 : Int32))] [(.int (1 : Int32))])) _
        refine XS.istore X4.here hx rfl (hb hby d_cp3_144) rfl (l' := #[.val (.ref a1), .val (.int p2), .val (.int p3), .val (.int u0), .val (.int (1 : Int32))]) rfl ?_
        show Steps p.tables e below (T4.setTop (mkF m 146 #[.val (.ref a1), .val (.int p2), .val (.int p3), .val (.int u0), .val (.int (1 : Int32))] [])) _
        exact kt
      · show Steps p.tables e below (T4.setTop (mkF m 135 #[.val (.ref a1), .val (.int p2), .val (.int p3), .val (.int u0), .val (.int (1 : Int32))] [(.int (57343 : Int32)), (.int u0), (.int (1 : Int32))])) _
        refine XS.icmpYes X4.here hx rfl (pc0 := 135) (pc' := 142) rfl (hb hby d_cp3_135) rfl (flt hc135_8).2.2.2 (by decide) (by decide) ?_
        show Steps p.tables e below (T4.setTop (mkF m 142 #[.val (.ref a1), .val (.int p2), .val (.int p3), .val (.int u0), .val (.int (1 : Int32))] [(.int (1 : Int32))])) _
        refine XS.iconst X4.here hx rfl (hb hby d_cp3_142) ?_
        show Steps p.tables e below (T4.setTop (mkF m 143 #[.val (.ref a1), .val (.int p2), .val (.int p3), .val (.int u0), .val (.int (1 : Int32))] [(.int (0 : Int32)), (.int (1 : Int32))])) _
        refine XS.iand X4.here hx rfl (hb hby d_cp3_143) rfl ?_
        show Steps p.tables e below (T4.setTop (mkF m 144 #[.val (.ref a1), .val (.int p2), .val (.int p3), .val (.int u0), .val (.int (1 : Int32))] [(.int (0 : Int32))])) _
        refine XS.istore X4.here hx rfl (hb hby d_cp3_144) rfl (l' := #[.val (.ref a1), .val (.int p2), .val (.int p3), .val (.int u0), .val (.int (0 : Int32))]) rfl ?_
        show Steps p.tables e below (T4.setTop (mkF m 146 #[.val (.ref a1), .val (.int p2), .val (.int p3), .val (.int u0), .val (.int (0 : Int32))] [])) _
        exfalso
        rcases r2 with q | q <;> contradiction
  obtain ⟨fs, hr, hrun, hended, hW, hsame⟩ := X4.leave (v := some (.int u0)) (fun h => by rw [Bd.returns] at h; cases h)
  refine ⟨_, _, pr5 _ ?_, hrun, hended, _, _, rfl, ?_, ⟨_, rfl⟩, hW, hsame.mono (by decide) (by decide)⟩
  · refine st4 _ ?_
    show Steps p.tables e below (T4.setTop (mkF m 107 #[.val (.ref a1), .val (.int p2), .val (.int p3), .val (.int u0), .unset] [(.int (own_b (own_fo (g (p2 + (2 : Int32))))))])) _
    refine XS.ifNo X4.here hx rfl (hb hby d_cp3_107) rfl ((if0 _ _).trans (feq (own_b1 (own_fot f2 : (own_fo (g (p2 + (2 : Int32)))) = true))).1) ?_
    show Steps p.tables e below (T4.setTop (mkF m 110 #[.val (.ref a1), .val (.int p2), .val (.int p3), .val (.int u0), .unset] [])) _
    refine XS.iloadN X4.here hx rfl (hb hby d_cp3_110) rfl ?_
    show Steps p.tables e below (T4.setTop (mkF m 111 #[.val (.ref a1), .val (.int p2), .val (.int p3), .val (.int u0), .unset] [(.int u0)])) _
    refine XS.sipush X4.here hx rfl (hb hby d_cp3_111) ?_
    show Steps p.tables e below (T4.setTop (mkF m 114 #[.val (.ref a1), .val (.int p2), .val (.int p3), .val (.int u0), .unset] [(.int (2048 : Int32)), (.int u0)])) _
    refine XS.icmpNo X4.here hx rfl (hb hby d_cp3_114) rfl (flt (r1 : ¬ (u0 < (2048 : Int32)))).1 ?_
    show Steps p.tables e below (T4.setTop (mkF m 117 #[.val (.ref a1), .val (.int p2), .val (.int p3), .val (.int u0), .unset] [])) _
    refine XS.iconst X4.here hx rfl (hb hby d_cp3_117) ?_
    show Steps p.tables e below (T4.setTop (mkF m 118 #[.val (.ref a1), .val (.int p2), .val (.int p3), .val (.int u0), .unset] [(.int (1 : Int32))])) _
    refine XS.goto X4.here hx rfl (pc0 := 118) (pc' := 122) rfl (hb hby d_cp3_118) (by decide) (by decide) ?_
    show Steps p.tables e below (T4.setTop (mkF m 122 #[.val (.ref a1), .val (.int p2), .val (.int p3), .val (.int u0), .unset] [(.int (1 : Int32))])) _
    refine XS.istore X4.here hx rfl (hb hby d_cp3_122) rfl (l' := #[.val (.ref a1), .val (.int p2), .val (.int p3), .val (.int u0), .val (.int (1 : Int32))]) rfl ?_
    show Steps p.tables e below (T4.setTop (mkF m 124 #[.val (.ref a1), .val (.int p2), .val (.int p3), .val (.int u0), .val (.int (1 : Int32))] [])) _
    refine sg6 _ ?_
    show Steps p.tables e below (T4.setTop (mkF m 146 #[.val (.ref a1), .val (.int p2), .val (.int p3), .val (.int u0), .val (.int (1 : Int32))] [])) _
    refine XS.goto X4.here hx rfl (pc0 := 146) (pc' := 256) rfl (hb hby d_cp3_146) (by decide) (by decide) ?_
    show Steps p.tables e below (T4.setTop (mkF m 256 #[.val (.ref a1), .val (.int p2), .val (.int p3), .val (.int u0), .val (.int (1 : Int32))] [])) _
    refine XS.iload X4.here hx rfl (hb hby d_cp3_256) rfl ?_
    show Steps p.tables e below (T4.setTop (mkF m 258 #[.val (.ref a1), .val (.int p2), .val (.int p3), .val (.int u0), .val (.int (1 : Int32))] [(.int (1 : Int32))])) _
    refine XS.ifNo X4.here hx rfl (hb hby d_cp3_258) rfl ((if0 _ _).trans (feq (by decide : ¬ ((1 : Int32) = (0 : Int32)))).1) ?_
    show Steps p.tables e below (T4.setTop (mkF m 261 #[.val (.ref a1), .val (.int p2), .val (.int p3), .val (.int u0), .val (.int (1 : Int32))] [])) _
    refine XS.iloadN X4.here hx rfl (hb hby d_cp3_261) rfl ?_
    show Steps p.tables e below (T4.setTop (mkF m 262 #[.val (.ref a1), .val (.int p2), .val (.int p3), .val (.int u0), .val (.int (1 : Int32))] [(.int u0)])) _
    refine XS.goto X4.here hx rfl (pc0 := 262) (pc' := 266) rfl (hb hby d_cp3_262) (by decide) (by decide) ?_
    show Steps p.tables e below (T4.setTop (mkF m 266 #[.val (.ref a1), .val (.int p2), .val (.int p3), .val (.int u0), .val (.int (1 : Int32))] [(.int u0)])) _
    exact retI X4 hx Bd.returns (hb hby d_cp3_266) hr
  · show Q_cp3 Z a1 p2 p3 g u0 h0 n0 _ T4.heap _
    rw [e4]
    exact ⟨rfl, N4, rfl⟩
theorem d_cp4_0 : decode prog_37_method_5_code 0 = .ok (.iload_n 2, 1) := by decide +kernel
theorem d_cp4_1 : decode prog_37_method_5_code 1 = .ok (.iconst 2, 1) := by decide +kernel
theorem d_cp4_2 : decode prog_37_method_5_code 2 = .ok (.if_icmp .ne 50, 3) := by decide +kernel
theorem d_cp4_52 : decode prog_37_method_5_code 52 = .ok (.iload_n 2, 1) := by decide +kernel
theorem d_cp4_53 : decode prog_37_method_5_code 53 = .ok (.iconst 3, 1) := by decide +kernel
theorem d_cp4_54 : decode prog_37_method_5_code 54 = .ok (.if_icmp .ne 95, 3) := by decide +kernel
theorem d_cp4_149 : decode prog_37_method_5_code 149 = .ok (.aload_n 0, 1) := by decide +kernel
theorem d_cp4_150 : decode prog_37_method_5_code 150 = .ok (.iload_n 1, 1) := by decide +kernel
theorem d_cp4_151 : decode prog_37_method_5_code 151 = .ok (.baload, 1) := by decide +kernel
theorem d_cp4_152 : decode prog_37_method_5_code 152 = .ok (.bipush 7, 2) := by decide +kernel
theorem d_cp4_154 : decode prog_37_method_5_code 154 = .ok (.iand, 1) := by decide +kernel
theorem d_cp4_155 : decode prog_37_method_5_code 155 = .ok (.bipush 18, 2) := by decide +kernel
theorem d_cp4_157 : decode prog_37_method_5_code 157 = .ok (.ishl, 1) := by decide +kernel
theorem d_cp4_158 : decode prog_37_method_5_code 158 = .ok (.aload_n 0, 1) := by decide +kernel
theorem d_cp4_159 : decode prog_37_method_5_code 159 = .ok (.iload_n 1, 1) := by decide +kernel
theorem d_cp4_160 : decode prog_37_method_5_code 160 = .ok (.iconst 1, 1) := by decide +kernel
theorem d_cp4_161 : decode prog_37_method_5_code 161 = .ok (.iadd, 1) := by decide +kernel
theorem d_cp4_162 : decode prog_37_method_5_code 162 = .ok (.baload, 1) := by decide +kernel
theorem d_cp4_163 : decode prog_37_method_5_code 163 = .ok (.bipush 63, 2) := by decide +kernel
theorem d_cp4_165 : decode prog_37_method_5_code 165 = .ok (.iand, 1) := by decide +kernel
theorem d_cp4_166 : decode prog_37_method_5_code 166 = .ok (.bipush 12, 2) := by decide +kernel
theorem d_cp4_168 : decode prog_37_method_5_code 168 = .ok (.ishl, 1) := by decide +kernel
theorem d_cp4_169 : decode prog_37_method_5_code 169 = .ok (.ior, 1) := by decide +kernel
theorem d_cp4_170 : decode prog_37_method_5_code 170 = .ok (.aload_n 0, 1) := by decide +kernel
theorem d_cp4_171 : decode prog_37_method_5_code 171 = .ok (.iload_n 1, 1) := by decide +kernel
theorem d_cp4_172 : decode prog_37_method_5_code 172 = .ok (.iconst 2, 1) := by decide +kernel
theorem d_cp4_173 : decode prog_37_method_5_code 173 = .ok (.iadd, 1) := by decide +kernel
theorem d_cp4_174 : decode prog_37_method_5_code 174 = .ok (.baload, 1) := by decide +kernel
theorem d_cp4_175 : decode prog_37_method_5_code 175 = .ok (.bipush 63, 2) := by decide +kernel
theorem d_cp4_177 : decode prog_37_method_5_code 177 = .ok (.iand, 1) := by decide +kernel
theorem d_cp4_178 : decode prog_37_method_5_code 178 = .ok (.bipush 6, 2) := by decide +kernel
theorem d_cp4_180 : decode prog_37_method_5_code 180 = .ok (.ishl, 1) := by decide +kernel
theorem d_cp4_181 : decode prog_37_method_5_code 181 = .ok (.ior, 1) := by decide +kernel
theorem d_cp4_182 : decode prog_37_method_5_code 182 = .ok (.istore_n 3, 1) := by decide +kernel
theorem d_cp4_183 : decode prog_37_method_5_code 183 = .ok (.iload_n 3, 1) := by decide +kernel
theorem d_cp4_184 : decode prog_37_method_5_code 184 = .ok (.aload_n 0, 1) := by decide +kernel
theorem d_cp4_185 : decode prog_37_method_5_code 185 = .ok (.iload_n 1, 1) := by decide +kernel
theorem d_cp4_186 : decode prog_37_method_5_code 186 = .ok (.iconst 3, 1) := by decide +kernel
theorem d_cp4_187 : decode prog_37_method_5_code 187 = .ok (.iadd, 1) := by decide +kernel
theorem d_cp4_188 : decode prog_37_method_5_code 188 = .ok (.baload, 1) := by decide +kernel
theorem d_cp4_189 : decode prog_37_method_5_code 189 = .ok (.bipush 63, 2) := by decide +kernel
theorem d_cp4_191 : decode prog_37_method_5_code 191 = .ok (.iand, 1) := by decide +kernel
theorem d_cp4_192 : decode prog_37_method_5_code 192 = .ok (.ior, 1) := by decide +kernel
theorem d_cp4_193 : decode prog_37_method_5_code 193 = .ok (.istore_n 3, 1) := by decide +kernel
theorem d_cp4_194 : decode prog_37_method_5_code 194 = .ok (.aload_n 0, 1) := by decide +kernel
theorem d_cp4_195 : decode prog_37_method_5_code 195 = .ok (.iload_n 1, 1) := by decide +kernel
theorem d_cp4_196 : decode prog_37_method_5_code 196 = .ok (.iconst 1, 1) := by decide +kernel
theorem d_cp4_197 : decode prog_37_method_5_code 197 = .ok (.iadd, 1) := by decide +kernel
theorem d_cp4_198 : decode prog_37_method_5_code 198 = .ok (.baload, 1) := by decide +kernel
theorem d_cp4_199 : decode prog_37_method_5_code 199 = .ok (.invokestatic 8, 3) := by decide +kernel
theorem d_cp4_202 : decode prog_37_method_5_code 202 = .ok (.ifCond .eq 29, 3) := by decide +kernel
theorem d_cp4_205 : decode prog_37_method_5_code 205 = .ok (.aload_n 0, 1) := by decide +kernel
theorem d_cp4_206 : decode prog_37_method_5_code 206 = .ok (.iload_n 1, 1) := by decide +kernel
theorem d_cp4_207 : decode prog_37_method_5_code 207 = .ok (.iconst 2, 1) := by decide +kernel
theorem d_cp4_208 : decode prog_37_method_5_code 208 = .ok (.iadd, 1) := by decide +kernel
theorem d_cp4_209 : decode prog_37_method_5_code 209 = .ok (.baload, 1) := by decide +kernel
theorem d_cp4_210 : decode prog_37_method_5_code 210 = .ok (.invokestatic 8, 3) := by decide +kernel
theorem d_cp4_213 : decode prog_37_method_5_code 213 = .ok (.ifCond .eq 18, 3) := by decide +kernel
theorem d_cp4_216 : decode prog_37_method_5_code 216 = .ok (.aload_n 0, 1) := by decide +kernel
theorem d_cp4_217 : decode prog_37_method_5_code 217 = .ok (.iload_n 1, 1) := by decide +kernel
theorem d_cp4_218 : decode prog_37_method_5_code 218 = .ok (.iconst 3, 1) := by decide +kernel
theorem d_cp4_219 : decode prog_37_method_5_code 219 = .ok (.iadd, 1) := by decide +kernel
theorem d_cp4_220 : decode prog_37_method_5_code 220 = .ok (.baload, 1) := by decide +kernel
theorem d_cp4_221 : decode prog_37_method_5_code 221 = .ok (.invokestatic 8, 3) := by decide +kernel
theorem d_cp4_224 : decode prog_37_method_5_code 224 = .ok (.ifCond .eq 7, 3) := by decide +kernel
theorem d_cp4_227 : decode prog_37_method_5_code 227 = .ok (.iconst 1, 1) := by decide +kernel
theorem d_cp4_228 : decode prog_37_method_5_code 228 = .ok (.goto 4, 3) := by decide +kernel
theorem d_cp4_232 : decode prog_37_method_5_code 232 = .ok (.istore 4, 2) := by decide +kernel
theorem d_cp4_234 : decode prog_37_method_5_code 234 = .ok (.iload 4, 2) := by decide +kernel
theorem d_cp4_236 : decode prog_37_method_5_code 236 = .ok (.iload_n 3, 1) := by decide +kernel
theorem d_cp4_237 : decode prog_37_method_5_code 237 = .ok (.ldc 7, 2) := by decide +kernel
theorem d_cp4_239 : decode prog_37_method_5_code 239 = .ok (.if_icmp .lt 13, 3) := by decide +kernel
theorem d_cp4_242 : decode prog_37_method_5_code 242 = .ok (.iload_n 3, 1) := by decide +kernel
theorem d_cp4_243 : decode prog_37_method_5_code 243 = .ok (.ldc 18, 2) := by decide +kernel
theorem d_cp4_245 : decode prog_37_method_5_code 245 = .ok (.if_icmp .gt 7, 3) := by decide +kernel
theorem d_cp4_248 : decode prog_37_method_5_code 248 = .ok (.iconst 1, 1) := by decide +kernel
theorem d_cp4_249 : decode prog_37_method_5_code 249 = .ok (.goto 4, 3) := by decide +kernel
theorem d_cp4_253 : decode prog_37_method_5_code 253 = .ok (.iand, 1) := by decide +kernel
theorem d_cp4_254 : decode prog_37_method_5_code 254 = .ok (.istore 4, 2) := by decide +kernel
theorem d_cp4_256 : decode prog_37_method_5_code 256 = .ok (.iload 4, 2) := by decide +kernel
theorem d_cp4_258 : decode prog_37_method_5_code 258 = .ok (.ifCond .eq 7, 3) := by decide +kernel
theorem d_cp4_261 : decode prog_37_method_5_code 261 = .ok (.iload_n 3, 1) := by decide +kernel
theorem d_cp4_262 : decode prog_37_method_5_code 262 = .ok (.goto 4, 3) := by decide +kernel
theorem d_cp4_266 : decode prog_37_method_5_code 266 = .ok (.ireturn, 1) := by decide +kernel
theorem pn_cp4 : plainName "com/example/nuthatch/nuthatch/Utf8" = true := by first | (simp [plainName, overriddenIn]; done) | decide +kernel
theorem pd_cp4_0 : parseMethodDescriptor "(I)Z" = some ⟨[.int], some .boolean⟩ := by decide +kernel
theorem ef_cp4 (m : MethodId) (a1 : Addr) (p2 : Int32) (p3 : Int32) : entryFrame m #[(.ref a1), (.int p2), (.int p3)] 5 = mkF m 0 #[.val (.ref a1), .val (.int p2), .val (.int p3), .unset, .unset] [] := by first | (simp [entryFrame, mkF, argsToLocals, Value.category]; done) | rfl
def Q_cp4 (Z : State) (a1 : Addr) (p2 : Int32) (p3 : Int32) (g : Int32 → Int32) (u0 : Int32) (h0 : Heap) (n0 : Nat) (v : Option Value) (h : Heap) (L : List Loc) : Prop := v = some (.int u0) ∧ Fr n0 L ∧ h = h0
set_option maxRecDepth 65536 in
set_option maxHeartbeats 40000000 in
theorem rm_cp4 (l : Launch) (Z : State) (a0 : Array Value) (hw : ∀ d ∈ tables_1, d.before a0 Z = true) (ws : List Jvm.Cond) (a1 : Addr) (p2 : Int32) (p3 : Int32) (g : Int32 → Int32) (u0 : Int32) (h0 : Heap) (n0 : Nat) (Z0 : n0 ≤ h0.size) (V : own_B Z h0 a1 g) (hp : own_P p2) (hn : p3 = (4 : Int32)) (hd : ((((((g p2) &&& (7 : Int32)) <<< ((18 : Int32) &&& 31)) ||| (((g (p2 + (1 : Int32))) &&& (63 : Int32)) <<< ((12 : Int32) &&& 31))) ||| (((g (p2 + (2 : Int32))) &&& (63 : Int32)) <<< ((6 : Int32) &&& 31))) ||| ((g (p2 + (3 : Int32))) &&& (63 : Int32))) = u0) (f1 : ((g (p2 + (1 : Int32))) &&& (192 : Int32)) = (128 : Int32)) (f2 : ((g (p2 + (2 : Int32))) &&& (192 : Int32)) = (128 : Int32)) (f3 : ((g (p2 + (3 : Int32))) &&& (192 : Int32)) = (128 : Int32)) (r1 : ¬ u0 < (65536 : Int32)) (r2 : ¬ (1114111 : Int32) < u0) :
    MetFree l (⟨"com/example/nuthatch/nuthatch/Utf8", "codePoint", "([BII)I"⟩ : MethodName) (head1 (Jvm.Cond.code (⟨"com/example/nuthatch/nuthatch/Utf8", "codePoint", "([BII)I"⟩ : MethodName) prog_37_method_5_code 5 (some .int) :: ws) ({ frames := 1, cells := 0, slots := 0, locals := 12 } : Room)) (fun a U => a = #[(.ref a1), (.int p2), (.int p3)] ∧ Z.Warmed39 U.vm ∧ U.heap = h0) (fun _ _ _ _ _ => True) (fun _ U o U' => ∃ v L, o = .returned v ∧ Q_cp4 Z a1 p2 p3 g u0 h0 n0 v U'.heap L ∧ FrameEnd U o U' L ({ frames := 1, cells := 0, slots := 0, locals := 12 } : Room).cells ({ frames := 1, cells := 0, slots := 0, locals := 12 } : Room).slots) := by
  refine MetFree.of_bodySF (plainFor_of_name pn_cp4) hisR ?_
  intro p e s m args below meth c s₁ Bd hml0 hP hK
  obtain ⟨rfl, hZ, hh⟩ := hP
  have hx := Bd.exec
  have hby := Bd.bytes
  have hml : c.maxLocals = 5 := hml0
  have hown : s.vm.findClass "com/example/nuthatch/nuthatch/Utf8" = some m.cls := findClass_of_methodNamed Bd.named
  have hnm := (name_of_methodNamed Bd.named Bd.method).1
  have X0 : Stand p l e ({ frames := 1, cells := 0, slots := 0, locals := 12 } : Room) s m #[(.ref a1), (.int p2), (.int p3)] below meth c s₁ [] 0 0 := Stand.of_body Bd
  have e0 : s₁.heap = h0 := by rw [← hh, Bd.state]; rfl
  have N0 := Fr.nil n0
  have pre0 : ∀ t, Steps p.tables e below (s₁.setTop (mkF m 0 #[.val (.ref a1), .val (.int p2), .val (.int p3), .unset, .unset] [])) t → Steps p.tables e below (s₁.setTop (entryFrame m #[(.ref a1), (.int p2), (.int p3)] 5)) t := fun t k => castTop (ef_cp4 m a1 p2 p3) k
  obtain ⟨cl, Ar, Sz, Hs⟩ := V
  have sg1 : ∀ t, Steps p.tables e below (s₁.setTop (mkF m 194 #[.val (.ref a1), .val (.int p2), .val (.int p3), .val (.int u0), .unset] [])) t → Steps p.tables e below (s₁.setTop (mkF m 149 #[.val (.ref a1), .val (.int p2), .val (.int p3), .unset, .unset] [])) t := by
    intro t kt
    show Steps p.tables e below (s₁.setTop (mkF m 149 #[.val (.ref a1), .val (.int p2), .val (.int p3), .unset, .unset] [])) _
    refine XS.aloadN X0.here hx rfl (hb hby d_cp4_149) rfl rfl ?_
    show Steps p.tables e below (s₁.setTop (mkF m 150 #[.val (.ref a1), .val (.int p2), .val (.int p3), .unset, .unset] [(.ref a1)])) _
    refine XS.iloadN X0.here hx rfl (hb hby d_cp4_150) rfl ?_
    show Steps p.tables e below (s₁.setTop (mkF m 151 #[.val (.ref a1), .val (.int p2), .val (.int p3), .unset, .unset] [(.int p2), (.ref a1)])) _
    refine X0.baloadBytes hx (j := p2) (v := (.int (g p2))) (by rw [e0]; exact Ar.1) (State.isArrayOf_alike hZ.alike Ar.2.1) Ar.2.2 (own_in Sz (own_ix0 hp)) (Hs p2 (own_ix0 hp).1 (own_ix0 hp).2) (g := (mkF m 151 #[.val (.ref a1), .val (.int p2), .val (.int p3), .unset, .unset] [(.int p2), (.ref a1)])) rfl rfl (hb hby d_cp4_151) _ ?_
    show Steps p.tables e below (s₁.setTop (mkF m 152 #[.val (.ref a1), .val (.int p2), .val (.int p3), .unset, .unset] [(.int (g p2))])) _
    refine XS.bipush X0.here hx rfl (hb hby d_cp4_152) ?_
    show Steps p.tables e below (s₁.setTop (mkF m 154 #[.val (.ref a1), .val (.int p2), .val (.int p3), .unset, .unset] [(.int (7 : Int32)), (.int (g p2))])) _
    refine XS.iand X0.here hx rfl (hb hby d_cp4_154) rfl ?_
    show Steps p.tables e below (s₁.setTop (mkF m 155 #[.val (.ref a1), .val (.int p2), .val (.int p3), .unset, .unset] [(.int ((g p2) &&& (7 : Int32)))])) _
    refine XS.bipush X0.here hx rfl (hb hby d_cp4_155) ?_
    show Steps p.tables e below (s₁.setTop (mkF m 157 #[.val (.ref a1), .val (.int p2), .val (.int p3), .unset, .unset] [(.int (18 : Int32)), (.int ((g p2) &&& (7 : Int32)))])) _
    refine XS.ishl X0.here hx rfl (hb hby d_cp4_157) rfl ?_
    show Steps p.tables e below (s₁.setTop (mkF m 158 #[.val (.ref a1), .val (.int p2), .val (.int p3), .unset, .unset] [(.int (((g p2) &&& (7 : Int32)) <<< ((18 : Int32) &&& 31)))])) _
    refine XS.aloadN X0.here hx rfl (hb hby d_cp4_158) rfl rfl ?_
    show Steps p.tables e below (s₁.setTop (mkF m 159 #[.val (.ref a1), .val (.int p2), .val (.int p3), .unset, .unset] [(.ref a1), (.int (((g p2) &&& (7 : Int32)) <<< ((18 : Int32) &&& 31)))])) _
    refine XS.iloadN X0.here hx rfl (hb hby d_cp4_159) rfl ?_
    show Steps p.tables e below (s₁.setTop (mkF m 160 #[.val (.ref a1), .val (.int p2), .val (.int p3), .unset, .unset] [(.int p2), (.ref a1), (.int (((g p2) &&& (7 : Int32)) <<< ((18 : Int32) &&& 31)))])) _
    refine XS.iconst X0.here hx rfl (hb hby d_cp4_160) ?_
    show Steps p.tables e below (s₁.setTop (mkF m 161 #[.val (.ref a1), .val (.int p2), .val (.int p3), .unset, .unset] [(.int (1 : Int32)), (.int p2), (.ref a1), (.int (((g p2) &&& (7 : Int32)) <<< ((18 : Int32) &&& 31)))])) _
    refine XS.iadd X0.here hx rfl (hb hby d_cp4_161) rfl ?_
    show Steps p.tables e below (s₁.setTop (mkF m 162 #[.val (.ref a1), .val (.int p2), .val (.int p3), .unset, .unset] [(.int (p2 + (1 : Int32))), (.ref a1), (.int (((g p2) &&& (7 : Int32)) <<< ((18 : Int32) &&& 31)))])) _
    refine X0.baloadBytes hx (j := (p2 + (1 : Int32))) (v := (.int (g (p2 + (1 : Int32))))) (by rw [e0]; exact Ar.1) (State.isArrayOf_alike hZ.alike Ar.2.1) Ar.2.2 (own_in Sz (own_ix1 hp)) (Hs (p2 + (1 : Int32)) (own_ix1 hp).1 (own_ix1 hp).2) (g := (mkF m 162 #[.val (.ref a1), .val (.int p2), .val (.int p3), .unset, .unset] [(.int (p2 + (1 : Int32))), (.ref a1), (.int (((g p2) &&& (7 : Int32)) <<< ((18 : Int32) &&& 31)))])) rfl rfl (hb hby d_cp4_162) _ ?_
    show Steps p.tables e below (s₁.setTop (mkF m 163 #[.val (.ref a1), .val (.int p2), .val (.int p3), .unset, .unset] [(.int (g (p2 + (1 : Int32)))), (.int (((g p2) &&& (7 : Int32)) <<< ((18 : Int32) &&& 31)))])) _
    refine XS.bipush X0.here hx rfl (hb hby d_cp4_163) ?_
    show Steps p.tables e below (s₁.setTop (mkF m 165 #[.val (.ref a1), .val (.int p2), .val (.int p3), .unset, .unset] [(.int (63 : Int32)), (.int (g (p2 + (1 : Int32)))), (.int (((g p2) &&& (7 : Int32)) <<< ((18 : Int32) &&& 31)))])) _
    refine XS.iand X0.here hx rfl (hb hby d_cp4_165) rfl ?_
    show Steps p.tables e below (s₁.setTop (mkF m 166 #[.val (.ref a1), .val (.int p2), .val (.int p3), .unset, .unset] [(.int ((g (p2 + (1 : Int32))) &&& (63 : Int32))), (.int (((g p2) &&& (7 : Int32)) <<< ((18 : Int32) &&& 31)))])) _
    refine XS.bipush X0.here hx rfl (hb hby d_cp4_166) ?_
    show Steps p.tables e below (s₁.setTop (mkF m 168 #[.val (.ref a1), .val (.int p2), .val (.int p3), .unset, .unset] [(.int (12 : Int32)), (.int ((g (p2 + (1 : Int32))) &&& (63 : Int32))), (.int (((g p2) &&& (7 : Int32)) <<< ((18 : Int32) &&& 31)))])) _
    refine XS.ishl X0.here hx rfl (hb hby d_cp4_168) rfl ?_
    show Steps p.tables e below (s₁.setTop (mkF m 169 #[.val (.ref a1), .val (.int p2), .val (.int p3), .unset, .unset] [(.int (((g (p2 + (1 : Int32))) &&& (63 : Int32)) <<< ((12 : Int32) &&& 31))), (.int (((g p2) &&& (7 : Int32)) <<< ((18 : Int32) &&& 31)))])) _
    refine XS.ior X0.here hx rfl (hb hby d_cp4_169) rfl ?_
    show Steps p.tables e below (s₁.setTop (mkF m 170 #[.val (.ref a1), .val (.int p2), .val (.int p3), .unset, .unset] [(.int ((((g p2) &&& (7 : Int32)) <<< ((18 : Int32) &&& 31)) ||| (((g (p2 + (1 : Int32))) &&& (63 : Int32)) <<< ((12 : Int32) &&& 31))))])) _
    refine XS.aloadN X0.here hx rfl (hb hby d_cp4_170) rfl rfl ?_
    show Steps p.tables e below (s₁.setTop (mkF m 171 #[.val (.ref a1), .val (.int p2), .val (.int p3), .unset, .unset] [(.ref a1), (.int ((((g p2) &&& (7 : Int32)) <<< ((18 : Int32) &&& 31)) ||| (((g (p2 + (1 : Int32))) &&& (63 : Int32)) <<< ((12 : Int32) &&& 31))))])) _
    refine XS.iloadN X0.here hx rfl (hb hby d_cp4_171) rfl ?_
    show Steps p.tables e below (s₁.setTop (mkF m 172 #[.val (.ref a1), .val (.int p2), .val (.int p3), .unset, .unset] [(.int p2), (.ref a1), (.int ((((g p2) &&& (7 : Int32)) <<< ((18 : Int32) &&& 31)) ||| (((g (p2 + (1 : Int32))) &&& (63 : Int32)) <<< ((12 : Int32) &&& 31))))])) _
    refine XS.iconst X0.here hx rfl (hb hby d_cp4_172) ?_
    show Steps p.tables e below (s₁.setTop (mkF m 173 #[.val (.ref a1), .val (.int p2), .val (.int p3), .unset, .unset] [(.int (2 : Int32)), (.int p2), (.ref a1), (.int ((((g p2) &&& (7 : Int32)) <<< ((18 : Int32) &&& 31)) ||| (((g (p2 + (1 : Int32))) &&& (63 : Int32)) <<< ((12 : Int32) &&& 31))))])) _
    refine XS.iadd X0.here hx rfl (hb hby d_cp4_173) rfl ?_
    show Steps p.tables e below (s₁.setTop (mkF m 174 #[.val (.ref a1), .val (.int p2), .val (.int p3), .unset, .unset] [(.int (p2 + (2 : Int32))), (.ref a1), (.int ((((g p2) &&& (7 : Int32)) <<< ((18 : Int32) &&& 31)) ||| (((g (p2 + (1 : Int32))) &&& (63 : Int32)) <<< ((12 : Int32) &&& 31))))])) _
    refine X0.baloadBytes hx (j := (p2 + (2 : Int32))) (v := (.int (g (p2 + (2 : Int32))))) (by rw [e0]; exact Ar.1) (State.isArrayOf_alike hZ.alike Ar.2.1) Ar.2.2 (own_in Sz (own_iy2 hp)) (Hs (p2 + (2 : Int32)) (own_iy2 hp).1 (own_iy2 hp).2) (g := (mkF m 174 #[.val (.ref a1), .val (.int p2), .val (.int p3), .unset, .unset] [(.int (p2 + (2 : Int32))), (.ref a1), (.int ((((g p2) &&& (7 : Int32)) <<< ((18 : Int32) &&& 31)) ||| (((g (p2 + (1 : Int32))) &&& (63 : Int32)) <<< ((12 : Int32) &&& 31))))])) rfl rfl (hb hby d_cp4_174) _ ?_
    show Steps p.tables e below (s₁.setTop (mkF m 175 #[.val (.ref a1), .val (.int p2), .val (.int p3), .unset, .unset] [(.int (g (p2 + (2 : Int32)))), (.int ((((g p2) &&& (7 : Int32)) <<< ((18 : Int32) &&& 31)) ||| (((g (p2 + (1 : Int32))) &&& (63 : Int32)) <<< ((12 : Int32) &&& 31))))])) _
    refine XS.bipush X0.here hx rfl (hb hby d_cp4_175) ?_
    show Steps p.tables e below (s₁.setTop (mkF m 177 #[.val (.ref a1), .val (.int p2), .val (.int p3), .unset, .unset] [(.int (63 : Int32)), (.int (g (p2 + (2 : Int32)))), (.int ((((g p2) &&& (7 : Int32)) <<< ((18 : Int32) &&& 31)) ||| (((g (p2 + (1 : Int32))) &&& (63 : Int32)) <<< ((12 : Int32) &&& 31))))])) _
    refine XS.iand X0.here hx rfl (hb hby d_cp4_177) rfl ?_
    show Steps p.tables e below (s₁.setTop (mkF m 178 #[.val (.ref a1), .val (.int p2), .val (.int p3), .unset, .unset] [(.int ((g (p2 + (2 : Int32))) &&& (63 : Int32))), (.int ((((g p2) &&& (7 : Int32)) <<< ((18 : Int32) &&& 31)) ||| (((g (p2 + (1 : Int32))) &&& (63 : Int32)) <<< ((12 : Int32) &&& 31))))])) _
    refine XS.bipush X0.here hx rfl (hb hby d_cp4_178) ?_
    show Steps p.tables e below (s₁.setTop (mkF m 180 #[.val (.ref a1), .val (.int p2), .val (.int p3), .unset, .unset] [(.int (6 : Int32)), (.int ((g (p2 + (2 : Int32))) &&& (63 : Int32))), (.int ((((g p2) &&& (7 : Int32)) <<< ((18 : Int32) &&& 31)) ||| (((g (p2 + (1 : Int32))) &&& (63 : Int32)) <<< ((12 : Int32) &&& 31))))])) _
    refine XS.ishl X0.here hx rfl (hb hby d_cp4_180) rfl ?_
    show Steps p.tables e below (s₁.setTop (mkF m 181 #[.val (.ref a1), .val (.int p2), .val (.int p3), .unset, .unset] [(.int (((g (p2 + (2 : Int32))) &&& (63 : Int32)) <<< ((6 : Int32) &&& 31))), (.int ((((g p2) &&& (7 : Int32)) <<< ((18 : Int32) &&& 31)) ||| (((g (p2 + (1 : Int32))) &&& (63 : Int32)) <<< ((12 : Int32) &&& 31))))])) _
    refine XS.ior X0.here hx rfl (hb hby d_cp4_181) rfl ?_
    show Steps p.tables e below (s₁.setTop (mkF m 182 #[.val (.ref a1), .val (.int p2), .val (.int p3), .unset, .unset] [(.int (((((g p2) &&& (7 : Int32)) <<< ((18 : Int32) &&& 31)) ||| (((g (p2 + (1 : Int32))) &&& (63 : Int32)) <<< ((12 : Int32) &&& 31))) ||| (((g (p2 + (2 : Int32))) &&& (63 : Int32)) <<< ((6 : Int32) &&& 31))))])) _
    refine XS.istoreN X0.here hx rfl (hb hby d_cp4_182) rfl (l' := #[.val (.ref a1), .val (.int p2), .val (.int p3), .val (.int (((((g p2) &&& (7 : Int32)) <<< ((18 : Int32) &&& 31)) ||| (((g (p2 + (1 : Int32))) &&& (63 : Int32)) <<< ((12 : Int32) &&& 31))) ||| (((g (p2 + (2 : Int32))) &&& (63 : Int32)) <<< ((6 : Int32) &&& 31)))), .unset]) rfl ?_
    show Steps p.tables e below (s₁.setTop (mkF m 183 #[.val (.ref a1), .val (.int p2), .val (.int p3), .val (.int (((((g p2) &&& (7 : Int32)) <<< ((18 : Int32) &&& 31)) ||| (((g (p2 + (1 : Int32))) &&& (63 : Int32)) <<< ((12 : Int32) &&& 31))) ||| (((g (p2 + (2 : Int32))) &&& (63 : Int32)) <<< ((6 : Int32) &&& 31)))), .unset] [])) _
    refine XS.iloadN X0.here hx rfl (hb hby d_cp4_183) rfl ?_
    show Steps p.tables e below (s₁.setTop (mkF m 184 #[.val (.ref a1), .val (.int p2), .val (.int p3), .val (.int (((((g p2) &&& (7 : Int32)) <<< ((18 : Int32) &&& 31)) ||| (((g (p2 + (1 : Int32))) &&& (63 : Int32)) <<< ((12 : Int32) &&& 31))) ||| (((g (p2 + (2 : Int32))) &&& (63 : Int32)) <<< ((6 : Int32) &&& 31)))), .unset] [(.int (((((g p2) &&& (7 : Int32)) <<< ((18 : Int32) &&& 31)) ||| (((g (p2 + (1 : Int32))) &&& (63 : Int32)) <<< ((12 : Int32) &&& 31))) ||| (((g (p2 + (2 : Int32))) &&& (63 : Int32)) <<< ((6 : Int32) &&& 31))))])) _
    refine XS.aloadN X0.here hx rfl (hb hby d_cp4_184) rfl rfl ?_
    show Steps p.tables e below (s₁.setTop (mkF m 185 #[.val (.ref a1), .val (.int p2), .val (.int p3), .val (.int (((((g p2) &&& (7 : Int32)) <<< ((18 : Int32) &&& 31)) ||| (((g (p2 + (1 : Int32))) &&& (63 : Int32)) <<< ((12 : Int32) &&& 31))) ||| (((g (p2 + (2 : Int32))) &&& (63 : Int32)) <<< ((6 : Int32) &&& 31)))), .unset] [(.ref a1), (.int (((((g p2) &&& (7 : Int32)) <<< ((18 : Int32) &&& 31)) ||| (((g (p2 + (1 : Int32))) &&& (63 : Int32)) <<< ((12 : Int32) &&& 31))) ||| (((g (p2 + (2 : Int32))) &&& (63 : Int32)) <<< ((6 : Int32) &&& 31))))])) _
    refine XS.iloadN X0.here hx rfl (hb hby d_cp4_185) rfl ?_
    show Steps p.tables e below (s₁.setTop (mkF m 186 #[.val (.ref a1), .val (.int p2), .val (.int p3), .val (.int (((((g p2) &&& (7 : Int32)) <<< ((18 : Int32) &&& 31)) ||| (((g (p2 + (1 : Int32))) &&& (63 : Int32)) <<< ((12 : Int32) &&& 31))) ||| (((g (p2 + (2 : Int32))) &&& (63 : Int32)) <<< ((6 : Int32) &&& 31)))), .unset] [(.int p2), (.ref a1), (.int (((((g p2) &&& (7 : Int32)) <<< ((18 : Int32) &&& 31)) ||| (((g (p2 + (1 : Int32))) &&& (63 : Int32)) <<< ((12 : Int32) &&& 31))) ||| (((g (p2 + (2 : Int32))) &&& (63 : Int32)) <<< ((6 : Int32) &&& 31))))])) _
    refine XS.iconst X0.here hx rfl (hb hby d_cp4_186) ?_
    show Steps p.tables e below (s₁.setTop (mkF m 187 #[.val (.ref a1), .val (.int p2), .val (.int p3), .val (.int (((((g p2) &&& (7 : Int32)) <<< ((18 : Int32) &&& 31)) ||| (((g (p2 + (1 : Int32))) &&& (63 : Int32)) <<< ((12 : Int32) &&& 31))) ||| (((g (p2 + (2 : Int32))) &&& (63 : Int32)) <<< ((6 : Int32) &&& 31)))), .unset] [(.int (3 : Int32)), (.int p2), (.ref a1), (.int (((((g p2) &&& (7 : Int32)) <<< ((18 : Int32) &&& 31)) ||| (((g (p2 + (1 : Int32))) &&& (63 : Int32)) <<< ((12 : Int32) &&& 31))) ||| (((g (p2 + (2 : Int32))) &&& (63 : Int32)) <<< ((6 : Int32) &&& 31))))])) _
    refine XS.iadd X0.here hx rfl (hb hby d_cp4_187) rfl ?_
    show Steps p.tables e below (s₁.setTop (mkF m 188 #[.val (.ref a1), .val (.int p2), .val (.int p3), .val (.int (((((g p2) &&& (7 : Int32)) <<< ((18 : Int32) &&& 31)) ||| (((g (p2 + (1 : Int32))) &&& (63 : Int32)) <<< ((12 : Int32) &&& 31))) ||| (((g (p2 + (2 : Int32))) &&& (63 : Int32)) <<< ((6 : Int32) &&& 31)))), .unset] [(.int (p2 + (3 : Int32))), (.ref a1), (.int (((((g p2) &&& (7 : Int32)) <<< ((18 : Int32) &&& 31)) ||| (((g (p2 + (1 : Int32))) &&& (63 : Int32)) <<< ((12 : Int32) &&& 31))) ||| (((g (p2 + (2 : Int32))) &&& (63 : Int32)) <<< ((6 : Int32) &&& 31))))])) _
    refine X0.baloadBytes hx (j := (p2 + (3 : Int32))) (v := (.int (g (p2 + (3 : Int32))))) (by rw [e0]; exact Ar.1) (State.isArrayOf_alike hZ.alike Ar.2.1) Ar.2.2 (own_in Sz (own_iy3 hp)) (Hs (p2 + (3 : Int32)) (own_iy3 hp).1 (own_iy3 hp).2) (g := (mkF m 188 #[.val (.ref a1), .val (.int p2), .val (.int p3), .val (.int (((((g p2) &&& (7 : Int32)) <<< ((18 : Int32) &&& 31)) ||| (((g (p2 + (1 : Int32))) &&& (63 : Int32)) <<< ((12 : Int32) &&& 31))) ||| (((g (p2 + (2 : Int32))) &&& (63 : Int32)) <<< ((6 : Int32) &&& 31)))), .unset] [(.int (p2 + (3 : Int32))), (.ref a1), (.int (((((g p2) &&& (7 : Int32)) <<< ((18 : Int32) &&& 31)) ||| (((g (p2 + (1 : Int32))) &&& (63 : Int32)) <<< ((12 : Int32) &&& 31))) ||| (((g (p2 + (2 : Int32))) &&& (63 : Int32)) <<< ((6 : Int32) &&& 31))))])) rfl rfl (hb hby d_cp4_188) _ ?_
    show Steps p.tables e below (s₁.setTop (mkF m 189 #[.val (.ref a1), .val (.int p2), .val (.int p3), .val (.int (((((g p2) &&& (7 : Int32)) <<< ((18 : Int32) &&& 31)) ||| (((g (p2 + (1 : Int32))) &&& (63 : Int32)) <<< ((12 : Int32) &&& 31))) ||| (((g (p2 + (2 : Int32))) &&& (63 : Int32)) <<< ((6 : Int32) &&& 31)))), .unset] [(.int (g (p2 + (3 : Int32)))), (.int (((((g p2) &&& (7 : Int32)) <<< ((18 : Int32) &&& 31)) ||| (((g (p2 + (1 : Int32))) &&& (63 : Int32)) <<< ((12 : Int32) &&& 31))) ||| (((g (p2 + (2 : Int32))) &&& (63 : Int32)) <<< ((6 : Int32) &&& 31))))])) _
    refine XS.bipush X0.here hx rfl (hb hby d_cp4_189) ?_
    show Steps p.tables e below (s₁.setTop (mkF m 191 #[.val (.ref a1), .val (.int p2), .val (.int p3), .val (.int (((((g p2) &&& (7 : Int32)) <<< ((18 : Int32) &&& 31)) ||| (((g (p2 + (1 : Int32))) &&& (63 : Int32)) <<< ((12 : Int32) &&& 31))) ||| (((g (p2 + (2 : Int32))) &&& (63 : Int32)) <<< ((6 : Int32) &&& 31)))), .unset] [(.int (63 : Int32)), (.int (g (p2 + (3 : Int32)))), (.int (((((g p2) &&& (7 : Int32)) <<< ((18 : Int32) &&& 31)) ||| (((g (p2 + (1 : Int32))) &&& (63 : Int32)) <<< ((12 : Int32) &&& 31))) ||| (((g (p2 + (2 : Int32))) &&& (63 : Int32)) <<< ((6 : Int32) &&& 31))))])) _
    refine XS.iand X0.here hx rfl (hb hby d_cp4_191) rfl ?_
    show Steps p.tables e below (s₁.setTop (mkF m 192 #[.val (.ref a1), .val (.int p2), .val (.int p3), .val (.int (((((g p2) &&& (7 : Int32)) <<< ((18 : Int32) &&& 31)) ||| (((g (p2 + (1 : Int32))) &&& (63 : Int32)) <<< ((12 : Int32) &&& 31))) ||| (((g (p2 + (2 : Int32))) &&& (63 : Int32)) <<< ((6 : Int32) &&& 31)))), .unset] [(.int ((g (p2 + (3 : Int32))) &&& (63 : Int32))), (.int (((((g p2) &&& (7 : Int32)) <<< ((18 : Int32) &&& 31)) ||| (((g (p2 + (1 : Int32))) &&& (63 : Int32)) <<< ((12 : Int32) &&& 31))) ||| (((g (p2 + (2 : Int32))) &&& (63 : Int32)) <<< ((6 : Int32) &&& 31))))])) _
    refine XS.ior X0.here hx rfl (hb hby d_cp4_192) rfl ?_
    show Steps p.tables e below (s₁.setTop (mkF m 193 #[.val (.ref a1), .val (.int p2), .val (.int p3), .val (.int (((((g p2) &&& (7 : Int32)) <<< ((18 : Int32) &&& 31)) ||| (((g (p2 + (1 : Int32))) &&& (63 : Int32)) <<< ((12 : Int32) &&& 31))) ||| (((g (p2 + (2 : Int32))) &&& (63 : Int32)) <<< ((6 : Int32) &&& 31)))), .unset] [(.int ((((((g p2) &&& (7 : Int32)) <<< ((18 : Int32) &&& 31)) ||| (((g (p2 + (1 : Int32))) &&& (63 : Int32)) <<< ((12 : Int32) &&& 31))) ||| (((g (p2 + (2 : Int32))) &&& (63 : Int32)) <<< ((6 : Int32) &&& 31))) ||| ((g (p2 + (3 : Int32))) &&& (63 : Int32))))])) _
    refine XS.istoreN X0.here hx rfl (hb hby d_cp4_193) rfl (l' := #[.val (.ref a1), .val (.int p2), .val (.int p3), .val (.int ((((((g p2) &&& (7 : Int32)) <<< ((18 : Int32) &&& 31)) ||| (((g (p2 + (1 : Int32))) &&& (63 : Int32)) <<< ((12 : Int32) &&& 31))) ||| (((g (p2 + (2 : Int32))) &&& (63 : Int32)) <<< ((6 : Int32) &&& 31))) ||| ((g (p2 + (3 : Int32))) &&& (63 : Int32)))), .unset]) rfl ?_
    show Steps p.tables e below (s₁.setTop (mkF m 194 #[.val (.ref a1), .val (.int p2), .val (.int p3), .val (.int ((((((g p2) &&& (7 : Int32)) <<< ((18 : Int32) &&& 31)) ||| (((g (p2 + (1 : Int32))) &&& (63 : Int32)) <<< ((12 : Int32) &&& 31))) ||| (((g (p2 + (2 : Int32))) &&& (63 : Int32)) <<< ((6 : Int32) &&& 31))) ||| ((g (p2 + (3 : Int32))) &&& (63 : Int32)))), .unset] [])) _
    refine castTop (congrArg (fun zz => (mkF m 194 #[.val (.ref a1), .val (.int p2), .val (.int p3), .val (.int zz), .unset] [])) (by exact hd : ((((((g p2) &&& (7 : Int32)) <<< ((18 : Int32) &&& 31)) ||| (((g (p2 + (1 : Int32))) &&& (63 : Int32)) <<< ((12 : Int32) &&& 31))) ||| (((g (p2 + (2 : Int32))) &&& (63 : Int32)) <<< ((6 : Int32) &&& 31))) ||| ((g (p2 + (3 : Int32))) &&& (63 : Int32))) = u0)) ?_
    exact kt
  have pr3 : ∀ t, Steps p.tables e below (s₁.setTop (mkF m 199 #[.val (.ref a1), .val (.int p2), .val (.int p3), .val (.int u0), .unset] [(.int (g (p2 + (1 : Int32))))])) t → Steps p.tables e below (s₁.setTop (entryFrame m #[(.ref a1), (.int p2), (.int p3)] 5)) t := fun t kt => pre0 t (by
    show Steps p.tables e below (s₁.setTop (mkF m 0 #[.val (.ref a1), .val (.int p2), .val (.int p3), .unset, .unset] [])) _
    refine XS.iloadN X0.here hx rfl (hb hby d_cp4_0) rfl ?_
    show Steps p.tables e below (s₁.setTop (mkF m 1 #[.val (.ref a1), .val (.int p2), .val (.int p3), .unset, .unset] [(.int p3)])) _
    refine XS.iconst X0.here hx rfl (hb hby d_cp4_1) ?_
    show Steps p.tables e below (s₁.setTop (mkF m 2 #[.val (.ref a1), .val (.int p2), .val (.int p3), .unset, .unset] [(.int (2 : Int32)), (.int p3)])) _
    refine XS.icmpYes X0.here hx rfl (pc0 := 2) (pc' := 52) rfl (hb hby d_cp4_2) rfl (feq ((by rw [hn]; decide) : ¬ (p3 = (2 : Int32)))).2 (by decide) (by decide) ?_
    show Steps p.tables e below (s₁.setTop (mkF m 52 #[.val (.ref a1), .val (.int p2), .val (.int p3), .unset, .unset] [])) _
    refine XS.iloadN X0.here hx rfl (hb hby d_cp4_52) rfl ?_
    show Steps p.tables e below (s₁.setTop (mkF m 53 #[.val (.ref a1), .val (.int p2), .val (.int p3), .unset, .unset] [(.int p3)])) _
    refine XS.iconst X0.here hx rfl (hb hby d_cp4_53) ?_
    show Steps p.tables e below (s₁.setTop (mkF m 54 #[.val (.ref a1), .val (.int p2), .val (.int p3), .unset, .unset] [(.int (3 : Int32)), (.int p3)])) _
    refine XS.icmpYes X0.here hx rfl (pc0 := 54) (pc' := 149) rfl (hb hby d_cp4_54) rfl (feq ((by rw [hn]; decide) : ¬ (p3 = (3 : Int32)))).2 (by decide) (by decide) ?_
    show Steps p.tables e below (s₁.setTop (mkF m 149 #[.val (.ref a1), .val (.int p2), .val (.int p3), .unset, .unset] [])) _
    refine sg1 _ ?_
    show Steps p.tables e below (s₁.setTop (mkF m 194 #[.val (.ref a1), .val (.int p2), .val (.int p3), .val (.int u0), .unset] [])) _
    refine XS.aloadN X0.here hx rfl (hb hby d_cp4_194) rfl rfl ?_
    show Steps p.tables e below (s₁.setTop (mkF m 195 #[.val (.ref a1), .val (.int p2), .val (.int p3), .val (.int u0), .unset] [(.ref a1)])) _
    refine XS.iloadN X0.here hx rfl (hb hby d_cp4_195) rfl ?_
    show Steps p.tables e below (s₁.setTop (mkF m 196 #[.val (.ref a1), .val (.int p2), .val (.int p3), .val (.int u0), .unset] [(.int p2), (.ref a1)])) _
    refine XS.iconst X0.here hx rfl (hb hby d_cp4_196) ?_
    show Steps p.tables e below (s₁.setTop (mkF m 197 #[.val (.ref a1), .val (.int p2), .val (.int p3), .val (.int u0), .unset] [(.int (1 : Int32)), (.int p2), (.ref a1)])) _
    refine XS.iadd X0.here hx rfl (hb hby d_cp4_197) rfl ?_
    show Steps p.tables e below (s₁.setTop (mkF m 198 #[.val (.ref a1), .val (.int p2), .val (.int p3), .val (.int u0), .unset] [(.int (p2 + (1 : Int32))), (.ref a1)])) _
    refine X0.baloadBytes hx (j := (p2 + (1 : Int32))) (v := (.int (g (p2 + (1 : Int32))))) (by rw [e0]; exact Ar.1) (State.isArrayOf_alike hZ.alike Ar.2.1) Ar.2.2 (own_in Sz (own_ix1 hp)) (Hs (p2 + (1 : Int32)) (own_ix1 hp).1 (own_ix1 hp).2) (g := (mkF m 198 #[.val (.ref a1), .val (.int p2), .val (.int p3), .val (.int u0), .unset] [(.int (p2 + (1 : Int32))), (.ref a1)])) rfl rfl (hb hby d_cp4_198) _ ?_
    show Steps p.tables e below (s₁.setTop (mkF m 199 #[.val (.ref a1), .val (.int p2), .val (.int p3), .val (.int u0), .unset] [(.int (g (p2 + (1 : Int32))))])) _
    exact kt)
  obtain ⟨_, _, ⟨T2, L2, k2, n2⟩, -, X2, ⟨Lc2, hQ2, l2, y2, z2⟩, st2⟩ := Jvm.LawKit.callS X0 hx (y := (⟨"com/example/nuthatch/nuthatch/Utf8", "follows", "(I)Z"⟩ : MethodName)) hown (mvT hZ (hw _ (List.mem_of_getElem? (i := 18) rfl))) (mvT hZ (hw _ (List.mem_of_getElem? (i := 19) rfl))) (mvT hZ (hw _ (List.mem_of_getElem? (i := 5) rfl))) (mvT hZ (hw _ (List.mem_of_getElem? (i := 20) rfl))) (by decide) (backOf (W := 0) (rm_fo l Z a0 hw [] (g (p2 + (1 : Int32))) h0 n0 Z0 ) hZ (hw _ (List.mem_of_getElem? (i := 20) rfl)) (hw _ (List.mem_of_getElem? (i := 5) rfl)) (by decide) (by decide)) (g := (mkF m 199 #[.val (.ref a1), .val (.int p2), .val (.int p3), .val (.int u0), .unset] [(.int (g (p2 + (1 : Int32))))])) rfl (by rw [hml]; rfl) (argsL := [(.int (g (p2 + (1 : Int32))))]) (rest := []) (lenOf pd_cp4_0 rfl) rfl (by show 2 * 0 + _ ≤ _; exact Nat.le_of_eq rfl) (hb hby d_cp4_199) (fun _ _ => ⟨rfl, e0, (by decide : 0 + 0 ≤ _), (by decide : 0 + 0 ≤ _)⟩)
  dsimp only [Pt.U, Pt.locs, Pt.cells, Pt.slots] at X2 l2 y2 z2 st2 hQ2
  subst l2 y2 z2
  obtain ⟨rfl, N2q, e2⟩ := hQ2
  have N2 := Fr.app N0 N2q
  have pr5 : ∀ t, Steps p.tables e below (T2.setTop (mkF m 210 #[.val (.ref a1), .val (.int p2), .val (.int p3), .val (.int u0), .unset] [(.int (g (p2 + (2 : Int32))))])) t → Steps p.tables e below (s₁.setTop (entryFrame m #[(.ref a1), (.int p2), (.int p3)] 5)) t := fun t kt => pr3 t (by
    refine st2 _ ?_
    show Steps p.tables e below (T2.setTop (mkF m 202 #[.val (.ref a1), .val (.int p2), .val (.int p3), .val (.int u0), .unset] [(.int (own_b (own_fo (g (p2 + (1 : Int32))))))])) _
    refine XS.ifNo X2.here hx rfl (hb hby d_cp4_202) rfl ((if0 _ _).trans (feq (own_b1 (own_fot f1 : (own_fo (g (p2 + (1 : Int32)))) = true))).1) ?_
    show Steps p.tables e below (T2.setTop (mkF m 205 #[.val (.ref a1), .val (.int p2), .val (.int p3), .val (.int u0), .unset] [])) _
    refine XS.aloadN X2.here hx rfl (hb hby d_cp4_205) rfl rfl ?_
    show Steps p.tables e below (T2.setTop (mkF m 206 #[.val (.ref a1), .val (.int p2), .val (.int p3), .val (.int u0), .unset] [(.ref a1)])) _
    refine XS.iloadN X2.here hx rfl (hb hby d_cp4_206) rfl ?_
    show Steps p.tables e below (T2.setTop (mkF m 207 #[.val (.ref a1), .val (.int p2), .val (.int p3), .val (.int u0), .unset] [(.int p2), (.ref a1)])) _
    refine XS.iconst X2.here hx rfl (hb hby d_cp4_207) ?_
    show Steps p.tables e below (T2.setTop (mkF m 208 #[.val (.ref a1), .val (.int p2), .val (.int p3), .val (.int u0), .unset] [(.int (2 : Int32)), (.int p2), (.ref a1)])) _
    refine XS.iadd X2.here hx rfl (hb hby d_cp4_208) rfl ?_
    show Steps p.tables e below (T2.setTop (mkF m 209 #[.val (.ref a1), .val (.int p2), .val (.int p3), .val (.int u0), .unset] [(.int (p2 + (2 : Int32))), (.ref a1)])) _
    refine X2.baloadBytes hx (j := (p2 + (2 : Int32))) (v := (.int (g (p2 + (2 : Int32))))) (by rw [e2]; exact Ar.1) (State.isArrayOf_alike hZ.alike Ar.2.1) Ar.2.2 (own_in Sz (own_iy2 hp)) (Hs (p2 + (2 : Int32)) (own_iy2 hp).1 (own_iy2 hp).2) (g := (mkF m 209 #[.val (.ref a1), .val (.int p2), .val (.int p3), .val (.int u0), .unset] [(.int (p2 + (2 : Int32))), (.ref a1)])) rfl rfl (hb hby d_cp4_209) _ ?_
    show Steps p.tables e below (T2.setTop (mkF m 210 #[.val (.ref a1), .val (.int p2), .val (.int p3), .val (.int u0), .unset] [(.int (g (p2 + (2 : Int32))))])) _
    exact kt)
  obtain ⟨_, _, ⟨T4, L4, k4, n4⟩, -, X4, ⟨Lc4, hQ4, l4, y4, z4⟩, st4⟩ := Jvm.LawKit.callS X2 hx (y := (⟨"com/example/nuthatch/nuthatch/Utf8", "follows", "(I)Z"⟩ : MethodName)) hown (mvT hZ (hw _ (List.mem_of_getElem? (i := 18) rfl))) (mvT hZ (hw _ (List.mem_of_getElem? (i := 19) rfl))) (mvT hZ (hw _ (List.mem_of_getElem? (i := 5) rfl))) (mvT hZ (hw _ (List.mem_of_getElem? (i := 20) rfl))) (by decide) (backOf (W := 0) (rm_fo l Z a0 hw [] (g (p2 + (2 : Int32))) h0 n0 Z0 ) hZ (hw _ (List.mem_of_getElem? (i := 20) rfl)) (hw _ (List.mem_of_getElem? (i := 5) rfl)) (by decide) (by decide)) (g := (mkF m 210 #[.val (.ref a1), .val (.int p2), .val (.int p3), .val (.int u0), .unset] [(.int (g (p2 + (2 : Int32))))])) rfl (by rw [hml]; rfl) (argsL := [(.int (g (p2 + (2 : Int32))))]) (rest := []) (lenOf pd_cp4_0 rfl) rfl (by show 2 * 0 + _ ≤ _; exact Nat.le_of_eq rfl) (hb hby d_cp4_210) (fun _ _ => ⟨rfl, e2, (by decide : 0 + 0 ≤ _), (by decide : 0 + 0 ≤ _)⟩)
  dsimp only [Pt.U, Pt.locs, Pt.cells, Pt.slots] at X4 l4 y4 z4 st4 hQ4
  subst l4 y4 z4
  obtain ⟨rfl, N4q, e4⟩ := hQ4
  have N4 := Fr.app N2 N4q
  have pr7 : ∀ t, Steps p.tables e below (T4.setTop (mkF m 221 #[.val (.ref a1), .val (.int p2), .val (.int p3), .val (.int u0), .unset] [(.int (g (p2 + (3 : Int32))))])) t → Steps p.tables e below (s₁.setTop (entryFrame m #[(.ref a1), (.int p2), (.int p3)] 5)) t := fun t kt => pr5 t (by
    refine st4 _ ?_
    show Steps p.tables e below (T4.setTop (mkF m 213 #[.val (.ref a1), .val (.int p2), .val (.int p3), .val (.int u0), .unset] [(.int (own_b (own_fo (g (p2 + (2 : Int32))))))])) _
    refine XS.ifNo X4.here hx rfl (hb hby d_cp4_213) rfl ((if0 _ _).trans (feq (own_b1 (own_fot f2 : (own_fo (g (p2 + (2 : Int32)))) = true))).1) ?_
    show Steps p.tables e below (T4.setTop (mkF m 216 #[.val (.ref a1), .val (.int p2), .val (.int p3), .val (.int u0), .unset] [])) _
    refine XS.aloadN X4.here hx rfl (hb hby d_cp4_216) rfl rfl ?_
    show Steps p.tables e below (T4.setTop (mkF m 217 #[.val (.ref a1), .val (.int p2), .val (.int p3), .val (.int u0), .unset] [(.ref a1)])) _
    refine XS.iloadN X4.here hx rfl (hb hby d_cp4_217) rfl ?_
    show Steps p.tables e below (T4.setTop (mkF m 218 #[.val (.ref a1), .val (.int p2), .val (.int p3), .val (.int u0), .unset] [(.int p2), (.ref a1)])) _
    refine XS.iconst X4.here hx rfl (hb hby d_cp4_218) ?_
    show Steps p.tables e below (T4.setTop (mkF m 219 #[.val (.ref a1), .val (.int p2), .val (.int p3), .val (.int u0), .unset] [(.int (3 : Int32)), (.int p2), (.ref a1)])) _
    refine XS.iadd X4.here hx rfl (hb hby d_cp4_219) rfl ?_
    show Steps p.tables e below (T4.setTop (mkF m 220 #[.val (.ref a1), .val (.int p2), .val (.int p3), .val (.int u0), .unset] [(.int (p2 + (3 : Int32))), (.ref a1)])) _
    refine X4.baloadBytes hx (j := (p2 + (3 : Int32))) (v := (.int (g (p2 + (3 : Int32))))) (by rw [e4]; exact Ar.1) (State.isArrayOf_alike hZ.alike Ar.2.1) Ar.2.2 (own_in Sz (own_iy3 hp)) (Hs (p2 + (3 : Int32)) (own_iy3 hp).1 (own_iy3 hp).2) (g := (mkF m 220 #[.val (.ref a1), .val (.int p2), .val (.int p3), .val (.int u0), .unset] [(.int (p2 + (3 : Int32))), (.ref a1)])) rfl rfl (hb hby d_cp4_220) _ ?_
    show Steps p.tables e below (T4.setTop (mkF m 221 #[.val (.ref a1), .val (.int p2), .val (.int p3), .val (.int u0), .unset] [(.int (g (p2 + (3 : Int32))))])) _
    exact kt)
  obtain ⟨_, _, ⟨T6, L6, k6, n6⟩, -, X6, ⟨Lc6, hQ6, l6, y6, z6⟩, st6⟩ := Jvm.LawKit.callS X4 hx (y := (⟨"com/example/nuthatch/nuthatch/Utf8", "follows", "(I)Z"⟩ : MethodName)) hown (mvT hZ (hw _ (List.mem_of_getElem? (i := 18) rfl))) (mvT hZ (hw _ (List.mem_of_getElem? (i := 19) rfl))) (mvT hZ (hw _ (List.mem_of_getElem? (i := 5) rfl))) (mvT hZ (hw _ (List.mem_of_getElem? (i := 20) rfl))) (by decide) (backOf (W := 0) (rm_fo l Z a0 hw [] (g (p2 + (3 : Int32))) h0 n0 Z0 ) hZ (hw _ (List.mem_of_getElem? (i := 20) rfl)) (hw _ (List.mem_of_getElem? (i := 5) rfl)) (by decide) (by decide)) (g := (mkF m 221 #[.val (.ref a1), .val (.int p2), .val (.int p3), .val (.int u0), .unset] [(.int (g (p2 + (3 : Int32))))])) rfl (by rw [hml]; rfl) (argsL := [(.int (g (p2 + (3 : Int32))))]) (rest := []) (lenOf pd_cp4_0 rfl) rfl (by show 2 * 0 + _ ≤ _; exact Nat.le_of_eq rfl) (hb hby d_cp4_221) (fun _ _ => ⟨rfl, e4, (by decide : 0 + 0 ≤ _), (by decide : 0 + 0 ≤ _)⟩)
  dsimp only [Pt.U, Pt.locs, Pt.cells, Pt.slots] at X6 l6 y6 z6 st6 hQ6
  subst l6 y6 z6
  obtain ⟨rfl, N6q, e6⟩ := hQ6
  have N6 := Fr.app N4 N6q
  obtain ⟨fs, hr, hrun, hended, hW, hsame⟩ := X6.leave (v := some (.int u0)) (fun h => by rw [Bd.returns] at h; cases h)
  refine ⟨_, _, pr7 _ ?_, hrun, hended, _, _, rfl, ?_, ⟨_, rfl⟩, hW, hsame.mono (by decide) (by decide)⟩
  · refine st6 _ ?_
    show Steps p.tables e below (T6.setTop (mkF m 224 #[.val (.ref a1), .val (.int p2), .val (.int p3), .val (.int u0), .unset] [(.int (own_b (own_fo (g (p2 + (3 : Int32))))))])) _
    refine XS.ifNo X6.here hx rfl (hb hby d_cp4_224) rfl ((if0 _ _).trans (feq (own_b1 (own_fot f3 : (own_fo (g (p2 + (3 : Int32)))) = true))).1) ?_
    show Steps p.tables e below (T6.setTop (mkF m 227 #[.val (.ref a1), .val (.int p2), .val (.int p3), .val (.int u0), .unset] [])) _
    refine XS.iconst X6.here hx rfl (hb hby d_cp4_227) ?_
    show Steps p.tables e below (T6.setTop (mkF m 228 #[.val (.ref a1), .val (.int p2), .val (.int p3), .val (.int u0), .unset] [(.int (1 : Int32))])) _
    refine XS.goto X6.here hx rfl (pc0 := 228) (pc' := 232) rfl (hb hby d_cp4_228) (by decide) (by decide) ?_
    show Steps p.tables e below (T6.setTop (mkF m 232 #[.val (.ref a1), .val (.int p2), .val (.int p3), .val (.int u0), .unset] [(.int (1 : Int32))])) _
    refine XS.istore X6.here hx rfl (hb hby d_cp4_232) rfl (l' := #[.val (.ref a1), .val (.int p2), .val (.int p3), .val (.int u0), .val (.int (1 : Int32))]) rfl ?_
    show Steps p.tables e below (T6.setTop (mkF m 234 #[.val (.ref a1), .val (.int p2), .val (.int p3), .val (.int u0), .val (.int (1 : Int32))] [])) _
    refine XS.iload X6.here hx rfl (hb hby d_cp4_234) rfl ?_
    show Steps p.tables e below (T6.setTop (mkF m 236 #[.val (.ref a1), .val (.int p2), .val (.int p3), .val (.int u0), .val (.int (1 : Int32))] [(.int (1 : Int32))])) _
    refine XS.iloadN X6.here hx rfl (hb hby d_cp4_236) rfl ?_
    show Steps p.tables e below (T6.setTop (mkF m 237 #[.val (.ref a1), .val (.int p2), .val (.int p3), .val (.int u0), .val (.int (1 : Int32))] [(.int u0), (.int (1 : Int32))])) _
    refine X6.ldcInt hx hown (mvT hZ (hw _ (List.mem_of_getElem? (i := 22) rfl))) (g := (mkF m 237 #[.val (.ref a1), .val (.int p2), .val (.int p3), .val (.int u0), .val (.int (1 : Int32))] [(.int u0), (.int (1 : Int32))])) rfl (hb hby d_cp4_237) _ ?_
    show Steps p.tables e below (T6.setTop (mkF m 239 #[.val (.ref a1), .val (.int p2), .val (.int p3), .val (.int u0), .val (.int (1 : Int32))] [(.int (65536 : Int32)), (.int u0), (.int (1 : Int32))])) _
    refine XS.icmpNo X6.here hx rfl (hb hby d_cp4_239) rfl (flt (r1 : ¬ (u0 < (65536 : Int32)))).1 ?_
    show Steps p.tables e below (T6.setTop (mkF m 242 #[.val (.ref a1), .val (.int p2), .val (.int p3), .val (.int u0), .val (.int (1 : Int32))] [(.int (1 : Int32))])) _
    refine XS.iloadN X6.here hx rfl (hb hby d_cp4_242) rfl ?_
    show Steps p.tables e below (T6.setTop (mkF m 243 #[.val (.ref a1), .val (.int p2), .val (.int p3), .val (.int u0), .val (.int (1 : Int32))] [(.int u0), (.int (1 : Int32))])) _
    refine X6.ldcInt hx hown (mvT hZ (hw _ (List.mem_of_getElem? (i := 24) rfl))) (g := (mkF m 243 #[.val (.ref a1), .val (.int p2), .val (.int p3), .val (.int u0), .val (.int (1 : Int32))] [(.int u0), (.int (1 : Int32))])) rfl (hb hby d_cp4_243) _ ?_
    show Steps p.tables e below (T6.setTop (mkF m 245 #[.val (.ref a1), .val (.int p2), .val (.int p3), .val (.int u0), .val (.int (1 : Int32))] [(.int (1114111 : Int32)), (.int u0), (.int (1 : Int32))])) _
    refine XS.icmpNo X6.here hx rfl (hb hby d_cp4_245) rfl (flt (r2 : ¬ ((1114111 : Int32) < u0))).2.2.1 ?_
    show Steps p.tables e below (T6.setTop (mkF m 248 #[.val (.ref a1), .val (.int p2), .val (.int p3), .val (.int u0), .val (.int (1 : Int32))] [(.int (1 : Int32))])) _
    refine XS.iconst X6.here hx rfl (hb hby d_cp4_248) ?_
    show Steps p.tables e below (T6.setTop (mkF m 249 #[.val (.ref a1), .val (.int p2), .val (.int p3), .val (.int u0), .val (.int (1 : Int32))] [(.int (1 : Int32)), (.int (1 : Int32))])) _
    refine XS.goto X6.here hx rfl (pc0 := 249) (pc' := 253) rfl (hb hby d_cp4_249) (by decide) (by decide) ?_
    show Steps p.tables e below (T6.setTop (mkF m 253 #[.val (.ref a1), .val (.int p2), .val (.int p3), .val (.int u0), .val (.int (1 : Int32))] [(.int (1 : Int32)), (.int (1 : Int32))])) _
    refine XS.iand X6.here hx rfl (hb hby d_cp4_253) rfl ?_
    show Steps p.tables e below (T6.setTop (mkF m 254 #[.val (.ref a1), .val (.int p2), .val (.int p3), .val (.int u0), .val (.int (1 : Int32))] [(.int (1 : Int32))])) _
    refine XS.istore X6.here hx rfl (hb hby d_cp4_254) rfl (l' := #[.val (.ref a1), .val (.int p2), .val (.int p3), .val (.int u0), .val (.int (1 : Int32))]) rfl ?_
    show Steps p.tables e below (T6.setTop (mkF m 256 #[.val (.ref a1), .val (.int p2), .val (.int p3), .val (.int u0), .val (.int (1 : Int32))] [])) _
    refine XS.iload X6.here hx rfl (hb hby d_cp4_256) rfl ?_
    show Steps p.tables e below (T6.setTop (mkF m 258 #[.val (.ref a1), .val (.int p2), .val (.int p3), .val (.int u0), .val (.int (1 : Int32))] [(.int (1 : Int32))])) _
    refine XS.ifNo X6.here hx rfl (hb hby d_cp4_258) rfl ((if0 _ _).trans (feq (by decide : ¬ ((1 : Int32) = (0 : Int32)))).1) ?_
    show Steps p.tables e below (T6.setTop (mkF m 261 #[.val (.ref a1), .val (.int p2), .val (.int p3), .val (.int u0), .val (.int (1 : Int32))] [])) _
    refine XS.iloadN X6.here hx rfl (hb hby d_cp4_261) rfl ?_
    show Steps p.tables e below (T6.setTop (mkF m 262 #[.val (.ref a1), .val (.int p2), .val (.int p3), .val (.int u0), .val (.int (1 : Int32))] [(.int u0)])) _
    refine XS.goto X6.here hx rfl (pc0 := 262) (pc' := 266) rfl (hb hby d_cp4_262) (by decide) (by decide) ?_
    show Steps p.tables e below (T6.setTop (mkF m 266 #[.val (.ref a1), .val (.int p2), .val (.int p3), .val (.int u0), .val (.int (1 : Int32))] [(.int u0)])) _
    exact retI X6 hx Bd.returns (hb hby d_cp4_266) hr
  · show Q_cp4 Z a1 p2 p3 g u0 h0 n0 _ T6.heap _
    rw [e6]
    exact ⟨rfl, N6, rfl⟩
theorem pn_law : plainName "com/example/nuthatch/nuthatch/Utf8WritePinLaw" = true := by first | (simp [plainName, overriddenIn]; done) | decide +kernel
theorem pd_law_0 : parseMethodDescriptor "(I[BI)I" = some ⟨[.int, (.array .byte), .int], some .int⟩ := by decide +kernel
theorem pd_law_1 : parseMethodDescriptor "([BIIIB)Z" = some ⟨[(.array .byte), .int, .int, .int, .byte], some .boolean⟩ := by decide +kernel
theorem pd_law_2 : parseMethodDescriptor "(B)I" = some ⟨[.byte], some .int⟩ := by decide +kernel
theorem pd_law_3 : parseMethodDescriptor "([BII)I" = some ⟨[(.array .byte), .int, .int], some .int⟩ := by decide +kernel
theorem ef_law (m : MethodId) (p1 : Int32) (p2 : Int32) (p3 : Int32) : entryFrame m #[(.int p1), (.int p2), (.int p3)] maxLocals = mkF m 0 #[.val (.int p1), .val (.int p2), .val (.int p3), .unset, .unset, .unset, .unset, .unset, .unset, .unset, .unset] [] := by first | (simp [entryFrame, mkF, argsToLocals, Value.category, maxLocals]; done) | rfl
def Q_law (Z : State) (p1 : Int32) (p2 : Int32) (p3 : Int32) (h0 : Heap) (n0 : Nat) (v : Option Value) (h : Heap) (L : List Loc) : Prop := v = some (.int (1 : Int32)) ∧ Fr n0 L
set_option maxRecDepth 65536 in
set_option maxHeartbeats 40000000 in
theorem rm_law (l : Launch) (Z : State) (a0 : Array Value) (hw : ∀ d ∈ tables_1, d.before a0 Z = true) (ws : List Jvm.Cond) (p1 : Int32) (p2 : Int32) (p3 : Int32) (h0 : Heap) (n0 : Nat) (Z0 : n0 ≤ h0.size) :
    MetFree l x (head1 (Jvm.Cond.code x code maxLocals ret :: ws) room_1) (fun a U => a = #[(.int p1), (.int p2), (.int p3)] ∧ Z.Warmed39 U.vm ∧ U.heap = h0) (fun _ _ _ _ _ => True) (fun _ U o U' => ∃ v L, o = .returned v ∧ Q_law Z p1 p2 p3 h0 n0 v U'.heap L ∧ FrameEnd U o U' L room_1.cells room_1.slots) := by
  refine MetFree.of_bodySF (plainFor_of_name pn_law) hisR ?_
  intro p e s m args below meth c s₁ Bd hml0 hP hK
  obtain ⟨rfl, hZ, hh⟩ := hP
  have hx := Bd.exec
  have hby := Bd.bytes
  have hml : c.maxLocals = 11 := hml0
  have hown : s.vm.findClass "com/example/nuthatch/nuthatch/Utf8WritePinLaw" = some m.cls := findClass_of_methodNamed Bd.named
  have hnm := (name_of_methodNamed Bd.named Bd.method).1
  have X0 : Stand p l e room_1 s m #[(.int p1), (.int p2), (.int p3)] below meth c s₁ [] 0 0 := Stand.of_body Bd
  have e0 : s₁.heap = h0 := by rw [← hh, Bd.state]; rfl
  have N0 := Fr.nil n0
  have pre0 : ∀ t, Steps p.tables e below (s₁.setTop (mkF m 0 #[.val (.int p1), .val (.int p2), .val (.int p3), .unset, .unset, .unset, .unset, .unset, .unset, .unset, .unset] [])) t → Steps p.tables e below (s₁.setTop (entryFrame m #[(.int p1), (.int p2), (.int p3)] maxLocals)) t := fun t k => castTop (ef_law m p1 p2 p3) k
  have pr2 : ∀ t, Steps p.tables e below (s₁.setTop (mkF m 19 #[.val (.int p1), .val (.int p2), .val (.int p3), .val (.int (own_cc p1)), .val (.int (own_a p2)), .val (.int (own_f p3)), .unset, .unset, .unset, .unset, .unset] [(.int (8 : Int32))])) t → Steps p.tables e below (s₁.setTop (entryFrame m #[(.int p1), (.int p2), (.int p3)] maxLocals)) t := fun t kt => pre0 t (by
    show Steps p.tables e below (s₁.setTop (mkF m 0 #[.val (.int p1), .val (.int p2), .val (.int p3), .unset, .unset, .unset, .unset, .unset, .unset, .unset, .unset] [])) _
    refine XS.iloadN X0.here hx rfl (hb hby at_0) rfl ?_
    show Steps p.tables e below (s₁.setTop (mkF m 1 #[.val (.int p1), .val (.int p2), .val (.int p3), .unset, .unset, .unset, .unset, .unset, .unset, .unset, .unset] [(.int p1)])) _
    refine X0.ldcInt hx hown (mvT hZ (hw _ (List.mem_of_getElem? (i := 0) rfl))) (g := (mkF m 1 #[.val (.int p1), .val (.int p2), .val (.int p3), .unset, .unset, .unset, .unset, .unset, .unset, .unset, .unset] [(.int p1)])) rfl (hb hby at_1) _ ?_
    show Steps p.tables e below (s₁.setTop (mkF m 3 #[.val (.int p1), .val (.int p2), .val (.int p3), .unset, .unset, .unset, .unset, .unset, .unset, .unset, .unset] [(.int (2147483647 : Int32)), (.int p1)])) _
    refine XS.iand X0.here hx rfl (hb hby at_3) rfl ?_
    show Steps p.tables e below (s₁.setTop (mkF m 4 #[.val (.int p1), .val (.int p2), .val (.int p3), .unset, .unset, .unset, .unset, .unset, .unset, .unset, .unset] [(.int (p1 &&& (2147483647 : Int32)))])) _
    refine X0.ldcInt hx hown (mvT hZ (hw _ (List.mem_of_getElem? (i := 1) rfl))) (g := (mkF m 4 #[.val (.int p1), .val (.int p2), .val (.int p3), .unset, .unset, .unset, .unset, .unset, .unset, .unset, .unset] [(.int (p1 &&& (2147483647 : Int32)))])) rfl (hb hby at_4) _ ?_
    show Steps p.tables e below (s₁.setTop (mkF m 6 #[.val (.int p1), .val (.int p2), .val (.int p3), .unset, .unset, .unset, .unset, .unset, .unset, .unset, .unset] [(.int (1114112 : Int32)), (.int (p1 &&& (2147483647 : Int32)))])) _
    refine XS.irem X0.here hx rfl (hb hby at_6) rfl (by decide) ?_
    show Steps p.tables e below (s₁.setTop (mkF m 7 #[.val (.int p1), .val (.int p2), .val (.int p3), .unset, .unset, .unset, .unset, .unset, .unset, .unset, .unset] [(.int ((p1 &&& (2147483647 : Int32)) - ((p1 &&& (2147483647 : Int32)) / (1114112 : Int32)) * (1114112 : Int32)))])) _
    refine XS.istoreN X0.here hx rfl (hb hby at_7) rfl (l' := #[.val (.int p1), .val (.int p2), .val (.int p3), .val (.int (own_cc p1)), .unset, .unset, .unset, .unset, .unset, .unset, .unset]) rfl ?_
    show Steps p.tables e below (s₁.setTop (mkF m 8 #[.val (.int p1), .val (.int p2), .val (.int p3), .val (.int (own_cc p1)), .unset, .unset, .unset, .unset, .unset, .unset, .unset] [])) _
    refine XS.iloadN X0.here hx rfl (hb hby at_8) rfl ?_
    show Steps p.tables e below (s₁.setTop (mkF m 9 #[.val (.int p1), .val (.int p2), .val (.int p3), .val (.int (own_cc p1)), .unset, .unset, .unset, .unset, .unset, .unset, .unset] [(.int p2)])) _
    refine XS.iconst X0.here hx rfl (hb hby at_9) ?_
    show Steps p.tables e below (s₁.setTop (mkF m 10 #[.val (.int p1), .val (.int p2), .val (.int p3), .val (.int (own_cc p1)), .unset, .unset, .unset, .unset, .unset, .unset, .unset] [(.int (3 : Int32)), (.int p2)])) _
    refine XS.iand X0.here hx rfl (hb hby at_10) rfl ?_
    show Steps p.tables e below (s₁.setTop (mkF m 11 #[.val (.int p1), .val (.int p2), .val (.int p3), .val (.int (own_cc p1)), .unset, .unset, .unset, .unset, .unset, .unset, .unset] [(.int (p2 &&& (3 : Int32)))])) _
    refine XS.istore X0.here hx rfl (hb hby at_11) rfl (l' := #[.val (.int p1), .val (.int p2), .val (.int p3), .val (.int (own_cc p1)), .val (.int (own_a p2)), .unset, .unset, .unset, .unset, .unset, .unset]) rfl ?_
    show Steps p.tables e below (s₁.setTop (mkF m 13 #[.val (.int p1), .val (.int p2), .val (.int p3), .val (.int (own_cc p1)), .val (.int (own_a p2)), .unset, .unset, .unset, .unset, .unset, .unset] [])) _
    refine XS.iloadN X0.here hx rfl (hb hby at_13) rfl ?_
    show Steps p.tables e below (s₁.setTop (mkF m 14 #[.val (.int p1), .val (.int p2), .val (.int p3), .val (.int (own_cc p1)), .val (.int (own_a p2)), .unset, .unset, .unset, .unset, .unset, .unset] [(.int p3)])) _
    refine XS.i2b X0.here hx rfl (hb hby at_14) rfl ?_
    show Steps p.tables e below (s₁.setTop (mkF m 15 #[.val (.int p1), .val (.int p2), .val (.int p3), .val (.int (own_cc p1)), .val (.int (own_a p2)), .unset, .unset, .unset, .unset, .unset, .unset] [(.int (p3.toInt8.toInt32))])) _
    refine XS.istore X0.here hx rfl (hb hby at_15) rfl (l' := #[.val (.int p1), .val (.int p2), .val (.int p3), .val (.int (own_cc p1)), .val (.int (own_a p2)), .val (.int (own_f p3)), .unset, .unset, .unset, .unset, .unset]) rfl ?_
    show Steps p.tables e below (s₁.setTop (mkF m 17 #[.val (.int p1), .val (.int p2), .val (.int p3), .val (.int (own_cc p1)), .val (.int (own_a p2)), .val (.int (own_f p3)), .unset, .unset, .unset, .unset, .unset] [])) _
    refine XS.bipush X0.here hx rfl (hb hby at_17) ?_
    show Steps p.tables e below (s₁.setTop (mkF m 19 #[.val (.int p1), .val (.int p2), .val (.int p3), .val (.int (own_cc p1)), .val (.int (own_a p2)), .val (.int (own_f p3)), .unset, .unset, .unset, .unset, .unset] [(.int (8 : Int32))])) _
    exact kt)
  obtain ⟨T1, h1, k1, X1, e1, E1, A1, st1⟩ := newP X0 hx hZ (hw _ (List.mem_of_getElem? (i := 2) rfl)) e0 (g := (mkF m 19 #[.val (.int p1), .val (.int p2), .val (.int p3), .val (.int (own_cc p1)), .val (.int (own_a p2)), .val (.int (own_f p3)), .unset, .unset, .unset, .unset, .unset] [(.int (8 : Int32))])) rfl (hb hby at_19) rfl (by decide) (cap := 8) (by decide) (by decide) (by decide) (by decide)
  obtain ⟨b1, g1⟩ : ∃ z, z = h0.size := ⟨_, rfl⟩
  rw [← g1] at A1 st1
  have g_b1 : n0 ≤ b1 := Nat.le_trans Z0 (Nat.le_of_eq g1.symm)
  have Z1 : n0 ≤ h1.size := Nat.le_trans Z0 E1.1
  have V1 := own_new A1
  have pr4 : ∀ t, Steps p.tables e below (T1.setTop (mkF m 28 #[.val (.int p1), .val (.int p2), .val (.int p3), .val (.int (own_cc p1)), .val (.int (own_a p2)), .val (.int (own_f p3)), .val (.ref b1), .unset, .unset, .unset, .unset] [(.int (own_f p3)), (.int (0 : Int32)), (.ref b1)])) t → Steps p.tables e below (s₁.setTop (entryFrame m #[(.int p1), (.int p2), (.int p3)] maxLocals)) t := fun t kt => pr2 t (by
    refine st1 _ ?_
    show Steps p.tables e below (T1.setTop (mkF m 21 #[.val (.int p1), .val (.int p2), .val (.int p3), .val (.int (own_cc p1)), .val (.int (own_a p2)), .val (.int (own_f p3)), .unset, .unset, .unset, .unset, .unset] [(.ref b1)])) _
    refine XS.astore X1.here hx rfl (hb hby at_21) rfl rfl (l' := #[.val (.int p1), .val (.int p2), .val (.int p3), .val (.int (own_cc p1)), .val (.int (own_a p2)), .val (.int (own_f p3)), .val (.ref b1), .unset, .unset, .unset, .unset]) rfl ?_
    show Steps p.tables e below (T1.setTop (mkF m 23 #[.val (.int p1), .val (.int p2), .val (.int p3), .val (.int (own_cc p1)), .val (.int (own_a p2)), .val (.int (own_f p3)), .val (.ref b1), .unset, .unset, .unset, .unset] [])) _
    refine XS.aload X1.here hx rfl (hb hby at_23) rfl rfl ?_
    show Steps p.tables e below (T1.setTop (mkF m 25 #[.val (.int p1), .val (.int p2), .val (.int p3), .val (.int (own_cc p1)), .val (.int (own_a p2)), .val (.int (own_f p3)), .val (.ref b1), .unset, .unset, .unset, .unset] [(.ref b1)])) _
    refine XS.iconst X1.here hx rfl (hb hby at_25) ?_
    show Steps p.tables e below (T1.setTop (mkF m 26 #[.val (.int p1), .val (.int p2), .val (.int p3), .val (.int (own_cc p1)), .val (.int (own_a p2)), .val (.int (own_f p3)), .val (.ref b1), .unset, .unset, .unset, .unset] [(.int (0 : Int32)), (.ref b1)])) _
    refine XS.iload X1.here hx rfl (hb hby at_26) rfl ?_
    show Steps p.tables e below (T1.setTop (mkF m 28 #[.val (.int p1), .val (.int p2), .val (.int p3), .val (.int (own_cc p1)), .val (.int (own_a p2)), .val (.int (own_f p3)), .val (.ref b1), .unset, .unset, .unset, .unset] [(.int (own_f p3)), (.int (0 : Int32)), (.ref b1)])) _
    exact kt)
  obtain ⟨T3, h3, X3, e3, V3, s3, st3⟩ := own_stB X1 hx hZ e1 V1 (j := (0 : Int32)) (by decide) (f := (mkF m 28 #[.val (.int p1), .val (.int p2), .val (.int p3), .val (.int (own_cc p1)), .val (.int (own_a p2)), .val (.int (own_f p3)), .val (.ref b1), .unset, .unset, .unset, .unset] [(.int (own_f p3)), (.int (0 : Int32)), (.ref b1)])) rfl rfl (hb hby at_28)
  have N3 := Fr.snoc X3 N0 g_b1
  have Z3 : n0 ≤ h3.size := Nat.le_trans Z1 s3
  have pr6 : ∀ t, Steps p.tables e below (T3.setTop (mkF m 34 #[.val (.int p1), .val (.int p2), .val (.int p3), .val (.int (own_cc p1)), .val (.int (own_a p2)), .val (.int (own_f p3)), .val (.ref b1), .unset, .unset, .unset, .unset] [(.int (own_f p3)), (.int (1 : Int32)), (.ref b1)])) t → Steps p.tables e below (s₁.setTop (entryFrame m #[(.int p1), (.int p2), (.int p3)] maxLocals)) t := fun t kt => pr4 t (by
    refine st3 _ ?_
    show Steps p.tables e below (T3.setTop (mkF m 29 #[.val (.int p1), .val (.int p2), .val (.int p3), .val (.int (own_cc p1)), .val (.int (own_a p2)), .val (.int (own_f p3)), .val (.ref b1), .unset, .unset, .unset, .unset] [])) _
    refine XS.aload X3.here hx rfl (hb hby at_29) rfl rfl ?_
    show Steps p.tables e below (T3.setTop (mkF m 31 #[.val (.int p1), .val (.int p2), .val (.int p3), .val (.int (own_cc p1)), .val (.int (own_a p2)), .val (.int (own_f p3)), .val (.ref b1), .unset, .unset, .unset, .unset] [(.ref b1)])) _
    refine XS.iconst X3.here hx rfl (hb hby at_31) ?_
    show Steps p.tables e below (T3.setTop (mkF m 32 #[.val (.int p1), .val (.int p2), .val (.int p3), .val (.int (own_cc p1)), .val (.int (own_a p2)), .val (.int (own_f p3)), .val (.ref b1), .unset, .unset, .unset, .unset] [(.int (1 : Int32)), (.ref b1)])) _
    refine XS.iload X3.here hx rfl (hb hby at_32) rfl ?_
    show Steps p.tables e below (T3.setTop (mkF m 34 #[.val (.int p1), .val (.int p2), .val (.int p3), .val (.int (own_cc p1)), .val (.int (own_a p2)), .val (.int (own_f p3)), .val (.ref b1), .unset, .unset, .unset, .unset] [(.int (own_f p3)), (.int (1 : Int32)), (.ref b1)])) _
    exact kt)
  obtain ⟨T5, h5, X5, e5, V5, s5, st5⟩ := own_stB X3 hx hZ e3 V3 (j := (1 : Int32)) (by decide) (f := (mkF m 34 #[.val (.int p1), .val (.int p2), .val (.int p3), .val (.int (own_cc p1)), .val (.int (own_a p2)), .val (.int (own_f p3)), .val (.ref b1), .unset, .unset, .unset, .unset] [(.int (own_f p3)), (.int (1 : Int32)), (.ref b1)])) rfl rfl (hb hby at_34)
  have N5 := Fr.snoc X5 N3 g_b1
  have Z5 : n0 ≤ h5.size := Nat.le_trans Z3 s5
  have pr8 : ∀ t, Steps p.tables e below (T5.setTop (mkF m 40 #[.val (.int p1), .val (.int p2), .val (.int p3), .val (.int (own_cc p1)), .val (.int (own_a p2)), .val (.int (own_f p3)), .val (.ref b1), .unset, .unset, .unset, .unset] [(.int (own_f p3)), (.int (2 : Int32)), (.ref b1)])) t → Steps p.tables e below (s₁.setTop (entryFrame m #[(.int p1), (.int p2), (.int p3)] maxLocals)) t := fun t kt => pr6 t (by
    refine st5 _ ?_
    show Steps p.tables e below (T5.setTop (mkF m 35 #[.val (.int p1), .val (.int p2), .val (.int p3), .val (.int (own_cc p1)), .val (.int (own_a p2)), .val (.int (own_f p3)), .val (.ref b1), .unset, .unset, .unset, .unset] [])) _
    refine XS.aload X5.here hx rfl (hb hby at_35) rfl rfl ?_
    show Steps p.tables e below (T5.setTop (mkF m 37 #[.val (.int p1), .val (.int p2), .val (.int p3), .val (.int (own_cc p1)), .val (.int (own_a p2)), .val (.int (own_f p3)), .val (.ref b1), .unset, .unset, .unset, .unset] [(.ref b1)])) _
    refine XS.iconst X5.here hx rfl (hb hby at_37) ?_
    show Steps p.tables e below (T5.setTop (mkF m 38 #[.val (.int p1), .val (.int p2), .val (.int p3), .val (.int (own_cc p1)), .val (.int (own_a p2)), .val (.int (own_f p3)), .val (.ref b1), .unset, .unset, .unset, .unset] [(.int (2 : Int32)), (.ref b1)])) _
    refine XS.iload X5.here hx rfl (hb hby at_38) rfl ?_
    show Steps p.tables e below (T5.setTop (mkF m 40 #[.val (.int p1), .val (.int p2), .val (.int p3), .val (.int (own_cc p1)), .val (.int (own_a p2)), .val (.int (own_f p3)), .val (.ref b1), .unset, .unset, .unset, .unset] [(.int (own_f p3)), (.int (2 : Int32)), (.ref b1)])) _
    exact kt)
  obtain ⟨T7, h7, X7, e7, V7, s7, st7⟩ := own_stB X5 hx hZ e5 V5 (j := (2 : Int32)) (by decide) (f := (mkF m 40 #[.val (.int p1), .val (.int p2), .val (.int p3), .val (.int (own_cc p1)), .val (.int (own_a p2)), .val (.int (own_f p3)), .val (.ref b1), .unset, .unset, .unset, .unset] [(.int (own_f p3)), (.int (2 : Int32)), (.ref b1)])) rfl rfl (hb hby at_40)
  have N7 := Fr.snoc X7 N5 g_b1
  have Z7 : n0 ≤ h7.size := Nat.le_trans Z5 s7
  have pr10 : ∀ t, Steps p.tables e below (T7.setTop (mkF m 46 #[.val (.int p1), .val (.int p2), .val (.int p3), .val (.int (own_cc p1)), .val (.int (own_a p2)), .val (.int (own_f p3)), .val (.ref b1), .unset, .unset, .unset, .unset] [(.int (own_f p3)), (.int (3 : Int32)), (.ref b1)])) t → Steps p.tables e below (s₁.setTop (entryFrame m #[(.int p1), (.int p2), (.int p3)] maxLocals)) t := fun t kt => pr8 t (by
    refine st7 _ ?_
    show Steps p.tables e below (T7.setTop (mkF m 41 #[.val (.int p1), .val (.int p2), .val (.int p3), .val (.int (own_cc p1)), .val (.int (own_a p2)), .val (.int (own_f p3)), .val (.ref b1), .unset, .unset, .unset, .unset] [])) _
    refine XS.aload X7.here hx rfl (hb hby at_41) rfl rfl ?_
    show Steps p.tables e below (T7.setTop (mkF m 43 #[.val (.int p1), .val (.int p2), .val (.int p3), .val (.int (own_cc p1)), .val (.int (own_a p2)), .val (.int (own_f p3)), .val (.ref b1), .unset, .unset, .unset, .unset] [(.ref b1)])) _
    refine XS.iconst X7.here hx rfl (hb hby at_43) ?_
    show Steps p.tables e below (T7.setTop (mkF m 44 #[.val (.int p1), .val (.int p2), .val (.int p3), .val (.int (own_cc p1)), .val (.int (own_a p2)), .val (.int (own_f p3)), .val (.ref b1), .unset, .unset, .unset, .unset] [(.int (3 : Int32)), (.ref b1)])) _
    refine XS.iload X7.here hx rfl (hb hby at_44) rfl ?_
    show Steps p.tables e below (T7.setTop (mkF m 46 #[.val (.int p1), .val (.int p2), .val (.int p3), .val (.int (own_cc p1)), .val (.int (own_a p2)), .val (.int (own_f p3)), .val (.ref b1), .unset, .unset, .unset, .unset] [(.int (own_f p3)), (.int (3 : Int32)), (.ref b1)])) _
    exact kt)
  obtain ⟨T9, h9, X9, e9, V9, s9, st9⟩ := own_stB X7 hx hZ e7 V7 (j := (3 : Int32)) (by decide) (f := (mkF m 46 #[.val (.int p1), .val (.int p2), .val (.int p3), .val (.int (own_cc p1)), .val (.int (own_a p2)), .val (.int (own_f p3)), .val (.ref b1), .unset, .unset, .unset, .unset] [(.int (own_f p3)), (.int (3 : Int32)), (.ref b1)])) rfl rfl (hb hby at_46)
  have N9 := Fr.snoc X9 N7 g_b1
  have Z9 : n0 ≤ h9.size := Nat.le_trans Z7 s9
  have pr12 : ∀ t, Steps p.tables e below (T9.setTop (mkF m 52 #[.val (.int p1), .val (.int p2), .val (.int p3), .val (.int (own_cc p1)), .val (.int (own_a p2)), .val (.int (own_f p3)), .val (.ref b1), .unset, .unset, .unset, .unset] [(.int (own_f p3)), (.int (4 : Int32)), (.ref b1)])) t → Steps p.tables e below (s₁.setTop (entryFrame m #[(.int p1), (.int p2), (.int p3)] maxLocals)) t := fun t kt => pr10 t (by
    refine st9 _ ?_
    show Steps p.tables e below (T9.setTop (mkF m 47 #[.val (.int p1), .val (.int p2), .val (.int p3), .val (.int (own_cc p1)), .val (.int (own_a p2)), .val (.int (own_f p3)), .val (.ref b1), .unset, .unset, .unset, .unset] [])) _
    refine XS.aload X9.here hx rfl (hb hby at_47) rfl rfl ?_
    show Steps p.tables e below (T9.setTop (mkF m 49 #[.val (.int p1), .val (.int p2), .val (.int p3), .val (.int (own_cc p1)), .val (.int (own_a p2)), .val (.int (own_f p3)), .val (.ref b1), .unset, .unset, .unset, .unset] [(.ref b1)])) _
    refine XS.iconst X9.here hx rfl (hb hby at_49) ?_
    show Steps p.tables e below (T9.setTop (mkF m 50 #[.val (.int p1), .val (.int p2), .val (.int p3), .val (.int (own_cc p1)), .val (.int (own_a p2)), .val (.int (own_f p3)), .val (.ref b1), .unset, .unset, .unset, .unset] [(.int (4 : Int32)), (.ref b1)])) _
    refine XS.iload X9.here hx rfl (hb hby at_50) rfl ?_
    show Steps p.tables e below (T9.setTop (mkF m 52 #[.val (.int p1), .val (.int p2), .val (.int p3), .val (.int (own_cc p1)), .val (.int (own_a p2)), .val (.int (own_f p3)), .val (.ref b1), .unset, .unset, .unset, .unset] [(.int (own_f p3)), (.int (4 : Int32)), (.ref b1)])) _
    exact kt)
  obtain ⟨T11, h11, X11, e11, V11, s11, st11⟩ := own_stB X9 hx hZ e9 V9 (j := (4 : Int32)) (by decide) (f := (mkF m 52 #[.val (.int p1), .val (.int p2), .val (.int p3), .val (.int (own_cc p1)), .val (.int (own_a p2)), .val (.int (own_f p3)), .val (.ref b1), .unset, .unset, .unset, .unset] [(.int (own_f p3)), (.int (4 : Int32)), (.ref b1)])) rfl rfl (hb hby at_52)
  have N11 := Fr.snoc X11 N9 g_b1
  have Z11 : n0 ≤ h11.size := Nat.le_trans Z9 s11
  have pr14 : ∀ t, Steps p.tables e below (T11.setTop (mkF m 58 #[.val (.int p1), .val (.int p2), .val (.int p3), .val (.int (own_cc p1)), .val (.int (own_a p2)), .val (.int (own_f p3)), .val (.ref b1), .unset, .unset, .unset, .unset] [(.int (own_f p3)), (.int (5 : Int32)), (.ref b1)])) t → Steps p.tables e below (s₁.setTop (entryFrame m #[(.int p1), (.int p2), (.int p3)] maxLocals)) t := fun t kt => pr12 t (by
    refine st11 _ ?_
    show Steps p.tables e below (T11.setTop (mkF m 53 #[.val (.int p1), .val (.int p2), .val (.int p3), .val (.int (own_cc p1)), .val (.int (own_a p2)), .val (.int (own_f p3)), .val (.ref b1), .unset, .unset, .unset, .unset] [])) _
    refine XS.aload X11.here hx rfl (hb hby at_53) rfl rfl ?_
    show Steps p.tables e below (T11.setTop (mkF m 55 #[.val (.int p1), .val (.int p2), .val (.int p3), .val (.int (own_cc p1)), .val (.int (own_a p2)), .val (.int (own_f p3)), .val (.ref b1), .unset, .unset, .unset, .unset] [(.ref b1)])) _
    refine XS.iconst X11.here hx rfl (hb hby at_55) ?_
    show Steps p.tables e below (T11.setTop (mkF m 56 #[.val (.int p1), .val (.int p2), .val (.int p3), .val (.int (own_cc p1)), .val (.int (own_a p2)), .val (.int (own_f p3)), .val (.ref b1), .unset, .unset, .unset, .unset] [(.int (5 : Int32)), (.ref b1)])) _
    refine XS.iload X11.here hx rfl (hb hby at_56) rfl ?_
    show Steps p.tables e below (T11.setTop (mkF m 58 #[.val (.int p1), .val (.int p2), .val (.int p3), .val (.int (own_cc p1)), .val (.int (own_a p2)), .val (.int (own_f p3)), .val (.ref b1), .unset, .unset, .unset, .unset] [(.int (own_f p3)), (.int (5 : Int32)), (.ref b1)])) _
    exact kt)
  obtain ⟨T13, h13, X13, e13, V13, s13, st13⟩ := own_stB X11 hx hZ e11 V11 (j := (5 : Int32)) (by decide) (f := (mkF m 58 #[.val (.int p1), .val (.int p2), .val (.int p3), .val (.int (own_cc p1)), .val (.int (own_a p2)), .val (.int (own_f p3)), .val (.ref b1), .unset, .unset, .unset, .unset] [(.int (own_f p3)), (.int (5 : Int32)), (.ref b1)])) rfl rfl (hb hby at_58)
  have N13 := Fr.snoc X13 N11 g_b1
  have Z13 : n0 ≤ h13.size := Nat.le_trans Z11 s13
  have pr16 : ∀ t, Steps p.tables e below (T13.setTop (mkF m 65 #[.val (.int p1), .val (.int p2), .val (.int p3), .val (.int (own_cc p1)), .val (.int (own_a p2)), .val (.int (own_f p3)), .val (.ref b1), .unset, .unset, .unset, .unset] [(.int (own_f p3)), (.int (6 : Int32)), (.ref b1)])) t → Steps p.tables e below (s₁.setTop (entryFrame m #[(.int p1), (.int p2), (.int p3)] maxLocals)) t := fun t kt => pr14 t (by
    refine st13 _ ?_
    show Steps p.tables e below (T13.setTop (mkF m 59 #[.val (.int p1), .val (.int p2), .val (.int p3), .val (.int (own_cc p1)), .val (.int (own_a p2)), .val (.int (own_f p3)), .val (.ref b1), .unset, .unset, .unset, .unset] [])) _
    refine XS.aload X13.here hx rfl (hb hby at_59) rfl rfl ?_
    show Steps p.tables e below (T13.setTop (mkF m 61 #[.val (.int p1), .val (.int p2), .val (.int p3), .val (.int (own_cc p1)), .val (.int (own_a p2)), .val (.int (own_f p3)), .val (.ref b1), .unset, .unset, .unset, .unset] [(.ref b1)])) _
    refine XS.bipush X13.here hx rfl (hb hby at_61) ?_
    show Steps p.tables e below (T13.setTop (mkF m 63 #[.val (.int p1), .val (.int p2), .val (.int p3), .val (.int (own_cc p1)), .val (.int (own_a p2)), .val (.int (own_f p3)), .val (.ref b1), .unset, .unset, .unset, .unset] [(.int (6 : Int32)), (.ref b1)])) _
    refine XS.iload X13.here hx rfl (hb hby at_63) rfl ?_
    show Steps p.tables e below (T13.setTop (mkF m 65 #[.val (.int p1), .val (.int p2), .val (.int p3), .val (.int (own_cc p1)), .val (.int (own_a p2)), .val (.int (own_f p3)), .val (.ref b1), .unset, .unset, .unset, .unset] [(.int (own_f p3)), (.int (6 : Int32)), (.ref b1)])) _
    exact kt)
  obtain ⟨T15, h15, X15, e15, V15, s15, st15⟩ := own_stB X13 hx hZ e13 V13 (j := (6 : Int32)) (by decide) (f := (mkF m 65 #[.val (.int p1), .val (.int p2), .val (.int p3), .val (.int (own_cc p1)), .val (.int (own_a p2)), .val (.int (own_f p3)), .val (.ref b1), .unset, .unset, .unset, .unset] [(.int (own_f p3)), (.int (6 : Int32)), (.ref b1)])) rfl rfl (hb hby at_65)
  have N15 := Fr.snoc X15 N13 g_b1
  have Z15 : n0 ≤ h15.size := Nat.le_trans Z13 s15
  have pr18 : ∀ t, Steps p.tables e below (T15.setTop (mkF m 72 #[.val (.int p1), .val (.int p2), .val (.int p3), .val (.int (own_cc p1)), .val (.int (own_a p2)), .val (.int (own_f p3)), .val (.ref b1), .unset, .unset, .unset, .unset] [(.int (own_f p3)), (.int (7 : Int32)), (.ref b1)])) t → Steps p.tables e below (s₁.setTop (entryFrame m #[(.int p1), (.int p2), (.int p3)] maxLocals)) t := fun t kt => pr16 t (by
    refine st15 _ ?_
    show Steps p.tables e below (T15.setTop (mkF m 66 #[.val (.int p1), .val (.int p2), .val (.int p3), .val (.int (own_cc p1)), .val (.int (own_a p2)), .val (.int (own_f p3)), .val (.ref b1), .unset, .unset, .unset, .unset] [])) _
    refine XS.aload X15.here hx rfl (hb hby at_66) rfl rfl ?_
    show Steps p.tables e below (T15.setTop (mkF m 68 #[.val (.int p1), .val (.int p2), .val (.int p3), .val (.int (own_cc p1)), .val (.int (own_a p2)), .val (.int (own_f p3)), .val (.ref b1), .unset, .unset, .unset, .unset] [(.ref b1)])) _
    refine XS.bipush X15.here hx rfl (hb hby at_68) ?_
    show Steps p.tables e below (T15.setTop (mkF m 70 #[.val (.int p1), .val (.int p2), .val (.int p3), .val (.int (own_cc p1)), .val (.int (own_a p2)), .val (.int (own_f p3)), .val (.ref b1), .unset, .unset, .unset, .unset] [(.int (7 : Int32)), (.ref b1)])) _
    refine XS.iload X15.here hx rfl (hb hby at_70) rfl ?_
    show Steps p.tables e below (T15.setTop (mkF m 72 #[.val (.int p1), .val (.int p2), .val (.int p3), .val (.int (own_cc p1)), .val (.int (own_a p2)), .val (.int (own_f p3)), .val (.ref b1), .unset, .unset, .unset, .unset] [(.int (own_f p3)), (.int (7 : Int32)), (.ref b1)])) _
    exact kt)
  obtain ⟨T17, h17, X17, e17, V17, s17, st17⟩ := own_stB X15 hx hZ e15 V15 (j := (7 : Int32)) (by decide) (f := (mkF m 72 #[.val (.int p1), .val (.int p2), .val (.int p3), .val (.int (own_cc p1)), .val (.int (own_a p2)), .val (.int (own_f p3)), .val (.ref b1), .unset, .unset, .unset, .unset] [(.int (own_f p3)), (.int (7 : Int32)), (.ref b1)])) rfl rfl (hb hby at_72)
  have N17 := Fr.snoc X17 N15 g_b1
  have Z17 : n0 ≤ h17.size := Nat.le_trans Z15 s17
  have pr19 : ∀ t, Steps p.tables e below (T17.setTop (mkF m 73 #[.val (.int p1), .val (.int p2), .val (.int p3), .val (.int (own_cc p1)), .val (.int (own_a p2)), .val (.int (own_f p3)), .val (.ref b1), .unset, .unset, .unset, .unset] [])) t → Steps p.tables e below (s₁.setTop (entryFrame m #[(.int p1), (.int p2), (.int p3)] maxLocals)) t := fun t kt => pr18 t (by
    refine st17 _ ?_
    show Steps p.tables e below (T17.setTop (mkF m 73 #[.val (.int p1), .val (.int p2), .val (.int p3), .val (.int (own_cc p1)), .val (.int (own_a p2)), .val (.int (own_f p3)), .val (.ref b1), .unset, .unset, .unset, .unset] [])) _
    exact kt)
  have Vf : own_B Z h17 b1 (fun _ => (own_f p3)) := own_congr (own_fill p3) V17
  have pr21 : ∀ t, Steps p.tables e below (T17.setTop (mkF m 77 #[.val (.int p1), .val (.int p2), .val (.int p3), .val (.int (own_cc p1)), .val (.int (own_a p2)), .val (.int (own_f p3)), .val (.ref b1), .unset, .unset, .unset, .unset] [(.int (128 : Int32)), (.int (own_cc p1))])) t → Steps p.tables e below (s₁.setTop (entryFrame m #[(.int p1), (.int p2), (.int p3)] maxLocals)) t := fun t kt => pr19 t (by
    show Steps p.tables e below (T17.setTop (mkF m 73 #[.val (.int p1), .val (.int p2), .val (.int p3), .val (.int (own_cc p1)), .val (.int (own_a p2)), .val (.int (own_f p3)), .val (.ref b1), .unset, .unset, .unset, .unset] [])) _
    refine XS.iloadN X17.here hx rfl (hb hby at_73) rfl ?_
    show Steps p.tables e below (T17.setTop (mkF m 74 #[.val (.int p1), .val (.int p2), .val (.int p3), .val (.int (own_cc p1)), .val (.int (own_a p2)), .val (.int (own_f p3)), .val (.ref b1), .unset, .unset, .unset, .unset] [(.int (own_cc p1))])) _
    refine XS.sipush X17.here hx rfl (hb hby at_74) ?_
    exact kt)
  by_cases hc77_20 : (own_cc p1) < (128 : Int32)
  · have pr23 : ∀ t, Steps p.tables e below (T17.setTop (mkF m 113 #[.val (.int p1), .val (.int p2), .val (.int p3), .val (.int (own_cc p1)), .val (.int (own_a p2)), .val (.int (own_f p3)), .val (.ref b1), .val (.int (1 : Int32)), .unset, .unset, .unset] [(.int (own_a p2)), (.ref b1), (.int (own_cc p1))])) t → Steps p.tables e below (s₁.setTop (entryFrame m #[(.int p1), (.int p2), (.int p3)] maxLocals)) t := fun t kt => pr21 t (by
      show Steps p.tables e below (T17.setTop (mkF m 77 #[.val (.int p1), .val (.int p2), .val (.int p3), .val (.int (own_cc p1)), .val (.int (own_a p2)), .val (.int (own_f p3)), .val (.ref b1), .unset, .unset, .unset, .unset] [(.int (128 : Int32)), (.int (own_cc p1))])) _
      refine XS.icmpNo X17.here hx rfl (hb hby at_77) rfl (tlt hc77_20).2.1 ?_
      show Steps p.tables e below (T17.setTop (mkF m 80 #[.val (.int p1), .val (.int p2), .val (.int p3), .val (.int (own_cc p1)), .val (.int (own_a p2)), .val (.int (own_f p3)), .val (.ref b1), .unset, .unset, .unset, .unset] [])) _
      refine XS.iconst X17.here hx rfl (hb hby at_80) ?_
      show Steps p.tables e below (T17.setTop (mkF m 81 #[.val (.int p1), .val (.int p2), .val (.int p3), .val (.int (own_cc p1)), .val (.int (own_a p2)), .val (.int (own_f p3)), .val (.ref b1), .unset, .unset, .unset, .unset] [(.int (1 : Int32))])) _
      refine XS.goto X17.here hx rfl (pc0 := 81) (pc' := 106) rfl (hb hby at_81) (by decide) (by decide) ?_
      show Steps p.tables e below (T17.setTop (mkF m 106 #[.val (.int p1), .val (.int p2), .val (.int p3), .val (.int (own_cc p1)), .val (.int (own_a p2)), .val (.int (own_f p3)), .val (.ref b1), .unset, .unset, .unset, .unset] [(.int (1 : Int32))])) _
      refine XS.istore X17.here hx rfl (hb hby at_106) rfl (l' := #[.val (.int p1), .val (.int p2), .val (.int p3), .val (.int (own_cc p1)), .val (.int (own_a p2)), .val (.int (own_f p3)), .val (.ref b1), .val (.int (1 : Int32)), .unset, .unset, .unset]) rfl ?_
      show Steps p.tables e below (T17.setTop (mkF m 108 #[.val (.int p1), .val (.int p2), .val (.int p3), .val (.int (own_cc p1)), .val (.int (own_a p2)), .val (.int (own_f p3)), .val (.ref b1), .val (.int (1 : Int32)), .unset, .unset, .unset] [])) _
      refine XS.iloadN X17.here hx rfl (hb hby at_108) rfl ?_
      show Steps p.tables e below (T17.setTop (mkF m 109 #[.val (.int p1), .val (.int p2), .val (.int p3), .val (.int (own_cc p1)), .val (.int (own_a p2)), .val (.int (own_f p3)), .val (.ref b1), .val (.int (1 : Int32)), .unset, .unset, .unset] [(.int (own_cc p1))])) _
      refine XS.aload X17.here hx rfl (hb hby at_109) rfl rfl ?_
      show Steps p.tables e below (T17.setTop (mkF m 111 #[.val (.int p1), .val (.int p2), .val (.int p3), .val (.int (own_cc p1)), .val (.int (own_a p2)), .val (.int (own_f p3)), .val (.ref b1), .val (.int (1 : Int32)), .unset, .unset, .unset] [(.ref b1), (.int (own_cc p1))])) _
      refine XS.iload X17.here hx rfl (hb hby at_111) rfl ?_
      show Steps p.tables e below (T17.setTop (mkF m 113 #[.val (.int p1), .val (.int p2), .val (.int p3), .val (.int (own_cc p1)), .val (.int (own_a p2)), .val (.int (own_f p3)), .val (.ref b1), .val (.int (1 : Int32)), .unset, .unset, .unset] [(.int (own_a p2)), (.ref b1), (.int (own_cc p1))])) _
      exact kt)
    obtain ⟨_, _, ⟨T22, L22, k22, n22⟩, -, X22, ⟨Lc22, hQ22, l22, y22, z22⟩, st22⟩ := Jvm.LawKit.callS X17 hx (y := (⟨"com/example/nuthatch/nuthatch/Utf8", "write", "(I[BI)I"⟩ : MethodName)) hown (mvT hZ (hw _ (List.mem_of_getElem? (i := 3) rfl))) (mvT hZ (hw _ (List.mem_of_getElem? (i := 4) rfl))) (mvT hZ (hw _ (List.mem_of_getElem? (i := 5) rfl))) (mvT hZ (hw _ (List.mem_of_getElem? (i := 6) rfl))) (by decide) (backOf (W := 0) (rm_w1 l Z a0 hw [] (own_cc p1) b1 (own_a p2) (fun _ => own_f p3) h17 n0 Z17 Vf (own_ai p2) g_b1 hc77_20) hZ (hw _ (List.mem_of_getElem? (i := 6) rfl)) (hw _ (List.mem_of_getElem? (i := 5) rfl)) (by decide) (by decide)) (g := (mkF m 113 #[.val (.int p1), .val (.int p2), .val (.int p3), .val (.int (own_cc p1)), .val (.int (own_a p2)), .val (.int (own_f p3)), .val (.ref b1), .val (.int (1 : Int32)), .unset, .unset, .unset] [(.int (own_a p2)), (.ref b1), (.int (own_cc p1))])) rfl (by rw [hml]; rfl) (argsL := [(.int (own_cc p1)), (.ref b1), (.int (own_a p2))]) (rest := []) (lenOf pd_law_0 rfl) rfl (by show 2 * 0 + _ ≤ _; exact Nat.le_of_eq rfl) (hb hby at_113) (fun _ _ => ⟨rfl, e17, (by decide : 1 + 0 ≤ _), (by decide : 8 + 0 ≤ _)⟩)
    dsimp only [Pt.U, Pt.locs, Pt.cells, Pt.slots] at X22 l22 y22 z22 st22 hQ22
    subst l22 y22 z22
    obtain ⟨rfl, N22q, V22, s22⟩ := hQ22
    have N22 := Fr.app N17 N22q
    have pr25 : ∀ t, Steps p.tables e below (T22.setTop (mkF m 139 #[.val (.int p1), .val (.int p2), .val (.int p3), .val (.int (own_cc p1)), .val (.int (own_a p2)), .val (.int (own_f p3)), .val (.ref b1), .val (.int (1 : Int32)), .val (.int ((own_a p2) + (1 : Int32))), .unset, .unset] [(.int (own_f p3)), (.int ((own_a p2) + (1 : Int32))), (.int (own_a p2)), (.int (0 : Int32)), (.ref b1)])) t → Steps p.tables e below (s₁.setTop (entryFrame m #[(.int p1), (.int p2), (.int p3)] maxLocals)) t := fun t kt => pr23 t (by
      refine st22 _ ?_
      show Steps p.tables e below (T22.setTop (mkF m 116 #[.val (.int p1), .val (.int p2), .val (.int p3), .val (.int (own_cc p1)), .val (.int (own_a p2)), .val (.int (own_f p3)), .val (.ref b1), .val (.int (1 : Int32)), .unset, .unset, .unset] [(.int ((own_a p2) + (1 : Int32)))])) _
      refine XS.istore X22.here hx rfl (hb hby at_116) rfl (l' := #[.val (.int p1), .val (.int p2), .val (.int p3), .val (.int (own_cc p1)), .val (.int (own_a p2)), .val (.int (own_f p3)), .val (.ref b1), .val (.int (1 : Int32)), .val (.int ((own_a p2) + (1 : Int32))), .unset, .unset]) rfl ?_
      show Steps p.tables e below (T22.setTop (mkF m 118 #[.val (.int p1), .val (.int p2), .val (.int p3), .val (.int (own_cc p1)), .val (.int (own_a p2)), .val (.int (own_f p3)), .val (.ref b1), .val (.int (1 : Int32)), .val (.int ((own_a p2) + (1 : Int32))), .unset, .unset] [])) _
      refine XS.iload X22.here hx rfl (hb hby at_118) rfl ?_
      show Steps p.tables e below (T22.setTop (mkF m 120 #[.val (.int p1), .val (.int p2), .val (.int p3), .val (.int (own_cc p1)), .val (.int (own_a p2)), .val (.int (own_f p3)), .val (.ref b1), .val (.int (1 : Int32)), .val (.int ((own_a p2) + (1 : Int32))), .unset, .unset] [(.int ((own_a p2) + (1 : Int32)))])) _
      refine XS.iload X22.here hx rfl (hb hby at_120) rfl ?_
      show Steps p.tables e below (T22.setTop (mkF m 122 #[.val (.int p1), .val (.int p2), .val (.int p3), .val (.int (own_cc p1)), .val (.int (own_a p2)), .val (.int (own_f p3)), .val (.ref b1), .val (.int (1 : Int32)), .val (.int ((own_a p2) + (1 : Int32))), .unset, .unset] [(.int (own_a p2)), (.int ((own_a p2) + (1 : Int32)))])) _
      refine XS.iload X22.here hx rfl (hb hby at_122) rfl ?_
      show Steps p.tables e below (T22.setTop (mkF m 124 #[.val (.int p1), .val (.int p2), .val (.int p3), .val (.int (own_cc p1)), .val (.int (own_a p2)), .val (.int (own_f p3)), .val (.ref b1), .val (.int (1 : Int32)), .val (.int ((own_a p2) + (1 : Int32))), .unset, .unset] [(.int (1 : Int32)), (.int (own_a p2)), (.int ((own_a p2) + (1 : Int32)))])) _
      refine XS.iadd X22.here hx rfl (hb hby at_124) rfl ?_
      show Steps p.tables e below (T22.setTop (mkF m 125 #[.val (.int p1), .val (.int p2), .val (.int p3), .val (.int (own_cc p1)), .val (.int (own_a p2)), .val (.int (own_f p3)), .val (.ref b1), .val (.int (1 : Int32)), .val (.int ((own_a p2) + (1 : Int32))), .unset, .unset] [(.int ((own_a p2) + (1 : Int32))), (.int ((own_a p2) + (1 : Int32)))])) _
      refine XS.icmpYes X22.here hx rfl (pc0 := 125) (pc' := 130) rfl (hb hby at_125) rfl (teq (rfl : ((own_a p2) + (1 : Int32)) = ((own_a p2) + (1 : Int32)))).1 (by decide) (by decide) ?_
      show Steps p.tables e below (T22.setTop (mkF m 130 #[.val (.int p1), .val (.int p2), .val (.int p3), .val (.int (own_cc p1)), .val (.int (own_a p2)), .val (.int (own_f p3)), .val (.ref b1), .val (.int (1 : Int32)), .val (.int ((own_a p2) + (1 : Int32))), .unset, .unset] [])) _
      refine XS.aload X22.here hx rfl (hb hby at_130) rfl rfl ?_
      show Steps p.tables e below (T22.setTop (mkF m 132 #[.val (.int p1), .val (.int p2), .val (.int p3), .val (.int (own_cc p1)), .val (.int (own_a p2)), .val (.int (own_f p3)), .val (.ref b1), .val (.int (1 : Int32)), .val (.int ((own_a p2) + (1 : Int32))), .unset, .unset] [(.ref b1)])) _
      refine XS.iconst X22.here hx rfl (hb hby at_132) ?_
      show Steps p.tables e below (T22.setTop (mkF m 133 #[.val (.int p1), .val (.int p2), .val (.int p3), .val (.int (own_cc p1)), .val (.int (own_a p2)), .val (.int (own_f p3)), .val (.ref b1), .val (.int (1 : Int32)), .val (.int ((own_a p2) + (1 : Int32))), .unset, .unset] [(.int (0 : Int32)), (.ref b1)])) _
      refine XS.iload X22.here hx rfl (hb hby at_133) rfl ?_
      show Steps p.tables e below (T22.setTop (mkF m 135 #[.val (.int p1), .val (.int p2), .val (.int p3), .val (.int (own_cc p1)), .val (.int (own_a p2)), .val (.int (own_f p3)), .val (.ref b1), .val (.int (1 : Int32)), .val (.int ((own_a p2) + (1 : Int32))), .unset, .unset] [(.int (own_a p2)), (.int (0 : Int32)), (.ref b1)])) _
      refine XS.iload X22.here hx rfl (hb hby at_135) rfl ?_
      show Steps p.tables e below (T22.setTop (mkF m 137 #[.val (.int p1), .val (.int p2), .val (.int p3), .val (.int (own_cc p1)), .val (.int (own_a p2)), .val (.int (own_f p3)), .val (.ref b1), .val (.int (1 : Int32)), .val (.int ((own_a p2) + (1 : Int32))), .unset, .unset] [(.int ((own_a p2) + (1 : Int32))), (.int (own_a p2)), (.int (0 : Int32)), (.ref b1)])) _
      refine XS.iload X22.here hx rfl (hb hby at_137) rfl ?_
      show Steps p.tables e below (T22.setTop (mkF m 139 #[.val (.int p1), .val (.int p2), .val (.int p3), .val (.int (own_cc p1)), .val (.int (own_a p2)), .val (.int (own_f p3)), .val (.ref b1), .val (.int (1 : Int32)), .val (.int ((own_a p2) + (1 : Int32))), .unset, .unset] [(.int (own_f p3)), (.int ((own_a p2) + (1 : Int32))), (.int (own_a p2)), (.int (0 : Int32)), (.ref b1)])) _
      exact kt)
    obtain ⟨_, _, ⟨T24, L24, k24, n24⟩, -, X24, ⟨Lc24, hQ24, l24, y24, z24⟩, st24⟩ := Jvm.LawKit.callS X22 hx (y := (⟨"com/example/nuthatch/nuthatch/Utf8WritePinLaw", "kept", "([BIIIB)Z"⟩ : MethodName)) hown (mvT hZ (hw _ (List.mem_of_getElem? (i := 7) rfl))) (mvT hZ (hw _ (List.mem_of_getElem? (i := 8) rfl))) (mvT hZ (hw _ (List.mem_of_getElem? (i := 9) rfl))) (mvT hZ (hw _ (List.mem_of_getElem? (i := 10) rfl))) (by decide) (backOf (W := 0) (rm_kt l Z a0 hw [] b1 (0 : Int32) (own_a p2) ((own_a p2) + (1 : Int32)) (own_f p3) (own_w1 (own_cc p1) (own_a p2) (fun _ => own_f p3)) T22.heap n0 (Nat.le_trans Z17 s22) V22 (by decide) (own_k1 (own_ai p2))) hZ (hw _ (List.mem_of_getElem? (i := 10) rfl)) (hw _ (List.mem_of_getElem? (i := 9) rfl)) (by decide) (by decide)) (g := (mkF m 139 #[.val (.int p1), .val (.int p2), .val (.int p3), .val (.int (own_cc p1)), .val (.int (own_a p2)), .val (.int (own_f p3)), .val (.ref b1), .val (.int (1 : Int32)), .val (.int ((own_a p2) + (1 : Int32))), .unset, .unset] [(.int (own_f p3)), (.int ((own_a p2) + (1 : Int32))), (.int (own_a p2)), (.int (0 : Int32)), (.ref b1)])) rfl (by rw [hml]; rfl) (argsL := [(.ref b1), (.int (0 : Int32)), (.int (own_a p2)), (.int ((own_a p2) + (1 : Int32))), (.int (own_f p3))]) (rest := []) (lenOf pd_law_1 rfl) rfl (by show 2 * 0 + _ ≤ _; exact Nat.le_of_eq rfl) (hb hby at_139) (fun _ _ => ⟨rfl, rfl, (by decide : 1 + 0 ≤ _), (by decide : 8 + 0 ≤ _)⟩)
    dsimp only [Pt.U, Pt.locs, Pt.cells, Pt.slots] at X24 l24 y24 z24 st24 hQ24
    subst l24 y24 z24
    obtain ⟨rfl, N24q, e24⟩ := hQ24
    have N24 := Fr.app N22 N24q
    have pr27 : ∀ t, Steps p.tables e below (T24.setTop (mkF m 154 #[.val (.int p1), .val (.int p2), .val (.int p3), .val (.int (own_cc p1)), .val (.int (own_a p2)), .val (.int (own_f p3)), .val (.ref b1), .val (.int (1 : Int32)), .val (.int ((own_a p2) + (1 : Int32))), .unset, .unset] [(.int (own_f p3)), (.int ((own_a p2) + (1 : Int32))), (.int (own_a p2)), (.int (1 : Int32)), (.ref b1)])) t → Steps p.tables e below (s₁.setTop (entryFrame m #[(.int p1), (.int p2), (.int p3)] maxLocals)) t := fun t kt => pr25 t (by
      refine st24 _ ?_
      show Steps p.tables e below (T24.setTop (mkF m 142 #[.val (.int p1), .val (.int p2), .val (.int p3), .val (.int (own_cc p1)), .val (.int (own_a p2)), .val (.int (own_f p3)), .val (.ref b1), .val (.int (1 : Int32)), .val (.int ((own_a p2) + (1 : Int32))), .unset, .unset] [(.int (1 : Int32))])) _
      refine XS.ifNo X24.here hx rfl (hb hby at_142) rfl ((if0 _ _).trans (feq (by decide : ¬ ((1 : Int32) = (0 : Int32)))).1) ?_
      show Steps p.tables e below (T24.setTop (mkF m 145 #[.val (.int p1), .val (.int p2), .val (.int p3), .val (.int (own_cc p1)), .val (.int (own_a p2)), .val (.int (own_f p3)), .val (.ref b1), .val (.int (1 : Int32)), .val (.int ((own_a p2) + (1 : Int32))), .unset, .unset] [])) _
      refine XS.aload X24.here hx rfl (hb hby at_145) rfl rfl ?_
      show Steps p.tables e below (T24.setTop (mkF m 147 #[.val (.int p1), .val (.int p2), .val (.int p3), .val (.int (own_cc p1)), .val (.int (own_a p2)), .val (.int (own_f p3)), .val (.ref b1), .val (.int (1 : Int32)), .val (.int ((own_a p2) + (1 : Int32))), .unset, .unset] [(.ref b1)])) _
      refine XS.iconst X24.here hx rfl (hb hby at_147) ?_
      show Steps p.tables e below (T24.setTop (mkF m 148 #[.val (.int p1), .val (.int p2), .val (.int p3), .val (.int (own_cc p1)), .val (.int (own_a p2)), .val (.int (own_f p3)), .val (.ref b1), .val (.int (1 : Int32)), .val (.int ((own_a p2) + (1 : Int32))), .unset, .unset] [(.int (1 : Int32)), (.ref b1)])) _
      refine XS.iload X24.here hx rfl (hb hby at_148) rfl ?_
      show Steps p.tables e below (T24.setTop (mkF m 150 #[.val (.int p1), .val (.int p2), .val (.int p3), .val (.int (own_cc p1)), .val (.int (own_a p2)), .val (.int (own_f p3)), .val (.ref b1), .val (.int (1 : Int32)), .val (.int ((own_a p2) + (1 : Int32))), .unset, .unset] [(.int (own_a p2)), (.int (1 : Int32)), (.ref b1)])) _
      refine XS.iload X24.here hx rfl (hb hby at_150) rfl ?_
      show Steps p.tables e below (T24.setTop (mkF m 152 #[.val (.int p1), .val (.int p2), .val (.int p3), .val (.int (own_cc p1)), .val (.int (own_a p2)), .val (.int (own_f p3)), .val (.ref b1), .val (.int (1 : Int32)), .val (.int ((own_a p2) + (1 : Int32))), .unset, .unset] [(.int ((own_a p2) + (1 : Int32))), (.int (own_a p2)), (.int (1 : Int32)), (.ref b1)])) _
      refine XS.iload X24.here hx rfl (hb hby at_152) rfl ?_
      show Steps p.tables e below (T24.setTop (mkF m 154 #[.val (.int p1), .val (.int p2), .val (.int p3), .val (.int (own_cc p1)), .val (.int (own_a p2)), .val (.int (own_f p3)), .val (.ref b1), .val (.int (1 : Int32)), .val (.int ((own_a p2) + (1 : Int32))), .unset, .unset] [(.int (own_f p3)), (.int ((own_a p2) + (1 : Int32))), (.int (own_a p2)), (.int (1 : Int32)), (.ref b1)])) _
      exact kt)
    obtain ⟨_, _, ⟨T26, L26, k26, n26⟩, -, X26, ⟨Lc26, hQ26, l26, y26, z26⟩, st26⟩ := Jvm.LawKit.callS X24 hx (y := (⟨"com/example/nuthatch/nuthatch/Utf8WritePinLaw", "kept", "([BIIIB)Z"⟩ : MethodName)) hown (mvT hZ (hw _ (List.mem_of_getElem? (i := 7) rfl))) (mvT hZ (hw _ (List.mem_of_getElem? (i := 8) rfl))) (mvT hZ (hw _ (List.mem_of_getElem? (i := 9) rfl))) (mvT hZ (hw _ (List.mem_of_getElem? (i := 10) rfl))) (by decide) (backOf (W := 0) (rm_kt l Z a0 hw [] b1 (1 : Int32) (own_a p2) ((own_a p2) + (1 : Int32)) (own_f p3) (own_w1 (own_cc p1) (own_a p2) (fun _ => own_f p3)) T22.heap n0 (Nat.le_trans Z17 s22) V22 (by decide) (own_k1 (own_ai p2))) hZ (hw _ (List.mem_of_getElem? (i := 10) rfl)) (hw _ (List.mem_of_getElem? (i := 9) rfl)) (by decide) (by decide)) (g := (mkF m 154 #[.val (.int p1), .val (.int p2), .val (.int p3), .val (.int (own_cc p1)), .val (.int (own_a p2)), .val (.int (own_f p3)), .val (.ref b1), .val (.int (1 : Int32)), .val (.int ((own_a p2) + (1 : Int32))), .unset, .unset] [(.int (own_f p3)), (.int ((own_a p2) + (1 : Int32))), (.int (own_a p2)), (.int (1 : Int32)), (.ref b1)])) rfl (by rw [hml]; rfl) (argsL := [(.ref b1), (.int (1 : Int32)), (.int (own_a p2)), (.int ((own_a p2) + (1 : Int32))), (.int (own_f p3))]) (rest := []) (lenOf pd_law_1 rfl) rfl (by show 2 * 0 + _ ≤ _; exact Nat.le_of_eq rfl) (hb hby at_154) (fun _ _ => ⟨rfl, e24, (by decide : 1 + 0 ≤ _), (by decide : 8 + 0 ≤ _)⟩)
    dsimp only [Pt.U, Pt.locs, Pt.cells, Pt.slots] at X26 l26 y26 z26 st26 hQ26
    subst l26 y26 z26
    obtain ⟨rfl, N26q, e26⟩ := hQ26
    have N26 := Fr.app N24 N26q
    have pr29 : ∀ t, Steps p.tables e below (T26.setTop (mkF m 169 #[.val (.int p1), .val (.int p2), .val (.int p3), .val (.int (own_cc p1)), .val (.int (own_a p2)), .val (.int (own_f p3)), .val (.ref b1), .val (.int (1 : Int32)), .val (.int ((own_a p2) + (1 : Int32))), .unset, .unset] [(.int (own_f p3)), (.int ((own_a p2) + (1 : Int32))), (.int (own_a p2)), (.int (2 : Int32)), (.ref b1)])) t → Steps p.tables e below (s₁.setTop (entryFrame m #[(.int p1), (.int p2), (.int p3)] maxLocals)) t := fun t kt => pr27 t (by
      refine st26 _ ?_
      show Steps p.tables e below (T26.setTop (mkF m 157 #[.val (.int p1), .val (.int p2), .val (.int p3), .val (.int (own_cc p1)), .val (.int (own_a p2)), .val (.int (own_f p3)), .val (.ref b1), .val (.int (1 : Int32)), .val (.int ((own_a p2) + (1 : Int32))), .unset, .unset] [(.int (1 : Int32))])) _
      refine XS.ifNo X26.here hx rfl (hb hby at_157) rfl ((if0 _ _).trans (feq (by decide : ¬ ((1 : Int32) = (0 : Int32)))).1) ?_
      show Steps p.tables e below (T26.setTop (mkF m 160 #[.val (.int p1), .val (.int p2), .val (.int p3), .val (.int (own_cc p1)), .val (.int (own_a p2)), .val (.int (own_f p3)), .val (.ref b1), .val (.int (1 : Int32)), .val (.int ((own_a p2) + (1 : Int32))), .unset, .unset] [])) _
      refine XS.aload X26.here hx rfl (hb hby at_160) rfl rfl ?_
      show Steps p.tables e below (T26.setTop (mkF m 162 #[.val (.int p1), .val (.int p2), .val (.int p3), .val (.int (own_cc p1)), .val (.int (own_a p2)), .val (.int (own_f p3)), .val (.ref b1), .val (.int (1 : Int32)), .val (.int ((own_a p2) + (1 : Int32))), .unset, .unset] [(.ref b1)])) _
      refine XS.iconst X26.here hx rfl (hb hby at_162) ?_
      show Steps p.tables e below (T26.setTop (mkF m 163 #[.val (.int p1), .val (.int p2), .val (.int p3), .val (.int (own_cc p1)), .val (.int (own_a p2)), .val (.int (own_f p3)), .val (.ref b1), .val (.int (1 : Int32)), .val (.int ((own_a p2) + (1 : Int32))), .unset, .unset] [(.int (2 : Int32)), (.ref b1)])) _
      refine XS.iload X26.here hx rfl (hb hby at_163) rfl ?_
      show Steps p.tables e below (T26.setTop (mkF m 165 #[.val (.int p1), .val (.int p2), .val (.int p3), .val (.int (own_cc p1)), .val (.int (own_a p2)), .val (.int (own_f p3)), .val (.ref b1), .val (.int (1 : Int32)), .val (.int ((own_a p2) + (1 : Int32))), .unset, .unset] [(.int (own_a p2)), (.int (2 : Int32)), (.ref b1)])) _
      refine XS.iload X26.here hx rfl (hb hby at_165) rfl ?_
      show Steps p.tables e below (T26.setTop (mkF m 167 #[.val (.int p1), .val (.int p2), .val (.int p3), .val (.int (own_cc p1)), .val (.int (own_a p2)), .val (.int (own_f p3)), .val (.ref b1), .val (.int (1 : Int32)), .val (.int ((own_a p2) + (1 : Int32))), .unset, .unset] [(.int ((own_a p2) + (1 : Int32))), (.int (own_a p2)), (.int (2 : Int32)), (.ref b1)])) _
      refine XS.iload X26.here hx rfl (hb hby at_167) rfl ?_
      show Steps p.tables e below (T26.setTop (mkF m 169 #[.val (.int p1), .val (.int p2), .val (.int p3), .val (.int (own_cc p1)), .val (.int (own_a p2)), .val (.int (own_f p3)), .val (.ref b1), .val (.int (1 : Int32)), .val (.int ((own_a p2) + (1 : Int32))), .unset, .unset] [(.int (own_f p3)), (.int ((own_a p2) + (1 : Int32))), (.int (own_a p2)), (.int (2 : Int32)), (.ref b1)])) _
      exact kt)
    obtain ⟨_, _, ⟨T28, L28, k28, n28⟩, -, X28, ⟨Lc28, hQ28, l28, y28, z28⟩, st28⟩ := Jvm.LawKit.callS X26 hx (y := (⟨"com/example/nuthatch/nuthatch/Utf8WritePinLaw", "kept", "([BIIIB)Z"⟩ : MethodName)) hown (mvT hZ (hw _ (List.mem_of_getElem? (i := 7) rfl))) (mvT hZ (hw _ (List.mem_of_getElem? (i := 8) rfl))) (mvT hZ (hw _ (List.mem_of_getElem? (i := 9) rfl))) (mvT hZ (hw _ (List.mem_of_getElem? (i := 10) rfl))) (by decide) (backOf (W := 0) (rm_kt l Z a0 hw [] b1 (2 : Int32) (own_a p2) ((own_a p2) + (1 : Int32)) (own_f p3) (own_w1 (own_cc p1) (own_a p2) (fun _ => own_f p3)) T22.heap n0 (Nat.le_trans Z17 s22) V22 (by decide) (own_k1 (own_ai p2))) hZ (hw _ (List.mem_of_getElem? (i := 10) rfl)) (hw _ (List.mem_of_getElem? (i := 9) rfl)) (by decide) (by decide)) (g := (mkF m 169 #[.val (.int p1), .val (.int p2), .val (.int p3), .val (.int (own_cc p1)), .val (.int (own_a p2)), .val (.int (own_f p3)), .val (.ref b1), .val (.int (1 : Int32)), .val (.int ((own_a p2) + (1 : Int32))), .unset, .unset] [(.int (own_f p3)), (.int ((own_a p2) + (1 : Int32))), (.int (own_a p2)), (.int (2 : Int32)), (.ref b1)])) rfl (by rw [hml]; rfl) (argsL := [(.ref b1), (.int (2 : Int32)), (.int (own_a p2)), (.int ((own_a p2) + (1 : Int32))), (.int (own_f p3))]) (rest := []) (lenOf pd_law_1 rfl) rfl (by show 2 * 0 + _ ≤ _; exact Nat.le_of_eq rfl) (hb hby at_169) (fun _ _ => ⟨rfl, e26, (by decide : 1 + 0 ≤ _), (by decide : 8 + 0 ≤ _)⟩)
    dsimp only [Pt.U, Pt.locs, Pt.cells, Pt.slots] at X28 l28 y28 z28 st28 hQ28
    subst l28 y28 z28
    obtain ⟨rfl, N28q, e28⟩ := hQ28
    have N28 := Fr.app N26 N28q
    have pr31 : ∀ t, Steps p.tables e below (T28.setTop (mkF m 184 #[.val (.int p1), .val (.int p2), .val (.int p3), .val (.int (own_cc p1)), .val (.int (own_a p2)), .val (.int (own_f p3)), .val (.ref b1), .val (.int (1 : Int32)), .val (.int ((own_a p2) + (1 : Int32))), .unset, .unset] [(.int (own_f p3)), (.int ((own_a p2) + (1 : Int32))), (.int (own_a p2)), (.int (3 : Int32)), (.ref b1)])) t → Steps p.tables e below (s₁.setTop (entryFrame m #[(.int p1), (.int p2), (.int p3)] maxLocals)) t := fun t kt => pr29 t (by
      refine st28 _ ?_
      show Steps p.tables e below (T28.setTop (mkF m 172 #[.val (.int p1), .val (.int p2), .val (.int p3), .val (.int (own_cc p1)), .val (.int (own_a p2)), .val (.int (own_f p3)), .val (.ref b1), .val (.int (1 : Int32)), .val (.int ((own_a p2) + (1 : Int32))), .unset, .unset] [(.int (1 : Int32))])) _
      refine XS.ifNo X28.here hx rfl (hb hby at_172) rfl ((if0 _ _).trans (feq (by decide : ¬ ((1 : Int32) = (0 : Int32)))).1) ?_
      show Steps p.tables e below (T28.setTop (mkF m 175 #[.val (.int p1), .val (.int p2), .val (.int p3), .val (.int (own_cc p1)), .val (.int (own_a p2)), .val (.int (own_f p3)), .val (.ref b1), .val (.int (1 : Int32)), .val (.int ((own_a p2) + (1 : Int32))), .unset, .unset] [])) _
      refine XS.aload X28.here hx rfl (hb hby at_175) rfl rfl ?_
      show Steps p.tables e below (T28.setTop (mkF m 177 #[.val (.int p1), .val (.int p2), .val (.int p3), .val (.int (own_cc p1)), .val (.int (own_a p2)), .val (.int (own_f p3)), .val (.ref b1), .val (.int (1 : Int32)), .val (.int ((own_a p2) + (1 : Int32))), .unset, .unset] [(.ref b1)])) _
      refine XS.iconst X28.here hx rfl (hb hby at_177) ?_
      show Steps p.tables e below (T28.setTop (mkF m 178 #[.val (.int p1), .val (.int p2), .val (.int p3), .val (.int (own_cc p1)), .val (.int (own_a p2)), .val (.int (own_f p3)), .val (.ref b1), .val (.int (1 : Int32)), .val (.int ((own_a p2) + (1 : Int32))), .unset, .unset] [(.int (3 : Int32)), (.ref b1)])) _
      refine XS.iload X28.here hx rfl (hb hby at_178) rfl ?_
      show Steps p.tables e below (T28.setTop (mkF m 180 #[.val (.int p1), .val (.int p2), .val (.int p3), .val (.int (own_cc p1)), .val (.int (own_a p2)), .val (.int (own_f p3)), .val (.ref b1), .val (.int (1 : Int32)), .val (.int ((own_a p2) + (1 : Int32))), .unset, .unset] [(.int (own_a p2)), (.int (3 : Int32)), (.ref b1)])) _
      refine XS.iload X28.here hx rfl (hb hby at_180) rfl ?_
      show Steps p.tables e below (T28.setTop (mkF m 182 #[.val (.int p1), .val (.int p2), .val (.int p3), .val (.int (own_cc p1)), .val (.int (own_a p2)), .val (.int (own_f p3)), .val (.ref b1), .val (.int (1 : Int32)), .val (.int ((own_a p2) + (1 : Int32))), .unset, .unset] [(.int ((own_a p2) + (1 : Int32))), (.int (own_a p2)), (.int (3 : Int32)), (.ref b1)])) _
      refine XS.iload X28.here hx rfl (hb hby at_182) rfl ?_
      show Steps p.tables e below (T28.setTop (mkF m 184 #[.val (.int p1), .val (.int p2), .val (.int p3), .val (.int (own_cc p1)), .val (.int (own_a p2)), .val (.int (own_f p3)), .val (.ref b1), .val (.int (1 : Int32)), .val (.int ((own_a p2) + (1 : Int32))), .unset, .unset] [(.int (own_f p3)), (.int ((own_a p2) + (1 : Int32))), (.int (own_a p2)), (.int (3 : Int32)), (.ref b1)])) _
      exact kt)
    obtain ⟨_, _, ⟨T30, L30, k30, n30⟩, -, X30, ⟨Lc30, hQ30, l30, y30, z30⟩, st30⟩ := Jvm.LawKit.callS X28 hx (y := (⟨"com/example/nuthatch/nuthatch/Utf8WritePinLaw", "kept", "([BIIIB)Z"⟩ : MethodName)) hown (mvT hZ (hw _ (List.mem_of_getElem? (i := 7) rfl))) (mvT hZ (hw _ (List.mem_of_getElem? (i := 8) rfl))) (mvT hZ (hw _ (List.mem_of_getElem? (i := 9) rfl))) (mvT hZ (hw _ (List.mem_of_getElem? (i := 10) rfl))) (by decide) (backOf (W := 0) (rm_kt l Z a0 hw [] b1 (3 : Int32) (own_a p2) ((own_a p2) + (1 : Int32)) (own_f p3) (own_w1 (own_cc p1) (own_a p2) (fun _ => own_f p3)) T22.heap n0 (Nat.le_trans Z17 s22) V22 (by decide) (own_k1 (own_ai p2))) hZ (hw _ (List.mem_of_getElem? (i := 10) rfl)) (hw _ (List.mem_of_getElem? (i := 9) rfl)) (by decide) (by decide)) (g := (mkF m 184 #[.val (.int p1), .val (.int p2), .val (.int p3), .val (.int (own_cc p1)), .val (.int (own_a p2)), .val (.int (own_f p3)), .val (.ref b1), .val (.int (1 : Int32)), .val (.int ((own_a p2) + (1 : Int32))), .unset, .unset] [(.int (own_f p3)), (.int ((own_a p2) + (1 : Int32))), (.int (own_a p2)), (.int (3 : Int32)), (.ref b1)])) rfl (by rw [hml]; rfl) (argsL := [(.ref b1), (.int (3 : Int32)), (.int (own_a p2)), (.int ((own_a p2) + (1 : Int32))), (.int (own_f p3))]) (rest := []) (lenOf pd_law_1 rfl) rfl (by show 2 * 0 + _ ≤ _; exact Nat.le_of_eq rfl) (hb hby at_184) (fun _ _ => ⟨rfl, e28, (by decide : 1 + 0 ≤ _), (by decide : 8 + 0 ≤ _)⟩)
    dsimp only [Pt.U, Pt.locs, Pt.cells, Pt.slots] at X30 l30 y30 z30 st30 hQ30
    subst l30 y30 z30
    obtain ⟨rfl, N30q, e30⟩ := hQ30
    have N30 := Fr.app N28 N30q
    have pr33 : ∀ t, Steps p.tables e below (T30.setTop (mkF m 199 #[.val (.int p1), .val (.int p2), .val (.int p3), .val (.int (own_cc p1)), .val (.int (own_a p2)), .val (.int (own_f p3)), .val (.ref b1), .val (.int (1 : Int32)), .val (.int ((own_a p2) + (1 : Int32))), .unset, .unset] [(.int (own_f p3)), (.int ((own_a p2) + (1 : Int32))), (.int (own_a p2)), (.int (4 : Int32)), (.ref b1)])) t → Steps p.tables e below (s₁.setTop (entryFrame m #[(.int p1), (.int p2), (.int p3)] maxLocals)) t := fun t kt => pr31 t (by
      refine st30 _ ?_
      show Steps p.tables e below (T30.setTop (mkF m 187 #[.val (.int p1), .val (.int p2), .val (.int p3), .val (.int (own_cc p1)), .val (.int (own_a p2)), .val (.int (own_f p3)), .val (.ref b1), .val (.int (1 : Int32)), .val (.int ((own_a p2) + (1 : Int32))), .unset, .unset] [(.int (1 : Int32))])) _
      refine XS.ifNo X30.here hx rfl (hb hby at_187) rfl ((if0 _ _).trans (feq (by decide : ¬ ((1 : Int32) = (0 : Int32)))).1) ?_
      show Steps p.tables e below (T30.setTop (mkF m 190 #[.val (.int p1), .val (.int p2), .val (.int p3), .val (.int (own_cc p1)), .val (.int (own_a p2)), .val (.int (own_f p3)), .val (.ref b1), .val (.int (1 : Int32)), .val (.int ((own_a p2) + (1 : Int32))), .unset, .unset] [])) _
      refine XS.aload X30.here hx rfl (hb hby at_190) rfl rfl ?_
      show Steps p.tables e below (T30.setTop (mkF m 192 #[.val (.int p1), .val (.int p2), .val (.int p3), .val (.int (own_cc p1)), .val (.int (own_a p2)), .val (.int (own_f p3)), .val (.ref b1), .val (.int (1 : Int32)), .val (.int ((own_a p2) + (1 : Int32))), .unset, .unset] [(.ref b1)])) _
      refine XS.iconst X30.here hx rfl (hb hby at_192) ?_
      show Steps p.tables e below (T30.setTop (mkF m 193 #[.val (.int p1), .val (.int p2), .val (.int p3), .val (.int (own_cc p1)), .val (.int (own_a p2)), .val (.int (own_f p3)), .val (.ref b1), .val (.int (1 : Int32)), .val (.int ((own_a p2) + (1 : Int32))), .unset, .unset] [(.int (4 : Int32)), (.ref b1)])) _
      refine XS.iload X30.here hx rfl (hb hby at_193) rfl ?_
      show Steps p.tables e below (T30.setTop (mkF m 195 #[.val (.int p1), .val (.int p2), .val (.int p3), .val (.int (own_cc p1)), .val (.int (own_a p2)), .val (.int (own_f p3)), .val (.ref b1), .val (.int (1 : Int32)), .val (.int ((own_a p2) + (1 : Int32))), .unset, .unset] [(.int (own_a p2)), (.int (4 : Int32)), (.ref b1)])) _
      refine XS.iload X30.here hx rfl (hb hby at_195) rfl ?_
      show Steps p.tables e below (T30.setTop (mkF m 197 #[.val (.int p1), .val (.int p2), .val (.int p3), .val (.int (own_cc p1)), .val (.int (own_a p2)), .val (.int (own_f p3)), .val (.ref b1), .val (.int (1 : Int32)), .val (.int ((own_a p2) + (1 : Int32))), .unset, .unset] [(.int ((own_a p2) + (1 : Int32))), (.int (own_a p2)), (.int (4 : Int32)), (.ref b1)])) _
      refine XS.iload X30.here hx rfl (hb hby at_197) rfl ?_
      show Steps p.tables e below (T30.setTop (mkF m 199 #[.val (.int p1), .val (.int p2), .val (.int p3), .val (.int (own_cc p1)), .val (.int (own_a p2)), .val (.int (own_f p3)), .val (.ref b1), .val (.int (1 : Int32)), .val (.int ((own_a p2) + (1 : Int32))), .unset, .unset] [(.int (own_f p3)), (.int ((own_a p2) + (1 : Int32))), (.int (own_a p2)), (.int (4 : Int32)), (.ref b1)])) _
      exact kt)
    obtain ⟨_, _, ⟨T32, L32, k32, n32⟩, -, X32, ⟨Lc32, hQ32, l32, y32, z32⟩, st32⟩ := Jvm.LawKit.callS X30 hx (y := (⟨"com/example/nuthatch/nuthatch/Utf8WritePinLaw", "kept", "([BIIIB)Z"⟩ : MethodName)) hown (mvT hZ (hw _ (List.mem_of_getElem? (i := 7) rfl))) (mvT hZ (hw _ (List.mem_of_getElem? (i := 8) rfl))) (mvT hZ (hw _ (List.mem_of_getElem? (i := 9) rfl))) (mvT hZ (hw _ (List.mem_of_getElem? (i := 10) rfl))) (by decide) (backOf (W := 0) (rm_kt l Z a0 hw [] b1 (4 : Int32) (own_a p2) ((own_a p2) + (1 : Int32)) (own_f p3) (own_w1 (own_cc p1) (own_a p2) (fun _ => own_f p3)) T22.heap n0 (Nat.le_trans Z17 s22) V22 (by decide) (own_k1 (own_ai p2))) hZ (hw _ (List.mem_of_getElem? (i := 10) rfl)) (hw _ (List.mem_of_getElem? (i := 9) rfl)) (by decide) (by decide)) (g := (mkF m 199 #[.val (.int p1), .val (.int p2), .val (.int p3), .val (.int (own_cc p1)), .val (.int (own_a p2)), .val (.int (own_f p3)), .val (.ref b1), .val (.int (1 : Int32)), .val (.int ((own_a p2) + (1 : Int32))), .unset, .unset] [(.int (own_f p3)), (.int ((own_a p2) + (1 : Int32))), (.int (own_a p2)), (.int (4 : Int32)), (.ref b1)])) rfl (by rw [hml]; rfl) (argsL := [(.ref b1), (.int (4 : Int32)), (.int (own_a p2)), (.int ((own_a p2) + (1 : Int32))), (.int (own_f p3))]) (rest := []) (lenOf pd_law_1 rfl) rfl (by show 2 * 0 + _ ≤ _; exact Nat.le_of_eq rfl) (hb hby at_199) (fun _ _ => ⟨rfl, e30, (by decide : 1 + 0 ≤ _), (by decide : 8 + 0 ≤ _)⟩)
    dsimp only [Pt.U, Pt.locs, Pt.cells, Pt.slots] at X32 l32 y32 z32 st32 hQ32
    subst l32 y32 z32
    obtain ⟨rfl, N32q, e32⟩ := hQ32
    have N32 := Fr.app N30 N32q
    have pr35 : ∀ t, Steps p.tables e below (T32.setTop (mkF m 214 #[.val (.int p1), .val (.int p2), .val (.int p3), .val (.int (own_cc p1)), .val (.int (own_a p2)), .val (.int (own_f p3)), .val (.ref b1), .val (.int (1 : Int32)), .val (.int ((own_a p2) + (1 : Int32))), .unset, .unset] [(.int (own_f p3)), (.int ((own_a p2) + (1 : Int32))), (.int (own_a p2)), (.int (5 : Int32)), (.ref b1)])) t → Steps p.tables e below (s₁.setTop (entryFrame m #[(.int p1), (.int p2), (.int p3)] maxLocals)) t := fun t kt => pr33 t (by
      refine st32 _ ?_
      show Steps p.tables e below (T32.setTop (mkF m 202 #[.val (.int p1), .val (.int p2), .val (.int p3), .val (.int (own_cc p1)), .val (.int (own_a p2)), .val (.int (own_f p3)), .val (.ref b1), .val (.int (1 : Int32)), .val (.int ((own_a p2) + (1 : Int32))), .unset, .unset] [(.int (1 : Int32))])) _
      refine XS.ifNo X32.here hx rfl (hb hby at_202) rfl ((if0 _ _).trans (feq (by decide : ¬ ((1 : Int32) = (0 : Int32)))).1) ?_
      show Steps p.tables e below (T32.setTop (mkF m 205 #[.val (.int p1), .val (.int p2), .val (.int p3), .val (.int (own_cc p1)), .val (.int (own_a p2)), .val (.int (own_f p3)), .val (.ref b1), .val (.int (1 : Int32)), .val (.int ((own_a p2) + (1 : Int32))), .unset, .unset] [])) _
      refine XS.aload X32.here hx rfl (hb hby at_205) rfl rfl ?_
      show Steps p.tables e below (T32.setTop (mkF m 207 #[.val (.int p1), .val (.int p2), .val (.int p3), .val (.int (own_cc p1)), .val (.int (own_a p2)), .val (.int (own_f p3)), .val (.ref b1), .val (.int (1 : Int32)), .val (.int ((own_a p2) + (1 : Int32))), .unset, .unset] [(.ref b1)])) _
      refine XS.iconst X32.here hx rfl (hb hby at_207) ?_
      show Steps p.tables e below (T32.setTop (mkF m 208 #[.val (.int p1), .val (.int p2), .val (.int p3), .val (.int (own_cc p1)), .val (.int (own_a p2)), .val (.int (own_f p3)), .val (.ref b1), .val (.int (1 : Int32)), .val (.int ((own_a p2) + (1 : Int32))), .unset, .unset] [(.int (5 : Int32)), (.ref b1)])) _
      refine XS.iload X32.here hx rfl (hb hby at_208) rfl ?_
      show Steps p.tables e below (T32.setTop (mkF m 210 #[.val (.int p1), .val (.int p2), .val (.int p3), .val (.int (own_cc p1)), .val (.int (own_a p2)), .val (.int (own_f p3)), .val (.ref b1), .val (.int (1 : Int32)), .val (.int ((own_a p2) + (1 : Int32))), .unset, .unset] [(.int (own_a p2)), (.int (5 : Int32)), (.ref b1)])) _
      refine XS.iload X32.here hx rfl (hb hby at_210) rfl ?_
      show Steps p.tables e below (T32.setTop (mkF m 212 #[.val (.int p1), .val (.int p2), .val (.int p3), .val (.int (own_cc p1)), .val (.int (own_a p2)), .val (.int (own_f p3)), .val (.ref b1), .val (.int (1 : Int32)), .val (.int ((own_a p2) + (1 : Int32))), .unset, .unset] [(.int ((own_a p2) + (1 : Int32))), (.int (own_a p2)), (.int (5 : Int32)), (.ref b1)])) _
      refine XS.iload X32.here hx rfl (hb hby at_212) rfl ?_
      show Steps p.tables e below (T32.setTop (mkF m 214 #[.val (.int p1), .val (.int p2), .val (.int p3), .val (.int (own_cc p1)), .val (.int (own_a p2)), .val (.int (own_f p3)), .val (.ref b1), .val (.int (1 : Int32)), .val (.int ((own_a p2) + (1 : Int32))), .unset, .unset] [(.int (own_f p3)), (.int ((own_a p2) + (1 : Int32))), (.int (own_a p2)), (.int (5 : Int32)), (.ref b1)])) _
      exact kt)
    obtain ⟨_, _, ⟨T34, L34, k34, n34⟩, -, X34, ⟨Lc34, hQ34, l34, y34, z34⟩, st34⟩ := Jvm.LawKit.callS X32 hx (y := (⟨"com/example/nuthatch/nuthatch/Utf8WritePinLaw", "kept", "([BIIIB)Z"⟩ : MethodName)) hown (mvT hZ (hw _ (List.mem_of_getElem? (i := 7) rfl))) (mvT hZ (hw _ (List.mem_of_getElem? (i := 8) rfl))) (mvT hZ (hw _ (List.mem_of_getElem? (i := 9) rfl))) (mvT hZ (hw _ (List.mem_of_getElem? (i := 10) rfl))) (by decide) (backOf (W := 0) (rm_kt l Z a0 hw [] b1 (5 : Int32) (own_a p2) ((own_a p2) + (1 : Int32)) (own_f p3) (own_w1 (own_cc p1) (own_a p2) (fun _ => own_f p3)) T22.heap n0 (Nat.le_trans Z17 s22) V22 (by decide) (own_k1 (own_ai p2))) hZ (hw _ (List.mem_of_getElem? (i := 10) rfl)) (hw _ (List.mem_of_getElem? (i := 9) rfl)) (by decide) (by decide)) (g := (mkF m 214 #[.val (.int p1), .val (.int p2), .val (.int p3), .val (.int (own_cc p1)), .val (.int (own_a p2)), .val (.int (own_f p3)), .val (.ref b1), .val (.int (1 : Int32)), .val (.int ((own_a p2) + (1 : Int32))), .unset, .unset] [(.int (own_f p3)), (.int ((own_a p2) + (1 : Int32))), (.int (own_a p2)), (.int (5 : Int32)), (.ref b1)])) rfl (by rw [hml]; rfl) (argsL := [(.ref b1), (.int (5 : Int32)), (.int (own_a p2)), (.int ((own_a p2) + (1 : Int32))), (.int (own_f p3))]) (rest := []) (lenOf pd_law_1 rfl) rfl (by show 2 * 0 + _ ≤ _; exact Nat.le_of_eq rfl) (hb hby at_214) (fun _ _ => ⟨rfl, e32, (by decide : 1 + 0 ≤ _), (by decide : 8 + 0 ≤ _)⟩)
    dsimp only [Pt.U, Pt.locs, Pt.cells, Pt.slots] at X34 l34 y34 z34 st34 hQ34
    subst l34 y34 z34
    obtain ⟨rfl, N34q, e34⟩ := hQ34
    have N34 := Fr.app N32 N34q
    have pr37 : ∀ t, Steps p.tables e below (T34.setTop (mkF m 230 #[.val (.int p1), .val (.int p2), .val (.int p3), .val (.int (own_cc p1)), .val (.int (own_a p2)), .val (.int (own_f p3)), .val (.ref b1), .val (.int (1 : Int32)), .val (.int ((own_a p2) + (1 : Int32))), .unset, .unset] [(.int (own_f p3)), (.int ((own_a p2) + (1 : Int32))), (.int (own_a p2)), (.int (6 : Int32)), (.ref b1)])) t → Steps p.tables e below (s₁.setTop (entryFrame m #[(.int p1), (.int p2), (.int p3)] maxLocals)) t := fun t kt => pr35 t (by
      refine st34 _ ?_
      show Steps p.tables e below (T34.setTop (mkF m 217 #[.val (.int p1), .val (.int p2), .val (.int p3), .val (.int (own_cc p1)), .val (.int (own_a p2)), .val (.int (own_f p3)), .val (.ref b1), .val (.int (1 : Int32)), .val (.int ((own_a p2) + (1 : Int32))), .unset, .unset] [(.int (1 : Int32))])) _
      refine XS.ifNo X34.here hx rfl (hb hby at_217) rfl ((if0 _ _).trans (feq (by decide : ¬ ((1 : Int32) = (0 : Int32)))).1) ?_
      show Steps p.tables e below (T34.setTop (mkF m 220 #[.val (.int p1), .val (.int p2), .val (.int p3), .val (.int (own_cc p1)), .val (.int (own_a p2)), .val (.int (own_f p3)), .val (.ref b1), .val (.int (1 : Int32)), .val (.int ((own_a p2) + (1 : Int32))), .unset, .unset] [])) _
      refine XS.aload X34.here hx rfl (hb hby at_220) rfl rfl ?_
      show Steps p.tables e below (T34.setTop (mkF m 222 #[.val (.int p1), .val (.int p2), .val (.int p3), .val (.int (own_cc p1)), .val (.int (own_a p2)), .val (.int (own_f p3)), .val (.ref b1), .val (.int (1 : Int32)), .val (.int ((own_a p2) + (1 : Int32))), .unset, .unset] [(.ref b1)])) _
      refine XS.bipush X34.here hx rfl (hb hby at_222) ?_
      show Steps p.tables e below (T34.setTop (mkF m 224 #[.val (.int p1), .val (.int p2), .val (.int p3), .val (.int (own_cc p1)), .val (.int (own_a p2)), .val (.int (own_f p3)), .val (.ref b1), .val (.int (1 : Int32)), .val (.int ((own_a p2) + (1 : Int32))), .unset, .unset] [(.int (6 : Int32)), (.ref b1)])) _
      refine XS.iload X34.here hx rfl (hb hby at_224) rfl ?_
      show Steps p.tables e below (T34.setTop (mkF m 226 #[.val (.int p1), .val (.int p2), .val (.int p3), .val (.int (own_cc p1)), .val (.int (own_a p2)), .val (.int (own_f p3)), .val (.ref b1), .val (.int (1 : Int32)), .val (.int ((own_a p2) + (1 : Int32))), .unset, .unset] [(.int (own_a p2)), (.int (6 : Int32)), (.ref b1)])) _
      refine XS.iload X34.here hx rfl (hb hby at_226) rfl ?_
      show Steps p.tables e below (T34.setTop (mkF m 228 #[.val (.int p1), .val (.int p2), .val (.int p3), .val (.int (own_cc p1)), .val (.int (own_a p2)), .val (.int (own_f p3)), .val (.ref b1), .val (.int (1 : Int32)), .val (.int ((own_a p2) + (1 : Int32))), .unset, .unset] [(.int ((own_a p2) + (1 : Int32))), (.int (own_a p2)), (.int (6 : Int32)), (.ref b1)])) _
      refine XS.iload X34.here hx rfl (hb hby at_228) rfl ?_
      show Steps p.tables e below (T34.setTop (mkF m 230 #[.val (.int p1), .val (.int p2), .val (.int p3), .val (.int (own_cc p1)), .val (.int (own_a p2)), .val (.int (own_f p3)), .val (.ref b1), .val (.int (1 : Int32)), .val (.int ((own_a p2) + (1 : Int32))), .unset, .unset] [(.int (own_f p3)), (.int ((own_a p2) + (1 : Int32))), (.int (own_a p2)), (.int (6 : Int32)), (.ref b1)])) _
      exact kt)
    obtain ⟨_, _, ⟨T36, L36, k36, n36⟩, -, X36, ⟨Lc36, hQ36, l36, y36, z36⟩, st36⟩ := Jvm.LawKit.callS X34 hx (y := (⟨"com/example/nuthatch/nuthatch/Utf8WritePinLaw", "kept", "([BIIIB)Z"⟩ : MethodName)) hown (mvT hZ (hw _ (List.mem_of_getElem? (i := 7) rfl))) (mvT hZ (hw _ (List.mem_of_getElem? (i := 8) rfl))) (mvT hZ (hw _ (List.mem_of_getElem? (i := 9) rfl))) (mvT hZ (hw _ (List.mem_of_getElem? (i := 10) rfl))) (by decide) (backOf (W := 0) (rm_kt l Z a0 hw [] b1 (6 : Int32) (own_a p2) ((own_a p2) + (1 : Int32)) (own_f p3) (own_w1 (own_cc p1) (own_a p2) (fun _ => own_f p3)) T22.heap n0 (Nat.le_trans Z17 s22) V22 (by decide) (own_k1 (own_ai p2))) hZ (hw _ (List.mem_of_getElem? (i := 10) rfl)) (hw _ (List.mem_of_getElem? (i := 9) rfl)) (by decide) (by decide)) (g := (mkF m 230 #[.val (.int p1), .val (.int p2), .val (.int p3), .val (.int (own_cc p1)), .val (.int (own_a p2)), .val (.int (own_f p3)), .val (.ref b1), .val (.int (1 : Int32)), .val (.int ((own_a p2) + (1 : Int32))), .unset, .unset] [(.int (own_f p3)), (.int ((own_a p2) + (1 : Int32))), (.int (own_a p2)), (.int (6 : Int32)), (.ref b1)])) rfl (by rw [hml]; rfl) (argsL := [(.ref b1), (.int (6 : Int32)), (.int (own_a p2)), (.int ((own_a p2) + (1 : Int32))), (.int (own_f p3))]) (rest := []) (lenOf pd_law_1 rfl) rfl (by show 2 * 0 + _ ≤ _; exact Nat.le_of_eq rfl) (hb hby at_230) (fun _ _ => ⟨rfl, e34, (by decide : 1 + 0 ≤ _), (by decide : 8 + 0 ≤ _)⟩)
    dsimp only [Pt.U, Pt.locs, Pt.cells, Pt.slots] at X36 l36 y36 z36 st36 hQ36
    subst l36 y36 z36
    obtain ⟨rfl, N36q, e36⟩ := hQ36
    have N36 := Fr.app N34 N36q
    have pr39 : ∀ t, Steps p.tables e below (T36.setTop (mkF m 246 #[.val (.int p1), .val (.int p2), .val (.int p3), .val (.int (own_cc p1)), .val (.int (own_a p2)), .val (.int (own_f p3)), .val (.ref b1), .val (.int (1 : Int32)), .val (.int ((own_a p2) + (1 : Int32))), .unset, .unset] [(.int (own_f p3)), (.int ((own_a p2) + (1 : Int32))), (.int (own_a p2)), (.int (7 : Int32)), (.ref b1)])) t → Steps p.tables e below (s₁.setTop (entryFrame m #[(.int p1), (.int p2), (.int p3)] maxLocals)) t := fun t kt => pr37 t (by
      refine st36 _ ?_
      show Steps p.tables e below (T36.setTop (mkF m 233 #[.val (.int p1), .val (.int p2), .val (.int p3), .val (.int (own_cc p1)), .val (.int (own_a p2)), .val (.int (own_f p3)), .val (.ref b1), .val (.int (1 : Int32)), .val (.int ((own_a p2) + (1 : Int32))), .unset, .unset] [(.int (1 : Int32))])) _
      refine XS.ifNo X36.here hx rfl (hb hby at_233) rfl ((if0 _ _).trans (feq (by decide : ¬ ((1 : Int32) = (0 : Int32)))).1) ?_
      show Steps p.tables e below (T36.setTop (mkF m 236 #[.val (.int p1), .val (.int p2), .val (.int p3), .val (.int (own_cc p1)), .val (.int (own_a p2)), .val (.int (own_f p3)), .val (.ref b1), .val (.int (1 : Int32)), .val (.int ((own_a p2) + (1 : Int32))), .unset, .unset] [])) _
      refine XS.aload X36.here hx rfl (hb hby at_236) rfl rfl ?_
      show Steps p.tables e below (T36.setTop (mkF m 238 #[.val (.int p1), .val (.int p2), .val (.int p3), .val (.int (own_cc p1)), .val (.int (own_a p2)), .val (.int (own_f p3)), .val (.ref b1), .val (.int (1 : Int32)), .val (.int ((own_a p2) + (1 : Int32))), .unset, .unset] [(.ref b1)])) _
      refine XS.bipush X36.here hx rfl (hb hby at_238) ?_
      show Steps p.tables e below (T36.setTop (mkF m 240 #[.val (.int p1), .val (.int p2), .val (.int p3), .val (.int (own_cc p1)), .val (.int (own_a p2)), .val (.int (own_f p3)), .val (.ref b1), .val (.int (1 : Int32)), .val (.int ((own_a p2) + (1 : Int32))), .unset, .unset] [(.int (7 : Int32)), (.ref b1)])) _
      refine XS.iload X36.here hx rfl (hb hby at_240) rfl ?_
      show Steps p.tables e below (T36.setTop (mkF m 242 #[.val (.int p1), .val (.int p2), .val (.int p3), .val (.int (own_cc p1)), .val (.int (own_a p2)), .val (.int (own_f p3)), .val (.ref b1), .val (.int (1 : Int32)), .val (.int ((own_a p2) + (1 : Int32))), .unset, .unset] [(.int (own_a p2)), (.int (7 : Int32)), (.ref b1)])) _
      refine XS.iload X36.here hx rfl (hb hby at_242) rfl ?_
      show Steps p.tables e below (T36.setTop (mkF m 244 #[.val (.int p1), .val (.int p2), .val (.int p3), .val (.int (own_cc p1)), .val (.int (own_a p2)), .val (.int (own_f p3)), .val (.ref b1), .val (.int (1 : Int32)), .val (.int ((own_a p2) + (1 : Int32))), .unset, .unset] [(.int ((own_a p2) + (1 : Int32))), (.int (own_a p2)), (.int (7 : Int32)), (.ref b1)])) _
      refine XS.iload X36.here hx rfl (hb hby at_244) rfl ?_
      show Steps p.tables e below (T36.setTop (mkF m 246 #[.val (.int p1), .val (.int p2), .val (.int p3), .val (.int (own_cc p1)), .val (.int (own_a p2)), .val (.int (own_f p3)), .val (.ref b1), .val (.int (1 : Int32)), .val (.int ((own_a p2) + (1 : Int32))), .unset, .unset] [(.int (own_f p3)), (.int ((own_a p2) + (1 : Int32))), (.int (own_a p2)), (.int (7 : Int32)), (.ref b1)])) _
      exact kt)
    obtain ⟨_, _, ⟨T38, L38, k38, n38⟩, -, X38, ⟨Lc38, hQ38, l38, y38, z38⟩, st38⟩ := Jvm.LawKit.callS X36 hx (y := (⟨"com/example/nuthatch/nuthatch/Utf8WritePinLaw", "kept", "([BIIIB)Z"⟩ : MethodName)) hown (mvT hZ (hw _ (List.mem_of_getElem? (i := 7) rfl))) (mvT hZ (hw _ (List.mem_of_getElem? (i := 8) rfl))) (mvT hZ (hw _ (List.mem_of_getElem? (i := 9) rfl))) (mvT hZ (hw _ (List.mem_of_getElem? (i := 10) rfl))) (by decide) (backOf (W := 0) (rm_kt l Z a0 hw [] b1 (7 : Int32) (own_a p2) ((own_a p2) + (1 : Int32)) (own_f p3) (own_w1 (own_cc p1) (own_a p2) (fun _ => own_f p3)) T22.heap n0 (Nat.le_trans Z17 s22) V22 (by decide) (own_k1 (own_ai p2))) hZ (hw _ (List.mem_of_getElem? (i := 10) rfl)) (hw _ (List.mem_of_getElem? (i := 9) rfl)) (by decide) (by decide)) (g := (mkF m 246 #[.val (.int p1), .val (.int p2), .val (.int p3), .val (.int (own_cc p1)), .val (.int (own_a p2)), .val (.int (own_f p3)), .val (.ref b1), .val (.int (1 : Int32)), .val (.int ((own_a p2) + (1 : Int32))), .unset, .unset] [(.int (own_f p3)), (.int ((own_a p2) + (1 : Int32))), (.int (own_a p2)), (.int (7 : Int32)), (.ref b1)])) rfl (by rw [hml]; rfl) (argsL := [(.ref b1), (.int (7 : Int32)), (.int (own_a p2)), (.int ((own_a p2) + (1 : Int32))), (.int (own_f p3))]) (rest := []) (lenOf pd_law_1 rfl) rfl (by show 2 * 0 + _ ≤ _; exact Nat.le_of_eq rfl) (hb hby at_246) (fun _ _ => ⟨rfl, e36, (by decide : 1 + 0 ≤ _), (by decide : 8 + 0 ≤ _)⟩)
    dsimp only [Pt.U, Pt.locs, Pt.cells, Pt.slots] at X38 l38 y38 z38 st38 hQ38
    subst l38 y38 z38
    obtain ⟨rfl, N38q, e38⟩ := hQ38
    have N38 := Fr.app N36 N38q
    have pr40 : ∀ t, Steps p.tables e below (T38.setTop (mkF m 259 #[.val (.int p1), .val (.int p2), .val (.int p3), .val (.int (own_cc p1)), .val (.int (own_a p2)), .val (.int (own_f p3)), .val (.ref b1), .val (.int (1 : Int32)), .val (.int ((own_a p2) + (1 : Int32))), .val (.int (1 : Int32)), .unset] [])) t → Steps p.tables e below (s₁.setTop (entryFrame m #[(.int p1), (.int p2), (.int p3)] maxLocals)) t := fun t kt => pr39 t (by
      refine st38 _ ?_
      show Steps p.tables e below (T38.setTop (mkF m 249 #[.val (.int p1), .val (.int p2), .val (.int p3), .val (.int (own_cc p1)), .val (.int (own_a p2)), .val (.int (own_f p3)), .val (.ref b1), .val (.int (1 : Int32)), .val (.int ((own_a p2) + (1 : Int32))), .unset, .unset] [(.int (1 : Int32))])) _
      refine XS.ifNo X38.here hx rfl (hb hby at_249) rfl ((if0 _ _).trans (feq (by decide : ¬ ((1 : Int32) = (0 : Int32)))).1) ?_
      show Steps p.tables e below (T38.setTop (mkF m 252 #[.val (.int p1), .val (.int p2), .val (.int p3), .val (.int (own_cc p1)), .val (.int (own_a p2)), .val (.int (own_f p3)), .val (.ref b1), .val (.int (1 : Int32)), .val (.int ((own_a p2) + (1 : Int32))), .unset, .unset] [])) _
      refine XS.iconst X38.here hx rfl (hb hby at_252) ?_
      show Steps p.tables e below (T38.setTop (mkF m 253 #[.val (.int p1), .val (.int p2), .val (.int p3), .val (.int (own_cc p1)), .val (.int (own_a p2)), .val (.int (own_f p3)), .val (.ref b1), .val (.int (1 : Int32)), .val (.int ((own_a p2) + (1 : Int32))), .unset, .unset] [(.int (1 : Int32))])) _
      refine XS.goto X38.here hx rfl (pc0 := 253) (pc' := 257) rfl (hb hby at_253) (by decide) (by decide) ?_
      show Steps p.tables e below (T38.setTop (mkF m 257 #[.val (.int p1), .val (.int p2), .val (.int p3), .val (.int (own_cc p1)), .val (.int (own_a p2)), .val (.int (own_f p3)), .val (.ref b1), .val (.int (1 : Int32)), .val (.int ((own_a p2) + (1 : Int32))), .unset, .unset] [(.int (1 : Int32))])) _
      refine XS.istore X38.here hx rfl (hb hby at_257) rfl (l' := #[.val (.int p1), .val (.int p2), .val (.int p3), .val (.int (own_cc p1)), .val (.int (own_a p2)), .val (.int (own_f p3)), .val (.ref b1), .val (.int (1 : Int32)), .val (.int ((own_a p2) + (1 : Int32))), .val (.int (1 : Int32)), .unset]) rfl ?_
      show Steps p.tables e below (T38.setTop (mkF m 259 #[.val (.int p1), .val (.int p2), .val (.int p3), .val (.int (own_cc p1)), .val (.int (own_a p2)), .val (.int (own_f p3)), .val (.ref b1), .val (.int (1 : Int32)), .val (.int ((own_a p2) + (1 : Int32))), .val (.int (1 : Int32)), .unset] [])) _
      exact kt)
    obtain ⟨cl, Ar, Sz, Hs⟩ := id V22
    obtain ⟨fs, hr, hrun, hended, hW, hsame⟩ := X38.leave (v := some (.int (nar .boolean (1 : Int32)))) (fun h => by rw [Bd.returns] at h; cases h)
    refine ⟨_, _, pr40 _ ?_, hrun, hended, _, _, rfl, ?_, ⟨_, rfl⟩, hW, hsame.mono (by decide) (by decide)⟩
    · show Steps p.tables e below (T38.setTop (mkF m 259 #[.val (.int p1), .val (.int p2), .val (.int p3), .val (.int (own_cc p1)), .val (.int (own_a p2)), .val (.int (own_f p3)), .val (.ref b1), .val (.int (1 : Int32)), .val (.int ((own_a p2) + (1 : Int32))), .val (.int (1 : Int32)), .unset] [])) _
      refine XS.iload X38.here hx rfl (hb hby at_259) rfl ?_
      show Steps p.tables e below (T38.setTop (mkF m 261 #[.val (.int p1), .val (.int p2), .val (.int p3), .val (.int (own_cc p1)), .val (.int (own_a p2)), .val (.int (own_f p3)), .val (.ref b1), .val (.int (1 : Int32)), .val (.int ((own_a p2) + (1 : Int32))), .val (.int (1 : Int32)), .unset] [(.int (1 : Int32))])) _
      refine XS.iconst X38.here hx rfl (hb hby at_261) ?_
      show Steps p.tables e below (T38.setTop (mkF m 262 #[.val (.int p1), .val (.int p2), .val (.int p3), .val (.int (own_cc p1)), .val (.int (own_a p2)), .val (.int (own_f p3)), .val (.ref b1), .val (.int (1 : Int32)), .val (.int ((own_a p2) + (1 : Int32))), .val (.int (1 : Int32)), .unset] [(.int (1 : Int32)), (.int (1 : Int32))])) _
      refine XS.icmpNo X38.here hx rfl (hb hby at_262) rfl (teq (by decide : (1 : Int32) = (1 : Int32))).2 ?_
      show Steps p.tables e below (T38.setTop (mkF m 265 #[.val (.int p1), .val (.int p2), .val (.int p3), .val (.int (own_cc p1)), .val (.int (own_a p2)), .val (.int (own_f p3)), .val (.ref b1), .val (.int (1 : Int32)), .val (.int ((own_a p2) + (1 : Int32))), .val (.int (1 : Int32)), .unset] [])) _
      refine XS.iload X38.here hx rfl (hb hby at_265) rfl ?_
      show Steps p.tables e below (T38.setTop (mkF m 267 #[.val (.int p1), .val (.int p2), .val (.int p3), .val (.int (own_cc p1)), .val (.int (own_a p2)), .val (.int (own_f p3)), .val (.ref b1), .val (.int (1 : Int32)), .val (.int ((own_a p2) + (1 : Int32))), .val (.int (1 : Int32)), .unset] [(.int (1 : Int32))])) _
      refine XS.ifNo X38.here hx rfl (hb hby at_267) rfl ((if0 _ _).trans (feq (by decide : ¬ ((1 : Int32) = (0 : Int32)))).1) ?_
      show Steps p.tables e below (T38.setTop (mkF m 270 #[.val (.int p1), .val (.int p2), .val (.int p3), .val (.int (own_cc p1)), .val (.int (own_a p2)), .val (.int (own_f p3)), .val (.ref b1), .val (.int (1 : Int32)), .val (.int ((own_a p2) + (1 : Int32))), .val (.int (1 : Int32)), .unset] [])) _
      refine XS.aload X38.here hx rfl (hb hby at_270) rfl rfl ?_
      show Steps p.tables e below (T38.setTop (mkF m 272 #[.val (.int p1), .val (.int p2), .val (.int p3), .val (.int (own_cc p1)), .val (.int (own_a p2)), .val (.int (own_f p3)), .val (.ref b1), .val (.int (1 : Int32)), .val (.int ((own_a p2) + (1 : Int32))), .val (.int (1 : Int32)), .unset] [(.ref b1)])) _
      refine XS.iload X38.here hx rfl (hb hby at_272) rfl ?_
      show Steps p.tables e below (T38.setTop (mkF m 274 #[.val (.int p1), .val (.int p2), .val (.int p3), .val (.int (own_cc p1)), .val (.int (own_a p2)), .val (.int (own_f p3)), .val (.ref b1), .val (.int (1 : Int32)), .val (.int ((own_a p2) + (1 : Int32))), .val (.int (1 : Int32)), .unset] [(.int (own_a p2)), (.ref b1)])) _
      refine X38.baloadBytes hx (j := (own_a p2)) (v := (.int ((own_w1 (own_cc p1) (own_a p2) (fun _ => own_f p3)) (own_a p2)))) (by rw [e38]; exact Ar.1) (State.isArrayOf_alike hZ.alike Ar.2.1) Ar.2.2 (own_in Sz (own_ix0 (own_ai p2))) (Hs (own_a p2) (own_ix0 (own_ai p2)).1 (own_ix0 (own_ai p2)).2) (g := (mkF m 274 #[.val (.int p1), .val (.int p2), .val (.int p3), .val (.int (own_cc p1)), .val (.int (own_a p2)), .val (.int (own_f p3)), .val (.ref b1), .val (.int (1 : Int32)), .val (.int ((own_a p2) + (1 : Int32))), .val (.int (1 : Int32)), .unset] [(.int (own_a p2)), (.ref b1)])) rfl rfl (hb hby at_274) _ ?_
      show Steps p.tables e below (T38.setTop (mkF m 275 #[.val (.int p1), .val (.int p2), .val (.int p3), .val (.int (own_cc p1)), .val (.int (own_a p2)), .val (.int (own_f p3)), .val (.ref b1), .val (.int (1 : Int32)), .val (.int ((own_a p2) + (1 : Int32))), .val (.int (1 : Int32)), .unset] [(.int ((own_w1 (own_cc p1) (own_a p2) (fun _ => own_f p3)) (own_a p2)))])) _
      refine XS.iloadN X38.here hx rfl (hb hby at_275) rfl ?_
      show Steps p.tables e below (T38.setTop (mkF m 276 #[.val (.int p1), .val (.int p2), .val (.int p3), .val (.int (own_cc p1)), .val (.int (own_a p2)), .val (.int (own_f p3)), .val (.ref b1), .val (.int (1 : Int32)), .val (.int ((own_a p2) + (1 : Int32))), .val (.int (1 : Int32)), .unset] [(.int (own_cc p1)), (.int ((own_w1 (own_cc p1) (own_a p2) (fun _ => own_f p3)) (own_a p2)))])) _
      refine XS.i2b X38.here hx rfl (hb hby at_276) rfl ?_
      show Steps p.tables e below (T38.setTop (mkF m 277 #[.val (.int p1), .val (.int p2), .val (.int p3), .val (.int (own_cc p1)), .val (.int (own_a p2)), .val (.int (own_f p3)), .val (.ref b1), .val (.int (1 : Int32)), .val (.int ((own_a p2) + (1 : Int32))), .val (.int (1 : Int32)), .unset] [(.int ((own_cc p1).toInt8.toInt32)), (.int ((own_w1 (own_cc p1) (own_a p2) (fun _ => own_f p3)) (own_a p2)))])) _
      refine XS.icmpNo X38.here hx rfl (hb hby at_277) rfl (teq (own_v10 (own_ai p2) : ((own_w1 (own_cc p1) (own_a p2) (fun _ => own_f p3)) (own_a p2)) = ((own_cc p1).toInt8.toInt32))).2 ?_
      show Steps p.tables e below (T38.setTop (mkF m 280 #[.val (.int p1), .val (.int p2), .val (.int p3), .val (.int (own_cc p1)), .val (.int (own_a p2)), .val (.int (own_f p3)), .val (.ref b1), .val (.int (1 : Int32)), .val (.int ((own_a p2) + (1 : Int32))), .val (.int (1 : Int32)), .unset] [])) _
      refine XS.iconst X38.here hx rfl (hb hby at_280) ?_
      show Steps p.tables e below (T38.setTop (mkF m 281 #[.val (.int p1), .val (.int p2), .val (.int p3), .val (.int (own_cc p1)), .val (.int (own_a p2)), .val (.int (own_f p3)), .val (.ref b1), .val (.int (1 : Int32)), .val (.int ((own_a p2) + (1 : Int32))), .val (.int (1 : Int32)), .unset] [(.int (1 : Int32))])) _
      refine XS.goto X38.here hx rfl (pc0 := 281) (pc' := 285) rfl (hb hby at_281) (by decide) (by decide) ?_
      show Steps p.tables e below (T38.setTop (mkF m 285 #[.val (.int p1), .val (.int p2), .val (.int p3), .val (.int (own_cc p1)), .val (.int (own_a p2)), .val (.int (own_f p3)), .val (.ref b1), .val (.int (1 : Int32)), .val (.int ((own_a p2) + (1 : Int32))), .val (.int (1 : Int32)), .unset] [(.int (1 : Int32))])) _
      exact retN X38 hx (t := .boolean) Bd.returns (by simp) (hb hby at_285) hr
    · show Q_law Z p1 p2 p3 h0 n0 _ T38.heap _
      rw [e38]
      exact ⟨(congrArg (fun zz => some (Value.int zz)) (by rfl : nar .boolean (1 : Int32) = (1 : Int32))), N38⟩
  · have pr42 : ∀ t, Steps p.tables e below (T17.setTop (mkF m 88 #[.val (.int p1), .val (.int p2), .val (.int p3), .val (.int (own_cc p1)), .val (.int (own_a p2)), .val (.int (own_f p3)), .val (.ref b1), .unset, .unset, .unset, .unset] [(.int (2048 : Int32)), (.int (own_cc p1))])) t → Steps p.tables e below (s₁.setTop (entryFrame m #[(.int p1), (.int p2), (.int p3)] maxLocals)) t := fun t kt => pr21 t (by
      show Steps p.tables e below (T17.setTop (mkF m 77 #[.val (.int p1), .val (.int p2), .val (.int p3), .val (.int (own_cc p1)), .val (.int (own_a p2)), .val (.int (own_f p3)), .val (.ref b1), .unset, .unset, .unset, .unset] [(.int (128 : Int32)), (.int (own_cc p1))])) _
      refine XS.icmpYes X17.here hx rfl (pc0 := 77) (pc' := 84) rfl (hb hby at_77) rfl (flt hc77_20).2.1 (by decide) (by decide) ?_
      show Steps p.tables e below (T17.setTop (mkF m 84 #[.val (.int p1), .val (.int p2), .val (.int p3), .val (.int (own_cc p1)), .val (.int (own_a p2)), .val (.int (own_f p3)), .val (.ref b1), .unset, .unset, .unset, .unset] [])) _
      refine XS.iloadN X17.here hx rfl (hb hby at_84) rfl ?_
      show Steps p.tables e below (T17.setTop (mkF m 85 #[.val (.int p1), .val (.int p2), .val (.int p3), .val (.int (own_cc p1)), .val (.int (own_a p2)), .val (.int (own_f p3)), .val (.ref b1), .unset, .unset, .unset, .unset] [(.int (own_cc p1))])) _
      refine XS.sipush X17.here hx rfl (hb hby at_85) ?_
      exact kt)
    by_cases hc88_41 : (own_cc p1) < (2048 : Int32)
    · have pr44 : ∀ t, Steps p.tables e below (T17.setTop (mkF m 113 #[.val (.int p1), .val (.int p2), .val (.int p3), .val (.int (own_cc p1)), .val (.int (own_a p2)), .val (.int (own_f p3)), .val (.ref b1), .val (.int (2 : Int32)), .unset, .unset, .unset] [(.int (own_a p2)), (.ref b1), (.int (own_cc p1))])) t → Steps p.tables e below (s₁.setTop (entryFrame m #[(.int p1), (.int p2), (.int p3)] maxLocals)) t := fun t kt => pr42 t (by
        show Steps p.tables e below (T17.setTop (mkF m 88 #[.val (.int p1), .val (.int p2), .val (.int p3), .val (.int (own_cc p1)), .val (.int (own_a p2)), .val (.int (own_f p3)), .val (.ref b1), .unset, .unset, .unset, .unset] [(.int (2048 : Int32)), (.int (own_cc p1))])) _
        refine XS.icmpNo X17.here hx rfl (hb hby at_88) rfl (tlt hc88_41).2.1 ?_
        show Steps p.tables e below (T17.setTop (mkF m 91 #[.val (.int p1), .val (.int p2), .val (.int p3), .val (.int (own_cc p1)), .val (.int (own_a p2)), .val (.int (own_f p3)), .val (.ref b1), .unset, .unset, .unset, .unset] [])) _
        refine XS.iconst X17.here hx rfl (hb hby at_91) ?_
        show Steps p.tables e below (T17.setTop (mkF m 92 #[.val (.int p1), .val (.int p2), .val (.int p3), .val (.int (own_cc p1)), .val (.int (own_a p2)), .val (.int (own_f p3)), .val (.ref b1), .unset, .unset, .unset, .unset] [(.int (2 : Int32))])) _
        refine XS.goto X17.here hx rfl (pc0 := 92) (pc' := 106) rfl (hb hby at_92) (by decide) (by decide) ?_
        show Steps p.tables e below (T17.setTop (mkF m 106 #[.val (.int p1), .val (.int p2), .val (.int p3), .val (.int (own_cc p1)), .val (.int (own_a p2)), .val (.int (own_f p3)), .val (.ref b1), .unset, .unset, .unset, .unset] [(.int (2 : Int32))])) _
        refine XS.istore X17.here hx rfl (hb hby at_106) rfl (l' := #[.val (.int p1), .val (.int p2), .val (.int p3), .val (.int (own_cc p1)), .val (.int (own_a p2)), .val (.int (own_f p3)), .val (.ref b1), .val (.int (2 : Int32)), .unset, .unset, .unset]) rfl ?_
        show Steps p.tables e below (T17.setTop (mkF m 108 #[.val (.int p1), .val (.int p2), .val (.int p3), .val (.int (own_cc p1)), .val (.int (own_a p2)), .val (.int (own_f p3)), .val (.ref b1), .val (.int (2 : Int32)), .unset, .unset, .unset] [])) _
        refine XS.iloadN X17.here hx rfl (hb hby at_108) rfl ?_
        show Steps p.tables e below (T17.setTop (mkF m 109 #[.val (.int p1), .val (.int p2), .val (.int p3), .val (.int (own_cc p1)), .val (.int (own_a p2)), .val (.int (own_f p3)), .val (.ref b1), .val (.int (2 : Int32)), .unset, .unset, .unset] [(.int (own_cc p1))])) _
        refine XS.aload X17.here hx rfl (hb hby at_109) rfl rfl ?_
        show Steps p.tables e below (T17.setTop (mkF m 111 #[.val (.int p1), .val (.int p2), .val (.int p3), .val (.int (own_cc p1)), .val (.int (own_a p2)), .val (.int (own_f p3)), .val (.ref b1), .val (.int (2 : Int32)), .unset, .unset, .unset] [(.ref b1), (.int (own_cc p1))])) _
        refine XS.iload X17.here hx rfl (hb hby at_111) rfl ?_
        show Steps p.tables e below (T17.setTop (mkF m 113 #[.val (.int p1), .val (.int p2), .val (.int p3), .val (.int (own_cc p1)), .val (.int (own_a p2)), .val (.int (own_f p3)), .val (.ref b1), .val (.int (2 : Int32)), .unset, .unset, .unset] [(.int (own_a p2)), (.ref b1), (.int (own_cc p1))])) _
        exact kt)
      obtain ⟨_, _, ⟨T43, L43, k43, n43⟩, -, X43, ⟨Lc43, hQ43, l43, y43, z43⟩, st43⟩ := Jvm.LawKit.callS X17 hx (y := (⟨"com/example/nuthatch/nuthatch/Utf8", "write", "(I[BI)I"⟩ : MethodName)) hown (mvT hZ (hw _ (List.mem_of_getElem? (i := 3) rfl))) (mvT hZ (hw _ (List.mem_of_getElem? (i := 4) rfl))) (mvT hZ (hw _ (List.mem_of_getElem? (i := 5) rfl))) (mvT hZ (hw _ (List.mem_of_getElem? (i := 6) rfl))) (by decide) (backOf (W := 0) (rm_w2 l Z a0 hw [] (own_cc p1) b1 (own_a p2) (fun _ => own_f p3) h17 n0 Z17 Vf (own_ai p2) g_b1 hc77_20 hc88_41) hZ (hw _ (List.mem_of_getElem? (i := 6) rfl)) (hw _ (List.mem_of_getElem? (i := 5) rfl)) (by decide) (by decide)) (g := (mkF m 113 #[.val (.int p1), .val (.int p2), .val (.int p3), .val (.int (own_cc p1)), .val (.int (own_a p2)), .val (.int (own_f p3)), .val (.ref b1), .val (.int (2 : Int32)), .unset, .unset, .unset] [(.int (own_a p2)), (.ref b1), (.int (own_cc p1))])) rfl (by rw [hml]; rfl) (argsL := [(.int (own_cc p1)), (.ref b1), (.int (own_a p2))]) (rest := []) (lenOf pd_law_0 rfl) rfl (by show 2 * 0 + _ ≤ _; exact Nat.le_of_eq rfl) (hb hby at_113) (fun _ _ => ⟨rfl, e17, (by decide : 1 + 0 ≤ _), (by decide : 8 + 0 ≤ _)⟩)
      dsimp only [Pt.U, Pt.locs, Pt.cells, Pt.slots] at X43 l43 y43 z43 st43 hQ43
      subst l43 y43 z43
      obtain ⟨rfl, N43q, V43, s43⟩ := hQ43
      have N43 := Fr.app N17 N43q
      have pr46 : ∀ t, Steps p.tables e below (T43.setTop (mkF m 139 #[.val (.int p1), .val (.int p2), .val (.int p3), .val (.int (own_cc p1)), .val (.int (own_a p2)), .val (.int (own_f p3)), .val (.ref b1), .val (.int (2 : Int32)), .val (.int (((own_a p2) + (1 : Int32)) + (1 : Int32))), .unset, .unset] [(.int (own_f p3)), (.int (((own_a p2) + (1 : Int32)) + (1 : Int32))), (.int (own_a p2)), (.int (0 : Int32)), (.ref b1)])) t → Steps p.tables e below (s₁.setTop (entryFrame m #[(.int p1), (.int p2), (.int p3)] maxLocals)) t := fun t kt => pr44 t (by
        refine st43 _ ?_
        show Steps p.tables e below (T43.setTop (mkF m 116 #[.val (.int p1), .val (.int p2), .val (.int p3), .val (.int (own_cc p1)), .val (.int (own_a p2)), .val (.int (own_f p3)), .val (.ref b1), .val (.int (2 : Int32)), .unset, .unset, .unset] [(.int (((own_a p2) + (1 : Int32)) + (1 : Int32)))])) _
        refine XS.istore X43.here hx rfl (hb hby at_116) rfl (l' := #[.val (.int p1), .val (.int p2), .val (.int p3), .val (.int (own_cc p1)), .val (.int (own_a p2)), .val (.int (own_f p3)), .val (.ref b1), .val (.int (2 : Int32)), .val (.int (((own_a p2) + (1 : Int32)) + (1 : Int32))), .unset, .unset]) rfl ?_
        show Steps p.tables e below (T43.setTop (mkF m 118 #[.val (.int p1), .val (.int p2), .val (.int p3), .val (.int (own_cc p1)), .val (.int (own_a p2)), .val (.int (own_f p3)), .val (.ref b1), .val (.int (2 : Int32)), .val (.int (((own_a p2) + (1 : Int32)) + (1 : Int32))), .unset, .unset] [])) _
        refine XS.iload X43.here hx rfl (hb hby at_118) rfl ?_
        show Steps p.tables e below (T43.setTop (mkF m 120 #[.val (.int p1), .val (.int p2), .val (.int p3), .val (.int (own_cc p1)), .val (.int (own_a p2)), .val (.int (own_f p3)), .val (.ref b1), .val (.int (2 : Int32)), .val (.int (((own_a p2) + (1 : Int32)) + (1 : Int32))), .unset, .unset] [(.int (((own_a p2) + (1 : Int32)) + (1 : Int32)))])) _
        refine XS.iload X43.here hx rfl (hb hby at_120) rfl ?_
        show Steps p.tables e below (T43.setTop (mkF m 122 #[.val (.int p1), .val (.int p2), .val (.int p3), .val (.int (own_cc p1)), .val (.int (own_a p2)), .val (.int (own_f p3)), .val (.ref b1), .val (.int (2 : Int32)), .val (.int (((own_a p2) + (1 : Int32)) + (1 : Int32))), .unset, .unset] [(.int (own_a p2)), (.int (((own_a p2) + (1 : Int32)) + (1 : Int32)))])) _
        refine XS.iload X43.here hx rfl (hb hby at_122) rfl ?_
        show Steps p.tables e below (T43.setTop (mkF m 124 #[.val (.int p1), .val (.int p2), .val (.int p3), .val (.int (own_cc p1)), .val (.int (own_a p2)), .val (.int (own_f p3)), .val (.ref b1), .val (.int (2 : Int32)), .val (.int (((own_a p2) + (1 : Int32)) + (1 : Int32))), .unset, .unset] [(.int (2 : Int32)), (.int (own_a p2)), (.int (((own_a p2) + (1 : Int32)) + (1 : Int32)))])) _
        refine XS.iadd X43.here hx rfl (hb hby at_124) rfl ?_
        show Steps p.tables e below (T43.setTop (mkF m 125 #[.val (.int p1), .val (.int p2), .val (.int p3), .val (.int (own_cc p1)), .val (.int (own_a p2)), .val (.int (own_f p3)), .val (.ref b1), .val (.int (2 : Int32)), .val (.int (((own_a p2) + (1 : Int32)) + (1 : Int32))), .unset, .unset] [(.int ((own_a p2) + (2 : Int32))), (.int (((own_a p2) + (1 : Int32)) + (1 : Int32)))])) _
        refine XS.icmpYes X43.here hx rfl (pc0 := 125) (pc' := 130) rfl (hb hby at_125) rfl (teq (own_s2 : (((own_a p2) + (1 : Int32)) + (1 : Int32)) = ((own_a p2) + (2 : Int32)))).1 (by decide) (by decide) ?_
        show Steps p.tables e below (T43.setTop (mkF m 130 #[.val (.int p1), .val (.int p2), .val (.int p3), .val (.int (own_cc p1)), .val (.int (own_a p2)), .val (.int (own_f p3)), .val (.ref b1), .val (.int (2 : Int32)), .val (.int (((own_a p2) + (1 : Int32)) + (1 : Int32))), .unset, .unset] [])) _
        refine XS.aload X43.here hx rfl (hb hby at_130) rfl rfl ?_
        show Steps p.tables e below (T43.setTop (mkF m 132 #[.val (.int p1), .val (.int p2), .val (.int p3), .val (.int (own_cc p1)), .val (.int (own_a p2)), .val (.int (own_f p3)), .val (.ref b1), .val (.int (2 : Int32)), .val (.int (((own_a p2) + (1 : Int32)) + (1 : Int32))), .unset, .unset] [(.ref b1)])) _
        refine XS.iconst X43.here hx rfl (hb hby at_132) ?_
        show Steps p.tables e below (T43.setTop (mkF m 133 #[.val (.int p1), .val (.int p2), .val (.int p3), .val (.int (own_cc p1)), .val (.int (own_a p2)), .val (.int (own_f p3)), .val (.ref b1), .val (.int (2 : Int32)), .val (.int (((own_a p2) + (1 : Int32)) + (1 : Int32))), .unset, .unset] [(.int (0 : Int32)), (.ref b1)])) _
        refine XS.iload X43.here hx rfl (hb hby at_133) rfl ?_
        show Steps p.tables e below (T43.setTop (mkF m 135 #[.val (.int p1), .val (.int p2), .val (.int p3), .val (.int (own_cc p1)), .val (.int (own_a p2)), .val (.int (own_f p3)), .val (.ref b1), .val (.int (2 : Int32)), .val (.int (((own_a p2) + (1 : Int32)) + (1 : Int32))), .unset, .unset] [(.int (own_a p2)), (.int (0 : Int32)), (.ref b1)])) _
        refine XS.iload X43.here hx rfl (hb hby at_135) rfl ?_
        show Steps p.tables e below (T43.setTop (mkF m 137 #[.val (.int p1), .val (.int p2), .val (.int p3), .val (.int (own_cc p1)), .val (.int (own_a p2)), .val (.int (own_f p3)), .val (.ref b1), .val (.int (2 : Int32)), .val (.int (((own_a p2) + (1 : Int32)) + (1 : Int32))), .unset, .unset] [(.int (((own_a p2) + (1 : Int32)) + (1 : Int32))), (.int (own_a p2)), (.int (0 : Int32)), (.ref b1)])) _
        refine XS.iload X43.here hx rfl (hb hby at_137) rfl ?_
        show Steps p.tables e below (T43.setTop (mkF m 139 #[.val (.int p1), .val (.int p2), .val (.int p3), .val (.int (own_cc p1)), .val (.int (own_a p2)), .val (.int (own_f p3)), .val (.ref b1), .val (.int (2 : Int32)), .val (.int (((own_a p2) + (1 : Int32)) + (1 : Int32))), .unset, .unset] [(.int (own_f p3)), (.int (((own_a p2) + (1 : Int32)) + (1 : Int32))), (.int (own_a p2)), (.int (0 : Int32)), (.ref b1)])) _
        exact kt)
      obtain ⟨_, _, ⟨T45, L45, k45, n45⟩, -, X45, ⟨Lc45, hQ45, l45, y45, z45⟩, st45⟩ := Jvm.LawKit.callS X43 hx (y := (⟨"com/example/nuthatch/nuthatch/Utf8WritePinLaw", "kept", "([BIIIB)Z"⟩ : MethodName)) hown (mvT hZ (hw _ (List.mem_of_getElem? (i := 7) rfl))) (mvT hZ (hw _ (List.mem_of_getElem? (i := 8) rfl))) (mvT hZ (hw _ (List.mem_of_getElem? (i := 9) rfl))) (mvT hZ (hw _ (List.mem_of_getElem? (i := 10) rfl))) (by decide) (backOf (W := 0) (rm_kt l Z a0 hw [] b1 (0 : Int32) (own_a p2) (((own_a p2) + (1 : Int32)) + (1 : Int32)) (own_f p3) (own_w2 (own_cc p1) (own_a p2) (fun _ => own_f p3)) T43.heap n0 (Nat.le_trans Z17 s43) V43 (by decide) (own_k2 (own_ai p2))) hZ (hw _ (List.mem_of_getElem? (i := 10) rfl)) (hw _ (List.mem_of_getElem? (i := 9) rfl)) (by decide) (by decide)) (g := (mkF m 139 #[.val (.int p1), .val (.int p2), .val (.int p3), .val (.int (own_cc p1)), .val (.int (own_a p2)), .val (.int (own_f p3)), .val (.ref b1), .val (.int (2 : Int32)), .val (.int (((own_a p2) + (1 : Int32)) + (1 : Int32))), .unset, .unset] [(.int (own_f p3)), (.int (((own_a p2) + (1 : Int32)) + (1 : Int32))), (.int (own_a p2)), (.int (0 : Int32)), (.ref b1)])) rfl (by rw [hml]; rfl) (argsL := [(.ref b1), (.int (0 : Int32)), (.int (own_a p2)), (.int (((own_a p2) + (1 : Int32)) + (1 : Int32))), (.int (own_f p3))]) (rest := []) (lenOf pd_law_1 rfl) rfl (by show 2 * 0 + _ ≤ _; exact Nat.le_of_eq rfl) (hb hby at_139) (fun _ _ => ⟨rfl, rfl, (by decide : 1 + 0 ≤ _), (by decide : 8 + 0 ≤ _)⟩)
      dsimp only [Pt.U, Pt.locs, Pt.cells, Pt.slots] at X45 l45 y45 z45 st45 hQ45
      subst l45 y45 z45
      obtain ⟨rfl, N45q, e45⟩ := hQ45
      have N45 := Fr.app N43 N45q
      have pr48 : ∀ t, Steps p.tables e below (T45.setTop (mkF m 154 #[.val (.int p1), .val (.int p2), .val (.int p3), .val (.int (own_cc p1)), .val (.int (own_a p2)), .val (.int (own_f p3)), .val (.ref b1), .val (.int (2 : Int32)), .val (.int (((own_a p2) + (1 : Int32)) + (1 : Int32))), .unset, .unset] [(.int (own_f p3)), (.int (((own_a p2) + (1 : Int32)) + (1 : Int32))), (.int (own_a p2)), (.int (1 : Int32)), (.ref b1)])) t → Steps p.tables e below (s₁.setTop (entryFrame m #[(.int p1), (.int p2), (.int p3)] maxLocals)) t := fun t kt => pr46 t (by
        refine st45 _ ?_
        show Steps p.tables e below (T45.setTop (mkF m 142 #[.val (.int p1), .val (.int p2), .val (.int p3), .val (.int (own_cc p1)), .val (.int (own_a p2)), .val (.int (own_f p3)), .val (.ref b1), .val (.int (2 : Int32)), .val (.int (((own_a p2) + (1 : Int32)) + (1 : Int32))), .unset, .unset] [(.int (1 : Int32))])) _
        refine XS.ifNo X45.here hx rfl (hb hby at_142) rfl ((if0 _ _).trans (feq (by decide : ¬ ((1 : Int32) = (0 : Int32)))).1) ?_
        show Steps p.tables e below (T45.setTop (mkF m 145 #[.val (.int p1), .val (.int p2), .val (.int p3), .val (.int (own_cc p1)), .val (.int (own_a p2)), .val (.int (own_f p3)), .val (.ref b1), .val (.int (2 : Int32)), .val (.int (((own_a p2) + (1 : Int32)) + (1 : Int32))), .unset, .unset] [])) _
        refine XS.aload X45.here hx rfl (hb hby at_145) rfl rfl ?_
        show Steps p.tables e below (T45.setTop (mkF m 147 #[.val (.int p1), .val (.int p2), .val (.int p3), .val (.int (own_cc p1)), .val (.int (own_a p2)), .val (.int (own_f p3)), .val (.ref b1), .val (.int (2 : Int32)), .val (.int (((own_a p2) + (1 : Int32)) + (1 : Int32))), .unset, .unset] [(.ref b1)])) _
        refine XS.iconst X45.here hx rfl (hb hby at_147) ?_
        show Steps p.tables e below (T45.setTop (mkF m 148 #[.val (.int p1), .val (.int p2), .val (.int p3), .val (.int (own_cc p1)), .val (.int (own_a p2)), .val (.int (own_f p3)), .val (.ref b1), .val (.int (2 : Int32)), .val (.int (((own_a p2) + (1 : Int32)) + (1 : Int32))), .unset, .unset] [(.int (1 : Int32)), (.ref b1)])) _
        refine XS.iload X45.here hx rfl (hb hby at_148) rfl ?_
        show Steps p.tables e below (T45.setTop (mkF m 150 #[.val (.int p1), .val (.int p2), .val (.int p3), .val (.int (own_cc p1)), .val (.int (own_a p2)), .val (.int (own_f p3)), .val (.ref b1), .val (.int (2 : Int32)), .val (.int (((own_a p2) + (1 : Int32)) + (1 : Int32))), .unset, .unset] [(.int (own_a p2)), (.int (1 : Int32)), (.ref b1)])) _
        refine XS.iload X45.here hx rfl (hb hby at_150) rfl ?_
        show Steps p.tables e below (T45.setTop (mkF m 152 #[.val (.int p1), .val (.int p2), .val (.int p3), .val (.int (own_cc p1)), .val (.int (own_a p2)), .val (.int (own_f p3)), .val (.ref b1), .val (.int (2 : Int32)), .val (.int (((own_a p2) + (1 : Int32)) + (1 : Int32))), .unset, .unset] [(.int (((own_a p2) + (1 : Int32)) + (1 : Int32))), (.int (own_a p2)), (.int (1 : Int32)), (.ref b1)])) _
        refine XS.iload X45.here hx rfl (hb hby at_152) rfl ?_
        show Steps p.tables e below (T45.setTop (mkF m 154 #[.val (.int p1), .val (.int p2), .val (.int p3), .val (.int (own_cc p1)), .val (.int (own_a p2)), .val (.int (own_f p3)), .val (.ref b1), .val (.int (2 : Int32)), .val (.int (((own_a p2) + (1 : Int32)) + (1 : Int32))), .unset, .unset] [(.int (own_f p3)), (.int (((own_a p2) + (1 : Int32)) + (1 : Int32))), (.int (own_a p2)), (.int (1 : Int32)), (.ref b1)])) _
        exact kt)
      obtain ⟨_, _, ⟨T47, L47, k47, n47⟩, -, X47, ⟨Lc47, hQ47, l47, y47, z47⟩, st47⟩ := Jvm.LawKit.callS X45 hx (y := (⟨"com/example/nuthatch/nuthatch/Utf8WritePinLaw", "kept", "([BIIIB)Z"⟩ : MethodName)) hown (mvT hZ (hw _ (List.mem_of_getElem? (i := 7) rfl))) (mvT hZ (hw _ (List.mem_of_getElem? (i := 8) rfl))) (mvT hZ (hw _ (List.mem_of_getElem? (i := 9) rfl))) (mvT hZ (hw _ (List.mem_of_getElem? (i := 10) rfl))) (by decide) (backOf (W := 0) (rm_kt l Z a0 hw [] b1 (1 : Int32) (own_a p2) (((own_a p2) + (1 : Int32)) + (1 : Int32)) (own_f p3) (own_w2 (own_cc p1) (own_a p2) (fun _ => own_f p3)) T43.heap n0 (Nat.le_trans Z17 s43) V43 (by decide) (own_k2 (own_ai p2))) hZ (hw _ (List.mem_of_getElem? (i := 10) rfl)) (hw _ (List.mem_of_getElem? (i := 9) rfl)) (by decide) (by decide)) (g := (mkF m 154 #[.val (.int p1), .val (.int p2), .val (.int p3), .val (.int (own_cc p1)), .val (.int (own_a p2)), .val (.int (own_f p3)), .val (.ref b1), .val (.int (2 : Int32)), .val (.int (((own_a p2) + (1 : Int32)) + (1 : Int32))), .unset, .unset] [(.int (own_f p3)), (.int (((own_a p2) + (1 : Int32)) + (1 : Int32))), (.int (own_a p2)), (.int (1 : Int32)), (.ref b1)])) rfl (by rw [hml]; rfl) (argsL := [(.ref b1), (.int (1 : Int32)), (.int (own_a p2)), (.int (((own_a p2) + (1 : Int32)) + (1 : Int32))), (.int (own_f p3))]) (rest := []) (lenOf pd_law_1 rfl) rfl (by show 2 * 0 + _ ≤ _; exact Nat.le_of_eq rfl) (hb hby at_154) (fun _ _ => ⟨rfl, e45, (by decide : 1 + 0 ≤ _), (by decide : 8 + 0 ≤ _)⟩)
      dsimp only [Pt.U, Pt.locs, Pt.cells, Pt.slots] at X47 l47 y47 z47 st47 hQ47
      subst l47 y47 z47
      obtain ⟨rfl, N47q, e47⟩ := hQ47
      have N47 := Fr.app N45 N47q
      have pr50 : ∀ t, Steps p.tables e below (T47.setTop (mkF m 169 #[.val (.int p1), .val (.int p2), .val (.int p3), .val (.int (own_cc p1)), .val (.int (own_a p2)), .val (.int (own_f p3)), .val (.ref b1), .val (.int (2 : Int32)), .val (.int (((own_a p2) + (1 : Int32)) + (1 : Int32))), .unset, .unset] [(.int (own_f p3)), (.int (((own_a p2) + (1 : Int32)) + (1 : Int32))), (.int (own_a p2)), (.int (2 : Int32)), (.ref b1)])) t → Steps p.tables e below (s₁.setTop (entryFrame m #[(.int p1), (.int p2), (.int p3)] maxLocals)) t := fun t kt => pr48 t (by
        refine st47 _ ?_
        show Steps p.tables e below (T47.setTop (mkF m 157 #[.val (.int p1), .val (.int p2), .val (.int p3), .val (.int (own_cc p1)), .val (.int (own_a p2)), .val (.int (own_f p3)), .val (.ref b1), .val (.int (2 : Int32)), .val (.int (((own_a p2) + (1 : Int32)) + (1 : Int32))), .unset, .unset] [(.int (1 : Int32))])) _
        refine XS.ifNo X47.here hx rfl (hb hby at_157) rfl ((if0 _ _).trans (feq (by decide : ¬ ((1 : Int32) = (0 : Int32)))).1) ?_
        show Steps p.tables e below (T47.setTop (mkF m 160 #[.val (.int p1), .val (.int p2), .val (.int p3), .val (.int (own_cc p1)), .val (.int (own_a p2)), .val (.int (own_f p3)), .val (.ref b1), .val (.int (2 : Int32)), .val (.int (((own_a p2) + (1 : Int32)) + (1 : Int32))), .unset, .unset] [])) _
        refine XS.aload X47.here hx rfl (hb hby at_160) rfl rfl ?_
        show Steps p.tables e below (T47.setTop (mkF m 162 #[.val (.int p1), .val (.int p2), .val (.int p3), .val (.int (own_cc p1)), .val (.int (own_a p2)), .val (.int (own_f p3)), .val (.ref b1), .val (.int (2 : Int32)), .val (.int (((own_a p2) + (1 : Int32)) + (1 : Int32))), .unset, .unset] [(.ref b1)])) _
        refine XS.iconst X47.here hx rfl (hb hby at_162) ?_
        show Steps p.tables e below (T47.setTop (mkF m 163 #[.val (.int p1), .val (.int p2), .val (.int p3), .val (.int (own_cc p1)), .val (.int (own_a p2)), .val (.int (own_f p3)), .val (.ref b1), .val (.int (2 : Int32)), .val (.int (((own_a p2) + (1 : Int32)) + (1 : Int32))), .unset, .unset] [(.int (2 : Int32)), (.ref b1)])) _
        refine XS.iload X47.here hx rfl (hb hby at_163) rfl ?_
        show Steps p.tables e below (T47.setTop (mkF m 165 #[.val (.int p1), .val (.int p2), .val (.int p3), .val (.int (own_cc p1)), .val (.int (own_a p2)), .val (.int (own_f p3)), .val (.ref b1), .val (.int (2 : Int32)), .val (.int (((own_a p2) + (1 : Int32)) + (1 : Int32))), .unset, .unset] [(.int (own_a p2)), (.int (2 : Int32)), (.ref b1)])) _
        refine XS.iload X47.here hx rfl (hb hby at_165) rfl ?_
        show Steps p.tables e below (T47.setTop (mkF m 167 #[.val (.int p1), .val (.int p2), .val (.int p3), .val (.int (own_cc p1)), .val (.int (own_a p2)), .val (.int (own_f p3)), .val (.ref b1), .val (.int (2 : Int32)), .val (.int (((own_a p2) + (1 : Int32)) + (1 : Int32))), .unset, .unset] [(.int (((own_a p2) + (1 : Int32)) + (1 : Int32))), (.int (own_a p2)), (.int (2 : Int32)), (.ref b1)])) _
        refine XS.iload X47.here hx rfl (hb hby at_167) rfl ?_
        show Steps p.tables e below (T47.setTop (mkF m 169 #[.val (.int p1), .val (.int p2), .val (.int p3), .val (.int (own_cc p1)), .val (.int (own_a p2)), .val (.int (own_f p3)), .val (.ref b1), .val (.int (2 : Int32)), .val (.int (((own_a p2) + (1 : Int32)) + (1 : Int32))), .unset, .unset] [(.int (own_f p3)), (.int (((own_a p2) + (1 : Int32)) + (1 : Int32))), (.int (own_a p2)), (.int (2 : Int32)), (.ref b1)])) _
        exact kt)
      obtain ⟨_, _, ⟨T49, L49, k49, n49⟩, -, X49, ⟨Lc49, hQ49, l49, y49, z49⟩, st49⟩ := Jvm.LawKit.callS X47 hx (y := (⟨"com/example/nuthatch/nuthatch/Utf8WritePinLaw", "kept", "([BIIIB)Z"⟩ : MethodName)) hown (mvT hZ (hw _ (List.mem_of_getElem? (i := 7) rfl))) (mvT hZ (hw _ (List.mem_of_getElem? (i := 8) rfl))) (mvT hZ (hw _ (List.mem_of_getElem? (i := 9) rfl))) (mvT hZ (hw _ (List.mem_of_getElem? (i := 10) rfl))) (by decide) (backOf (W := 0) (rm_kt l Z a0 hw [] b1 (2 : Int32) (own_a p2) (((own_a p2) + (1 : Int32)) + (1 : Int32)) (own_f p3) (own_w2 (own_cc p1) (own_a p2) (fun _ => own_f p3)) T43.heap n0 (Nat.le_trans Z17 s43) V43 (by decide) (own_k2 (own_ai p2))) hZ (hw _ (List.mem_of_getElem? (i := 10) rfl)) (hw _ (List.mem_of_getElem? (i := 9) rfl)) (by decide) (by decide)) (g := (mkF m 169 #[.val (.int p1), .val (.int p2), .val (.int p3), .val (.int (own_cc p1)), .val (.int (own_a p2)), .val (.int (own_f p3)), .val (.ref b1), .val (.int (2 : Int32)), .val (.int (((own_a p2) + (1 : Int32)) + (1 : Int32))), .unset, .unset] [(.int (own_f p3)), (.int (((own_a p2) + (1 : Int32)) + (1 : Int32))), (.int (own_a p2)), (.int (2 : Int32)), (.ref b1)])) rfl (by rw [hml]; rfl) (argsL := [(.ref b1), (.int (2 : Int32)), (.int (own_a p2)), (.int (((own_a p2) + (1 : Int32)) + (1 : Int32))), (.int (own_f p3))]) (rest := []) (lenOf pd_law_1 rfl) rfl (by show 2 * 0 + _ ≤ _; exact Nat.le_of_eq rfl) (hb hby at_169) (fun _ _ => ⟨rfl, e47, (by decide : 1 + 0 ≤ _), (by decide : 8 + 0 ≤ _)⟩)
      dsimp only [Pt.U, Pt.locs, Pt.cells, Pt.slots] at X49 l49 y49 z49 st49 hQ49
      subst l49 y49 z49
      obtain ⟨rfl, N49q, e49⟩ := hQ49
      have N49 := Fr.app N47 N49q
      have pr52 : ∀ t, Steps p.tables e below (T49.setTop (mkF m 184 #[.val (.int p1), .val (.int p2), .val (.int p3), .val (.int (own_cc p1)), .val (.int (own_a p2)), .val (.int (own_f p3)), .val (.ref b1), .val (.int (2 : Int32)), .val (.int (((own_a p2) + (1 : Int32)) + (1 : Int32))), .unset, .unset] [(.int (own_f p3)), (.int (((own_a p2) + (1 : Int32)) + (1 : Int32))), (.int (own_a p2)), (.int (3 : Int32)), (.ref b1)])) t → Steps p.tables e below (s₁.setTop (entryFrame m #[(.int p1), (.int p2), (.int p3)] maxLocals)) t := fun t kt => pr50 t (by
        refine st49 _ ?_
        show Steps p.tables e below (T49.setTop (mkF m 172 #[.val (.int p1), .val (.int p2), .val (.int p3), .val (.int (own_cc p1)), .val (.int (own_a p2)), .val (.int (own_f p3)), .val (.ref b1), .val (.int (2 : Int32)), .val (.int (((own_a p2) + (1 : Int32)) + (1 : Int32))), .unset, .unset] [(.int (1 : Int32))])) _
        refine XS.ifNo X49.here hx rfl (hb hby at_172) rfl ((if0 _ _).trans (feq (by decide : ¬ ((1 : Int32) = (0 : Int32)))).1) ?_
        show Steps p.tables e below (T49.setTop (mkF m 175 #[.val (.int p1), .val (.int p2), .val (.int p3), .val (.int (own_cc p1)), .val (.int (own_a p2)), .val (.int (own_f p3)), .val (.ref b1), .val (.int (2 : Int32)), .val (.int (((own_a p2) + (1 : Int32)) + (1 : Int32))), .unset, .unset] [])) _
        refine XS.aload X49.here hx rfl (hb hby at_175) rfl rfl ?_
        show Steps p.tables e below (T49.setTop (mkF m 177 #[.val (.int p1), .val (.int p2), .val (.int p3), .val (.int (own_cc p1)), .val (.int (own_a p2)), .val (.int (own_f p3)), .val (.ref b1), .val (.int (2 : Int32)), .val (.int (((own_a p2) + (1 : Int32)) + (1 : Int32))), .unset, .unset] [(.ref b1)])) _
        refine XS.iconst X49.here hx rfl (hb hby at_177) ?_
        show Steps p.tables e below (T49.setTop (mkF m 178 #[.val (.int p1), .val (.int p2), .val (.int p3), .val (.int (own_cc p1)), .val (.int (own_a p2)), .val (.int (own_f p3)), .val (.ref b1), .val (.int (2 : Int32)), .val (.int (((own_a p2) + (1 : Int32)) + (1 : Int32))), .unset, .unset] [(.int (3 : Int32)), (.ref b1)])) _
        refine XS.iload X49.here hx rfl (hb hby at_178) rfl ?_
        show Steps p.tables e below (T49.setTop (mkF m 180 #[.val (.int p1), .val (.int p2), .val (.int p3), .val (.int (own_cc p1)), .val (.int (own_a p2)), .val (.int (own_f p3)), .val (.ref b1), .val (.int (2 : Int32)), .val (.int (((own_a p2) + (1 : Int32)) + (1 : Int32))), .unset, .unset] [(.int (own_a p2)), (.int (3 : Int32)), (.ref b1)])) _
        refine XS.iload X49.here hx rfl (hb hby at_180) rfl ?_
        show Steps p.tables e below (T49.setTop (mkF m 182 #[.val (.int p1), .val (.int p2), .val (.int p3), .val (.int (own_cc p1)), .val (.int (own_a p2)), .val (.int (own_f p3)), .val (.ref b1), .val (.int (2 : Int32)), .val (.int (((own_a p2) + (1 : Int32)) + (1 : Int32))), .unset, .unset] [(.int (((own_a p2) + (1 : Int32)) + (1 : Int32))), (.int (own_a p2)), (.int (3 : Int32)), (.ref b1)])) _
        refine XS.iload X49.here hx rfl (hb hby at_182) rfl ?_
        show Steps p.tables e below (T49.setTop (mkF m 184 #[.val (.int p1), .val (.int p2), .val (.int p3), .val (.int (own_cc p1)), .val (.int (own_a p2)), .val (.int (own_f p3)), .val (.ref b1), .val (.int (2 : Int32)), .val (.int (((own_a p2) + (1 : Int32)) + (1 : Int32))), .unset, .unset] [(.int (own_f p3)), (.int (((own_a p2) + (1 : Int32)) + (1 : Int32))), (.int (own_a p2)), (.int (3 : Int32)), (.ref b1)])) _
        exact kt)
      obtain ⟨_, _, ⟨T51, L51, k51, n51⟩, -, X51, ⟨Lc51, hQ51, l51, y51, z51⟩, st51⟩ := Jvm.LawKit.callS X49 hx (y := (⟨"com/example/nuthatch/nuthatch/Utf8WritePinLaw", "kept", "([BIIIB)Z"⟩ : MethodName)) hown (mvT hZ (hw _ (List.mem_of_getElem? (i := 7) rfl))) (mvT hZ (hw _ (List.mem_of_getElem? (i := 8) rfl))) (mvT hZ (hw _ (List.mem_of_getElem? (i := 9) rfl))) (mvT hZ (hw _ (List.mem_of_getElem? (i := 10) rfl))) (by decide) (backOf (W := 0) (rm_kt l Z a0 hw [] b1 (3 : Int32) (own_a p2) (((own_a p2) + (1 : Int32)) + (1 : Int32)) (own_f p3) (own_w2 (own_cc p1) (own_a p2) (fun _ => own_f p3)) T43.heap n0 (Nat.le_trans Z17 s43) V43 (by decide) (own_k2 (own_ai p2))) hZ (hw _ (List.mem_of_getElem? (i := 10) rfl)) (hw _ (List.mem_of_getElem? (i := 9) rfl)) (by decide) (by decide)) (g := (mkF m 184 #[.val (.int p1), .val (.int p2), .val (.int p3), .val (.int (own_cc p1)), .val (.int (own_a p2)), .val (.int (own_f p3)), .val (.ref b1), .val (.int (2 : Int32)), .val (.int (((own_a p2) + (1 : Int32)) + (1 : Int32))), .unset, .unset] [(.int (own_f p3)), (.int (((own_a p2) + (1 : Int32)) + (1 : Int32))), (.int (own_a p2)), (.int (3 : Int32)), (.ref b1)])) rfl (by rw [hml]; rfl) (argsL := [(.ref b1), (.int (3 : Int32)), (.int (own_a p2)), (.int (((own_a p2) + (1 : Int32)) + (1 : Int32))), (.int (own_f p3))]) (rest := []) (lenOf pd_law_1 rfl) rfl (by show 2 * 0 + _ ≤ _; exact Nat.le_of_eq rfl) (hb hby at_184) (fun _ _ => ⟨rfl, e49, (by decide : 1 + 0 ≤ _), (by decide : 8 + 0 ≤ _)⟩)
      dsimp only [Pt.U, Pt.locs, Pt.cells, Pt.slots] at X51 l51 y51 z51 st51 hQ51
      subst l51 y51 z51
      obtain ⟨rfl, N51q, e51⟩ := hQ51
      have N51 := Fr.app N49 N51q
      have pr54 : ∀ t, Steps p.tables e below (T51.setTop (mkF m 199 #[.val (.int p1), .val (.int p2), .val (.int p3), .val (.int (own_cc p1)), .val (.int (own_a p2)), .val (.int (own_f p3)), .val (.ref b1), .val (.int (2 : Int32)), .val (.int (((own_a p2) + (1 : Int32)) + (1 : Int32))), .unset, .unset] [(.int (own_f p3)), (.int (((own_a p2) + (1 : Int32)) + (1 : Int32))), (.int (own_a p2)), (.int (4 : Int32)), (.ref b1)])) t → Steps p.tables e below (s₁.setTop (entryFrame m #[(.int p1), (.int p2), (.int p3)] maxLocals)) t := fun t kt => pr52 t (by
        refine st51 _ ?_
        show Steps p.tables e below (T51.setTop (mkF m 187 #[.val (.int p1), .val (.int p2), .val (.int p3), .val (.int (own_cc p1)), .val (.int (own_a p2)), .val (.int (own_f p3)), .val (.ref b1), .val (.int (2 : Int32)), .val (.int (((own_a p2) + (1 : Int32)) + (1 : Int32))), .unset, .unset] [(.int (1 : Int32))])) _
        refine XS.ifNo X51.here hx rfl (hb hby at_187) rfl ((if0 _ _).trans (feq (by decide : ¬ ((1 : Int32) = (0 : Int32)))).1) ?_
        show Steps p.tables e below (T51.setTop (mkF m 190 #[.val (.int p1), .val (.int p2), .val (.int p3), .val (.int (own_cc p1)), .val (.int (own_a p2)), .val (.int (own_f p3)), .val (.ref b1), .val (.int (2 : Int32)), .val (.int (((own_a p2) + (1 : Int32)) + (1 : Int32))), .unset, .unset] [])) _
        refine XS.aload X51.here hx rfl (hb hby at_190) rfl rfl ?_
        show Steps p.tables e below (T51.setTop (mkF m 192 #[.val (.int p1), .val (.int p2), .val (.int p3), .val (.int (own_cc p1)), .val (.int (own_a p2)), .val (.int (own_f p3)), .val (.ref b1), .val (.int (2 : Int32)), .val (.int (((own_a p2) + (1 : Int32)) + (1 : Int32))), .unset, .unset] [(.ref b1)])) _
        refine XS.iconst X51.here hx rfl (hb hby at_192) ?_
        show Steps p.tables e below (T51.setTop (mkF m 193 #[.val (.int p1), .val (.int p2), .val (.int p3), .val (.int (own_cc p1)), .val (.int (own_a p2)), .val (.int (own_f p3)), .val (.ref b1), .val (.int (2 : Int32)), .val (.int (((own_a p2) + (1 : Int32)) + (1 : Int32))), .unset, .unset] [(.int (4 : Int32)), (.ref b1)])) _
        refine XS.iload X51.here hx rfl (hb hby at_193) rfl ?_
        show Steps p.tables e below (T51.setTop (mkF m 195 #[.val (.int p1), .val (.int p2), .val (.int p3), .val (.int (own_cc p1)), .val (.int (own_a p2)), .val (.int (own_f p3)), .val (.ref b1), .val (.int (2 : Int32)), .val (.int (((own_a p2) + (1 : Int32)) + (1 : Int32))), .unset, .unset] [(.int (own_a p2)), (.int (4 : Int32)), (.ref b1)])) _
        refine XS.iload X51.here hx rfl (hb hby at_195) rfl ?_
        show Steps p.tables e below (T51.setTop (mkF m 197 #[.val (.int p1), .val (.int p2), .val (.int p3), .val (.int (own_cc p1)), .val (.int (own_a p2)), .val (.int (own_f p3)), .val (.ref b1), .val (.int (2 : Int32)), .val (.int (((own_a p2) + (1 : Int32)) + (1 : Int32))), .unset, .unset] [(.int (((own_a p2) + (1 : Int32)) + (1 : Int32))), (.int (own_a p2)), (.int (4 : Int32)), (.ref b1)])) _
        refine XS.iload X51.here hx rfl (hb hby at_197) rfl ?_
        show Steps p.tables e below (T51.setTop (mkF m 199 #[.val (.int p1), .val (.int p2), .val (.int p3), .val (.int (own_cc p1)), .val (.int (own_a p2)), .val (.int (own_f p3)), .val (.ref b1), .val (.int (2 : Int32)), .val (.int (((own_a p2) + (1 : Int32)) + (1 : Int32))), .unset, .unset] [(.int (own_f p3)), (.int (((own_a p2) + (1 : Int32)) + (1 : Int32))), (.int (own_a p2)), (.int (4 : Int32)), (.ref b1)])) _
        exact kt)
      obtain ⟨_, _, ⟨T53, L53, k53, n53⟩, -, X53, ⟨Lc53, hQ53, l53, y53, z53⟩, st53⟩ := Jvm.LawKit.callS X51 hx (y := (⟨"com/example/nuthatch/nuthatch/Utf8WritePinLaw", "kept", "([BIIIB)Z"⟩ : MethodName)) hown (mvT hZ (hw _ (List.mem_of_getElem? (i := 7) rfl))) (mvT hZ (hw _ (List.mem_of_getElem? (i := 8) rfl))) (mvT hZ (hw _ (List.mem_of_getElem? (i := 9) rfl))) (mvT hZ (hw _ (List.mem_of_getElem? (i := 10) rfl))) (by decide) (backOf (W := 0) (rm_kt l Z a0 hw [] b1 (4 : Int32) (own_a p2) (((own_a p2) + (1 : Int32)) + (1 : Int32)) (own_f p3) (own_w2 (own_cc p1) (own_a p2) (fun _ => own_f p3)) T43.heap n0 (Nat.le_trans Z17 s43) V43 (by decide) (own_k2 (own_ai p2))) hZ (hw _ (List.mem_of_getElem? (i := 10) rfl)) (hw _ (List.mem_of_getElem? (i := 9) rfl)) (by decide) (by decide)) (g := (mkF m 199 #[.val (.int p1), .val (.int p2), .val (.int p3), .val (.int (own_cc p1)), .val (.int (own_a p2)), .val (.int (own_f p3)), .val (.ref b1), .val (.int (2 : Int32)), .val (.int (((own_a p2) + (1 : Int32)) + (1 : Int32))), .unset, .unset] [(.int (own_f p3)), (.int (((own_a p2) + (1 : Int32)) + (1 : Int32))), (.int (own_a p2)), (.int (4 : Int32)), (.ref b1)])) rfl (by rw [hml]; rfl) (argsL := [(.ref b1), (.int (4 : Int32)), (.int (own_a p2)), (.int (((own_a p2) + (1 : Int32)) + (1 : Int32))), (.int (own_f p3))]) (rest := []) (lenOf pd_law_1 rfl) rfl (by show 2 * 0 + _ ≤ _; exact Nat.le_of_eq rfl) (hb hby at_199) (fun _ _ => ⟨rfl, e51, (by decide : 1 + 0 ≤ _), (by decide : 8 + 0 ≤ _)⟩)
      dsimp only [Pt.U, Pt.locs, Pt.cells, Pt.slots] at X53 l53 y53 z53 st53 hQ53
      subst l53 y53 z53
      obtain ⟨rfl, N53q, e53⟩ := hQ53
      have N53 := Fr.app N51 N53q
      have pr56 : ∀ t, Steps p.tables e below (T53.setTop (mkF m 214 #[.val (.int p1), .val (.int p2), .val (.int p3), .val (.int (own_cc p1)), .val (.int (own_a p2)), .val (.int (own_f p3)), .val (.ref b1), .val (.int (2 : Int32)), .val (.int (((own_a p2) + (1 : Int32)) + (1 : Int32))), .unset, .unset] [(.int (own_f p3)), (.int (((own_a p2) + (1 : Int32)) + (1 : Int32))), (.int (own_a p2)), (.int (5 : Int32)), (.ref b1)])) t → Steps p.tables e below (s₁.setTop (entryFrame m #[(.int p1), (.int p2), (.int p3)] maxLocals)) t := fun t kt => pr54 t (by
        refine st53 _ ?_
        show Steps p.tables e below (T53.setTop (mkF m 202 #[.val (.int p1), .val (.int p2), .val (.int p3), .val (.int (own_cc p1)), .val (.int (own_a p2)), .val (.int (own_f p3)), .val (.ref b1), .val (.int (2 : Int32)), .val (.int (((own_a p2) + (1 : Int32)) + (1 : Int32))), .unset, .unset] [(.int (1 : Int32))])) _
        refine XS.ifNo X53.here hx rfl (hb hby at_202) rfl ((if0 _ _).trans (feq (by decide : ¬ ((1 : Int32) = (0 : Int32)))).1) ?_
        show Steps p.tables e below (T53.setTop (mkF m 205 #[.val (.int p1), .val (.int p2), .val (.int p3), .val (.int (own_cc p1)), .val (.int (own_a p2)), .val (.int (own_f p3)), .val (.ref b1), .val (.int (2 : Int32)), .val (.int (((own_a p2) + (1 : Int32)) + (1 : Int32))), .unset, .unset] [])) _
        refine XS.aload X53.here hx rfl (hb hby at_205) rfl rfl ?_
        show Steps p.tables e below (T53.setTop (mkF m 207 #[.val (.int p1), .val (.int p2), .val (.int p3), .val (.int (own_cc p1)), .val (.int (own_a p2)), .val (.int (own_f p3)), .val (.ref b1), .val (.int (2 : Int32)), .val (.int (((own_a p2) + (1 : Int32)) + (1 : Int32))), .unset, .unset] [(.ref b1)])) _
        refine XS.iconst X53.here hx rfl (hb hby at_207) ?_
        show Steps p.tables e below (T53.setTop (mkF m 208 #[.val (.int p1), .val (.int p2), .val (.int p3), .val (.int (own_cc p1)), .val (.int (own_a p2)), .val (.int (own_f p3)), .val (.ref b1), .val (.int (2 : Int32)), .val (.int (((own_a p2) + (1 : Int32)) + (1 : Int32))), .unset, .unset] [(.int (5 : Int32)), (.ref b1)])) _
        refine XS.iload X53.here hx rfl (hb hby at_208) rfl ?_
        show Steps p.tables e below (T53.setTop (mkF m 210 #[.val (.int p1), .val (.int p2), .val (.int p3), .val (.int (own_cc p1)), .val (.int (own_a p2)), .val (.int (own_f p3)), .val (.ref b1), .val (.int (2 : Int32)), .val (.int (((own_a p2) + (1 : Int32)) + (1 : Int32))), .unset, .unset] [(.int (own_a p2)), (.int (5 : Int32)), (.ref b1)])) _
        refine XS.iload X53.here hx rfl (hb hby at_210) rfl ?_
        show Steps p.tables e below (T53.setTop (mkF m 212 #[.val (.int p1), .val (.int p2), .val (.int p3), .val (.int (own_cc p1)), .val (.int (own_a p2)), .val (.int (own_f p3)), .val (.ref b1), .val (.int (2 : Int32)), .val (.int (((own_a p2) + (1 : Int32)) + (1 : Int32))), .unset, .unset] [(.int (((own_a p2) + (1 : Int32)) + (1 : Int32))), (.int (own_a p2)), (.int (5 : Int32)), (.ref b1)])) _
        refine XS.iload X53.here hx rfl (hb hby at_212) rfl ?_
        show Steps p.tables e below (T53.setTop (mkF m 214 #[.val (.int p1), .val (.int p2), .val (.int p3), .val (.int (own_cc p1)), .val (.int (own_a p2)), .val (.int (own_f p3)), .val (.ref b1), .val (.int (2 : Int32)), .val (.int (((own_a p2) + (1 : Int32)) + (1 : Int32))), .unset, .unset] [(.int (own_f p3)), (.int (((own_a p2) + (1 : Int32)) + (1 : Int32))), (.int (own_a p2)), (.int (5 : Int32)), (.ref b1)])) _
        exact kt)
      obtain ⟨_, _, ⟨T55, L55, k55, n55⟩, -, X55, ⟨Lc55, hQ55, l55, y55, z55⟩, st55⟩ := Jvm.LawKit.callS X53 hx (y := (⟨"com/example/nuthatch/nuthatch/Utf8WritePinLaw", "kept", "([BIIIB)Z"⟩ : MethodName)) hown (mvT hZ (hw _ (List.mem_of_getElem? (i := 7) rfl))) (mvT hZ (hw _ (List.mem_of_getElem? (i := 8) rfl))) (mvT hZ (hw _ (List.mem_of_getElem? (i := 9) rfl))) (mvT hZ (hw _ (List.mem_of_getElem? (i := 10) rfl))) (by decide) (backOf (W := 0) (rm_kt l Z a0 hw [] b1 (5 : Int32) (own_a p2) (((own_a p2) + (1 : Int32)) + (1 : Int32)) (own_f p3) (own_w2 (own_cc p1) (own_a p2) (fun _ => own_f p3)) T43.heap n0 (Nat.le_trans Z17 s43) V43 (by decide) (own_k2 (own_ai p2))) hZ (hw _ (List.mem_of_getElem? (i := 10) rfl)) (hw _ (List.mem_of_getElem? (i := 9) rfl)) (by decide) (by decide)) (g := (mkF m 214 #[.val (.int p1), .val (.int p2), .val (.int p3), .val (.int (own_cc p1)), .val (.int (own_a p2)), .val (.int (own_f p3)), .val (.ref b1), .val (.int (2 : Int32)), .val (.int (((own_a p2) + (1 : Int32)) + (1 : Int32))), .unset, .unset] [(.int (own_f p3)), (.int (((own_a p2) + (1 : Int32)) + (1 : Int32))), (.int (own_a p2)), (.int (5 : Int32)), (.ref b1)])) rfl (by rw [hml]; rfl) (argsL := [(.ref b1), (.int (5 : Int32)), (.int (own_a p2)), (.int (((own_a p2) + (1 : Int32)) + (1 : Int32))), (.int (own_f p3))]) (rest := []) (lenOf pd_law_1 rfl) rfl (by show 2 * 0 + _ ≤ _; exact Nat.le_of_eq rfl) (hb hby at_214) (fun _ _ => ⟨rfl, e53, (by decide : 1 + 0 ≤ _), (by decide : 8 + 0 ≤ _)⟩)
      dsimp only [Pt.U, Pt.locs, Pt.cells, Pt.slots] at X55 l55 y55 z55 st55 hQ55
      subst l55 y55 z55
      obtain ⟨rfl, N55q, e55⟩ := hQ55
      have N55 := Fr.app N53 N55q
      have pr58 : ∀ t, Steps p.tables e below (T55.setTop (mkF m 230 #[.val (.int p1), .val (.int p2), .val (.int p3), .val (.int (own_cc p1)), .val (.int (own_a p2)), .val (.int (own_f p3)), .val (.ref b1), .val (.int (2 : Int32)), .val (.int (((own_a p2) + (1 : Int32)) + (1 : Int32))), .unset, .unset] [(.int (own_f p3)), (.int (((own_a p2) + (1 : Int32)) + (1 : Int32))), (.int (own_a p2)), (.int (6 : Int32)), (.ref b1)])) t → Steps p.tables e below (s₁.setTop (entryFrame m #[(.int p1), (.int p2), (.int p3)] maxLocals)) t := fun t kt => pr56 t (by
        refine st55 _ ?_
        show Steps p.tables e below (T55.setTop (mkF m 217 #[.val (.int p1), .val (.int p2), .val (.int p3), .val (.int (own_cc p1)), .val (.int (own_a p2)), .val (.int (own_f p3)), .val (.ref b1), .val (.int (2 : Int32)), .val (.int (((own_a p2) + (1 : Int32)) + (1 : Int32))), .unset, .unset] [(.int (1 : Int32))])) _
        refine XS.ifNo X55.here hx rfl (hb hby at_217) rfl ((if0 _ _).trans (feq (by decide : ¬ ((1 : Int32) = (0 : Int32)))).1) ?_
        show Steps p.tables e below (T55.setTop (mkF m 220 #[.val (.int p1), .val (.int p2), .val (.int p3), .val (.int (own_cc p1)), .val (.int (own_a p2)), .val (.int (own_f p3)), .val (.ref b1), .val (.int (2 : Int32)), .val (.int (((own_a p2) + (1 : Int32)) + (1 : Int32))), .unset, .unset] [])) _
        refine XS.aload X55.here hx rfl (hb hby at_220) rfl rfl ?_
        show Steps p.tables e below (T55.setTop (mkF m 222 #[.val (.int p1), .val (.int p2), .val (.int p3), .val (.int (own_cc p1)), .val (.int (own_a p2)), .val (.int (own_f p3)), .val (.ref b1), .val (.int (2 : Int32)), .val (.int (((own_a p2) + (1 : Int32)) + (1 : Int32))), .unset, .unset] [(.ref b1)])) _
        refine XS.bipush X55.here hx rfl (hb hby at_222) ?_
        show Steps p.tables e below (T55.setTop (mkF m 224 #[.val (.int p1), .val (.int p2), .val (.int p3), .val (.int (own_cc p1)), .val (.int (own_a p2)), .val (.int (own_f p3)), .val (.ref b1), .val (.int (2 : Int32)), .val (.int (((own_a p2) + (1 : Int32)) + (1 : Int32))), .unset, .unset] [(.int (6 : Int32)), (.ref b1)])) _
        refine XS.iload X55.here hx rfl (hb hby at_224) rfl ?_
        show Steps p.tables e below (T55.setTop (mkF m 226 #[.val (.int p1), .val (.int p2), .val (.int p3), .val (.int (own_cc p1)), .val (.int (own_a p2)), .val (.int (own_f p3)), .val (.ref b1), .val (.int (2 : Int32)), .val (.int (((own_a p2) + (1 : Int32)) + (1 : Int32))), .unset, .unset] [(.int (own_a p2)), (.int (6 : Int32)), (.ref b1)])) _
        refine XS.iload X55.here hx rfl (hb hby at_226) rfl ?_
        show Steps p.tables e below (T55.setTop (mkF m 228 #[.val (.int p1), .val (.int p2), .val (.int p3), .val (.int (own_cc p1)), .val (.int (own_a p2)), .val (.int (own_f p3)), .val (.ref b1), .val (.int (2 : Int32)), .val (.int (((own_a p2) + (1 : Int32)) + (1 : Int32))), .unset, .unset] [(.int (((own_a p2) + (1 : Int32)) + (1 : Int32))), (.int (own_a p2)), (.int (6 : Int32)), (.ref b1)])) _
        refine XS.iload X55.here hx rfl (hb hby at_228) rfl ?_
        show Steps p.tables e below (T55.setTop (mkF m 230 #[.val (.int p1), .val (.int p2), .val (.int p3), .val (.int (own_cc p1)), .val (.int (own_a p2)), .val (.int (own_f p3)), .val (.ref b1), .val (.int (2 : Int32)), .val (.int (((own_a p2) + (1 : Int32)) + (1 : Int32))), .unset, .unset] [(.int (own_f p3)), (.int (((own_a p2) + (1 : Int32)) + (1 : Int32))), (.int (own_a p2)), (.int (6 : Int32)), (.ref b1)])) _
        exact kt)
      obtain ⟨_, _, ⟨T57, L57, k57, n57⟩, -, X57, ⟨Lc57, hQ57, l57, y57, z57⟩, st57⟩ := Jvm.LawKit.callS X55 hx (y := (⟨"com/example/nuthatch/nuthatch/Utf8WritePinLaw", "kept", "([BIIIB)Z"⟩ : MethodName)) hown (mvT hZ (hw _ (List.mem_of_getElem? (i := 7) rfl))) (mvT hZ (hw _ (List.mem_of_getElem? (i := 8) rfl))) (mvT hZ (hw _ (List.mem_of_getElem? (i := 9) rfl))) (mvT hZ (hw _ (List.mem_of_getElem? (i := 10) rfl))) (by decide) (backOf (W := 0) (rm_kt l Z a0 hw [] b1 (6 : Int32) (own_a p2) (((own_a p2) + (1 : Int32)) + (1 : Int32)) (own_f p3) (own_w2 (own_cc p1) (own_a p2) (fun _ => own_f p3)) T43.heap n0 (Nat.le_trans Z17 s43) V43 (by decide) (own_k2 (own_ai p2))) hZ (hw _ (List.mem_of_getElem? (i := 10) rfl)) (hw _ (List.mem_of_getElem? (i := 9) rfl)) (by decide) (by decide)) (g := (mkF m 230 #[.val (.int p1), .val (.int p2), .val (.int p3), .val (.int (own_cc p1)), .val (.int (own_a p2)), .val (.int (own_f p3)), .val (.ref b1), .val (.int (2 : Int32)), .val (.int (((own_a p2) + (1 : Int32)) + (1 : Int32))), .unset, .unset] [(.int (own_f p3)), (.int (((own_a p2) + (1 : Int32)) + (1 : Int32))), (.int (own_a p2)), (.int (6 : Int32)), (.ref b1)])) rfl (by rw [hml]; rfl) (argsL := [(.ref b1), (.int (6 : Int32)), (.int (own_a p2)), (.int (((own_a p2) + (1 : Int32)) + (1 : Int32))), (.int (own_f p3))]) (rest := []) (lenOf pd_law_1 rfl) rfl (by show 2 * 0 + _ ≤ _; exact Nat.le_of_eq rfl) (hb hby at_230) (fun _ _ => ⟨rfl, e55, (by decide : 1 + 0 ≤ _), (by decide : 8 + 0 ≤ _)⟩)
      dsimp only [Pt.U, Pt.locs, Pt.cells, Pt.slots] at X57 l57 y57 z57 st57 hQ57
      subst l57 y57 z57
      obtain ⟨rfl, N57q, e57⟩ := hQ57
      have N57 := Fr.app N55 N57q
      have pr60 : ∀ t, Steps p.tables e below (T57.setTop (mkF m 246 #[.val (.int p1), .val (.int p2), .val (.int p3), .val (.int (own_cc p1)), .val (.int (own_a p2)), .val (.int (own_f p3)), .val (.ref b1), .val (.int (2 : Int32)), .val (.int (((own_a p2) + (1 : Int32)) + (1 : Int32))), .unset, .unset] [(.int (own_f p3)), (.int (((own_a p2) + (1 : Int32)) + (1 : Int32))), (.int (own_a p2)), (.int (7 : Int32)), (.ref b1)])) t → Steps p.tables e below (s₁.setTop (entryFrame m #[(.int p1), (.int p2), (.int p3)] maxLocals)) t := fun t kt => pr58 t (by
        refine st57 _ ?_
        show Steps p.tables e below (T57.setTop (mkF m 233 #[.val (.int p1), .val (.int p2), .val (.int p3), .val (.int (own_cc p1)), .val (.int (own_a p2)), .val (.int (own_f p3)), .val (.ref b1), .val (.int (2 : Int32)), .val (.int (((own_a p2) + (1 : Int32)) + (1 : Int32))), .unset, .unset] [(.int (1 : Int32))])) _
        refine XS.ifNo X57.here hx rfl (hb hby at_233) rfl ((if0 _ _).trans (feq (by decide : ¬ ((1 : Int32) = (0 : Int32)))).1) ?_
        show Steps p.tables e below (T57.setTop (mkF m 236 #[.val (.int p1), .val (.int p2), .val (.int p3), .val (.int (own_cc p1)), .val (.int (own_a p2)), .val (.int (own_f p3)), .val (.ref b1), .val (.int (2 : Int32)), .val (.int (((own_a p2) + (1 : Int32)) + (1 : Int32))), .unset, .unset] [])) _
        refine XS.aload X57.here hx rfl (hb hby at_236) rfl rfl ?_
        show Steps p.tables e below (T57.setTop (mkF m 238 #[.val (.int p1), .val (.int p2), .val (.int p3), .val (.int (own_cc p1)), .val (.int (own_a p2)), .val (.int (own_f p3)), .val (.ref b1), .val (.int (2 : Int32)), .val (.int (((own_a p2) + (1 : Int32)) + (1 : Int32))), .unset, .unset] [(.ref b1)])) _
        refine XS.bipush X57.here hx rfl (hb hby at_238) ?_
        show Steps p.tables e below (T57.setTop (mkF m 240 #[.val (.int p1), .val (.int p2), .val (.int p3), .val (.int (own_cc p1)), .val (.int (own_a p2)), .val (.int (own_f p3)), .val (.ref b1), .val (.int (2 : Int32)), .val (.int (((own_a p2) + (1 : Int32)) + (1 : Int32))), .unset, .unset] [(.int (7 : Int32)), (.ref b1)])) _
        refine XS.iload X57.here hx rfl (hb hby at_240) rfl ?_
        show Steps p.tables e below (T57.setTop (mkF m 242 #[.val (.int p1), .val (.int p2), .val (.int p3), .val (.int (own_cc p1)), .val (.int (own_a p2)), .val (.int (own_f p3)), .val (.ref b1), .val (.int (2 : Int32)), .val (.int (((own_a p2) + (1 : Int32)) + (1 : Int32))), .unset, .unset] [(.int (own_a p2)), (.int (7 : Int32)), (.ref b1)])) _
        refine XS.iload X57.here hx rfl (hb hby at_242) rfl ?_
        show Steps p.tables e below (T57.setTop (mkF m 244 #[.val (.int p1), .val (.int p2), .val (.int p3), .val (.int (own_cc p1)), .val (.int (own_a p2)), .val (.int (own_f p3)), .val (.ref b1), .val (.int (2 : Int32)), .val (.int (((own_a p2) + (1 : Int32)) + (1 : Int32))), .unset, .unset] [(.int (((own_a p2) + (1 : Int32)) + (1 : Int32))), (.int (own_a p2)), (.int (7 : Int32)), (.ref b1)])) _
        refine XS.iload X57.here hx rfl (hb hby at_244) rfl ?_
        show Steps p.tables e below (T57.setTop (mkF m 246 #[.val (.int p1), .val (.int p2), .val (.int p3), .val (.int (own_cc p1)), .val (.int (own_a p2)), .val (.int (own_f p3)), .val (.ref b1), .val (.int (2 : Int32)), .val (.int (((own_a p2) + (1 : Int32)) + (1 : Int32))), .unset, .unset] [(.int (own_f p3)), (.int (((own_a p2) + (1 : Int32)) + (1 : Int32))), (.int (own_a p2)), (.int (7 : Int32)), (.ref b1)])) _
        exact kt)
      obtain ⟨_, _, ⟨T59, L59, k59, n59⟩, -, X59, ⟨Lc59, hQ59, l59, y59, z59⟩, st59⟩ := Jvm.LawKit.callS X57 hx (y := (⟨"com/example/nuthatch/nuthatch/Utf8WritePinLaw", "kept", "([BIIIB)Z"⟩ : MethodName)) hown (mvT hZ (hw _ (List.mem_of_getElem? (i := 7) rfl))) (mvT hZ (hw _ (List.mem_of_getElem? (i := 8) rfl))) (mvT hZ (hw _ (List.mem_of_getElem? (i := 9) rfl))) (mvT hZ (hw _ (List.mem_of_getElem? (i := 10) rfl))) (by decide) (backOf (W := 0) (rm_kt l Z a0 hw [] b1 (7 : Int32) (own_a p2) (((own_a p2) + (1 : Int32)) + (1 : Int32)) (own_f p3) (own_w2 (own_cc p1) (own_a p2) (fun _ => own_f p3)) T43.heap n0 (Nat.le_trans Z17 s43) V43 (by decide) (own_k2 (own_ai p2))) hZ (hw _ (List.mem_of_getElem? (i := 10) rfl)) (hw _ (List.mem_of_getElem? (i := 9) rfl)) (by decide) (by decide)) (g := (mkF m 246 #[.val (.int p1), .val (.int p2), .val (.int p3), .val (.int (own_cc p1)), .val (.int (own_a p2)), .val (.int (own_f p3)), .val (.ref b1), .val (.int (2 : Int32)), .val (.int (((own_a p2) + (1 : Int32)) + (1 : Int32))), .unset, .unset] [(.int (own_f p3)), (.int (((own_a p2) + (1 : Int32)) + (1 : Int32))), (.int (own_a p2)), (.int (7 : Int32)), (.ref b1)])) rfl (by rw [hml]; rfl) (argsL := [(.ref b1), (.int (7 : Int32)), (.int (own_a p2)), (.int (((own_a p2) + (1 : Int32)) + (1 : Int32))), (.int (own_f p3))]) (rest := []) (lenOf pd_law_1 rfl) rfl (by show 2 * 0 + _ ≤ _; exact Nat.le_of_eq rfl) (hb hby at_246) (fun _ _ => ⟨rfl, e57, (by decide : 1 + 0 ≤ _), (by decide : 8 + 0 ≤ _)⟩)
      dsimp only [Pt.U, Pt.locs, Pt.cells, Pt.slots] at X59 l59 y59 z59 st59 hQ59
      subst l59 y59 z59
      obtain ⟨rfl, N59q, e59⟩ := hQ59
      have N59 := Fr.app N57 N59q
      have pr61 : ∀ t, Steps p.tables e below (T59.setTop (mkF m 259 #[.val (.int p1), .val (.int p2), .val (.int p3), .val (.int (own_cc p1)), .val (.int (own_a p2)), .val (.int (own_f p3)), .val (.ref b1), .val (.int (2 : Int32)), .val (.int (((own_a p2) + (1 : Int32)) + (1 : Int32))), .val (.int (1 : Int32)), .unset] [])) t → Steps p.tables e below (s₁.setTop (entryFrame m #[(.int p1), (.int p2), (.int p3)] maxLocals)) t := fun t kt => pr60 t (by
        refine st59 _ ?_
        show Steps p.tables e below (T59.setTop (mkF m 249 #[.val (.int p1), .val (.int p2), .val (.int p3), .val (.int (own_cc p1)), .val (.int (own_a p2)), .val (.int (own_f p3)), .val (.ref b1), .val (.int (2 : Int32)), .val (.int (((own_a p2) + (1 : Int32)) + (1 : Int32))), .unset, .unset] [(.int (1 : Int32))])) _
        refine XS.ifNo X59.here hx rfl (hb hby at_249) rfl ((if0 _ _).trans (feq (by decide : ¬ ((1 : Int32) = (0 : Int32)))).1) ?_
        show Steps p.tables e below (T59.setTop (mkF m 252 #[.val (.int p1), .val (.int p2), .val (.int p3), .val (.int (own_cc p1)), .val (.int (own_a p2)), .val (.int (own_f p3)), .val (.ref b1), .val (.int (2 : Int32)), .val (.int (((own_a p2) + (1 : Int32)) + (1 : Int32))), .unset, .unset] [])) _
        refine XS.iconst X59.here hx rfl (hb hby at_252) ?_
        show Steps p.tables e below (T59.setTop (mkF m 253 #[.val (.int p1), .val (.int p2), .val (.int p3), .val (.int (own_cc p1)), .val (.int (own_a p2)), .val (.int (own_f p3)), .val (.ref b1), .val (.int (2 : Int32)), .val (.int (((own_a p2) + (1 : Int32)) + (1 : Int32))), .unset, .unset] [(.int (1 : Int32))])) _
        refine XS.goto X59.here hx rfl (pc0 := 253) (pc' := 257) rfl (hb hby at_253) (by decide) (by decide) ?_
        show Steps p.tables e below (T59.setTop (mkF m 257 #[.val (.int p1), .val (.int p2), .val (.int p3), .val (.int (own_cc p1)), .val (.int (own_a p2)), .val (.int (own_f p3)), .val (.ref b1), .val (.int (2 : Int32)), .val (.int (((own_a p2) + (1 : Int32)) + (1 : Int32))), .unset, .unset] [(.int (1 : Int32))])) _
        refine XS.istore X59.here hx rfl (hb hby at_257) rfl (l' := #[.val (.int p1), .val (.int p2), .val (.int p3), .val (.int (own_cc p1)), .val (.int (own_a p2)), .val (.int (own_f p3)), .val (.ref b1), .val (.int (2 : Int32)), .val (.int (((own_a p2) + (1 : Int32)) + (1 : Int32))), .val (.int (1 : Int32)), .unset]) rfl ?_
        show Steps p.tables e below (T59.setTop (mkF m 259 #[.val (.int p1), .val (.int p2), .val (.int p3), .val (.int (own_cc p1)), .val (.int (own_a p2)), .val (.int (own_f p3)), .val (.ref b1), .val (.int (2 : Int32)), .val (.int (((own_a p2) + (1 : Int32)) + (1 : Int32))), .val (.int (1 : Int32)), .unset] [])) _
        exact kt)
      obtain ⟨cl, Ar, Sz, Hs⟩ := id V43
      have pr63 : ∀ t, Steps p.tables e below (T59.setTop (mkF m 296 #[.val (.int p1), .val (.int p2), .val (.int p3), .val (.int (own_cc p1)), .val (.int (own_a p2)), .val (.int (own_f p3)), .val (.ref b1), .val (.int (2 : Int32)), .val (.int (((own_a p2) + (1 : Int32)) + (1 : Int32))), .val (.int (1 : Int32)), .unset] [(.int ((own_w2 (own_cc p1) (own_a p2) (fun _ => own_f p3)) (own_a p2)))])) t → Steps p.tables e below (s₁.setTop (entryFrame m #[(.int p1), (.int p2), (.int p3)] maxLocals)) t := fun t kt => pr61 t (by
        show Steps p.tables e below (T59.setTop (mkF m 259 #[.val (.int p1), .val (.int p2), .val (.int p3), .val (.int (own_cc p1)), .val (.int (own_a p2)), .val (.int (own_f p3)), .val (.ref b1), .val (.int (2 : Int32)), .val (.int (((own_a p2) + (1 : Int32)) + (1 : Int32))), .val (.int (1 : Int32)), .unset] [])) _
        refine XS.iload X59.here hx rfl (hb hby at_259) rfl ?_
        show Steps p.tables e below (T59.setTop (mkF m 261 #[.val (.int p1), .val (.int p2), .val (.int p3), .val (.int (own_cc p1)), .val (.int (own_a p2)), .val (.int (own_f p3)), .val (.ref b1), .val (.int (2 : Int32)), .val (.int (((own_a p2) + (1 : Int32)) + (1 : Int32))), .val (.int (1 : Int32)), .unset] [(.int (2 : Int32))])) _
        refine XS.iconst X59.here hx rfl (hb hby at_261) ?_
        show Steps p.tables e below (T59.setTop (mkF m 262 #[.val (.int p1), .val (.int p2), .val (.int p3), .val (.int (own_cc p1)), .val (.int (own_a p2)), .val (.int (own_f p3)), .val (.ref b1), .val (.int (2 : Int32)), .val (.int (((own_a p2) + (1 : Int32)) + (1 : Int32))), .val (.int (1 : Int32)), .unset] [(.int (1 : Int32)), (.int (2 : Int32))])) _
        refine XS.icmpYes X59.here hx rfl (pc0 := 262) (pc' := 286) rfl (hb hby at_262) rfl (feq (by decide : ¬ ((2 : Int32) = (1 : Int32)))).2 (by decide) (by decide) ?_
        show Steps p.tables e below (T59.setTop (mkF m 286 #[.val (.int p1), .val (.int p2), .val (.int p3), .val (.int (own_cc p1)), .val (.int (own_a p2)), .val (.int (own_f p3)), .val (.ref b1), .val (.int (2 : Int32)), .val (.int (((own_a p2) + (1 : Int32)) + (1 : Int32))), .val (.int (1 : Int32)), .unset] [])) _
        refine XS.iload X59.here hx rfl (hb hby at_286) rfl ?_
        show Steps p.tables e below (T59.setTop (mkF m 288 #[.val (.int p1), .val (.int p2), .val (.int p3), .val (.int (own_cc p1)), .val (.int (own_a p2)), .val (.int (own_f p3)), .val (.ref b1), .val (.int (2 : Int32)), .val (.int (((own_a p2) + (1 : Int32)) + (1 : Int32))), .val (.int (1 : Int32)), .unset] [(.int (1 : Int32))])) _
        refine XS.ifNo X59.here hx rfl (hb hby at_288) rfl ((if0 _ _).trans (feq (by decide : ¬ ((1 : Int32) = (0 : Int32)))).1) ?_
        show Steps p.tables e below (T59.setTop (mkF m 291 #[.val (.int p1), .val (.int p2), .val (.int p3), .val (.int (own_cc p1)), .val (.int (own_a p2)), .val (.int (own_f p3)), .val (.ref b1), .val (.int (2 : Int32)), .val (.int (((own_a p2) + (1 : Int32)) + (1 : Int32))), .val (.int (1 : Int32)), .unset] [])) _
        refine XS.aload X59.here hx rfl (hb hby at_291) rfl rfl ?_
        show Steps p.tables e below (T59.setTop (mkF m 293 #[.val (.int p1), .val (.int p2), .val (.int p3), .val (.int (own_cc p1)), .val (.int (own_a p2)), .val (.int (own_f p3)), .val (.ref b1), .val (.int (2 : Int32)), .val (.int (((own_a p2) + (1 : Int32)) + (1 : Int32))), .val (.int (1 : Int32)), .unset] [(.ref b1)])) _
        refine XS.iload X59.here hx rfl (hb hby at_293) rfl ?_
        show Steps p.tables e below (T59.setTop (mkF m 295 #[.val (.int p1), .val (.int p2), .val (.int p3), .val (.int (own_cc p1)), .val (.int (own_a p2)), .val (.int (own_f p3)), .val (.ref b1), .val (.int (2 : Int32)), .val (.int (((own_a p2) + (1 : Int32)) + (1 : Int32))), .val (.int (1 : Int32)), .unset] [(.int (own_a p2)), (.ref b1)])) _
        refine X59.baloadBytes hx (j := (own_a p2)) (v := (.int ((own_w2 (own_cc p1) (own_a p2) (fun _ => own_f p3)) (own_a p2)))) (by rw [e59]; exact Ar.1) (State.isArrayOf_alike hZ.alike Ar.2.1) Ar.2.2 (own_in Sz (own_ix0 (own_ai p2))) (Hs (own_a p2) (own_ix0 (own_ai p2)).1 (own_ix0 (own_ai p2)).2) (g := (mkF m 295 #[.val (.int p1), .val (.int p2), .val (.int p3), .val (.int (own_cc p1)), .val (.int (own_a p2)), .val (.int (own_f p3)), .val (.ref b1), .val (.int (2 : Int32)), .val (.int (((own_a p2) + (1 : Int32)) + (1 : Int32))), .val (.int (1 : Int32)), .unset] [(.int (own_a p2)), (.ref b1)])) rfl rfl (hb hby at_295) _ ?_
        show Steps p.tables e below (T59.setTop (mkF m 296 #[.val (.int p1), .val (.int p2), .val (.int p3), .val (.int (own_cc p1)), .val (.int (own_a p2)), .val (.int (own_f p3)), .val (.ref b1), .val (.int (2 : Int32)), .val (.int (((own_a p2) + (1 : Int32)) + (1 : Int32))), .val (.int (1 : Int32)), .unset] [(.int ((own_w2 (own_cc p1) (own_a p2) (fun _ => own_f p3)) (own_a p2)))])) _
        exact kt)
      obtain ⟨_, _, ⟨T62, L62, k62, n62⟩, -, X62, ⟨Lc62, hQ62, l62, y62, z62⟩, st62⟩ := Jvm.LawKit.callS X59 hx (y := (⟨"com/example/nuthatch/nuthatch/Utf8", "sequenceLength", "(B)I"⟩ : MethodName)) hown (mvT hZ (hw _ (List.mem_of_getElem? (i := 11) rfl))) (mvT hZ (hw _ (List.mem_of_getElem? (i := 12) rfl))) (mvT hZ (hw _ (List.mem_of_getElem? (i := 5) rfl))) (mvT hZ (hw _ (List.mem_of_getElem? (i := 13) rfl))) (by decide) (backOf (W := 0) (rm_sl l Z a0 hw [] ((own_w2 (own_cc p1) (own_a p2) (fun _ => own_f p3)) (own_a p2)) T43.heap n0 (Nat.le_trans Z17 s43) ) hZ (hw _ (List.mem_of_getElem? (i := 13) rfl)) (hw _ (List.mem_of_getElem? (i := 5) rfl)) (by decide) (by decide)) (g := (mkF m 296 #[.val (.int p1), .val (.int p2), .val (.int p3), .val (.int (own_cc p1)), .val (.int (own_a p2)), .val (.int (own_f p3)), .val (.ref b1), .val (.int (2 : Int32)), .val (.int (((own_a p2) + (1 : Int32)) + (1 : Int32))), .val (.int (1 : Int32)), .unset] [(.int ((own_w2 (own_cc p1) (own_a p2) (fun _ => own_f p3)) (own_a p2)))])) rfl (by rw [hml]; rfl) (argsL := [(.int ((own_w2 (own_cc p1) (own_a p2) (fun _ => own_f p3)) (own_a p2)))]) (rest := []) (lenOf pd_law_2 rfl) rfl (by show 2 * 0 + _ ≤ _; exact Nat.le_of_eq rfl) (hb hby at_296) (fun _ _ => ⟨rfl, e59, (by decide : 1 + 0 ≤ _), (by decide : 8 + 0 ≤ _)⟩)
      dsimp only [Pt.U, Pt.locs, Pt.cells, Pt.slots] at X62 l62 y62 z62 st62 hQ62
      subst l62 y62 z62
      obtain ⟨rfl, N62q, e62⟩ := hQ62
      have N62 := Fr.app N59 N62q
      have pr65 : ∀ t, Steps p.tables e below (T62.setTop (mkF m 423 #[.val (.int p1), .val (.int p2), .val (.int p3), .val (.int (own_cc p1)), .val (.int (own_a p2)), .val (.int (own_f p3)), .val (.ref b1), .val (.int (2 : Int32)), .val (.int (((own_a p2) + (1 : Int32)) + (1 : Int32))), .val (.int (1 : Int32)), .unset] [(.int (2 : Int32)), (.int (own_a p2)), (.ref b1)])) t → Steps p.tables e below (s₁.setTop (entryFrame m #[(.int p1), (.int p2), (.int p3)] maxLocals)) t := fun t kt => pr63 t (by
        refine st62 _ ?_
        show Steps p.tables e below (T62.setTop (mkF m 299 #[.val (.int p1), .val (.int p2), .val (.int p3), .val (.int (own_cc p1)), .val (.int (own_a p2)), .val (.int (own_f p3)), .val (.ref b1), .val (.int (2 : Int32)), .val (.int (((own_a p2) + (1 : Int32)) + (1 : Int32))), .val (.int (1 : Int32)), .unset] [(.int (own_sl ((own_w2 (own_cc p1) (own_a p2) (fun _ => own_f p3)) (own_a p2))))])) _
        refine XS.iload X62.here hx rfl (hb hby at_299) rfl ?_
        show Steps p.tables e below (T62.setTop (mkF m 301 #[.val (.int p1), .val (.int p2), .val (.int p3), .val (.int (own_cc p1)), .val (.int (own_a p2)), .val (.int (own_f p3)), .val (.ref b1), .val (.int (2 : Int32)), .val (.int (((own_a p2) + (1 : Int32)) + (1 : Int32))), .val (.int (1 : Int32)), .unset] [(.int (2 : Int32)), (.int (own_sl ((own_w2 (own_cc p1) (own_a p2) (fun _ => own_f p3)) (own_a p2))))])) _
        refine XS.icmpNo X62.here hx rfl (hb hby at_301) rfl (teq ((congrArg own_sl (own_v20 (own_ai p2))).trans (own_sl2 _ (own_ge hc77_20) (own_lt hc88_41)) : (own_sl ((own_w2 (own_cc p1) (own_a p2) (fun _ => own_f p3)) (own_a p2))) = (2 : Int32))).2 ?_
        show Steps p.tables e below (T62.setTop (mkF m 304 #[.val (.int p1), .val (.int p2), .val (.int p3), .val (.int (own_cc p1)), .val (.int (own_a p2)), .val (.int (own_f p3)), .val (.ref b1), .val (.int (2 : Int32)), .val (.int (((own_a p2) + (1 : Int32)) + (1 : Int32))), .val (.int (1 : Int32)), .unset] [])) _
        refine XS.iconst X62.here hx rfl (hb hby at_304) ?_
        show Steps p.tables e below (T62.setTop (mkF m 305 #[.val (.int p1), .val (.int p2), .val (.int p3), .val (.int (own_cc p1)), .val (.int (own_a p2)), .val (.int (own_f p3)), .val (.ref b1), .val (.int (2 : Int32)), .val (.int (((own_a p2) + (1 : Int32)) + (1 : Int32))), .val (.int (1 : Int32)), .unset] [(.int (1 : Int32))])) _
        refine XS.goto X62.here hx rfl (pc0 := 305) (pc' := 309) rfl (hb hby at_305) (by decide) (by decide) ?_
        show Steps p.tables e below (T62.setTop (mkF m 309 #[.val (.int p1), .val (.int p2), .val (.int p3), .val (.int (own_cc p1)), .val (.int (own_a p2)), .val (.int (own_f p3)), .val (.ref b1), .val (.int (2 : Int32)), .val (.int (((own_a p2) + (1 : Int32)) + (1 : Int32))), .val (.int (1 : Int32)), .unset] [(.int (1 : Int32))])) _
        refine XS.istore X62.here hx rfl (hb hby at_309) rfl (l' := #[.val (.int p1), .val (.int p2), .val (.int p3), .val (.int (own_cc p1)), .val (.int (own_a p2)), .val (.int (own_f p3)), .val (.ref b1), .val (.int (2 : Int32)), .val (.int (((own_a p2) + (1 : Int32)) + (1 : Int32))), .val (.int (1 : Int32)), .unset]) rfl ?_
        show Steps p.tables e below (T62.setTop (mkF m 311 #[.val (.int p1), .val (.int p2), .val (.int p3), .val (.int (own_cc p1)), .val (.int (own_a p2)), .val (.int (own_f p3)), .val (.ref b1), .val (.int (2 : Int32)), .val (.int (((own_a p2) + (1 : Int32)) + (1 : Int32))), .val (.int (1 : Int32)), .unset] [])) _
        refine XS.iloadN X62.here hx rfl (hb hby at_311) rfl ?_
        show Steps p.tables e below (T62.setTop (mkF m 312 #[.val (.int p1), .val (.int p2), .val (.int p3), .val (.int (own_cc p1)), .val (.int (own_a p2)), .val (.int (own_f p3)), .val (.ref b1), .val (.int (2 : Int32)), .val (.int (((own_a p2) + (1 : Int32)) + (1 : Int32))), .val (.int (1 : Int32)), .unset] [(.int (own_cc p1))])) _
        refine X62.ldcInt hx hown (mvT hZ (hw _ (List.mem_of_getElem? (i := 14) rfl))) (g := (mkF m 312 #[.val (.int p1), .val (.int p2), .val (.int p3), .val (.int (own_cc p1)), .val (.int (own_a p2)), .val (.int (own_f p3)), .val (.ref b1), .val (.int (2 : Int32)), .val (.int (((own_a p2) + (1 : Int32)) + (1 : Int32))), .val (.int (1 : Int32)), .unset] [(.int (own_cc p1))])) rfl (hb hby at_312) _ ?_
        show Steps p.tables e below (T62.setTop (mkF m 314 #[.val (.int p1), .val (.int p2), .val (.int p3), .val (.int (own_cc p1)), .val (.int (own_a p2)), .val (.int (own_f p3)), .val (.ref b1), .val (.int (2 : Int32)), .val (.int (((own_a p2) + (1 : Int32)) + (1 : Int32))), .val (.int (1 : Int32)), .unset] [(.int (55296 : Int32)), (.int (own_cc p1))])) _
        refine XS.icmpYes X62.here hx rfl (pc0 := 314) (pc' := 412) rfl (hb hby at_314) rfl (tlt (own_lt_trans hc88_41 (by decide) : (own_cc p1) < (55296 : Int32))).1 (by decide) (by decide) ?_
        show Steps p.tables e below (T62.setTop (mkF m 412 #[.val (.int p1), .val (.int p2), .val (.int p3), .val (.int (own_cc p1)), .val (.int (own_a p2)), .val (.int (own_f p3)), .val (.ref b1), .val (.int (2 : Int32)), .val (.int (((own_a p2) + (1 : Int32)) + (1 : Int32))), .val (.int (1 : Int32)), .unset] [])) _
        refine XS.iload X62.here hx rfl (hb hby at_412) rfl ?_
        show Steps p.tables e below (T62.setTop (mkF m 414 #[.val (.int p1), .val (.int p2), .val (.int p3), .val (.int (own_cc p1)), .val (.int (own_a p2)), .val (.int (own_f p3)), .val (.ref b1), .val (.int (2 : Int32)), .val (.int (((own_a p2) + (1 : Int32)) + (1 : Int32))), .val (.int (1 : Int32)), .unset] [(.int (1 : Int32))])) _
        refine XS.ifNo X62.here hx rfl (hb hby at_414) rfl ((if0 _ _).trans (feq (by decide : ¬ ((1 : Int32) = (0 : Int32)))).1) ?_
        show Steps p.tables e below (T62.setTop (mkF m 417 #[.val (.int p1), .val (.int p2), .val (.int p3), .val (.int (own_cc p1)), .val (.int (own_a p2)), .val (.int (own_f p3)), .val (.ref b1), .val (.int (2 : Int32)), .val (.int (((own_a p2) + (1 : Int32)) + (1 : Int32))), .val (.int (1 : Int32)), .unset] [])) _
        refine XS.aload X62.here hx rfl (hb hby at_417) rfl rfl ?_
        show Steps p.tables e below (T62.setTop (mkF m 419 #[.val (.int p1), .val (.int p2), .val (.int p3), .val (.int (own_cc p1)), .val (.int (own_a p2)), .val (.int (own_f p3)), .val (.ref b1), .val (.int (2 : Int32)), .val (.int (((own_a p2) + (1 : Int32)) + (1 : Int32))), .val (.int (1 : Int32)), .unset] [(.ref b1)])) _
        refine XS.iload X62.here hx rfl (hb hby at_419) rfl ?_
        show Steps p.tables e below (T62.setTop (mkF m 421 #[.val (.int p1), .val (.int p2), .val (.int p3), .val (.int (own_cc p1)), .val (.int (own_a p2)), .val (.int (own_f p3)), .val (.ref b1), .val (.int (2 : Int32)), .val (.int (((own_a p2) + (1 : Int32)) + (1 : Int32))), .val (.int (1 : Int32)), .unset] [(.int (own_a p2)), (.ref b1)])) _
        refine XS.iload X62.here hx rfl (hb hby at_421) rfl ?_
        show Steps p.tables e below (T62.setTop (mkF m 423 #[.val (.int p1), .val (.int p2), .val (.int p3), .val (.int (own_cc p1)), .val (.int (own_a p2)), .val (.int (own_f p3)), .val (.ref b1), .val (.int (2 : Int32)), .val (.int (((own_a p2) + (1 : Int32)) + (1 : Int32))), .val (.int (1 : Int32)), .unset] [(.int (2 : Int32)), (.int (own_a p2)), (.ref b1)])) _
        exact kt)
      obtain ⟨_, _, ⟨T64, L64, k64, n64⟩, -, X64, ⟨Lc64, hQ64, l64, y64, z64⟩, st64⟩ := Jvm.LawKit.callS X62 hx (y := (⟨"com/example/nuthatch/nuthatch/Utf8", "codePoint", "([BII)I"⟩ : MethodName)) hown (mvT hZ (hw _ (List.mem_of_getElem? (i := 15) rfl))) (mvT hZ (hw _ (List.mem_of_getElem? (i := 16) rfl))) (mvT hZ (hw _ (List.mem_of_getElem? (i := 5) rfl))) (mvT hZ (hw _ (List.mem_of_getElem? (i := 17) rfl))) (by decide) (backOf (W := 0) (rm_cp2 l Z a0 hw [] b1 (own_a p2) (2 : Int32) (own_w2 (own_cc p1) (own_a p2) (fun _ => own_f p3)) (own_cc p1) T43.heap n0 (Nat.le_trans Z17 s43) V43 (own_ai p2) rfl (own_dd2 (own_ai p2) (own_cci p1).1 (own_lt hc88_41)) (own_ff21 (own_ai p2)) hc77_20) hZ (hw _ (List.mem_of_getElem? (i := 17) rfl)) (hw _ (List.mem_of_getElem? (i := 5) rfl)) (by decide) (by decide)) (g := (mkF m 423 #[.val (.int p1), .val (.int p2), .val (.int p3), .val (.int (own_cc p1)), .val (.int (own_a p2)), .val (.int (own_f p3)), .val (.ref b1), .val (.int (2 : Int32)), .val (.int (((own_a p2) + (1 : Int32)) + (1 : Int32))), .val (.int (1 : Int32)), .unset] [(.int (2 : Int32)), (.int (own_a p2)), (.ref b1)])) rfl (by rw [hml]; rfl) (argsL := [(.ref b1), (.int (own_a p2)), (.int (2 : Int32))]) (rest := []) (lenOf pd_law_3 rfl) rfl (by show 2 * 0 + _ ≤ _; exact Nat.le_of_eq rfl) (hb hby at_423) (fun _ _ => ⟨rfl, e62, (by decide : 1 + 0 ≤ _), (by decide : 8 + 0 ≤ _)⟩)
      dsimp only [Pt.U, Pt.locs, Pt.cells, Pt.slots] at X64 l64 y64 z64 st64 hQ64
      subst l64 y64 z64
      obtain ⟨rfl, N64q, e64⟩ := hQ64
      have N64 := Fr.app N62 N64q
      obtain ⟨fs, hr, hrun, hended, hW, hsame⟩ := X64.leave (v := some (.int (nar .boolean (1 : Int32)))) (fun h => by rw [Bd.returns] at h; cases h)
      refine ⟨_, _, pr65 _ ?_, hrun, hended, _, _, rfl, ?_, ⟨_, rfl⟩, hW, hsame.mono (by decide) (by decide)⟩
      · refine st64 _ ?_
        show Steps p.tables e below (T64.setTop (mkF m 426 #[.val (.int p1), .val (.int p2), .val (.int p3), .val (.int (own_cc p1)), .val (.int (own_a p2)), .val (.int (own_f p3)), .val (.ref b1), .val (.int (2 : Int32)), .val (.int (((own_a p2) + (1 : Int32)) + (1 : Int32))), .val (.int (1 : Int32)), .unset] [(.int (own_cc p1))])) _
        refine XS.iloadN X64.here hx rfl (hb hby at_426) rfl ?_
        show Steps p.tables e below (T64.setTop (mkF m 427 #[.val (.int p1), .val (.int p2), .val (.int p3), .val (.int (own_cc p1)), .val (.int (own_a p2)), .val (.int (own_f p3)), .val (.ref b1), .val (.int (2 : Int32)), .val (.int (((own_a p2) + (1 : Int32)) + (1 : Int32))), .val (.int (1 : Int32)), .unset] [(.int (own_cc p1)), (.int (own_cc p1))])) _
        refine XS.icmpNo X64.here hx rfl (hb hby at_427) rfl (teq (rfl : (own_cc p1) = (own_cc p1))).2 ?_
        show Steps p.tables e below (T64.setTop (mkF m 430 #[.val (.int p1), .val (.int p2), .val (.int p3), .val (.int (own_cc p1)), .val (.int (own_a p2)), .val (.int (own_f p3)), .val (.ref b1), .val (.int (2 : Int32)), .val (.int (((own_a p2) + (1 : Int32)) + (1 : Int32))), .val (.int (1 : Int32)), .unset] [])) _
        refine XS.iconst X64.here hx rfl (hb hby at_430) ?_
        show Steps p.tables e below (T64.setTop (mkF m 431 #[.val (.int p1), .val (.int p2), .val (.int p3), .val (.int (own_cc p1)), .val (.int (own_a p2)), .val (.int (own_f p3)), .val (.ref b1), .val (.int (2 : Int32)), .val (.int (((own_a p2) + (1 : Int32)) + (1 : Int32))), .val (.int (1 : Int32)), .unset] [(.int (1 : Int32))])) _
        refine XS.goto X64.here hx rfl (pc0 := 431) (pc' := 435) rfl (hb hby at_431) (by decide) (by decide) ?_
        show Steps p.tables e below (T64.setTop (mkF m 435 #[.val (.int p1), .val (.int p2), .val (.int p3), .val (.int (own_cc p1)), .val (.int (own_a p2)), .val (.int (own_f p3)), .val (.ref b1), .val (.int (2 : Int32)), .val (.int (((own_a p2) + (1 : Int32)) + (1 : Int32))), .val (.int (1 : Int32)), .unset] [(.int (1 : Int32))])) _
        exact retN X64 hx (t := .boolean) Bd.returns (by simp) (hb hby at_435) hr
      · show Q_law Z p1 p2 p3 h0 n0 _ T64.heap _
        rw [e64]
        exact ⟨(congrArg (fun zz => some (Value.int zz)) (by rfl : nar .boolean (1 : Int32) = (1 : Int32))), N64⟩
    · have pr67 : ∀ t, Steps p.tables e below (T17.setTop (mkF m 98 #[.val (.int p1), .val (.int p2), .val (.int p3), .val (.int (own_cc p1)), .val (.int (own_a p2)), .val (.int (own_f p3)), .val (.ref b1), .unset, .unset, .unset, .unset] [(.int (65536 : Int32)), (.int (own_cc p1))])) t → Steps p.tables e below (s₁.setTop (entryFrame m #[(.int p1), (.int p2), (.int p3)] maxLocals)) t := fun t kt => pr42 t (by
        show Steps p.tables e below (T17.setTop (mkF m 88 #[.val (.int p1), .val (.int p2), .val (.int p3), .val (.int (own_cc p1)), .val (.int (own_a p2)), .val (.int (own_f p3)), .val (.ref b1), .unset, .unset, .unset, .unset] [(.int (2048 : Int32)), (.int (own_cc p1))])) _
        refine XS.icmpYes X17.here hx rfl (pc0 := 88) (pc' := 95) rfl (hb hby at_88) rfl (flt hc88_41).2.1 (by decide) (by decide) ?_
        show Steps p.tables e below (T17.setTop (mkF m 95 #[.val (.int p1), .val (.int p2), .val (.int p3), .val (.int (own_cc p1)), .val (.int (own_a p2)), .val (.int (own_f p3)), .val (.ref b1), .unset, .unset, .unset, .unset] [])) _
        refine XS.iloadN X17.here hx rfl (hb hby at_95) rfl ?_
        show Steps p.tables e below (T17.setTop (mkF m 96 #[.val (.int p1), .val (.int p2), .val (.int p3), .val (.int (own_cc p1)), .val (.int (own_a p2)), .val (.int (own_f p3)), .val (.ref b1), .unset, .unset, .unset, .unset] [(.int (own_cc p1))])) _
        refine X17.ldcInt hx hown (mvT hZ (hw _ (List.mem_of_getElem? (i := 21) rfl))) (g := (mkF m 96 #[.val (.int p1), .val (.int p2), .val (.int p3), .val (.int (own_cc p1)), .val (.int (own_a p2)), .val (.int (own_f p3)), .val (.ref b1), .unset, .unset, .unset, .unset] [(.int (own_cc p1))])) rfl (hb hby at_96) _ ?_
        exact kt)
      by_cases hc98_66 : (own_cc p1) < (65536 : Int32)
      · have pr69 : ∀ t, Steps p.tables e below (T17.setTop (mkF m 113 #[.val (.int p1), .val (.int p2), .val (.int p3), .val (.int (own_cc p1)), .val (.int (own_a p2)), .val (.int (own_f p3)), .val (.ref b1), .val (.int (3 : Int32)), .unset, .unset, .unset] [(.int (own_a p2)), (.ref b1), (.int (own_cc p1))])) t → Steps p.tables e below (s₁.setTop (entryFrame m #[(.int p1), (.int p2), (.int p3)] maxLocals)) t := fun t kt => pr67 t (by
          show Steps p.tables e below (T17.setTop (mkF m 98 #[.val (.int p1), .val (.int p2), .val (.int p3), .val (.int (own_cc p1)), .val (.int (own_a p2)), .val (.int (own_f p3)), .val (.ref b1), .unset, .unset, .unset, .unset] [(.int (65536 : Int32)), (.int (own_cc p1))])) _
          refine XS.icmpNo X17.here hx rfl (hb hby at_98) rfl (tlt hc98_66).2.1 ?_
          show Steps p.tables e below (T17.setTop (mkF m 101 #[.val (.int p1), .val (.int p2), .val (.int p3), .val (.int (own_cc p1)), .val (.int (own_a p2)), .val (.int (own_f p3)), .val (.ref b1), .unset, .unset, .unset, .unset] [])) _
          refine XS.iconst X17.here hx rfl (hb hby at_101) ?_
          show Steps p.tables e below (T17.setTop (mkF m 102 #[.val (.int p1), .val (.int p2), .val (.int p3), .val (.int (own_cc p1)), .val (.int (own_a p2)), .val (.int (own_f p3)), .val (.ref b1), .unset, .unset, .unset, .unset] [(.int (3 : Int32))])) _
          refine XS.goto X17.here hx rfl (pc0 := 102) (pc' := 106) rfl (hb hby at_102) (by decide) (by decide) ?_
          show Steps p.tables e below (T17.setTop (mkF m 106 #[.val (.int p1), .val (.int p2), .val (.int p3), .val (.int (own_cc p1)), .val (.int (own_a p2)), .val (.int (own_f p3)), .val (.ref b1), .unset, .unset, .unset, .unset] [(.int (3 : Int32))])) _
          refine XS.istore X17.here hx rfl (hb hby at_106) rfl (l' := #[.val (.int p1), .val (.int p2), .val (.int p3), .val (.int (own_cc p1)), .val (.int (own_a p2)), .val (.int (own_f p3)), .val (.ref b1), .val (.int (3 : Int32)), .unset, .unset, .unset]) rfl ?_
          show Steps p.tables e below (T17.setTop (mkF m 108 #[.val (.int p1), .val (.int p2), .val (.int p3), .val (.int (own_cc p1)), .val (.int (own_a p2)), .val (.int (own_f p3)), .val (.ref b1), .val (.int (3 : Int32)), .unset, .unset, .unset] [])) _
          refine XS.iloadN X17.here hx rfl (hb hby at_108) rfl ?_
          show Steps p.tables e below (T17.setTop (mkF m 109 #[.val (.int p1), .val (.int p2), .val (.int p3), .val (.int (own_cc p1)), .val (.int (own_a p2)), .val (.int (own_f p3)), .val (.ref b1), .val (.int (3 : Int32)), .unset, .unset, .unset] [(.int (own_cc p1))])) _
          refine XS.aload X17.here hx rfl (hb hby at_109) rfl rfl ?_
          show Steps p.tables e below (T17.setTop (mkF m 111 #[.val (.int p1), .val (.int p2), .val (.int p3), .val (.int (own_cc p1)), .val (.int (own_a p2)), .val (.int (own_f p3)), .val (.ref b1), .val (.int (3 : Int32)), .unset, .unset, .unset] [(.ref b1), (.int (own_cc p1))])) _
          refine XS.iload X17.here hx rfl (hb hby at_111) rfl ?_
          show Steps p.tables e below (T17.setTop (mkF m 113 #[.val (.int p1), .val (.int p2), .val (.int p3), .val (.int (own_cc p1)), .val (.int (own_a p2)), .val (.int (own_f p3)), .val (.ref b1), .val (.int (3 : Int32)), .unset, .unset, .unset] [(.int (own_a p2)), (.ref b1), (.int (own_cc p1))])) _
          exact kt)
        obtain ⟨_, _, ⟨T68, L68, k68, n68⟩, -, X68, ⟨Lc68, hQ68, l68, y68, z68⟩, st68⟩ := Jvm.LawKit.callS X17 hx (y := (⟨"com/example/nuthatch/nuthatch/Utf8", "write", "(I[BI)I"⟩ : MethodName)) hown (mvT hZ (hw _ (List.mem_of_getElem? (i := 3) rfl))) (mvT hZ (hw _ (List.mem_of_getElem? (i := 4) rfl))) (mvT hZ (hw _ (List.mem_of_getElem? (i := 5) rfl))) (mvT hZ (hw _ (List.mem_of_getElem? (i := 6) rfl))) (by decide) (backOf (W := 0) (rm_w3 l Z a0 hw [] (own_cc p1) b1 (own_a p2) (fun _ => own_f p3) h17 n0 Z17 Vf (own_ai p2) g_b1 hc77_20 hc88_41 hc98_66) hZ (hw _ (List.mem_of_getElem? (i := 6) rfl)) (hw _ (List.mem_of_getElem? (i := 5) rfl)) (by decide) (by decide)) (g := (mkF m 113 #[.val (.int p1), .val (.int p2), .val (.int p3), .val (.int (own_cc p1)), .val (.int (own_a p2)), .val (.int (own_f p3)), .val (.ref b1), .val (.int (3 : Int32)), .unset, .unset, .unset] [(.int (own_a p2)), (.ref b1), (.int (own_cc p1))])) rfl (by rw [hml]; rfl) (argsL := [(.int (own_cc p1)), (.ref b1), (.int (own_a p2))]) (rest := []) (lenOf pd_law_0 rfl) rfl (by show 2 * 0 + _ ≤ _; exact Nat.le_of_eq rfl) (hb hby at_113) (fun _ _ => ⟨rfl, e17, (by decide : 1 + 0 ≤ _), (by decide : 8 + 0 ≤ _)⟩)
        dsimp only [Pt.U, Pt.locs, Pt.cells, Pt.slots] at X68 l68 y68 z68 st68 hQ68
        subst l68 y68 z68
        obtain ⟨rfl, N68q, V68, s68⟩ := hQ68
        have N68 := Fr.app N17 N68q
        have pr71 : ∀ t, Steps p.tables e below (T68.setTop (mkF m 139 #[.val (.int p1), .val (.int p2), .val (.int p3), .val (.int (own_cc p1)), .val (.int (own_a p2)), .val (.int (own_f p3)), .val (.ref b1), .val (.int (3 : Int32)), .val (.int ((((own_a p2) + (1 : Int32)) + (1 : Int32)) + (1 : Int32))), .unset, .unset] [(.int (own_f p3)), (.int ((((own_a p2) + (1 : Int32)) + (1 : Int32)) + (1 : Int32))), (.int (own_a p2)), (.int (0 : Int32)), (.ref b1)])) t → Steps p.tables e below (s₁.setTop (entryFrame m #[(.int p1), (.int p2), (.int p3)] maxLocals)) t := fun t kt => pr69 t (by
          refine st68 _ ?_
          show Steps p.tables e below (T68.setTop (mkF m 116 #[.val (.int p1), .val (.int p2), .val (.int p3), .val (.int (own_cc p1)), .val (.int (own_a p2)), .val (.int (own_f p3)), .val (.ref b1), .val (.int (3 : Int32)), .unset, .unset, .unset] [(.int ((((own_a p2) + (1 : Int32)) + (1 : Int32)) + (1 : Int32)))])) _
          refine XS.istore X68.here hx rfl (hb hby at_116) rfl (l' := #[.val (.int p1), .val (.int p2), .val (.int p3), .val (.int (own_cc p1)), .val (.int (own_a p2)), .val (.int (own_f p3)), .val (.ref b1), .val (.int (3 : Int32)), .val (.int ((((own_a p2) + (1 : Int32)) + (1 : Int32)) + (1 : Int32))), .unset, .unset]) rfl ?_
          show Steps p.tables e below (T68.setTop (mkF m 118 #[.val (.int p1), .val (.int p2), .val (.int p3), .val (.int (own_cc p1)), .val (.int (own_a p2)), .val (.int (own_f p3)), .val (.ref b1), .val (.int (3 : Int32)), .val (.int ((((own_a p2) + (1 : Int32)) + (1 : Int32)) + (1 : Int32))), .unset, .unset] [])) _
          refine XS.iload X68.here hx rfl (hb hby at_118) rfl ?_
          show Steps p.tables e below (T68.setTop (mkF m 120 #[.val (.int p1), .val (.int p2), .val (.int p3), .val (.int (own_cc p1)), .val (.int (own_a p2)), .val (.int (own_f p3)), .val (.ref b1), .val (.int (3 : Int32)), .val (.int ((((own_a p2) + (1 : Int32)) + (1 : Int32)) + (1 : Int32))), .unset, .unset] [(.int ((((own_a p2) + (1 : Int32)) + (1 : Int32)) + (1 : Int32)))])) _
          refine XS.iload X68.here hx rfl (hb hby at_120) rfl ?_
          show Steps p.tables e below (T68.setTop (mkF m 122 #[.val (.int p1), .val (.int p2), .val (.int p3), .val (.int (own_cc p1)), .val (.int (own_a p2)), .val (.int (own_f p3)), .val (.ref b1), .val (.int (3 : Int32)), .val (.int ((((own_a p2) + (1 : Int32)) + (1 : Int32)) + (1 : Int32))), .unset, .unset] [(.int (own_a p2)), (.int ((((own_a p2) + (1 : Int32)) + (1 : Int32)) + (1 : Int32)))])) _
          refine XS.iload X68.here hx rfl (hb hby at_122) rfl ?_
          show Steps p.tables e below (T68.setTop (mkF m 124 #[.val (.int p1), .val (.int p2), .val (.int p3), .val (.int (own_cc p1)), .val (.int (own_a p2)), .val (.int (own_f p3)), .val (.ref b1), .val (.int (3 : Int32)), .val (.int ((((own_a p2) + (1 : Int32)) + (1 : Int32)) + (1 : Int32))), .unset, .unset] [(.int (3 : Int32)), (.int (own_a p2)), (.int ((((own_a p2) + (1 : Int32)) + (1 : Int32)) + (1 : Int32)))])) _
          refine XS.iadd X68.here hx rfl (hb hby at_124) rfl ?_
          show Steps p.tables e below (T68.setTop (mkF m 125 #[.val (.int p1), .val (.int p2), .val (.int p3), .val (.int (own_cc p1)), .val (.int (own_a p2)), .val (.int (own_f p3)), .val (.ref b1), .val (.int (3 : Int32)), .val (.int ((((own_a p2) + (1 : Int32)) + (1 : Int32)) + (1 : Int32))), .unset, .unset] [(.int ((own_a p2) + (3 : Int32))), (.int ((((own_a p2) + (1 : Int32)) + (1 : Int32)) + (1 : Int32)))])) _
          refine XS.icmpYes X68.here hx rfl (pc0 := 125) (pc' := 130) rfl (hb hby at_125) rfl (teq (own_s3 : ((((own_a p2) + (1 : Int32)) + (1 : Int32)) + (1 : Int32)) = ((own_a p2) + (3 : Int32)))).1 (by decide) (by decide) ?_
          show Steps p.tables e below (T68.setTop (mkF m 130 #[.val (.int p1), .val (.int p2), .val (.int p3), .val (.int (own_cc p1)), .val (.int (own_a p2)), .val (.int (own_f p3)), .val (.ref b1), .val (.int (3 : Int32)), .val (.int ((((own_a p2) + (1 : Int32)) + (1 : Int32)) + (1 : Int32))), .unset, .unset] [])) _
          refine XS.aload X68.here hx rfl (hb hby at_130) rfl rfl ?_
          show Steps p.tables e below (T68.setTop (mkF m 132 #[.val (.int p1), .val (.int p2), .val (.int p3), .val (.int (own_cc p1)), .val (.int (own_a p2)), .val (.int (own_f p3)), .val (.ref b1), .val (.int (3 : Int32)), .val (.int ((((own_a p2) + (1 : Int32)) + (1 : Int32)) + (1 : Int32))), .unset, .unset] [(.ref b1)])) _
          refine XS.iconst X68.here hx rfl (hb hby at_132) ?_
          show Steps p.tables e below (T68.setTop (mkF m 133 #[.val (.int p1), .val (.int p2), .val (.int p3), .val (.int (own_cc p1)), .val (.int (own_a p2)), .val (.int (own_f p3)), .val (.ref b1), .val (.int (3 : Int32)), .val (.int ((((own_a p2) + (1 : Int32)) + (1 : Int32)) + (1 : Int32))), .unset, .unset] [(.int (0 : Int32)), (.ref b1)])) _
          refine XS.iload X68.here hx rfl (hb hby at_133) rfl ?_
          show Steps p.tables e below (T68.setTop (mkF m 135 #[.val (.int p1), .val (.int p2), .val (.int p3), .val (.int (own_cc p1)), .val (.int (own_a p2)), .val (.int (own_f p3)), .val (.ref b1), .val (.int (3 : Int32)), .val (.int ((((own_a p2) + (1 : Int32)) + (1 : Int32)) + (1 : Int32))), .unset, .unset] [(.int (own_a p2)), (.int (0 : Int32)), (.ref b1)])) _
          refine XS.iload X68.here hx rfl (hb hby at_135) rfl ?_
          show Steps p.tables e below (T68.setTop (mkF m 137 #[.val (.int p1), .val (.int p2), .val (.int p3), .val (.int (own_cc p1)), .val (.int (own_a p2)), .val (.int (own_f p3)), .val (.ref b1), .val (.int (3 : Int32)), .val (.int ((((own_a p2) + (1 : Int32)) + (1 : Int32)) + (1 : Int32))), .unset, .unset] [(.int ((((own_a p2) + (1 : Int32)) + (1 : Int32)) + (1 : Int32))), (.int (own_a p2)), (.int (0 : Int32)), (.ref b1)])) _
          refine XS.iload X68.here hx rfl (hb hby at_137) rfl ?_
          show Steps p.tables e below (T68.setTop (mkF m 139 #[.val (.int p1), .val (.int p2), .val (.int p3), .val (.int (own_cc p1)), .val (.int (own_a p2)), .val (.int (own_f p3)), .val (.ref b1), .val (.int (3 : Int32)), .val (.int ((((own_a p2) + (1 : Int32)) + (1 : Int32)) + (1 : Int32))), .unset, .unset] [(.int (own_f p3)), (.int ((((own_a p2) + (1 : Int32)) + (1 : Int32)) + (1 : Int32))), (.int (own_a p2)), (.int (0 : Int32)), (.ref b1)])) _
          exact kt)
        obtain ⟨_, _, ⟨T70, L70, k70, n70⟩, -, X70, ⟨Lc70, hQ70, l70, y70, z70⟩, st70⟩ := Jvm.LawKit.callS X68 hx (y := (⟨"com/example/nuthatch/nuthatch/Utf8WritePinLaw", "kept", "([BIIIB)Z"⟩ : MethodName)) hown (mvT hZ (hw _ (List.mem_of_getElem? (i := 7) rfl))) (mvT hZ (hw _ (List.mem_of_getElem? (i := 8) rfl))) (mvT hZ (hw _ (List.mem_of_getElem? (i := 9) rfl))) (mvT hZ (hw _ (List.mem_of_getElem? (i := 10) rfl))) (by decide) (backOf (W := 0) (rm_kt l Z a0 hw [] b1 (0 : Int32) (own_a p2) ((((own_a p2) + (1 : Int32)) + (1 : Int32)) + (1 : Int32)) (own_f p3) (own_w3 (own_cc p1) (own_a p2) (fun _ => own_f p3)) T68.heap n0 (Nat.le_trans Z17 s68) V68 (by decide) (own_k3 (own_ai p2))) hZ (hw _ (List.mem_of_getElem? (i := 10) rfl)) (hw _ (List.mem_of_getElem? (i := 9) rfl)) (by decide) (by decide)) (g := (mkF m 139 #[.val (.int p1), .val (.int p2), .val (.int p3), .val (.int (own_cc p1)), .val (.int (own_a p2)), .val (.int (own_f p3)), .val (.ref b1), .val (.int (3 : Int32)), .val (.int ((((own_a p2) + (1 : Int32)) + (1 : Int32)) + (1 : Int32))), .unset, .unset] [(.int (own_f p3)), (.int ((((own_a p2) + (1 : Int32)) + (1 : Int32)) + (1 : Int32))), (.int (own_a p2)), (.int (0 : Int32)), (.ref b1)])) rfl (by rw [hml]; rfl) (argsL := [(.ref b1), (.int (0 : Int32)), (.int (own_a p2)), (.int ((((own_a p2) + (1 : Int32)) + (1 : Int32)) + (1 : Int32))), (.int (own_f p3))]) (rest := []) (lenOf pd_law_1 rfl) rfl (by show 2 * 0 + _ ≤ _; exact Nat.le_of_eq rfl) (hb hby at_139) (fun _ _ => ⟨rfl, rfl, (by decide : 1 + 0 ≤ _), (by decide : 8 + 0 ≤ _)⟩)
        dsimp only [Pt.U, Pt.locs, Pt.cells, Pt.slots] at X70 l70 y70 z70 st70 hQ70
        subst l70 y70 z70
        obtain ⟨rfl, N70q, e70⟩ := hQ70
        have N70 := Fr.app N68 N70q
        have pr73 : ∀ t, Steps p.tables e below (T70.setTop (mkF m 154 #[.val (.int p1), .val (.int p2), .val (.int p3), .val (.int (own_cc p1)), .val (.int (own_a p2)), .val (.int (own_f p3)), .val (.ref b1), .val (.int (3 : Int32)), .val (.int ((((own_a p2) + (1 : Int32)) + (1 : Int32)) + (1 : Int32))), .unset, .unset] [(.int (own_f p3)), (.int ((((own_a p2) + (1 : Int32)) + (1 : Int32)) + (1 : Int32))), (.int (own_a p2)), (.int (1 : Int32)), (.ref b1)])) t → Steps p.tables e below (s₁.setTop (entryFrame m #[(.int p1), (.int p2), (.int p3)] maxLocals)) t := fun t kt => pr71 t (by
          refine st70 _ ?_
          show Steps p.tables e below (T70.setTop (mkF m 142 #[.val (.int p1), .val (.int p2), .val (.int p3), .val (.int (own_cc p1)), .val (.int (own_a p2)), .val (.int (own_f p3)), .val (.ref b1), .val (.int (3 : Int32)), .val (.int ((((own_a p2) + (1 : Int32)) + (1 : Int32)) + (1 : Int32))), .unset, .unset] [(.int (1 : Int32))])) _
          refine XS.ifNo X70.here hx rfl (hb hby at_142) rfl ((if0 _ _).trans (feq (by decide : ¬ ((1 : Int32) = (0 : Int32)))).1) ?_
          show Steps p.tables e below (T70.setTop (mkF m 145 #[.val (.int p1), .val (.int p2), .val (.int p3), .val (.int (own_cc p1)), .val (.int (own_a p2)), .val (.int (own_f p3)), .val (.ref b1), .val (.int (3 : Int32)), .val (.int ((((own_a p2) + (1 : Int32)) + (1 : Int32)) + (1 : Int32))), .unset, .unset] [])) _
          refine XS.aload X70.here hx rfl (hb hby at_145) rfl rfl ?_
          show Steps p.tables e below (T70.setTop (mkF m 147 #[.val (.int p1), .val (.int p2), .val (.int p3), .val (.int (own_cc p1)), .val (.int (own_a p2)), .val (.int (own_f p3)), .val (.ref b1), .val (.int (3 : Int32)), .val (.int ((((own_a p2) + (1 : Int32)) + (1 : Int32)) + (1 : Int32))), .unset, .unset] [(.ref b1)])) _
          refine XS.iconst X70.here hx rfl (hb hby at_147) ?_
          show Steps p.tables e below (T70.setTop (mkF m 148 #[.val (.int p1), .val (.int p2), .val (.int p3), .val (.int (own_cc p1)), .val (.int (own_a p2)), .val (.int (own_f p3)), .val (.ref b1), .val (.int (3 : Int32)), .val (.int ((((own_a p2) + (1 : Int32)) + (1 : Int32)) + (1 : Int32))), .unset, .unset] [(.int (1 : Int32)), (.ref b1)])) _
          refine XS.iload X70.here hx rfl (hb hby at_148) rfl ?_
          show Steps p.tables e below (T70.setTop (mkF m 150 #[.val (.int p1), .val (.int p2), .val (.int p3), .val (.int (own_cc p1)), .val (.int (own_a p2)), .val (.int (own_f p3)), .val (.ref b1), .val (.int (3 : Int32)), .val (.int ((((own_a p2) + (1 : Int32)) + (1 : Int32)) + (1 : Int32))), .unset, .unset] [(.int (own_a p2)), (.int (1 : Int32)), (.ref b1)])) _
          refine XS.iload X70.here hx rfl (hb hby at_150) rfl ?_
          show Steps p.tables e below (T70.setTop (mkF m 152 #[.val (.int p1), .val (.int p2), .val (.int p3), .val (.int (own_cc p1)), .val (.int (own_a p2)), .val (.int (own_f p3)), .val (.ref b1), .val (.int (3 : Int32)), .val (.int ((((own_a p2) + (1 : Int32)) + (1 : Int32)) + (1 : Int32))), .unset, .unset] [(.int ((((own_a p2) + (1 : Int32)) + (1 : Int32)) + (1 : Int32))), (.int (own_a p2)), (.int (1 : Int32)), (.ref b1)])) _
          refine XS.iload X70.here hx rfl (hb hby at_152) rfl ?_
          show Steps p.tables e below (T70.setTop (mkF m 154 #[.val (.int p1), .val (.int p2), .val (.int p3), .val (.int (own_cc p1)), .val (.int (own_a p2)), .val (.int (own_f p3)), .val (.ref b1), .val (.int (3 : Int32)), .val (.int ((((own_a p2) + (1 : Int32)) + (1 : Int32)) + (1 : Int32))), .unset, .unset] [(.int (own_f p3)), (.int ((((own_a p2) + (1 : Int32)) + (1 : Int32)) + (1 : Int32))), (.int (own_a p2)), (.int (1 : Int32)), (.ref b1)])) _
          exact kt)
        obtain ⟨_, _, ⟨T72, L72, k72, n72⟩, -, X72, ⟨Lc72, hQ72, l72, y72, z72⟩, st72⟩ := Jvm.LawKit.callS X70 hx (y := (⟨"com/example/nuthatch/nuthatch/Utf8WritePinLaw", "kept", "([BIIIB)Z"⟩ : MethodName)) hown (mvT hZ (hw _ (List.mem_of_getElem? (i := 7) rfl))) (mvT hZ (hw _ (List.mem_of_getElem? (i := 8) rfl))) (mvT hZ (hw _ (List.mem_of_getElem? (i := 9) rfl))) (mvT hZ (hw _ (List.mem_of_getElem? (i := 10) rfl))) (by decide) (backOf (W := 0) (rm_kt l Z a0 hw [] b1 (1 : Int32) (own_a p2) ((((own_a p2) + (1 : Int32)) + (1 : Int32)) + (1 : Int32)) (own_f p3) (own_w3 (own_cc p1) (own_a p2) (fun _ => own_f p3)) T68.heap n0 (Nat.le_trans Z17 s68) V68 (by decide) (own_k3 (own_ai p2))) hZ (hw _ (List.mem_of_getElem? (i := 10) rfl)) (hw _ (List.mem_of_getElem? (i := 9) rfl)) (by decide) (by decide)) (g := (mkF m 154 #[.val (.int p1), .val (.int p2), .val (.int p3), .val (.int (own_cc p1)), .val (.int (own_a p2)), .val (.int (own_f p3)), .val (.ref b1), .val (.int (3 : Int32)), .val (.int ((((own_a p2) + (1 : Int32)) + (1 : Int32)) + (1 : Int32))), .unset, .unset] [(.int (own_f p3)), (.int ((((own_a p2) + (1 : Int32)) + (1 : Int32)) + (1 : Int32))), (.int (own_a p2)), (.int (1 : Int32)), (.ref b1)])) rfl (by rw [hml]; rfl) (argsL := [(.ref b1), (.int (1 : Int32)), (.int (own_a p2)), (.int ((((own_a p2) + (1 : Int32)) + (1 : Int32)) + (1 : Int32))), (.int (own_f p3))]) (rest := []) (lenOf pd_law_1 rfl) rfl (by show 2 * 0 + _ ≤ _; exact Nat.le_of_eq rfl) (hb hby at_154) (fun _ _ => ⟨rfl, e70, (by decide : 1 + 0 ≤ _), (by decide : 8 + 0 ≤ _)⟩)
        dsimp only [Pt.U, Pt.locs, Pt.cells, Pt.slots] at X72 l72 y72 z72 st72 hQ72
        subst l72 y72 z72
        obtain ⟨rfl, N72q, e72⟩ := hQ72
        have N72 := Fr.app N70 N72q
        have pr75 : ∀ t, Steps p.tables e below (T72.setTop (mkF m 169 #[.val (.int p1), .val (.int p2), .val (.int p3), .val (.int (own_cc p1)), .val (.int (own_a p2)), .val (.int (own_f p3)), .val (.ref b1), .val (.int (3 : Int32)), .val (.int ((((own_a p2) + (1 : Int32)) + (1 : Int32)) + (1 : Int32))), .unset, .unset] [(.int (own_f p3)), (.int ((((own_a p2) + (1 : Int32)) + (1 : Int32)) + (1 : Int32))), (.int (own_a p2)), (.int (2 : Int32)), (.ref b1)])) t → Steps p.tables e below (s₁.setTop (entryFrame m #[(.int p1), (.int p2), (.int p3)] maxLocals)) t := fun t kt => pr73 t (by
          refine st72 _ ?_
          show Steps p.tables e below (T72.setTop (mkF m 157 #[.val (.int p1), .val (.int p2), .val (.int p3), .val (.int (own_cc p1)), .val (.int (own_a p2)), .val (.int (own_f p3)), .val (.ref b1), .val (.int (3 : Int32)), .val (.int ((((own_a p2) + (1 : Int32)) + (1 : Int32)) + (1 : Int32))), .unset, .unset] [(.int (1 : Int32))])) _
          refine XS.ifNo X72.here hx rfl (hb hby at_157) rfl ((if0 _ _).trans (feq (by decide : ¬ ((1 : Int32) = (0 : Int32)))).1) ?_
          show Steps p.tables e below (T72.setTop (mkF m 160 #[.val (.int p1), .val (.int p2), .val (.int p3), .val (.int (own_cc p1)), .val (.int (own_a p2)), .val (.int (own_f p3)), .val (.ref b1), .val (.int (3 : Int32)), .val (.int ((((own_a p2) + (1 : Int32)) + (1 : Int32)) + (1 : Int32))), .unset, .unset] [])) _
          refine XS.aload X72.here hx rfl (hb hby at_160) rfl rfl ?_
          show Steps p.tables e below (T72.setTop (mkF m 162 #[.val (.int p1), .val (.int p2), .val (.int p3), .val (.int (own_cc p1)), .val (.int (own_a p2)), .val (.int (own_f p3)), .val (.ref b1), .val (.int (3 : Int32)), .val (.int ((((own_a p2) + (1 : Int32)) + (1 : Int32)) + (1 : Int32))), .unset, .unset] [(.ref b1)])) _
          refine XS.iconst X72.here hx rfl (hb hby at_162) ?_
          show Steps p.tables e below (T72.setTop (mkF m 163 #[.val (.int p1), .val (.int p2), .val (.int p3), .val (.int (own_cc p1)), .val (.int (own_a p2)), .val (.int (own_f p3)), .val (.ref b1), .val (.int (3 : Int32)), .val (.int ((((own_a p2) + (1 : Int32)) + (1 : Int32)) + (1 : Int32))), .unset, .unset] [(.int (2 : Int32)), (.ref b1)])) _
          refine XS.iload X72.here hx rfl (hb hby at_163) rfl ?_
          show Steps p.tables e below (T72.setTop (mkF m 165 #[.val (.int p1), .val (.int p2), .val (.int p3), .val (.int (own_cc p1)), .val (.int (own_a p2)), .val (.int (own_f p3)), .val (.ref b1), .val (.int (3 : Int32)), .val (.int ((((own_a p2) + (1 : Int32)) + (1 : Int32)) + (1 : Int32))), .unset, .unset] [(.int (own_a p2)), (.int (2 : Int32)), (.ref b1)])) _
          refine XS.iload X72.here hx rfl (hb hby at_165) rfl ?_
          show Steps p.tables e below (T72.setTop (mkF m 167 #[.val (.int p1), .val (.int p2), .val (.int p3), .val (.int (own_cc p1)), .val (.int (own_a p2)), .val (.int (own_f p3)), .val (.ref b1), .val (.int (3 : Int32)), .val (.int ((((own_a p2) + (1 : Int32)) + (1 : Int32)) + (1 : Int32))), .unset, .unset] [(.int ((((own_a p2) + (1 : Int32)) + (1 : Int32)) + (1 : Int32))), (.int (own_a p2)), (.int (2 : Int32)), (.ref b1)])) _
          refine XS.iload X72.here hx rfl (hb hby at_167) rfl ?_
          show Steps p.tables e below (T72.setTop (mkF m 169 #[.val (.int p1), .val (.int p2), .val (.int p3), .val (.int (own_cc p1)), .val (.int (own_a p2)), .val (.int (own_f p3)), .val (.ref b1), .val (.int (3 : Int32)), .val (.int ((((own_a p2) + (1 : Int32)) + (1 : Int32)) + (1 : Int32))), .unset, .unset] [(.int (own_f p3)), (.int ((((own_a p2) + (1 : Int32)) + (1 : Int32)) + (1 : Int32))), (.int (own_a p2)), (.int (2 : Int32)), (.ref b1)])) _
          exact kt)
        obtain ⟨_, _, ⟨T74, L74, k74, n74⟩, -, X74, ⟨Lc74, hQ74, l74, y74, z74⟩, st74⟩ := Jvm.LawKit.callS X72 hx (y := (⟨"com/example/nuthatch/nuthatch/Utf8WritePinLaw", "kept", "([BIIIB)Z"⟩ : MethodName)) hown (mvT hZ (hw _ (List.mem_of_getElem? (i := 7) rfl))) (mvT hZ (hw _ (List.mem_of_getElem? (i := 8) rfl))) (mvT hZ (hw _ (List.mem_of_getElem? (i := 9) rfl))) (mvT hZ (hw _ (List.mem_of_getElem? (i := 10) rfl))) (by decide) (backOf (W := 0) (rm_kt l Z a0 hw [] b1 (2 : Int32) (own_a p2) ((((own_a p2) + (1 : Int32)) + (1 : Int32)) + (1 : Int32)) (own_f p3) (own_w3 (own_cc p1) (own_a p2) (fun _ => own_f p3)) T68.heap n0 (Nat.le_trans Z17 s68) V68 (by decide) (own_k3 (own_ai p2))) hZ (hw _ (List.mem_of_getElem? (i := 10) rfl)) (hw _ (List.mem_of_getElem? (i := 9) rfl)) (by decide) (by decide)) (g := (mkF m 169 #[.val (.int p1), .val (.int p2), .val (.int p3), .val (.int (own_cc p1)), .val (.int (own_a p2)), .val (.int (own_f p3)), .val (.ref b1), .val (.int (3 : Int32)), .val (.int ((((own_a p2) + (1 : Int32)) + (1 : Int32)) + (1 : Int32))), .unset, .unset] [(.int (own_f p3)), (.int ((((own_a p2) + (1 : Int32)) + (1 : Int32)) + (1 : Int32))), (.int (own_a p2)), (.int (2 : Int32)), (.ref b1)])) rfl (by rw [hml]; rfl) (argsL := [(.ref b1), (.int (2 : Int32)), (.int (own_a p2)), (.int ((((own_a p2) + (1 : Int32)) + (1 : Int32)) + (1 : Int32))), (.int (own_f p3))]) (rest := []) (lenOf pd_law_1 rfl) rfl (by show 2 * 0 + _ ≤ _; exact Nat.le_of_eq rfl) (hb hby at_169) (fun _ _ => ⟨rfl, e72, (by decide : 1 + 0 ≤ _), (by decide : 8 + 0 ≤ _)⟩)
        dsimp only [Pt.U, Pt.locs, Pt.cells, Pt.slots] at X74 l74 y74 z74 st74 hQ74
        subst l74 y74 z74
        obtain ⟨rfl, N74q, e74⟩ := hQ74
        have N74 := Fr.app N72 N74q
        have pr77 : ∀ t, Steps p.tables e below (T74.setTop (mkF m 184 #[.val (.int p1), .val (.int p2), .val (.int p3), .val (.int (own_cc p1)), .val (.int (own_a p2)), .val (.int (own_f p3)), .val (.ref b1), .val (.int (3 : Int32)), .val (.int ((((own_a p2) + (1 : Int32)) + (1 : Int32)) + (1 : Int32))), .unset, .unset] [(.int (own_f p3)), (.int ((((own_a p2) + (1 : Int32)) + (1 : Int32)) + (1 : Int32))), (.int (own_a p2)), (.int (3 : Int32)), (.ref b1)])) t → Steps p.tables e below (s₁.setTop (entryFrame m #[(.int p1), (.int p2), (.int p3)] maxLocals)) t := fun t kt => pr75 t (by
          refine st74 _ ?_
          show Steps p.tables e below (T74.setTop (mkF m 172 #[.val (.int p1), .val (.int p2), .val (.int p3), .val (.int (own_cc p1)), .val (.int (own_a p2)), .val (.int (own_f p3)), .val (.ref b1), .val (.int (3 : Int32)), .val (.int ((((own_a p2) + (1 : Int32)) + (1 : Int32)) + (1 : Int32))), .unset, .unset] [(.int (1 : Int32))])) _
          refine XS.ifNo X74.here hx rfl (hb hby at_172) rfl ((if0 _ _).trans (feq (by decide : ¬ ((1 : Int32) = (0 : Int32)))).1) ?_
          show Steps p.tables e below (T74.setTop (mkF m 175 #[.val (.int p1), .val (.int p2), .val (.int p3), .val (.int (own_cc p1)), .val (.int (own_a p2)), .val (.int (own_f p3)), .val (.ref b1), .val (.int (3 : Int32)), .val (.int ((((own_a p2) + (1 : Int32)) + (1 : Int32)) + (1 : Int32))), .unset, .unset] [])) _
          refine XS.aload X74.here hx rfl (hb hby at_175) rfl rfl ?_
          show Steps p.tables e below (T74.setTop (mkF m 177 #[.val (.int p1), .val (.int p2), .val (.int p3), .val (.int (own_cc p1)), .val (.int (own_a p2)), .val (.int (own_f p3)), .val (.ref b1), .val (.int (3 : Int32)), .val (.int ((((own_a p2) + (1 : Int32)) + (1 : Int32)) + (1 : Int32))), .unset, .unset] [(.ref b1)])) _
          refine XS.iconst X74.here hx rfl (hb hby at_177) ?_
          show Steps p.tables e below (T74.setTop (mkF m 178 #[.val (.int p1), .val (.int p2), .val (.int p3), .val (.int (own_cc p1)), .val (.int (own_a p2)), .val (.int (own_f p3)), .val (.ref b1), .val (.int (3 : Int32)), .val (.int ((((own_a p2) + (1 : Int32)) + (1 : Int32)) + (1 : Int32))), .unset, .unset] [(.int (3 : Int32)), (.ref b1)])) _
          refine XS.iload X74.here hx rfl (hb hby at_178) rfl ?_
          show Steps p.tables e below (T74.setTop (mkF m 180 #[.val (.int p1), .val (.int p2), .val (.int p3), .val (.int (own_cc p1)), .val (.int (own_a p2)), .val (.int (own_f p3)), .val (.ref b1), .val (.int (3 : Int32)), .val (.int ((((own_a p2) + (1 : Int32)) + (1 : Int32)) + (1 : Int32))), .unset, .unset] [(.int (own_a p2)), (.int (3 : Int32)), (.ref b1)])) _
          refine XS.iload X74.here hx rfl (hb hby at_180) rfl ?_
          show Steps p.tables e below (T74.setTop (mkF m 182 #[.val (.int p1), .val (.int p2), .val (.int p3), .val (.int (own_cc p1)), .val (.int (own_a p2)), .val (.int (own_f p3)), .val (.ref b1), .val (.int (3 : Int32)), .val (.int ((((own_a p2) + (1 : Int32)) + (1 : Int32)) + (1 : Int32))), .unset, .unset] [(.int ((((own_a p2) + (1 : Int32)) + (1 : Int32)) + (1 : Int32))), (.int (own_a p2)), (.int (3 : Int32)), (.ref b1)])) _
          refine XS.iload X74.here hx rfl (hb hby at_182) rfl ?_
          show Steps p.tables e below (T74.setTop (mkF m 184 #[.val (.int p1), .val (.int p2), .val (.int p3), .val (.int (own_cc p1)), .val (.int (own_a p2)), .val (.int (own_f p3)), .val (.ref b1), .val (.int (3 : Int32)), .val (.int ((((own_a p2) + (1 : Int32)) + (1 : Int32)) + (1 : Int32))), .unset, .unset] [(.int (own_f p3)), (.int ((((own_a p2) + (1 : Int32)) + (1 : Int32)) + (1 : Int32))), (.int (own_a p2)), (.int (3 : Int32)), (.ref b1)])) _
          exact kt)
        obtain ⟨_, _, ⟨T76, L76, k76, n76⟩, -, X76, ⟨Lc76, hQ76, l76, y76, z76⟩, st76⟩ := Jvm.LawKit.callS X74 hx (y := (⟨"com/example/nuthatch/nuthatch/Utf8WritePinLaw", "kept", "([BIIIB)Z"⟩ : MethodName)) hown (mvT hZ (hw _ (List.mem_of_getElem? (i := 7) rfl))) (mvT hZ (hw _ (List.mem_of_getElem? (i := 8) rfl))) (mvT hZ (hw _ (List.mem_of_getElem? (i := 9) rfl))) (mvT hZ (hw _ (List.mem_of_getElem? (i := 10) rfl))) (by decide) (backOf (W := 0) (rm_kt l Z a0 hw [] b1 (3 : Int32) (own_a p2) ((((own_a p2) + (1 : Int32)) + (1 : Int32)) + (1 : Int32)) (own_f p3) (own_w3 (own_cc p1) (own_a p2) (fun _ => own_f p3)) T68.heap n0 (Nat.le_trans Z17 s68) V68 (by decide) (own_k3 (own_ai p2))) hZ (hw _ (List.mem_of_getElem? (i := 10) rfl)) (hw _ (List.mem_of_getElem? (i := 9) rfl)) (by decide) (by decide)) (g := (mkF m 184 #[.val (.int p1), .val (.int p2), .val (.int p3), .val (.int (own_cc p1)), .val (.int (own_a p2)), .val (.int (own_f p3)), .val (.ref b1), .val (.int (3 : Int32)), .val (.int ((((own_a p2) + (1 : Int32)) + (1 : Int32)) + (1 : Int32))), .unset, .unset] [(.int (own_f p3)), (.int ((((own_a p2) + (1 : Int32)) + (1 : Int32)) + (1 : Int32))), (.int (own_a p2)), (.int (3 : Int32)), (.ref b1)])) rfl (by rw [hml]; rfl) (argsL := [(.ref b1), (.int (3 : Int32)), (.int (own_a p2)), (.int ((((own_a p2) + (1 : Int32)) + (1 : Int32)) + (1 : Int32))), (.int (own_f p3))]) (rest := []) (lenOf pd_law_1 rfl) rfl (by show 2 * 0 + _ ≤ _; exact Nat.le_of_eq rfl) (hb hby at_184) (fun _ _ => ⟨rfl, e74, (by decide : 1 + 0 ≤ _), (by decide : 8 + 0 ≤ _)⟩)
        dsimp only [Pt.U, Pt.locs, Pt.cells, Pt.slots] at X76 l76 y76 z76 st76 hQ76
        subst l76 y76 z76
        obtain ⟨rfl, N76q, e76⟩ := hQ76
        have N76 := Fr.app N74 N76q
        have pr79 : ∀ t, Steps p.tables e below (T76.setTop (mkF m 199 #[.val (.int p1), .val (.int p2), .val (.int p3), .val (.int (own_cc p1)), .val (.int (own_a p2)), .val (.int (own_f p3)), .val (.ref b1), .val (.int (3 : Int32)), .val (.int ((((own_a p2) + (1 : Int32)) + (1 : Int32)) + (1 : Int32))), .unset, .unset] [(.int (own_f p3)), (.int ((((own_a p2) + (1 : Int32)) + (1 : Int32)) + (1 : Int32))), (.int (own_a p2)), (.int (4 : Int32)), (.ref b1)])) t → Steps p.tables e below (s₁.setTop (entryFrame m #[(.int p1), (.int p2), (.int p3)] maxLocals)) t := fun t kt => pr77 t (by
          refine st76 _ ?_
          show Steps p.tables e below (T76.setTop (mkF m 187 #[.val (.int p1), .val (.int p2), .val (.int p3), .val (.int (own_cc p1)), .val (.int (own_a p2)), .val (.int (own_f p3)), .val (.ref b1), .val (.int (3 : Int32)), .val (.int ((((own_a p2) + (1 : Int32)) + (1 : Int32)) + (1 : Int32))), .unset, .unset] [(.int (1 : Int32))])) _
          refine XS.ifNo X76.here hx rfl (hb hby at_187) rfl ((if0 _ _).trans (feq (by decide : ¬ ((1 : Int32) = (0 : Int32)))).1) ?_
          show Steps p.tables e below (T76.setTop (mkF m 190 #[.val (.int p1), .val (.int p2), .val (.int p3), .val (.int (own_cc p1)), .val (.int (own_a p2)), .val (.int (own_f p3)), .val (.ref b1), .val (.int (3 : Int32)), .val (.int ((((own_a p2) + (1 : Int32)) + (1 : Int32)) + (1 : Int32))), .unset, .unset] [])) _
          refine XS.aload X76.here hx rfl (hb hby at_190) rfl rfl ?_
          show Steps p.tables e below (T76.setTop (mkF m 192 #[.val (.int p1), .val (.int p2), .val (.int p3), .val (.int (own_cc p1)), .val (.int (own_a p2)), .val (.int (own_f p3)), .val (.ref b1), .val (.int (3 : Int32)), .val (.int ((((own_a p2) + (1 : Int32)) + (1 : Int32)) + (1 : Int32))), .unset, .unset] [(.ref b1)])) _
          refine XS.iconst X76.here hx rfl (hb hby at_192) ?_
          show Steps p.tables e below (T76.setTop (mkF m 193 #[.val (.int p1), .val (.int p2), .val (.int p3), .val (.int (own_cc p1)), .val (.int (own_a p2)), .val (.int (own_f p3)), .val (.ref b1), .val (.int (3 : Int32)), .val (.int ((((own_a p2) + (1 : Int32)) + (1 : Int32)) + (1 : Int32))), .unset, .unset] [(.int (4 : Int32)), (.ref b1)])) _
          refine XS.iload X76.here hx rfl (hb hby at_193) rfl ?_
          show Steps p.tables e below (T76.setTop (mkF m 195 #[.val (.int p1), .val (.int p2), .val (.int p3), .val (.int (own_cc p1)), .val (.int (own_a p2)), .val (.int (own_f p3)), .val (.ref b1), .val (.int (3 : Int32)), .val (.int ((((own_a p2) + (1 : Int32)) + (1 : Int32)) + (1 : Int32))), .unset, .unset] [(.int (own_a p2)), (.int (4 : Int32)), (.ref b1)])) _
          refine XS.iload X76.here hx rfl (hb hby at_195) rfl ?_
          show Steps p.tables e below (T76.setTop (mkF m 197 #[.val (.int p1), .val (.int p2), .val (.int p3), .val (.int (own_cc p1)), .val (.int (own_a p2)), .val (.int (own_f p3)), .val (.ref b1), .val (.int (3 : Int32)), .val (.int ((((own_a p2) + (1 : Int32)) + (1 : Int32)) + (1 : Int32))), .unset, .unset] [(.int ((((own_a p2) + (1 : Int32)) + (1 : Int32)) + (1 : Int32))), (.int (own_a p2)), (.int (4 : Int32)), (.ref b1)])) _
          refine XS.iload X76.here hx rfl (hb hby at_197) rfl ?_
          show Steps p.tables e below (T76.setTop (mkF m 199 #[.val (.int p1), .val (.int p2), .val (.int p3), .val (.int (own_cc p1)), .val (.int (own_a p2)), .val (.int (own_f p3)), .val (.ref b1), .val (.int (3 : Int32)), .val (.int ((((own_a p2) + (1 : Int32)) + (1 : Int32)) + (1 : Int32))), .unset, .unset] [(.int (own_f p3)), (.int ((((own_a p2) + (1 : Int32)) + (1 : Int32)) + (1 : Int32))), (.int (own_a p2)), (.int (4 : Int32)), (.ref b1)])) _
          exact kt)
        obtain ⟨_, _, ⟨T78, L78, k78, n78⟩, -, X78, ⟨Lc78, hQ78, l78, y78, z78⟩, st78⟩ := Jvm.LawKit.callS X76 hx (y := (⟨"com/example/nuthatch/nuthatch/Utf8WritePinLaw", "kept", "([BIIIB)Z"⟩ : MethodName)) hown (mvT hZ (hw _ (List.mem_of_getElem? (i := 7) rfl))) (mvT hZ (hw _ (List.mem_of_getElem? (i := 8) rfl))) (mvT hZ (hw _ (List.mem_of_getElem? (i := 9) rfl))) (mvT hZ (hw _ (List.mem_of_getElem? (i := 10) rfl))) (by decide) (backOf (W := 0) (rm_kt l Z a0 hw [] b1 (4 : Int32) (own_a p2) ((((own_a p2) + (1 : Int32)) + (1 : Int32)) + (1 : Int32)) (own_f p3) (own_w3 (own_cc p1) (own_a p2) (fun _ => own_f p3)) T68.heap n0 (Nat.le_trans Z17 s68) V68 (by decide) (own_k3 (own_ai p2))) hZ (hw _ (List.mem_of_getElem? (i := 10) rfl)) (hw _ (List.mem_of_getElem? (i := 9) rfl)) (by decide) (by decide)) (g := (mkF m 199 #[.val (.int p1), .val (.int p2), .val (.int p3), .val (.int (own_cc p1)), .val (.int (own_a p2)), .val (.int (own_f p3)), .val (.ref b1), .val (.int (3 : Int32)), .val (.int ((((own_a p2) + (1 : Int32)) + (1 : Int32)) + (1 : Int32))), .unset, .unset] [(.int (own_f p3)), (.int ((((own_a p2) + (1 : Int32)) + (1 : Int32)) + (1 : Int32))), (.int (own_a p2)), (.int (4 : Int32)), (.ref b1)])) rfl (by rw [hml]; rfl) (argsL := [(.ref b1), (.int (4 : Int32)), (.int (own_a p2)), (.int ((((own_a p2) + (1 : Int32)) + (1 : Int32)) + (1 : Int32))), (.int (own_f p3))]) (rest := []) (lenOf pd_law_1 rfl) rfl (by show 2 * 0 + _ ≤ _; exact Nat.le_of_eq rfl) (hb hby at_199) (fun _ _ => ⟨rfl, e76, (by decide : 1 + 0 ≤ _), (by decide : 8 + 0 ≤ _)⟩)
        dsimp only [Pt.U, Pt.locs, Pt.cells, Pt.slots] at X78 l78 y78 z78 st78 hQ78
        subst l78 y78 z78
        obtain ⟨rfl, N78q, e78⟩ := hQ78
        have N78 := Fr.app N76 N78q
        have pr81 : ∀ t, Steps p.tables e below (T78.setTop (mkF m 214 #[.val (.int p1), .val (.int p2), .val (.int p3), .val (.int (own_cc p1)), .val (.int (own_a p2)), .val (.int (own_f p3)), .val (.ref b1), .val (.int (3 : Int32)), .val (.int ((((own_a p2) + (1 : Int32)) + (1 : Int32)) + (1 : Int32))), .unset, .unset] [(.int (own_f p3)), (.int ((((own_a p2) + (1 : Int32)) + (1 : Int32)) + (1 : Int32))), (.int (own_a p2)), (.int (5 : Int32)), (.ref b1)])) t → Steps p.tables e below (s₁.setTop (entryFrame m #[(.int p1), (.int p2), (.int p3)] maxLocals)) t := fun t kt => pr79 t (by
          refine st78 _ ?_
          show Steps p.tables e below (T78.setTop (mkF m 202 #[.val (.int p1), .val (.int p2), .val (.int p3), .val (.int (own_cc p1)), .val (.int (own_a p2)), .val (.int (own_f p3)), .val (.ref b1), .val (.int (3 : Int32)), .val (.int ((((own_a p2) + (1 : Int32)) + (1 : Int32)) + (1 : Int32))), .unset, .unset] [(.int (1 : Int32))])) _
          refine XS.ifNo X78.here hx rfl (hb hby at_202) rfl ((if0 _ _).trans (feq (by decide : ¬ ((1 : Int32) = (0 : Int32)))).1) ?_
          show Steps p.tables e below (T78.setTop (mkF m 205 #[.val (.int p1), .val (.int p2), .val (.int p3), .val (.int (own_cc p1)), .val (.int (own_a p2)), .val (.int (own_f p3)), .val (.ref b1), .val (.int (3 : Int32)), .val (.int ((((own_a p2) + (1 : Int32)) + (1 : Int32)) + (1 : Int32))), .unset, .unset] [])) _
          refine XS.aload X78.here hx rfl (hb hby at_205) rfl rfl ?_
          show Steps p.tables e below (T78.setTop (mkF m 207 #[.val (.int p1), .val (.int p2), .val (.int p3), .val (.int (own_cc p1)), .val (.int (own_a p2)), .val (.int (own_f p3)), .val (.ref b1), .val (.int (3 : Int32)), .val (.int ((((own_a p2) + (1 : Int32)) + (1 : Int32)) + (1 : Int32))), .unset, .unset] [(.ref b1)])) _
          refine XS.iconst X78.here hx rfl (hb hby at_207) ?_
          show Steps p.tables e below (T78.setTop (mkF m 208 #[.val (.int p1), .val (.int p2), .val (.int p3), .val (.int (own_cc p1)), .val (.int (own_a p2)), .val (.int (own_f p3)), .val (.ref b1), .val (.int (3 : Int32)), .val (.int ((((own_a p2) + (1 : Int32)) + (1 : Int32)) + (1 : Int32))), .unset, .unset] [(.int (5 : Int32)), (.ref b1)])) _
          refine XS.iload X78.here hx rfl (hb hby at_208) rfl ?_
          show Steps p.tables e below (T78.setTop (mkF m 210 #[.val (.int p1), .val (.int p2), .val (.int p3), .val (.int (own_cc p1)), .val (.int (own_a p2)), .val (.int (own_f p3)), .val (.ref b1), .val (.int (3 : Int32)), .val (.int ((((own_a p2) + (1 : Int32)) + (1 : Int32)) + (1 : Int32))), .unset, .unset] [(.int (own_a p2)), (.int (5 : Int32)), (.ref b1)])) _
          refine XS.iload X78.here hx rfl (hb hby at_210) rfl ?_
          show Steps p.tables e below (T78.setTop (mkF m 212 #[.val (.int p1), .val (.int p2), .val (.int p3), .val (.int (own_cc p1)), .val (.int (own_a p2)), .val (.int (own_f p3)), .val (.ref b1), .val (.int (3 : Int32)), .val (.int ((((own_a p2) + (1 : Int32)) + (1 : Int32)) + (1 : Int32))), .unset, .unset] [(.int ((((own_a p2) + (1 : Int32)) + (1 : Int32)) + (1 : Int32))), (.int (own_a p2)), (.int (5 : Int32)), (.ref b1)])) _
          refine XS.iload X78.here hx rfl (hb hby at_212) rfl ?_
          show Steps p.tables e below (T78.setTop (mkF m 214 #[.val (.int p1), .val (.int p2), .val (.int p3), .val (.int (own_cc p1)), .val (.int (own_a p2)), .val (.int (own_f p3)), .val (.ref b1), .val (.int (3 : Int32)), .val (.int ((((own_a p2) + (1 : Int32)) + (1 : Int32)) + (1 : Int32))), .unset, .unset] [(.int (own_f p3)), (.int ((((own_a p2) + (1 : Int32)) + (1 : Int32)) + (1 : Int32))), (.int (own_a p2)), (.int (5 : Int32)), (.ref b1)])) _
          exact kt)
        obtain ⟨_, _, ⟨T80, L80, k80, n80⟩, -, X80, ⟨Lc80, hQ80, l80, y80, z80⟩, st80⟩ := Jvm.LawKit.callS X78 hx (y := (⟨"com/example/nuthatch/nuthatch/Utf8WritePinLaw", "kept", "([BIIIB)Z"⟩ : MethodName)) hown (mvT hZ (hw _ (List.mem_of_getElem? (i := 7) rfl))) (mvT hZ (hw _ (List.mem_of_getElem? (i := 8) rfl))) (mvT hZ (hw _ (List.mem_of_getElem? (i := 9) rfl))) (mvT hZ (hw _ (List.mem_of_getElem? (i := 10) rfl))) (by decide) (backOf (W := 0) (rm_kt l Z a0 hw [] b1 (5 : Int32) (own_a p2) ((((own_a p2) + (1 : Int32)) + (1 : Int32)) + (1 : Int32)) (own_f p3) (own_w3 (own_cc p1) (own_a p2) (fun _ => own_f p3)) T68.heap n0 (Nat.le_trans Z17 s68) V68 (by decide) (own_k3 (own_ai p2))) hZ (hw _ (List.mem_of_getElem? (i := 10) rfl)) (hw _ (List.mem_of_getElem? (i := 9) rfl)) (by decide) (by decide)) (g := (mkF m 214 #[.val (.int p1), .val (.int p2), .val (.int p3), .val (.int (own_cc p1)), .val (.int (own_a p2)), .val (.int (own_f p3)), .val (.ref b1), .val (.int (3 : Int32)), .val (.int ((((own_a p2) + (1 : Int32)) + (1 : Int32)) + (1 : Int32))), .unset, .unset] [(.int (own_f p3)), (.int ((((own_a p2) + (1 : Int32)) + (1 : Int32)) + (1 : Int32))), (.int (own_a p2)), (.int (5 : Int32)), (.ref b1)])) rfl (by rw [hml]; rfl) (argsL := [(.ref b1), (.int (5 : Int32)), (.int (own_a p2)), (.int ((((own_a p2) + (1 : Int32)) + (1 : Int32)) + (1 : Int32))), (.int (own_f p3))]) (rest := []) (lenOf pd_law_1 rfl) rfl (by show 2 * 0 + _ ≤ _; exact Nat.le_of_eq rfl) (hb hby at_214) (fun _ _ => ⟨rfl, e78, (by decide : 1 + 0 ≤ _), (by decide : 8 + 0 ≤ _)⟩)
        dsimp only [Pt.U, Pt.locs, Pt.cells, Pt.slots] at X80 l80 y80 z80 st80 hQ80
        subst l80 y80 z80
        obtain ⟨rfl, N80q, e80⟩ := hQ80
        have N80 := Fr.app N78 N80q
        have pr83 : ∀ t, Steps p.tables e below (T80.setTop (mkF m 230 #[.val (.int p1), .val (.int p2), .val (.int p3), .val (.int (own_cc p1)), .val (.int (own_a p2)), .val (.int (own_f p3)), .val (.ref b1), .val (.int (3 : Int32)), .val (.int ((((own_a p2) + (1 : Int32)) + (1 : Int32)) + (1 : Int32))), .unset, .unset] [(.int (own_f p3)), (.int ((((own_a p2) + (1 : Int32)) + (1 : Int32)) + (1 : Int32))), (.int (own_a p2)), (.int (6 : Int32)), (.ref b1)])) t → Steps p.tables e below (s₁.setTop (entryFrame m #[(.int p1), (.int p2), (.int p3)] maxLocals)) t := fun t kt => pr81 t (by
          refine st80 _ ?_
          show Steps p.tables e below (T80.setTop (mkF m 217 #[.val (.int p1), .val (.int p2), .val (.int p3), .val (.int (own_cc p1)), .val (.int (own_a p2)), .val (.int (own_f p3)), .val (.ref b1), .val (.int (3 : Int32)), .val (.int ((((own_a p2) + (1 : Int32)) + (1 : Int32)) + (1 : Int32))), .unset, .unset] [(.int (1 : Int32))])) _
          refine XS.ifNo X80.here hx rfl (hb hby at_217) rfl ((if0 _ _).trans (feq (by decide : ¬ ((1 : Int32) = (0 : Int32)))).1) ?_
          show Steps p.tables e below (T80.setTop (mkF m 220 #[.val (.int p1), .val (.int p2), .val (.int p3), .val (.int (own_cc p1)), .val (.int (own_a p2)), .val (.int (own_f p3)), .val (.ref b1), .val (.int (3 : Int32)), .val (.int ((((own_a p2) + (1 : Int32)) + (1 : Int32)) + (1 : Int32))), .unset, .unset] [])) _
          refine XS.aload X80.here hx rfl (hb hby at_220) rfl rfl ?_
          show Steps p.tables e below (T80.setTop (mkF m 222 #[.val (.int p1), .val (.int p2), .val (.int p3), .val (.int (own_cc p1)), .val (.int (own_a p2)), .val (.int (own_f p3)), .val (.ref b1), .val (.int (3 : Int32)), .val (.int ((((own_a p2) + (1 : Int32)) + (1 : Int32)) + (1 : Int32))), .unset, .unset] [(.ref b1)])) _
          refine XS.bipush X80.here hx rfl (hb hby at_222) ?_
          show Steps p.tables e below (T80.setTop (mkF m 224 #[.val (.int p1), .val (.int p2), .val (.int p3), .val (.int (own_cc p1)), .val (.int (own_a p2)), .val (.int (own_f p3)), .val (.ref b1), .val (.int (3 : Int32)), .val (.int ((((own_a p2) + (1 : Int32)) + (1 : Int32)) + (1 : Int32))), .unset, .unset] [(.int (6 : Int32)), (.ref b1)])) _
          refine XS.iload X80.here hx rfl (hb hby at_224) rfl ?_
          show Steps p.tables e below (T80.setTop (mkF m 226 #[.val (.int p1), .val (.int p2), .val (.int p3), .val (.int (own_cc p1)), .val (.int (own_a p2)), .val (.int (own_f p3)), .val (.ref b1), .val (.int (3 : Int32)), .val (.int ((((own_a p2) + (1 : Int32)) + (1 : Int32)) + (1 : Int32))), .unset, .unset] [(.int (own_a p2)), (.int (6 : Int32)), (.ref b1)])) _
          refine XS.iload X80.here hx rfl (hb hby at_226) rfl ?_
          show Steps p.tables e below (T80.setTop (mkF m 228 #[.val (.int p1), .val (.int p2), .val (.int p3), .val (.int (own_cc p1)), .val (.int (own_a p2)), .val (.int (own_f p3)), .val (.ref b1), .val (.int (3 : Int32)), .val (.int ((((own_a p2) + (1 : Int32)) + (1 : Int32)) + (1 : Int32))), .unset, .unset] [(.int ((((own_a p2) + (1 : Int32)) + (1 : Int32)) + (1 : Int32))), (.int (own_a p2)), (.int (6 : Int32)), (.ref b1)])) _
          refine XS.iload X80.here hx rfl (hb hby at_228) rfl ?_
          show Steps p.tables e below (T80.setTop (mkF m 230 #[.val (.int p1), .val (.int p2), .val (.int p3), .val (.int (own_cc p1)), .val (.int (own_a p2)), .val (.int (own_f p3)), .val (.ref b1), .val (.int (3 : Int32)), .val (.int ((((own_a p2) + (1 : Int32)) + (1 : Int32)) + (1 : Int32))), .unset, .unset] [(.int (own_f p3)), (.int ((((own_a p2) + (1 : Int32)) + (1 : Int32)) + (1 : Int32))), (.int (own_a p2)), (.int (6 : Int32)), (.ref b1)])) _
          exact kt)
        obtain ⟨_, _, ⟨T82, L82, k82, n82⟩, -, X82, ⟨Lc82, hQ82, l82, y82, z82⟩, st82⟩ := Jvm.LawKit.callS X80 hx (y := (⟨"com/example/nuthatch/nuthatch/Utf8WritePinLaw", "kept", "([BIIIB)Z"⟩ : MethodName)) hown (mvT hZ (hw _ (List.mem_of_getElem? (i := 7) rfl))) (mvT hZ (hw _ (List.mem_of_getElem? (i := 8) rfl))) (mvT hZ (hw _ (List.mem_of_getElem? (i := 9) rfl))) (mvT hZ (hw _ (List.mem_of_getElem? (i := 10) rfl))) (by decide) (backOf (W := 0) (rm_kt l Z a0 hw [] b1 (6 : Int32) (own_a p2) ((((own_a p2) + (1 : Int32)) + (1 : Int32)) + (1 : Int32)) (own_f p3) (own_w3 (own_cc p1) (own_a p2) (fun _ => own_f p3)) T68.heap n0 (Nat.le_trans Z17 s68) V68 (by decide) (own_k3 (own_ai p2))) hZ (hw _ (List.mem_of_getElem? (i := 10) rfl)) (hw _ (List.mem_of_getElem? (i := 9) rfl)) (by decide) (by decide)) (g := (mkF m 230 #[.val (.int p1), .val (.int p2), .val (.int p3), .val (.int (own_cc p1)), .val (.int (own_a p2)), .val (.int (own_f p3)), .val (.ref b1), .val (.int (3 : Int32)), .val (.int ((((own_a p2) + (1 : Int32)) + (1 : Int32)) + (1 : Int32))), .unset, .unset] [(.int (own_f p3)), (.int ((((own_a p2) + (1 : Int32)) + (1 : Int32)) + (1 : Int32))), (.int (own_a p2)), (.int (6 : Int32)), (.ref b1)])) rfl (by rw [hml]; rfl) (argsL := [(.ref b1), (.int (6 : Int32)), (.int (own_a p2)), (.int ((((own_a p2) + (1 : Int32)) + (1 : Int32)) + (1 : Int32))), (.int (own_f p3))]) (rest := []) (lenOf pd_law_1 rfl) rfl (by show 2 * 0 + _ ≤ _; exact Nat.le_of_eq rfl) (hb hby at_230) (fun _ _ => ⟨rfl, e80, (by decide : 1 + 0 ≤ _), (by decide : 8 + 0 ≤ _)⟩)
        dsimp only [Pt.U, Pt.locs, Pt.cells, Pt.slots] at X82 l82 y82 z82 st82 hQ82
        subst l82 y82 z82
        obtain ⟨rfl, N82q, e82⟩ := hQ82
        have N82 := Fr.app N80 N82q
        have pr85 : ∀ t, Steps p.tables e below (T82.setTop (mkF m 246 #[.val (.int p1), .val (.int p2), .val (.int p3), .val (.int (own_cc p1)), .val (.int (own_a p2)), .val (.int (own_f p3)), .val (.ref b1), .val (.int (3 : Int32)), .val (.int ((((own_a p2) + (1 : Int32)) + (1 : Int32)) + (1 : Int32))), .unset, .unset] [(.int (own_f p3)), (.int ((((own_a p2) + (1 : Int32)) + (1 : Int32)) + (1 : Int32))), (.int (own_a p2)), (.int (7 : Int32)), (.ref b1)])) t → Steps p.tables e below (s₁.setTop (entryFrame m #[(.int p1), (.int p2), (.int p3)] maxLocals)) t := fun t kt => pr83 t (by
          refine st82 _ ?_
          show Steps p.tables e below (T82.setTop (mkF m 233 #[.val (.int p1), .val (.int p2), .val (.int p3), .val (.int (own_cc p1)), .val (.int (own_a p2)), .val (.int (own_f p3)), .val (.ref b1), .val (.int (3 : Int32)), .val (.int ((((own_a p2) + (1 : Int32)) + (1 : Int32)) + (1 : Int32))), .unset, .unset] [(.int (1 : Int32))])) _
          refine XS.ifNo X82.here hx rfl (hb hby at_233) rfl ((if0 _ _).trans (feq (by decide : ¬ ((1 : Int32) = (0 : Int32)))).1) ?_
          show Steps p.tables e below (T82.setTop (mkF m 236 #[.val (.int p1), .val (.int p2), .val (.int p3), .val (.int (own_cc p1)), .val (.int (own_a p2)), .val (.int (own_f p3)), .val (.ref b1), .val (.int (3 : Int32)), .val (.int ((((own_a p2) + (1 : Int32)) + (1 : Int32)) + (1 : Int32))), .unset, .unset] [])) _
          refine XS.aload X82.here hx rfl (hb hby at_236) rfl rfl ?_
          show Steps p.tables e below (T82.setTop (mkF m 238 #[.val (.int p1), .val (.int p2), .val (.int p3), .val (.int (own_cc p1)), .val (.int (own_a p2)), .val (.int (own_f p3)), .val (.ref b1), .val (.int (3 : Int32)), .val (.int ((((own_a p2) + (1 : Int32)) + (1 : Int32)) + (1 : Int32))), .unset, .unset] [(.ref b1)])) _
          refine XS.bipush X82.here hx rfl (hb hby at_238) ?_
          show Steps p.tables e below (T82.setTop (mkF m 240 #[.val (.int p1), .val (.int p2), .val (.int p3), .val (.int (own_cc p1)), .val (.int (own_a p2)), .val (.int (own_f p3)), .val (.ref b1), .val (.int (3 : Int32)), .val (.int ((((own_a p2) + (1 : Int32)) + (1 : Int32)) + (1 : Int32))), .unset, .unset] [(.int (7 : Int32)), (.ref b1)])) _
          refine XS.iload X82.here hx rfl (hb hby at_240) rfl ?_
          show Steps p.tables e below (T82.setTop (mkF m 242 #[.val (.int p1), .val (.int p2), .val (.int p3), .val (.int (own_cc p1)), .val (.int (own_a p2)), .val (.int (own_f p3)), .val (.ref b1), .val (.int (3 : Int32)), .val (.int ((((own_a p2) + (1 : Int32)) + (1 : Int32)) + (1 : Int32))), .unset, .unset] [(.int (own_a p2)), (.int (7 : Int32)), (.ref b1)])) _
          refine XS.iload X82.here hx rfl (hb hby at_242) rfl ?_
          show Steps p.tables e below (T82.setTop (mkF m 244 #[.val (.int p1), .val (.int p2), .val (.int p3), .val (.int (own_cc p1)), .val (.int (own_a p2)), .val (.int (own_f p3)), .val (.ref b1), .val (.int (3 : Int32)), .val (.int ((((own_a p2) + (1 : Int32)) + (1 : Int32)) + (1 : Int32))), .unset, .unset] [(.int ((((own_a p2) + (1 : Int32)) + (1 : Int32)) + (1 : Int32))), (.int (own_a p2)), (.int (7 : Int32)), (.ref b1)])) _
          refine XS.iload X82.here hx rfl (hb hby at_244) rfl ?_
          show Steps p.tables e below (T82.setTop (mkF m 246 #[.val (.int p1), .val (.int p2), .val (.int p3), .val (.int (own_cc p1)), .val (.int (own_a p2)), .val (.int (own_f p3)), .val (.ref b1), .val (.int (3 : Int32)), .val (.int ((((own_a p2) + (1 : Int32)) + (1 : Int32)) + (1 : Int32))), .unset, .unset] [(.int (own_f p3)), (.int ((((own_a p2) + (1 : Int32)) + (1 : Int32)) + (1 : Int32))), (.int (own_a p2)), (.int (7 : Int32)), (.ref b1)])) _
          exact kt)
        obtain ⟨_, _, ⟨T84, L84, k84, n84⟩, -, X84, ⟨Lc84, hQ84, l84, y84, z84⟩, st84⟩ := Jvm.LawKit.callS X82 hx (y := (⟨"com/example/nuthatch/nuthatch/Utf8WritePinLaw", "kept", "([BIIIB)Z"⟩ : MethodName)) hown (mvT hZ (hw _ (List.mem_of_getElem? (i := 7) rfl))) (mvT hZ (hw _ (List.mem_of_getElem? (i := 8) rfl))) (mvT hZ (hw _ (List.mem_of_getElem? (i := 9) rfl))) (mvT hZ (hw _ (List.mem_of_getElem? (i := 10) rfl))) (by decide) (backOf (W := 0) (rm_kt l Z a0 hw [] b1 (7 : Int32) (own_a p2) ((((own_a p2) + (1 : Int32)) + (1 : Int32)) + (1 : Int32)) (own_f p3) (own_w3 (own_cc p1) (own_a p2) (fun _ => own_f p3)) T68.heap n0 (Nat.le_trans Z17 s68) V68 (by decide) (own_k3 (own_ai p2))) hZ (hw _ (List.mem_of_getElem? (i := 10) rfl)) (hw _ (List.mem_of_getElem? (i := 9) rfl)) (by decide) (by decide)) (g := (mkF m 246 #[.val (.int p1), .val (.int p2), .val (.int p3), .val (.int (own_cc p1)), .val (.int (own_a p2)), .val (.int (own_f p3)), .val (.ref b1), .val (.int (3 : Int32)), .val (.int ((((own_a p2) + (1 : Int32)) + (1 : Int32)) + (1 : Int32))), .unset, .unset] [(.int (own_f p3)), (.int ((((own_a p2) + (1 : Int32)) + (1 : Int32)) + (1 : Int32))), (.int (own_a p2)), (.int (7 : Int32)), (.ref b1)])) rfl (by rw [hml]; rfl) (argsL := [(.ref b1), (.int (7 : Int32)), (.int (own_a p2)), (.int ((((own_a p2) + (1 : Int32)) + (1 : Int32)) + (1 : Int32))), (.int (own_f p3))]) (rest := []) (lenOf pd_law_1 rfl) rfl (by show 2 * 0 + _ ≤ _; exact Nat.le_of_eq rfl) (hb hby at_246) (fun _ _ => ⟨rfl, e82, (by decide : 1 + 0 ≤ _), (by decide : 8 + 0 ≤ _)⟩)
        dsimp only [Pt.U, Pt.locs, Pt.cells, Pt.slots] at X84 l84 y84 z84 st84 hQ84
        subst l84 y84 z84
        obtain ⟨rfl, N84q, e84⟩ := hQ84
        have N84 := Fr.app N82 N84q
        have pr86 : ∀ t, Steps p.tables e below (T84.setTop (mkF m 259 #[.val (.int p1), .val (.int p2), .val (.int p3), .val (.int (own_cc p1)), .val (.int (own_a p2)), .val (.int (own_f p3)), .val (.ref b1), .val (.int (3 : Int32)), .val (.int ((((own_a p2) + (1 : Int32)) + (1 : Int32)) + (1 : Int32))), .val (.int (1 : Int32)), .unset] [])) t → Steps p.tables e below (s₁.setTop (entryFrame m #[(.int p1), (.int p2), (.int p3)] maxLocals)) t := fun t kt => pr85 t (by
          refine st84 _ ?_
          show Steps p.tables e below (T84.setTop (mkF m 249 #[.val (.int p1), .val (.int p2), .val (.int p3), .val (.int (own_cc p1)), .val (.int (own_a p2)), .val (.int (own_f p3)), .val (.ref b1), .val (.int (3 : Int32)), .val (.int ((((own_a p2) + (1 : Int32)) + (1 : Int32)) + (1 : Int32))), .unset, .unset] [(.int (1 : Int32))])) _
          refine XS.ifNo X84.here hx rfl (hb hby at_249) rfl ((if0 _ _).trans (feq (by decide : ¬ ((1 : Int32) = (0 : Int32)))).1) ?_
          show Steps p.tables e below (T84.setTop (mkF m 252 #[.val (.int p1), .val (.int p2), .val (.int p3), .val (.int (own_cc p1)), .val (.int (own_a p2)), .val (.int (own_f p3)), .val (.ref b1), .val (.int (3 : Int32)), .val (.int ((((own_a p2) + (1 : Int32)) + (1 : Int32)) + (1 : Int32))), .unset, .unset] [])) _
          refine XS.iconst X84.here hx rfl (hb hby at_252) ?_
          show Steps p.tables e below (T84.setTop (mkF m 253 #[.val (.int p1), .val (.int p2), .val (.int p3), .val (.int (own_cc p1)), .val (.int (own_a p2)), .val (.int (own_f p3)), .val (.ref b1), .val (.int (3 : Int32)), .val (.int ((((own_a p2) + (1 : Int32)) + (1 : Int32)) + (1 : Int32))), .unset, .unset] [(.int (1 : Int32))])) _
          refine XS.goto X84.here hx rfl (pc0 := 253) (pc' := 257) rfl (hb hby at_253) (by decide) (by decide) ?_
          show Steps p.tables e below (T84.setTop (mkF m 257 #[.val (.int p1), .val (.int p2), .val (.int p3), .val (.int (own_cc p1)), .val (.int (own_a p2)), .val (.int (own_f p3)), .val (.ref b1), .val (.int (3 : Int32)), .val (.int ((((own_a p2) + (1 : Int32)) + (1 : Int32)) + (1 : Int32))), .unset, .unset] [(.int (1 : Int32))])) _
          refine XS.istore X84.here hx rfl (hb hby at_257) rfl (l' := #[.val (.int p1), .val (.int p2), .val (.int p3), .val (.int (own_cc p1)), .val (.int (own_a p2)), .val (.int (own_f p3)), .val (.ref b1), .val (.int (3 : Int32)), .val (.int ((((own_a p2) + (1 : Int32)) + (1 : Int32)) + (1 : Int32))), .val (.int (1 : Int32)), .unset]) rfl ?_
          show Steps p.tables e below (T84.setTop (mkF m 259 #[.val (.int p1), .val (.int p2), .val (.int p3), .val (.int (own_cc p1)), .val (.int (own_a p2)), .val (.int (own_f p3)), .val (.ref b1), .val (.int (3 : Int32)), .val (.int ((((own_a p2) + (1 : Int32)) + (1 : Int32)) + (1 : Int32))), .val (.int (1 : Int32)), .unset] [])) _
          exact kt)
        obtain ⟨cl, Ar, Sz, Hs⟩ := id V68
        have pr88 : ∀ t, Steps p.tables e below (T84.setTop (mkF m 296 #[.val (.int p1), .val (.int p2), .val (.int p3), .val (.int (own_cc p1)), .val (.int (own_a p2)), .val (.int (own_f p3)), .val (.ref b1), .val (.int (3 : Int32)), .val (.int ((((own_a p2) + (1 : Int32)) + (1 : Int32)) + (1 : Int32))), .val (.int (1 : Int32)), .unset] [(.int ((own_w3 (own_cc p1) (own_a p2) (fun _ => own_f p3)) (own_a p2)))])) t → Steps p.tables e below (s₁.setTop (entryFrame m #[(.int p1), (.int p2), (.int p3)] maxLocals)) t := fun t kt => pr86 t (by
          show Steps p.tables e below (T84.setTop (mkF m 259 #[.val (.int p1), .val (.int p2), .val (.int p3), .val (.int (own_cc p1)), .val (.int (own_a p2)), .val (.int (own_f p3)), .val (.ref b1), .val (.int (3 : Int32)), .val (.int ((((own_a p2) + (1 : Int32)) + (1 : Int32)) + (1 : Int32))), .val (.int (1 : Int32)), .unset] [])) _
          refine XS.iload X84.here hx rfl (hb hby at_259) rfl ?_
          show Steps p.tables e below (T84.setTop (mkF m 261 #[.val (.int p1), .val (.int p2), .val (.int p3), .val (.int (own_cc p1)), .val (.int (own_a p2)), .val (.int (own_f p3)), .val (.ref b1), .val (.int (3 : Int32)), .val (.int ((((own_a p2) + (1 : Int32)) + (1 : Int32)) + (1 : Int32))), .val (.int (1 : Int32)), .unset] [(.int (3 : Int32))])) _
          refine XS.iconst X84.here hx rfl (hb hby at_261) ?_
          show Steps p.tables e below (T84.setTop (mkF m 262 #[.val (.int p1), .val (.int p2), .val (.int p3), .val (.int (own_cc p1)), .val (.int (own_a p2)), .val (.int (own_f p3)), .val (.ref b1), .val (.int (3 : Int32)), .val (.int ((((own_a p2) + (1 : Int32)) + (1 : Int32)) + (1 : Int32))), .val (.int (1 : Int32)), .unset] [(.int (1 : Int32)), (.int (3 : Int32))])) _
          refine XS.icmpYes X84.here hx rfl (pc0 := 262) (pc' := 286) rfl (hb hby at_262) rfl (feq (by decide : ¬ ((3 : Int32) = (1 : Int32)))).2 (by decide) (by decide) ?_
          show Steps p.tables e below (T84.setTop (mkF m 286 #[.val (.int p1), .val (.int p2), .val (.int p3), .val (.int (own_cc p1)), .val (.int (own_a p2)), .val (.int (own_f p3)), .val (.ref b1), .val (.int (3 : Int32)), .val (.int ((((own_a p2) + (1 : Int32)) + (1 : Int32)) + (1 : Int32))), .val (.int (1 : Int32)), .unset] [])) _
          refine XS.iload X84.here hx rfl (hb hby at_286) rfl ?_
          show Steps p.tables e below (T84.setTop (mkF m 288 #[.val (.int p1), .val (.int p2), .val (.int p3), .val (.int (own_cc p1)), .val (.int (own_a p2)), .val (.int (own_f p3)), .val (.ref b1), .val (.int (3 : Int32)), .val (.int ((((own_a p2) + (1 : Int32)) + (1 : Int32)) + (1 : Int32))), .val (.int (1 : Int32)), .unset] [(.int (1 : Int32))])) _
          refine XS.ifNo X84.here hx rfl (hb hby at_288) rfl ((if0 _ _).trans (feq (by decide : ¬ ((1 : Int32) = (0 : Int32)))).1) ?_
          show Steps p.tables e below (T84.setTop (mkF m 291 #[.val (.int p1), .val (.int p2), .val (.int p3), .val (.int (own_cc p1)), .val (.int (own_a p2)), .val (.int (own_f p3)), .val (.ref b1), .val (.int (3 : Int32)), .val (.int ((((own_a p2) + (1 : Int32)) + (1 : Int32)) + (1 : Int32))), .val (.int (1 : Int32)), .unset] [])) _
          refine XS.aload X84.here hx rfl (hb hby at_291) rfl rfl ?_
          show Steps p.tables e below (T84.setTop (mkF m 293 #[.val (.int p1), .val (.int p2), .val (.int p3), .val (.int (own_cc p1)), .val (.int (own_a p2)), .val (.int (own_f p3)), .val (.ref b1), .val (.int (3 : Int32)), .val (.int ((((own_a p2) + (1 : Int32)) + (1 : Int32)) + (1 : Int32))), .val (.int (1 : Int32)), .unset] [(.ref b1)])) _
          refine XS.iload X84.here hx rfl (hb hby at_293) rfl ?_
          show Steps p.tables e below (T84.setTop (mkF m 295 #[.val (.int p1), .val (.int p2), .val (.int p3), .val (.int (own_cc p1)), .val (.int (own_a p2)), .val (.int (own_f p3)), .val (.ref b1), .val (.int (3 : Int32)), .val (.int ((((own_a p2) + (1 : Int32)) + (1 : Int32)) + (1 : Int32))), .val (.int (1 : Int32)), .unset] [(.int (own_a p2)), (.ref b1)])) _
          refine X84.baloadBytes hx (j := (own_a p2)) (v := (.int ((own_w3 (own_cc p1) (own_a p2) (fun _ => own_f p3)) (own_a p2)))) (by rw [e84]; exact Ar.1) (State.isArrayOf_alike hZ.alike Ar.2.1) Ar.2.2 (own_in Sz (own_ix0 (own_ai p2))) (Hs (own_a p2) (own_ix0 (own_ai p2)).1 (own_ix0 (own_ai p2)).2) (g := (mkF m 295 #[.val (.int p1), .val (.int p2), .val (.int p3), .val (.int (own_cc p1)), .val (.int (own_a p2)), .val (.int (own_f p3)), .val (.ref b1), .val (.int (3 : Int32)), .val (.int ((((own_a p2) + (1 : Int32)) + (1 : Int32)) + (1 : Int32))), .val (.int (1 : Int32)), .unset] [(.int (own_a p2)), (.ref b1)])) rfl rfl (hb hby at_295) _ ?_
          show Steps p.tables e below (T84.setTop (mkF m 296 #[.val (.int p1), .val (.int p2), .val (.int p3), .val (.int (own_cc p1)), .val (.int (own_a p2)), .val (.int (own_f p3)), .val (.ref b1), .val (.int (3 : Int32)), .val (.int ((((own_a p2) + (1 : Int32)) + (1 : Int32)) + (1 : Int32))), .val (.int (1 : Int32)), .unset] [(.int ((own_w3 (own_cc p1) (own_a p2) (fun _ => own_f p3)) (own_a p2)))])) _
          exact kt)
        obtain ⟨_, _, ⟨T87, L87, k87, n87⟩, -, X87, ⟨Lc87, hQ87, l87, y87, z87⟩, st87⟩ := Jvm.LawKit.callS X84 hx (y := (⟨"com/example/nuthatch/nuthatch/Utf8", "sequenceLength", "(B)I"⟩ : MethodName)) hown (mvT hZ (hw _ (List.mem_of_getElem? (i := 11) rfl))) (mvT hZ (hw _ (List.mem_of_getElem? (i := 12) rfl))) (mvT hZ (hw _ (List.mem_of_getElem? (i := 5) rfl))) (mvT hZ (hw _ (List.mem_of_getElem? (i := 13) rfl))) (by decide) (backOf (W := 0) (rm_sl l Z a0 hw [] ((own_w3 (own_cc p1) (own_a p2) (fun _ => own_f p3)) (own_a p2)) T68.heap n0 (Nat.le_trans Z17 s68) ) hZ (hw _ (List.mem_of_getElem? (i := 13) rfl)) (hw _ (List.mem_of_getElem? (i := 5) rfl)) (by decide) (by decide)) (g := (mkF m 296 #[.val (.int p1), .val (.int p2), .val (.int p3), .val (.int (own_cc p1)), .val (.int (own_a p2)), .val (.int (own_f p3)), .val (.ref b1), .val (.int (3 : Int32)), .val (.int ((((own_a p2) + (1 : Int32)) + (1 : Int32)) + (1 : Int32))), .val (.int (1 : Int32)), .unset] [(.int ((own_w3 (own_cc p1) (own_a p2) (fun _ => own_f p3)) (own_a p2)))])) rfl (by rw [hml]; rfl) (argsL := [(.int ((own_w3 (own_cc p1) (own_a p2) (fun _ => own_f p3)) (own_a p2)))]) (rest := []) (lenOf pd_law_2 rfl) rfl (by show 2 * 0 + _ ≤ _; exact Nat.le_of_eq rfl) (hb hby at_296) (fun _ _ => ⟨rfl, e84, (by decide : 1 + 0 ≤ _), (by decide : 8 + 0 ≤ _)⟩)
        dsimp only [Pt.U, Pt.locs, Pt.cells, Pt.slots] at X87 l87 y87 z87 st87 hQ87
        subst l87 y87 z87
        obtain ⟨rfl, N87q, e87⟩ := hQ87
        have N87 := Fr.app N84 N87q
        have pr90 : ∀ t, Steps p.tables e below (T87.setTop (mkF m 314 #[.val (.int p1), .val (.int p2), .val (.int p3), .val (.int (own_cc p1)), .val (.int (own_a p2)), .val (.int (own_f p3)), .val (.ref b1), .val (.int (3 : Int32)), .val (.int ((((own_a p2) + (1 : Int32)) + (1 : Int32)) + (1 : Int32))), .val (.int (1 : Int32)), .unset] [(.int (55296 : Int32)), (.int (own_cc p1))])) t → Steps p.tables e below (s₁.setTop (entryFrame m #[(.int p1), (.int p2), (.int p3)] maxLocals)) t := fun t kt => pr88 t (by
          refine st87 _ ?_
          show Steps p.tables e below (T87.setTop (mkF m 299 #[.val (.int p1), .val (.int p2), .val (.int p3), .val (.int (own_cc p1)), .val (.int (own_a p2)), .val (.int (own_f p3)), .val (.ref b1), .val (.int (3 : Int32)), .val (.int ((((own_a p2) + (1 : Int32)) + (1 : Int32)) + (1 : Int32))), .val (.int (1 : Int32)), .unset] [(.int (own_sl ((own_w3 (own_cc p1) (own_a p2) (fun _ => own_f p3)) (own_a p2))))])) _
          refine XS.iload X87.here hx rfl (hb hby at_299) rfl ?_
          show Steps p.tables e below (T87.setTop (mkF m 301 #[.val (.int p1), .val (.int p2), .val (.int p3), .val (.int (own_cc p1)), .val (.int (own_a p2)), .val (.int (own_f p3)), .val (.ref b1), .val (.int (3 : Int32)), .val (.int ((((own_a p2) + (1 : Int32)) + (1 : Int32)) + (1 : Int32))), .val (.int (1 : Int32)), .unset] [(.int (3 : Int32)), (.int (own_sl ((own_w3 (own_cc p1) (own_a p2) (fun _ => own_f p3)) (own_a p2))))])) _
          refine XS.icmpNo X87.here hx rfl (hb hby at_301) rfl (teq ((congrArg own_sl (own_v30 (own_ai p2))).trans (own_sl3 _ (own_cci p1).1 (own_lt hc98_66)) : (own_sl ((own_w3 (own_cc p1) (own_a p2) (fun _ => own_f p3)) (own_a p2))) = (3 : Int32))).2 ?_
          show Steps p.tables e below (T87.setTop (mkF m 304 #[.val (.int p1), .val (.int p2), .val (.int p3), .val (.int (own_cc p1)), .val (.int (own_a p2)), .val (.int (own_f p3)), .val (.ref b1), .val (.int (3 : Int32)), .val (.int ((((own_a p2) + (1 : Int32)) + (1 : Int32)) + (1 : Int32))), .val (.int (1 : Int32)), .unset] [])) _
          refine XS.iconst X87.here hx rfl (hb hby at_304) ?_
          show Steps p.tables e below (T87.setTop (mkF m 305 #[.val (.int p1), .val (.int p2), .val (.int p3), .val (.int (own_cc p1)), .val (.int (own_a p2)), .val (.int (own_f p3)), .val (.ref b1), .val (.int (3 : Int32)), .val (.int ((((own_a p2) + (1 : Int32)) + (1 : Int32)) + (1 : Int32))), .val (.int (1 : Int32)), .unset] [(.int (1 : Int32))])) _
          refine XS.goto X87.here hx rfl (pc0 := 305) (pc' := 309) rfl (hb hby at_305) (by decide) (by decide) ?_
          show Steps p.tables e below (T87.setTop (mkF m 309 #[.val (.int p1), .val (.int p2), .val (.int p3), .val (.int (own_cc p1)), .val (.int (own_a p2)), .val (.int (own_f p3)), .val (.ref b1), .val (.int (3 : Int32)), .val (.int ((((own_a p2) + (1 : Int32)) + (1 : Int32)) + (1 : Int32))), .val (.int (1 : Int32)), .unset] [(.int (1 : Int32))])) _
          refine XS.istore X87.here hx rfl (hb hby at_309) rfl (l' := #[.val (.int p1), .val (.int p2), .val (.int p3), .val (.int (own_cc p1)), .val (.int (own_a p2)), .val (.int (own_f p3)), .val (.ref b1), .val (.int (3 : Int32)), .val (.int ((((own_a p2) + (1 : Int32)) + (1 : Int32)) + (1 : Int32))), .val (.int (1 : Int32)), .unset]) rfl ?_
          show Steps p.tables e below (T87.setTop (mkF m 311 #[.val (.int p1), .val (.int p2), .val (.int p3), .val (.int (own_cc p1)), .val (.int (own_a p2)), .val (.int (own_f p3)), .val (.ref b1), .val (.int (3 : Int32)), .val (.int ((((own_a p2) + (1 : Int32)) + (1 : Int32)) + (1 : Int32))), .val (.int (1 : Int32)), .unset] [])) _
          refine XS.iloadN X87.here hx rfl (hb hby at_311) rfl ?_
          show Steps p.tables e below (T87.setTop (mkF m 312 #[.val (.int p1), .val (.int p2), .val (.int p3), .val (.int (own_cc p1)), .val (.int (own_a p2)), .val (.int (own_f p3)), .val (.ref b1), .val (.int (3 : Int32)), .val (.int ((((own_a p2) + (1 : Int32)) + (1 : Int32)) + (1 : Int32))), .val (.int (1 : Int32)), .unset] [(.int (own_cc p1))])) _
          refine X87.ldcInt hx hown (mvT hZ (hw _ (List.mem_of_getElem? (i := 14) rfl))) (g := (mkF m 312 #[.val (.int p1), .val (.int p2), .val (.int p3), .val (.int (own_cc p1)), .val (.int (own_a p2)), .val (.int (own_f p3)), .val (.ref b1), .val (.int (3 : Int32)), .val (.int ((((own_a p2) + (1 : Int32)) + (1 : Int32)) + (1 : Int32))), .val (.int (1 : Int32)), .unset] [(.int (own_cc p1))])) rfl (hb hby at_312) _ ?_
          exact kt)
        by_cases hc314_89 : (own_cc p1) < (55296 : Int32)
        · have pr92 : ∀ t, Steps p.tables e below (T87.setTop (mkF m 423 #[.val (.int p1), .val (.int p2), .val (.int p3), .val (.int (own_cc p1)), .val (.int (own_a p2)), .val (.int (own_f p3)), .val (.ref b1), .val (.int (3 : Int32)), .val (.int ((((own_a p2) + (1 : Int32)) + (1 : Int32)) + (1 : Int32))), .val (.int (1 : Int32)), .unset] [(.int (3 : Int32)), (.int (own_a p2)), (.ref b1)])) t → Steps p.tables e below (s₁.setTop (entryFrame m #[(.int p1), (.int p2), (.int p3)] maxLocals)) t := fun t kt => pr90 t (by
            show Steps p.tables e below (T87.setTop (mkF m 314 #[.val (.int p1), .val (.int p2), .val (.int p3), .val (.int (own_cc p1)), .val (.int (own_a p2)), .val (.int (own_f p3)), .val (.ref b1), .val (.int (3 : Int32)), .val (.int ((((own_a p2) + (1 : Int32)) + (1 : Int32)) + (1 : Int32))), .val (.int (1 : Int32)), .unset] [(.int (55296 : Int32)), (.int (own_cc p1))])) _
            refine XS.icmpYes X87.here hx rfl (pc0 := 314) (pc' := 412) rfl (hb hby at_314) rfl (tlt hc314_89).1 (by decide) (by decide) ?_
            show Steps p.tables e below (T87.setTop (mkF m 412 #[.val (.int p1), .val (.int p2), .val (.int p3), .val (.int (own_cc p1)), .val (.int (own_a p2)), .val (.int (own_f p3)), .val (.ref b1), .val (.int (3 : Int32)), .val (.int ((((own_a p2) + (1 : Int32)) + (1 : Int32)) + (1 : Int32))), .val (.int (1 : Int32)), .unset] [])) _
            refine XS.iload X87.here hx rfl (hb hby at_412) rfl ?_
            show Steps p.tables e below (T87.setTop (mkF m 414 #[.val (.int p1), .val (.int p2), .val (.int p3), .val (.int (own_cc p1)), .val (.int (own_a p2)), .val (.int (own_f p3)), .val (.ref b1), .val (.int (3 : Int32)), .val (.int ((((own_a p2) + (1 : Int32)) + (1 : Int32)) + (1 : Int32))), .val (.int (1 : Int32)), .unset] [(.int (1 : Int32))])) _
            refine XS.ifNo X87.here hx rfl (hb hby at_414) rfl ((if0 _ _).trans (feq (by decide : ¬ ((1 : Int32) = (0 : Int32)))).1) ?_
            show Steps p.tables e below (T87.setTop (mkF m 417 #[.val (.int p1), .val (.int p2), .val (.int p3), .val (.int (own_cc p1)), .val (.int (own_a p2)), .val (.int (own_f p3)), .val (.ref b1), .val (.int (3 : Int32)), .val (.int ((((own_a p2) + (1 : Int32)) + (1 : Int32)) + (1 : Int32))), .val (.int (1 : Int32)), .unset] [])) _
            refine XS.aload X87.here hx rfl (hb hby at_417) rfl rfl ?_
            show Steps p.tables e below (T87.setTop (mkF m 419 #[.val (.int p1), .val (.int p2), .val (.int p3), .val (.int (own_cc p1)), .val (.int (own_a p2)), .val (.int (own_f p3)), .val (.ref b1), .val (.int (3 : Int32)), .val (.int ((((own_a p2) + (1 : Int32)) + (1 : Int32)) + (1 : Int32))), .val (.int (1 : Int32)), .unset] [(.ref b1)])) _
            refine XS.iload X87.here hx rfl (hb hby at_419) rfl ?_
            show Steps p.tables e below (T87.setTop (mkF m 421 #[.val (.int p1), .val (.int p2), .val (.int p3), .val (.int (own_cc p1)), .val (.int (own_a p2)), .val (.int (own_f p3)), .val (.ref b1), .val (.int (3 : Int32)), .val (.int ((((own_a p2) + (1 : Int32)) + (1 : Int32)) + (1 : Int32))), .val (.int (1 : Int32)), .unset] [(.int (own_a p2)), (.ref b1)])) _
            refine XS.iload X87.here hx rfl (hb hby at_421) rfl ?_
            show Steps p.tables e below (T87.setTop (mkF m 423 #[.val (.int p1), .val (.int p2), .val (.int p3), .val (.int (own_cc p1)), .val (.int (own_a p2)), .val (.int (own_f p3)), .val (.ref b1), .val (.int (3 : Int32)), .val (.int ((((own_a p2) + (1 : Int32)) + (1 : Int32)) + (1 : Int32))), .val (.int (1 : Int32)), .unset] [(.int (3 : Int32)), (.int (own_a p2)), (.ref b1)])) _
            exact kt)
          obtain ⟨_, _, ⟨T91, L91, k91, n91⟩, -, X91, ⟨Lc91, hQ91, l91, y91, z91⟩, st91⟩ := Jvm.LawKit.callS X87 hx (y := (⟨"com/example/nuthatch/nuthatch/Utf8", "codePoint", "([BII)I"⟩ : MethodName)) hown (mvT hZ (hw _ (List.mem_of_getElem? (i := 15) rfl))) (mvT hZ (hw _ (List.mem_of_getElem? (i := 16) rfl))) (mvT hZ (hw _ (List.mem_of_getElem? (i := 5) rfl))) (mvT hZ (hw _ (List.mem_of_getElem? (i := 17) rfl))) (by decide) (backOf (W := 0) (rm_cp3 l Z a0 hw [] b1 (own_a p2) (3 : Int32) (own_w3 (own_cc p1) (own_a p2) (fun _ => own_f p3)) (own_cc p1) T68.heap n0 (Nat.le_trans Z17 s68) V68 (own_ai p2) rfl (own_dd3 (own_ai p2) (own_cci p1).1 (own_lt hc98_66)) (own_ff31 (own_ai p2)) (own_ff32 (own_ai p2)) hc88_41 (Or.inl hc314_89)) hZ (hw _ (List.mem_of_getElem? (i := 17) rfl)) (hw _ (List.mem_of_getElem? (i := 5) rfl)) (by decide) (by decide)) (g := (mkF m 423 #[.val (.int p1), .val (.int p2), .val (.int p3), .val (.int (own_cc p1)), .val (.int (own_a p2)), .val (.int (own_f p3)), .val (.ref b1), .val (.int (3 : Int32)), .val (.int ((((own_a p2) + (1 : Int32)) + (1 : Int32)) + (1 : Int32))), .val (.int (1 : Int32)), .unset] [(.int (3 : Int32)), (.int (own_a p2)), (.ref b1)])) rfl (by rw [hml]; rfl) (argsL := [(.ref b1), (.int (own_a p2)), (.int (3 : Int32))]) (rest := []) (lenOf pd_law_3 rfl) rfl (by show 2 * 0 + _ ≤ _; exact Nat.le_of_eq rfl) (hb hby at_423) (fun _ _ => ⟨rfl, e87, (by decide : 1 + 0 ≤ _), (by decide : 8 + 0 ≤ _)⟩)
          dsimp only [Pt.U, Pt.locs, Pt.cells, Pt.slots] at X91 l91 y91 z91 st91 hQ91
          subst l91 y91 z91
          obtain ⟨rfl, N91q, e91⟩ := hQ91
          have N91 := Fr.app N87 N91q
          obtain ⟨fs, hr, hrun, hended, hW, hsame⟩ := X91.leave (v := some (.int (nar .boolean (1 : Int32)))) (fun h => by rw [Bd.returns] at h; cases h)
          refine ⟨_, _, pr92 _ ?_, hrun, hended, _, _, rfl, ?_, ⟨_, rfl⟩, hW, hsame.mono (by decide) (by decide)⟩
          · refine st91 _ ?_
            show Steps p.tables e below (T91.setTop (mkF m 426 #[.val (.int p1), .val (.int p2), .val (.int p3), .val (.int (own_cc p1)), .val (.int (own_a p2)), .val (.int (own_f p3)), .val (.ref b1), .val (.int (3 : Int32)), .val (.int ((((own_a p2) + (1 : Int32)) + (1 : Int32)) + (1 : Int32))), .val (.int (1 : Int32)), .unset] [(.int (own_cc p1))])) _
            refine XS.iloadN X91.here hx rfl (hb hby at_426) rfl ?_
            show Steps p.tables e below (T91.setTop (mkF m 427 #[.val (.int p1), .val (.int p2), .val (.int p3), .val (.int (own_cc p1)), .val (.int (own_a p2)), .val (.int (own_f p3)), .val (.ref b1), .val (.int (3 : Int32)), .val (.int ((((own_a p2) + (1 : Int32)) + (1 : Int32)) + (1 : Int32))), .val (.int (1 : Int32)), .unset] [(.int (own_cc p1)), (.int (own_cc p1))])) _
            refine XS.icmpNo X91.here hx rfl (hb hby at_427) rfl (teq (rfl : (own_cc p1) = (own_cc p1))).2 ?_
            show Steps p.tables e below (T91.setTop (mkF m 430 #[.val (.int p1), .val (.int p2), .val (.int p3), .val (.int (own_cc p1)), .val (.int (own_a p2)), .val (.int (own_f p3)), .val (.ref b1), .val (.int (3 : Int32)), .val (.int ((((own_a p2) + (1 : Int32)) + (1 : Int32)) + (1 : Int32))), .val (.int (1 : Int32)), .unset] [])) _
            refine XS.iconst X91.here hx rfl (hb hby at_430) ?_
            show Steps p.tables e below (T91.setTop (mkF m 431 #[.val (.int p1), .val (.int p2), .val (.int p3), .val (.int (own_cc p1)), .val (.int (own_a p2)), .val (.int (own_f p3)), .val (.ref b1), .val (.int (3 : Int32)), .val (.int ((((own_a p2) + (1 : Int32)) + (1 : Int32)) + (1 : Int32))), .val (.int (1 : Int32)), .unset] [(.int (1 : Int32))])) _
            refine XS.goto X91.here hx rfl (pc0 := 431) (pc' := 435) rfl (hb hby at_431) (by decide) (by decide) ?_
            show Steps p.tables e below (T91.setTop (mkF m 435 #[.val (.int p1), .val (.int p2), .val (.int p3), .val (.int (own_cc p1)), .val (.int (own_a p2)), .val (.int (own_f p3)), .val (.ref b1), .val (.int (3 : Int32)), .val (.int ((((own_a p2) + (1 : Int32)) + (1 : Int32)) + (1 : Int32))), .val (.int (1 : Int32)), .unset] [(.int (1 : Int32))])) _
            exact retN X91 hx (t := .boolean) Bd.returns (by simp) (hb hby at_435) hr
          · show Q_law Z p1 p2 p3 h0 n0 _ T91.heap _
            rw [e91]
            exact ⟨(congrArg (fun zz => some (Value.int zz)) (by rfl : nar .boolean (1 : Int32) = (1 : Int32))), N91⟩
        · have pr94 : ∀ t, Steps p.tables e below (T87.setTop (mkF m 320 #[.val (.int p1), .val (.int p2), .val (.int p3), .val (.int (own_cc p1)), .val (.int (own_a p2)), .val (.int (own_f p3)), .val (.ref b1), .val (.int (3 : Int32)), .val (.int ((((own_a p2) + (1 : Int32)) + (1 : Int32)) + (1 : Int32))), .val (.int (1 : Int32)), .unset] [(.int (57343 : Int32)), (.int (own_cc p1))])) t → Steps p.tables e below (s₁.setTop (entryFrame m #[(.int p1), (.int p2), (.int p3)] maxLocals)) t := fun t kt => pr90 t (by
            show Steps p.tables e below (T87.setTop (mkF m 314 #[.val (.int p1), .val (.int p2), .val (.int p3), .val (.int (own_cc p1)), .val (.int (own_a p2)), .val (.int (own_f p3)), .val (.ref b1), .val (.int (3 : Int32)), .val (.int ((((own_a p2) + (1 : Int32)) + (1 : Int32)) + (1 : Int32))), .val (.int (1 : Int32)), .unset] [(.int (55296 : Int32)), (.int (own_cc p1))])) _
            refine XS.icmpNo X87.here hx rfl (hb hby at_314) rfl (flt hc314_89).1 ?_
            show Steps p.tables e below (T87.setTop (mkF m 317 #[.val (.int p1), .val (.int p2), .val (.int p3), .val (.int (own_cc p1)), .val (.int (own_a p2)), .val (.int (own_f p3)), .val (.ref b1), .val (.int (3 : Int32)), .val (.int ((((own_a p2) + (1 : Int32)) + (1 : Int32)) + (1 : Int32))), .val (.int (1 : Int32)), .unset] [])) _
            refine XS.iloadN X87.here hx rfl (hb hby at_317) rfl ?_
            show Steps p.tables e below (T87.setTop (mkF m 318 #[.val (.int p1), .val (.int p2), .val (.int p3), .val (.int (own_cc p1)), .val (.int (own_a p2)), .val (.int (own_f p3)), .val (.ref b1), .val (.int (3 : Int32)), .val (.int ((((own_a p2) + (1 : Int32)) + (1 : Int32)) + (1 : Int32))), .val (.int (1 : Int32)), .unset] [(.int (own_cc p1))])) _
            refine X87.ldcInt hx hown (mvT hZ (hw _ (List.mem_of_getElem? (i := 23) rfl))) (g := (mkF m 318 #[.val (.int p1), .val (.int p2), .val (.int p3), .val (.int (own_cc p1)), .val (.int (own_a p2)), .val (.int (own_f p3)), .val (.ref b1), .val (.int (3 : Int32)), .val (.int ((((own_a p2) + (1 : Int32)) + (1 : Int32)) + (1 : Int32))), .val (.int (1 : Int32)), .unset] [(.int (own_cc p1))])) rfl (hb hby at_318) _ ?_
            exact kt)
          by_cases hc320_93 : (57343 : Int32) < (own_cc p1)
          · have pr96 : ∀ t, Steps p.tables e below (T87.setTop (mkF m 423 #[.val (.int p1), .val (.int p2), .val (.int p3), .val (.int (own_cc p1)), .val (.int (own_a p2)), .val (.int (own_f p3)), .val (.ref b1), .val (.int (3 : Int32)), .val (.int ((((own_a p2) + (1 : Int32)) + (1 : Int32)) + (1 : Int32))), .val (.int (1 : Int32)), .unset] [(.int (3 : Int32)), (.int (own_a p2)), (.ref b1)])) t → Steps p.tables e below (s₁.setTop (entryFrame m #[(.int p1), (.int p2), (.int p3)] maxLocals)) t := fun t kt => pr94 t (by
              show Steps p.tables e below (T87.setTop (mkF m 320 #[.val (.int p1), .val (.int p2), .val (.int p3), .val (.int (own_cc p1)), .val (.int (own_a p2)), .val (.int (own_f p3)), .val (.ref b1), .val (.int (3 : Int32)), .val (.int ((((own_a p2) + (1 : Int32)) + (1 : Int32)) + (1 : Int32))), .val (.int (1 : Int32)), .unset] [(.int (57343 : Int32)), (.int (own_cc p1))])) _
              refine XS.icmpYes X87.here hx rfl (pc0 := 320) (pc' := 412) rfl (hb hby at_320) rfl (tlt hc320_93).2.2.1 (by decide) (by decide) ?_
              show Steps p.tables e below (T87.setTop (mkF m 412 #[.val (.int p1), .val (.int p2), .val (.int p3), .val (.int (own_cc p1)), .val (.int (own_a p2)), .val (.int (own_f p3)), .val (.ref b1), .val (.int (3 : Int32)), .val (.int ((((own_a p2) + (1 : Int32)) + (1 : Int32)) + (1 : Int32))), .val (.int (1 : Int32)), .unset] [])) _
              refine XS.iload X87.here hx rfl (hb hby at_412) rfl ?_
              show Steps p.tables e below (T87.setTop (mkF m 414 #[.val (.int p1), .val (.int p2), .val (.int p3), .val (.int (own_cc p1)), .val (.int (own_a p2)), .val (.int (own_f p3)), .val (.ref b1), .val (.int (3 : Int32)), .val (.int ((((own_a p2) + (1 : Int32)) + (1 : Int32)) + (1 : Int32))), .val (.int (1 : Int32)), .unset] [(.int (1 : Int32))])) _
              refine XS.ifNo X87.here hx rfl (hb hby at_414) rfl ((if0 _ _).trans (feq (by decide : ¬ ((1 : Int32) = (0 : Int32)))).1) ?_
              show Steps p.tables e below (T87.setTop (mkF m 417 #[.val (.int p1), .val (.int p2), .val (.int p3), .val (.int (own_cc p1)), .val (.int (own_a p2)), .val (.int (own_f p3)), .val (.ref b1), .val (.int (3 : Int32)), .val (.int ((((own_a p2) + (1 : Int32)) + (1 : Int32)) + (1 : Int32))), .val (.int (1 : Int32)), .unset] [])) _
              refine XS.aload X87.here hx rfl (hb hby at_417) rfl rfl ?_
              show Steps p.tables e below (T87.setTop (mkF m 419 #[.val (.int p1), .val (.int p2), .val (.int p3), .val (.int (own_cc p1)), .val (.int (own_a p2)), .val (.int (own_f p3)), .val (.ref b1), .val (.int (3 : Int32)), .val (.int ((((own_a p2) + (1 : Int32)) + (1 : Int32)) + (1 : Int32))), .val (.int (1 : Int32)), .unset] [(.ref b1)])) _
              refine XS.iload X87.here hx rfl (hb hby at_419) rfl ?_
              show Steps p.tables e below (T87.setTop (mkF m 421 #[.val (.int p1), .val (.int p2), .val (.int p3), .val (.int (own_cc p1)), .val (.int (own_a p2)), .val (.int (own_f p3)), .val (.ref b1), .val (.int (3 : Int32)), .val (.int ((((own_a p2) + (1 : Int32)) + (1 : Int32)) + (1 : Int32))), .val (.int (1 : Int32)), .unset] [(.int (own_a p2)), (.ref b1)])) _
              refine XS.iload X87.here hx rfl (hb hby at_421) rfl ?_
              show Steps p.tables e below (T87.setTop (mkF m 423 #[.val (.int p1), .val (.int p2), .val (.int p3), .val (.int (own_cc p1)), .val (.int (own_a p2)), .val (.int (own_f p3)), .val (.ref b1), .val (.int (3 : Int32)), .val (.int ((((own_a p2) + (1 : Int32)) + (1 : Int32)) + (1 : Int32))), .val (.int (1 : Int32)), .unset] [(.int (3 : Int32)), (.int (own_a p2)), (.ref b1)])) _
              exact kt)
            obtain ⟨_, _, ⟨T95, L95, k95, n95⟩, -, X95, ⟨Lc95, hQ95, l95, y95, z95⟩, st95⟩ := Jvm.LawKit.callS X87 hx (y := (⟨"com/example/nuthatch/nuthatch/Utf8", "codePoint", "([BII)I"⟩ : MethodName)) hown (mvT hZ (hw _ (List.mem_of_getElem? (i := 15) rfl))) (mvT hZ (hw _ (List.mem_of_getElem? (i := 16) rfl))) (mvT hZ (hw _ (List.mem_of_getElem? (i := 5) rfl))) (mvT hZ (hw _ (List.mem_of_getElem? (i := 17) rfl))) (by decide) (backOf (W := 0) (rm_cp3 l Z a0 hw [] b1 (own_a p2) (3 : Int32) (own_w3 (own_cc p1) (own_a p2) (fun _ => own_f p3)) (own_cc p1) T68.heap n0 (Nat.le_trans Z17 s68) V68 (own_ai p2) rfl (own_dd3 (own_ai p2) (own_cci p1).1 (own_lt hc98_66)) (own_ff31 (own_ai p2)) (own_ff32 (own_ai p2)) hc88_41 (Or.inr hc320_93)) hZ (hw _ (List.mem_of_getElem? (i := 17) rfl)) (hw _ (List.mem_of_getElem? (i := 5) rfl)) (by decide) (by decide)) (g := (mkF m 423 #[.val (.int p1), .val (.int p2), .val (.int p3), .val (.int (own_cc p1)), .val (.int (own_a p2)), .val (.int (own_f p3)), .val (.ref b1), .val (.int (3 : Int32)), .val (.int ((((own_a p2) + (1 : Int32)) + (1 : Int32)) + (1 : Int32))), .val (.int (1 : Int32)), .unset] [(.int (3 : Int32)), (.int (own_a p2)), (.ref b1)])) rfl (by rw [hml]; rfl) (argsL := [(.ref b1), (.int (own_a p2)), (.int (3 : Int32))]) (rest := []) (lenOf pd_law_3 rfl) rfl (by show 2 * 0 + _ ≤ _; exact Nat.le_of_eq rfl) (hb hby at_423) (fun _ _ => ⟨rfl, e87, (by decide : 1 + 0 ≤ _), (by decide : 8 + 0 ≤ _)⟩)
            dsimp only [Pt.U, Pt.locs, Pt.cells, Pt.slots] at X95 l95 y95 z95 st95 hQ95
            subst l95 y95 z95
            obtain ⟨rfl, N95q, e95⟩ := hQ95
            have N95 := Fr.app N87 N95q
            obtain ⟨fs, hr, hrun, hended, hW, hsame⟩ := X95.leave (v := some (.int (nar .boolean (1 : Int32)))) (fun h => by rw [Bd.returns] at h; cases h)
            refine ⟨_, _, pr96 _ ?_, hrun, hended, _, _, rfl, ?_, ⟨_, rfl⟩, hW, hsame.mono (by decide) (by decide)⟩
            · refine st95 _ ?_
              show Steps p.tables e below (T95.setTop (mkF m 426 #[.val (.int p1), .val (.int p2), .val (.int p3), .val (.int (own_cc p1)), .val (.int (own_a p2)), .val (.int (own_f p3)), .val (.ref b1), .val (.int (3 : Int32)), .val (.int ((((own_a p2) + (1 : Int32)) + (1 : Int32)) + (1 : Int32))), .val (.int (1 : Int32)), .unset] [(.int (own_cc p1))])) _
              refine XS.iloadN X95.here hx rfl (hb hby at_426) rfl ?_
              show Steps p.tables e below (T95.setTop (mkF m 427 #[.val (.int p1), .val (.int p2), .val (.int p3), .val (.int (own_cc p1)), .val (.int (own_a p2)), .val (.int (own_f p3)), .val (.ref b1), .val (.int (3 : Int32)), .val (.int ((((own_a p2) + (1 : Int32)) + (1 : Int32)) + (1 : Int32))), .val (.int (1 : Int32)), .unset] [(.int (own_cc p1)), (.int (own_cc p1))])) _
              refine XS.icmpNo X95.here hx rfl (hb hby at_427) rfl (teq (rfl : (own_cc p1) = (own_cc p1))).2 ?_
              show Steps p.tables e below (T95.setTop (mkF m 430 #[.val (.int p1), .val (.int p2), .val (.int p3), .val (.int (own_cc p1)), .val (.int (own_a p2)), .val (.int (own_f p3)), .val (.ref b1), .val (.int (3 : Int32)), .val (.int ((((own_a p2) + (1 : Int32)) + (1 : Int32)) + (1 : Int32))), .val (.int (1 : Int32)), .unset] [])) _
              refine XS.iconst X95.here hx rfl (hb hby at_430) ?_
              show Steps p.tables e below (T95.setTop (mkF m 431 #[.val (.int p1), .val (.int p2), .val (.int p3), .val (.int (own_cc p1)), .val (.int (own_a p2)), .val (.int (own_f p3)), .val (.ref b1), .val (.int (3 : Int32)), .val (.int ((((own_a p2) + (1 : Int32)) + (1 : Int32)) + (1 : Int32))), .val (.int (1 : Int32)), .unset] [(.int (1 : Int32))])) _
              refine XS.goto X95.here hx rfl (pc0 := 431) (pc' := 435) rfl (hb hby at_431) (by decide) (by decide) ?_
              show Steps p.tables e below (T95.setTop (mkF m 435 #[.val (.int p1), .val (.int p2), .val (.int p3), .val (.int (own_cc p1)), .val (.int (own_a p2)), .val (.int (own_f p3)), .val (.ref b1), .val (.int (3 : Int32)), .val (.int ((((own_a p2) + (1 : Int32)) + (1 : Int32)) + (1 : Int32))), .val (.int (1 : Int32)), .unset] [(.int (1 : Int32))])) _
              exact retN X95 hx (t := .boolean) Bd.returns (by simp) (hb hby at_435) hr
            · show Q_law Z p1 p2 p3 h0 n0 _ T95.heap _
              rw [e95]
              exact ⟨(congrArg (fun zz => some (Value.int zz)) (by rfl : nar .boolean (1 : Int32) = (1 : Int32))), N95⟩
          · have sg97 : ∀ t, Steps p.tables e below (T87.setTop (mkF m 361 #[.val (.int p1), .val (.int p2), .val (.int p3), .val (.int (own_cc p1)), .val (.int (own_a p2)), .val (.int (own_f p3)), .val (.ref b1), .val (.int (3 : Int32)), .val (.int ((((own_a p2) + (1 : Int32)) + (1 : Int32)) + (1 : Int32))), .val (.int (1 : Int32)), .val (.int (own_cc p1))] [])) t → Steps p.tables e below (T87.setTop (mkF m 323 #[.val (.int p1), .val (.int p2), .val (.int p3), .val (.int (own_cc p1)), .val (.int (own_a p2)), .val (.int (own_f p3)), .val (.ref b1), .val (.int (3 : Int32)), .val (.int ((((own_a p2) + (1 : Int32)) + (1 : Int32)) + (1 : Int32))), .val (.int (1 : Int32)), .unset] [])) t := by
              intro t kt
              show Steps p.tables e below (T87.setTop (mkF m 323 #[.val (.int p1), .val (.int p2), .val (.int p3), .val (.int (own_cc p1)), .val (.int (own_a p2)), .val (.int (own_f p3)), .val (.ref b1), .val (.int (3 : Int32)), .val (.int ((((own_a p2) + (1 : Int32)) + (1 : Int32)) + (1 : Int32))), .val (.int (1 : Int32)), .unset] [])) _
              refine XS.aload X87.here hx rfl (hb hby at_323) rfl rfl ?_
              show Steps p.tables e below (T87.setTop (mkF m 325 #[.val (.int p1), .val (.int p2), .val (.int p3), .val (.int (own_cc p1)), .val (.int (own_a p2)), .val (.int (own_f p3)), .val (.ref b1), .val (.int (3 : Int32)), .val (.int ((((own_a p2) + (1 : Int32)) + (1 : Int32)) + (1 : Int32))), .val (.int (1 : Int32)), .unset] [(.ref b1)])) _
              refine XS.iload X87.here hx rfl (hb hby at_325) rfl ?_
              show Steps p.tables e below (T87.setTop (mkF m 327 #[.val (.int p1), .val (.int p2), .val (.int p3), .val (.int (own_cc p1)), .val (.int (own_a p2)), .val (.int (own_f p3)), .val (.ref b1), .val (.int (3 : Int32)), .val (.int ((((own_a p2) + (1 : Int32)) + (1 : Int32)) + (1 : Int32))), .val (.int (1 : Int32)), .unset] [(.int (own_a p2)), (.ref b1)])) _
              refine X87.baloadBytes hx (j := (own_a p2)) (v := (.int ((own_w3 (own_cc p1) (own_a p2) (fun _ => own_f p3)) (own_a p2)))) (by rw [e87]; exact Ar.1) (State.isArrayOf_alike hZ.alike Ar.2.1) Ar.2.2 (own_in Sz (own_ix0 (own_ai p2))) (Hs (own_a p2) (own_ix0 (own_ai p2)).1 (own_ix0 (own_ai p2)).2) (g := (mkF m 327 #[.val (.int p1), .val (.int p2), .val (.int p3), .val (.int (own_cc p1)), .val (.int (own_a p2)), .val (.int (own_f p3)), .val (.ref b1), .val (.int (3 : Int32)), .val (.int ((((own_a p2) + (1 : Int32)) + (1 : Int32)) + (1 : Int32))), .val (.int (1 : Int32)), .unset] [(.int (own_a p2)), (.ref b1)])) rfl rfl (hb hby at_327) _ ?_
              show Steps p.tables e below (T87.setTop (mkF m 328 #[.val (.int p1), .val (.int p2), .val (.int p3), .val (.int (own_cc p1)), .val (.int (own_a p2)), .val (.int (own_f p3)), .val (.ref b1), .val (.int (3 : Int32)), .val (.int ((((own_a p2) + (1 : Int32)) + (1 : Int32)) + (1 : Int32))), .val (.int (1 : Int32)), .unset] [(.int ((own_w3 (own_cc p1) (own_a p2) (fun _ => own_f p3)) (own_a p2)))])) _
              refine XS.bipush X87.here hx rfl (hb hby at_328) ?_
              show Steps p.tables e below (T87.setTop (mkF m 330 #[.val (.int p1), .val (.int p2), .val (.int p3), .val (.int (own_cc p1)), .val (.int (own_a p2)), .val (.int (own_f p3)), .val (.ref b1), .val (.int (3 : Int32)), .val (.int ((((own_a p2) + (1 : Int32)) + (1 : Int32)) + (1 : Int32))), .val (.int (1 : Int32)), .unset] [(.int (15 : Int32)), (.int ((own_w3 (own_cc p1) (own_a p2) (fun _ => own_f p3)) (own_a p2)))])) _
              refine XS.iand X87.here hx rfl (hb hby at_330) rfl ?_
              show Steps p.tables e below (T87.setTop (mkF m 331 #[.val (.int p1), .val (.int p2), .val (.int p3), .val (.int (own_cc p1)), .val (.int (own_a p2)), .val (.int (own_f p3)), .val (.ref b1), .val (.int (3 : Int32)), .val (.int ((((own_a p2) + (1 : Int32)) + (1 : Int32)) + (1 : Int32))), .val (.int (1 : Int32)), .unset] [(.int (((own_w3 (own_cc p1) (own_a p2) (fun _ => own_f p3)) (own_a p2)) &&& (15 : Int32)))])) _
              refine XS.bipush X87.here hx rfl (hb hby at_331) ?_
              show Steps p.tables e below (T87.setTop (mkF m 333 #[.val (.int p1), .val (.int p2), .val (.int p3), .val (.int (own_cc p1)), .val (.int (own_a p2)), .val (.int (own_f p3)), .val (.ref b1), .val (.int (3 : Int32)), .val (.int ((((own_a p2) + (1 : Int32)) + (1 : Int32)) + (1 : Int32))), .val (.int (1 : Int32)), .unset] [(.int (12 : Int32)), (.int (((own_w3 (own_cc p1) (own_a p2) (fun _ => own_f p3)) (own_a p2)) &&& (15 : Int32)))])) _
              refine XS.ishl X87.here hx rfl (hb hby at_333) rfl ?_
              show Steps p.tables e below (T87.setTop (mkF m 334 #[.val (.int p1), .val (.int p2), .val (.int p3), .val (.int (own_cc p1)), .val (.int (own_a p2)), .val (.int (own_f p3)), .val (.ref b1), .val (.int (3 : Int32)), .val (.int ((((own_a p2) + (1 : Int32)) + (1 : Int32)) + (1 : Int32))), .val (.int (1 : Int32)), .unset] [(.int ((((own_w3 (own_cc p1) (own_a p2) (fun _ => own_f p3)) (own_a p2)) &&& (15 : Int32)) <<< ((12 : Int32) &&& 31)))])) _
              refine XS.aload X87.here hx rfl (hb hby at_334) rfl rfl ?_
              show Steps p.tables e below (T87.setTop (mkF m 336 #[.val (.int p1), .val (.int p2), .val (.int p3), .val (.int (own_cc p1)), .val (.int (own_a p2)), .val (.int (own_f p3)), .val (.ref b1), .val (.int (3 : Int32)), .val (.int ((((own_a p2) + (1 : Int32)) + (1 : Int32)) + (1 : Int32))), .val (.int (1 : Int32)), .unset] [(.ref b1), (.int ((((own_w3 (own_cc p1) (own_a p2) (fun _ => own_f p3)) (own_a p2)) &&& (15 : Int32)) <<< ((12 : Int32) &&& 31)))])) _
              refine XS.iload X87.here hx rfl (hb hby at_336) rfl ?_
              show Steps p.tables e below (T87.setTop (mkF m 338 #[.val (.int p1), .val (.int p2), .val (.int p3), .val (.int (own_cc p1)), .val (.int (own_a p2)), .val (.int (own_f p3)), .val (.ref b1), .val (.int (3 : Int32)), .val (.int ((((own_a p2) + (1 : Int32)) + (1 : Int32)) + (1 : Int32))), .val (.int (1 : Int32)), .unset] [(.int (own_a p2)), (.ref b1), (.int ((((own_w3 (own_cc p1) (own_a p2) (fun _ => own_f p3)) (own_a p2)) &&& (15 : Int32)) <<< ((12 : Int32) &&& 31)))])) _
              refine XS.iconst X87.here hx rfl (hb hby at_338) ?_
              show Steps p.tables e below (T87.setTop (mkF m 339 #[.val (.int p1), .val (.int p2), .val (.int p3), .val (.int (own_cc p1)), .val (.int (own_a p2)), .val (.int (own_f p3)), .val (.ref b1), .val (.int (3 : Int32)), .val (.int ((((own_a p2) + (1 : Int32)) + (1 : Int32)) + (1 : Int32))), .val (.int (1 : Int32)), .unset] [(.int (1 : Int32)), (.int (own_a p2)), (.ref b1), (.int ((((own_w3 (own_cc p1) (own_a p2) (fun _ => own_f p3)) (own_a p2)) &&& (15 : Int32)) <<< ((12 : Int32) &&& 31)))])) _
              refine XS.iadd X87.here hx rfl (hb hby at_339) rfl ?_
              show Steps p.tables e below (T87.setTop (mkF m 340 #[.val (.int p1), .val (.int p2), .val (.int p3), .val (.int (own_cc p1)), .val (.int (own_a p2)), .val (.int (own_f p3)), .val (.ref b1), .val (.int (3 : Int32)), .val (.int ((((own_a p2) + (1 : Int32)) + (1 : Int32)) + (1 : Int32))), .val (.int (1 : Int32)), .unset] [(.int ((own_a p2) + (1 : Int32))), (.ref b1), (.int ((((own_w3 (own_cc p1) (own_a p2) (fun _ => own_f p3)) (own_a p2)) &&& (15 : Int32)) <<< ((12 : Int32) &&& 31)))])) _
              refine X87.baloadBytes hx (j := ((own_a p2) + (1 : Int32))) (v := (.int ((own_w3 (own_cc p1) (own_a p2) (fun _ => own_f p3)) ((own_a p2) + (1 : Int32))))) (by rw [e87]; exact Ar.1) (State.isArrayOf_alike hZ.alike Ar.2.1) Ar.2.2 (own_in Sz (own_ix1 (own_ai p2))) (Hs ((own_a p2) + (1 : Int32)) (own_ix1 (own_ai p2)).1 (own_ix1 (own_ai p2)).2) (g := (mkF m 340 #[.val (.int p1), .val (.int p2), .val (.int p3), .val (.int (own_cc p1)), .val (.int (own_a p2)), .val (.int (own_f p3)), .val (.ref b1), .val (.int (3 : Int32)), .val (.int ((((own_a p2) + (1 : Int32)) + (1 : Int32)) + (1 : Int32))), .val (.int (1 : Int32)), .unset] [(.int ((own_a p2) + (1 : Int32))), (.ref b1), (.int ((((own_w3 (own_cc p1) (own_a p2) (fun _ => own_f p3)) (own_a p2)) &&& (15 : Int32)) <<< ((12 : Int32) &&& 31)))])) rfl rfl (hb hby at_340) _ ?_
              show Steps p.tables e below (T87.setTop (mkF m 341 #[.val (.int p1), .val (.int p2), .val (.int p3), .val (.int (own_cc p1)), .val (.int (own_a p2)), .val (.int (own_f p3)), .val (.ref b1), .val (.int (3 : Int32)), .val (.int ((((own_a p2) + (1 : Int32)) + (1 : Int32)) + (1 : Int32))), .val (.int (1 : Int32)), .unset] [(.int ((own_w3 (own_cc p1) (own_a p2) (fun _ => own_f p3)) ((own_a p2) + (1 : Int32)))), (.int ((((own_w3 (own_cc p1) (own_a p2) (fun _ => own_f p3)) (own_a p2)) &&& (15 : Int32)) <<< ((12 : Int32) &&& 31)))])) _
              refine XS.bipush X87.here hx rfl (hb hby at_341) ?_
              show Steps p.tables e below (T87.setTop (mkF m 343 #[.val (.int p1), .val (.int p2), .val (.int p3), .val (.int (own_cc p1)), .val (.int (own_a p2)), .val (.int (own_f p3)), .val (.ref b1), .val (.int (3 : Int32)), .val (.int ((((own_a p2) + (1 : Int32)) + (1 : Int32)) + (1 : Int32))), .val (.int (1 : Int32)), .unset] [(.int (63 : Int32)), (.int ((own_w3 (own_cc p1) (own_a p2) (fun _ => own_f p3)) ((own_a p2) + (1 : Int32)))), (.int ((((own_w3 (own_cc p1) (own_a p2) (fun _ => own_f p3)) (own_a p2)) &&& (15 : Int32)) <<< ((12 : Int32) &&& 31)))])) _
              refine XS.iand X87.here hx rfl (hb hby at_343) rfl ?_
              show Steps p.tables e below (T87.setTop (mkF m 344 #[.val (.int p1), .val (.int p2), .val (.int p3), .val (.int (own_cc p1)), .val (.int (own_a p2)), .val (.int (own_f p3)), .val (.ref b1), .val (.int (3 : Int32)), .val (.int ((((own_a p2) + (1 : Int32)) + (1 : Int32)) + (1 : Int32))), .val (.int (1 : Int32)), .unset] [(.int (((own_w3 (own_cc p1) (own_a p2) (fun _ => own_f p3)) ((own_a p2) + (1 : Int32))) &&& (63 : Int32))), (.int ((((own_w3 (own_cc p1) (own_a p2) (fun _ => own_f p3)) (own_a p2)) &&& (15 : Int32)) <<< ((12 : Int32) &&& 31)))])) _
              refine XS.bipush X87.here hx rfl (hb hby at_344) ?_
              show Steps p.tables e below (T87.setTop (mkF m 346 #[.val (.int p1), .val (.int p2), .val (.int p3), .val (.int (own_cc p1)), .val (.int (own_a p2)), .val (.int (own_f p3)), .val (.ref b1), .val (.int (3 : Int32)), .val (.int ((((own_a p2) + (1 : Int32)) + (1 : Int32)) + (1 : Int32))), .val (.int (1 : Int32)), .unset] [(.int (6 : Int32)), (.int (((own_w3 (own_cc p1) (own_a p2) (fun _ => own_f p3)) ((own_a p2) + (1 : Int32))) &&& (63 : Int32))), (.int ((((own_w3 (own_cc p1) (own_a p2) (fun _ => own_f p3)) (own_a p2)) &&& (15 : Int32)) <<< ((12 : Int32) &&& 31)))])) _
              refine XS.ishl X87.here hx rfl (hb hby at_346) rfl ?_
              show Steps p.tables e below (T87.setTop (mkF m 347 #[.val (.int p1), .val (.int p2), .val (.int p3), .val (.int (own_cc p1)), .val (.int (own_a p2)), .val (.int (own_f p3)), .val (.ref b1), .val (.int (3 : Int32)), .val (.int ((((own_a p2) + (1 : Int32)) + (1 : Int32)) + (1 : Int32))), .val (.int (1 : Int32)), .unset] [(.int ((((own_w3 (own_cc p1) (own_a p2) (fun _ => own_f p3)) ((own_a p2) + (1 : Int32))) &&& (63 : Int32)) <<< ((6 : Int32) &&& 31))), (.int ((((own_w3 (own_cc p1) (own_a p2) (fun _ => own_f p3)) (own_a p2)) &&& (15 : Int32)) <<< ((12 : Int32) &&& 31)))])) _
              refine XS.ior X87.here hx rfl (hb hby at_347) rfl ?_
              show Steps p.tables e below (T87.setTop (mkF m 348 #[.val (.int p1), .val (.int p2), .val (.int p3), .val (.int (own_cc p1)), .val (.int (own_a p2)), .val (.int (own_f p3)), .val (.ref b1), .val (.int (3 : Int32)), .val (.int ((((own_a p2) + (1 : Int32)) + (1 : Int32)) + (1 : Int32))), .val (.int (1 : Int32)), .unset] [(.int (((((own_w3 (own_cc p1) (own_a p2) (fun _ => own_f p3)) (own_a p2)) &&& (15 : Int32)) <<< ((12 : Int32) &&& 31)) ||| ((((own_w3 (own_cc p1) (own_a p2) (fun _ => own_f p3)) ((own_a p2) + (1 : Int32))) &&& (63 : Int32)) <<< ((6 : Int32) &&& 31))))])) _
              refine XS.aload X87.here hx rfl (hb hby at_348) rfl rfl ?_
              show Steps p.tables e below (T87.setTop (mkF m 350 #[.val (.int p1), .val (.int p2), .val (.int p3), .val (.int (own_cc p1)), .val (.int (own_a p2)), .val (.int (own_f p3)), .val (.ref b1), .val (.int (3 : Int32)), .val (.int ((((own_a p2) + (1 : Int32)) + (1 : Int32)) + (1 : Int32))), .val (.int (1 : Int32)), .unset] [(.ref b1), (.int (((((own_w3 (own_cc p1) (own_a p2) (fun _ => own_f p3)) (own_a p2)) &&& (15 : Int32)) <<< ((12 : Int32) &&& 31)) ||| ((((own_w3 (own_cc p1) (own_a p2) (fun _ => own_f p3)) ((own_a p2) + (1 : Int32))) &&& (63 : Int32)) <<< ((6 : Int32) &&& 31))))])) _
              refine XS.iload X87.here hx rfl (hb hby at_350) rfl ?_
              show Steps p.tables e below (T87.setTop (mkF m 352 #[.val (.int p1), .val (.int p2), .val (.int p3), .val (.int (own_cc p1)), .val (.int (own_a p2)), .val (.int (own_f p3)), .val (.ref b1), .val (.int (3 : Int32)), .val (.int ((((own_a p2) + (1 : Int32)) + (1 : Int32)) + (1 : Int32))), .val (.int (1 : Int32)), .unset] [(.int (own_a p2)), (.ref b1), (.int (((((own_w3 (own_cc p1) (own_a p2) (fun _ => own_f p3)) (own_a p2)) &&& (15 : Int32)) <<< ((12 : Int32) &&& 31)) ||| ((((own_w3 (own_cc p1) (own_a p2) (fun _ => own_f p3)) ((own_a p2) + (1 : Int32))) &&& (63 : Int32)) <<< ((6 : Int32) &&& 31))))])) _
              refine XS.iconst X87.here hx rfl (hb hby at_352) ?_
              show Steps p.tables e below (T87.setTop (mkF m 353 #[.val (.int p1), .val (.int p2), .val (.int p3), .val (.int (own_cc p1)), .val (.int (own_a p2)), .val (.int (own_f p3)), .val (.ref b1), .val (.int (3 : Int32)), .val (.int ((((own_a p2) + (1 : Int32)) + (1 : Int32)) + (1 : Int32))), .val (.int (1 : Int32)), .unset] [(.int (2 : Int32)), (.int (own_a p2)), (.ref b1), (.int (((((own_w3 (own_cc p1) (own_a p2) (fun _ => own_f p3)) (own_a p2)) &&& (15 : Int32)) <<< ((12 : Int32) &&& 31)) ||| ((((own_w3 (own_cc p1) (own_a p2) (fun _ => own_f p3)) ((own_a p2) + (1 : Int32))) &&& (63 : Int32)) <<< ((6 : Int32) &&& 31))))])) _
              refine XS.iadd X87.here hx rfl (hb hby at_353) rfl ?_
              show Steps p.tables e below (T87.setTop (mkF m 354 #[.val (.int p1), .val (.int p2), .val (.int p3), .val (.int (own_cc p1)), .val (.int (own_a p2)), .val (.int (own_f p3)), .val (.ref b1), .val (.int (3 : Int32)), .val (.int ((((own_a p2) + (1 : Int32)) + (1 : Int32)) + (1 : Int32))), .val (.int (1 : Int32)), .unset] [(.int ((own_a p2) + (2 : Int32))), (.ref b1), (.int (((((own_w3 (own_cc p1) (own_a p2) (fun _ => own_f p3)) (own_a p2)) &&& (15 : Int32)) <<< ((12 : Int32) &&& 31)) ||| ((((own_w3 (own_cc p1) (own_a p2) (fun _ => own_f p3)) ((own_a p2) + (1 : Int32))) &&& (63 : Int32)) <<< ((6 : Int32) &&& 31))))])) _
              refine X87.baloadBytes hx (j := ((own_a p2) + (2 : Int32))) (v := (.int ((own_w3 (own_cc p1) (own_a p2) (fun _ => own_f p3)) ((own_a p2) + (2 : Int32))))) (by rw [e87]; exact Ar.1) (State.isArrayOf_alike hZ.alike Ar.2.1) Ar.2.2 (own_in Sz (own_iy2 (own_ai p2))) (Hs ((own_a p2) + (2 : Int32)) (own_iy2 (own_ai p2)).1 (own_iy2 (own_ai p2)).2) (g := (mkF m 354 #[.val (.int p1), .val (.int p2), .val (.int p3), .val (.int (own_cc p1)), .val (.int (own_a p2)), .val (.int (own_f p3)), .val (.ref b1), .val (.int (3 : Int32)), .val (.int ((((own_a p2) + (1 : Int32)) + (1 : Int32)) + (1 : Int32))), .val (.int (1 : Int32)), .unset] [(.int ((own_a p2) + (2 : Int32))), (.ref b1), (.int (((((own_w3 (own_cc p1) (own_a p2) (fun _ => own_f p3)) (own_a p2)) &&& (15 : Int32)) <<< ((12 : Int32) &&& 31)) ||| ((((own_w3 (own_cc p1) (own_a p2) (fun _ => own_f p3)) ((own_a p2) + (1 : Int32))) &&& (63 : Int32)) <<< ((6 : Int32) &&& 31))))])) rfl rfl (hb hby at_354) _ ?_
              show Steps p.tables e below (T87.setTop (mkF m 355 #[.val (.int p1), .val (.int p2), .val (.int p3), .val (.int (own_cc p1)), .val (.int (own_a p2)), .val (.int (own_f p3)), .val (.ref b1), .val (.int (3 : Int32)), .val (.int ((((own_a p2) + (1 : Int32)) + (1 : Int32)) + (1 : Int32))), .val (.int (1 : Int32)), .unset] [(.int ((own_w3 (own_cc p1) (own_a p2) (fun _ => own_f p3)) ((own_a p2) + (2 : Int32)))), (.int (((((own_w3 (own_cc p1) (own_a p2) (fun _ => own_f p3)) (own_a p2)) &&& (15 : Int32)) <<< ((12 : Int32) &&& 31)) ||| ((((own_w3 (own_cc p1) (own_a p2) (fun _ => own_f p3)) ((own_a p2) + (1 : Int32))) &&& (63 : Int32)) <<< ((6 : Int32) &&& 31))))])) _
              refine XS.bipush X87.here hx rfl (hb hby at_355) ?_
              show Steps p.tables e below (T87.setTop (mkF m 357 #[.val (.int p1), .val (.int p2), .val (.int p3), .val (.int (own_cc p1)), .val (.int (own_a p2)), .val (.int (own_f p3)), .val (.ref b1), .val (.int (3 : Int32)), .val (.int ((((own_a p2) + (1 : Int32)) + (1 : Int32)) + (1 : Int32))), .val (.int (1 : Int32)), .unset] [(.int (63 : Int32)), (.int ((own_w3 (own_cc p1) (own_a p2) (fun _ => own_f p3)) ((own_a p2) + (2 : Int32)))), (.int (((((own_w3 (own_cc p1) (own_a p2) (fun _ => own_f p3)) (own_a p2)) &&& (15 : Int32)) <<< ((12 : Int32) &&& 31)) ||| ((((own_w3 (own_cc p1) (own_a p2) (fun _ => own_f p3)) ((own_a p2) + (1 : Int32))) &&& (63 : Int32)) <<< ((6 : Int32) &&& 31))))])) _
              refine XS.iand X87.here hx rfl (hb hby at_357) rfl ?_
              show Steps p.tables e below (T87.setTop (mkF m 358 #[.val (.int p1), .val (.int p2), .val (.int p3), .val (.int (own_cc p1)), .val (.int (own_a p2)), .val (.int (own_f p3)), .val (.ref b1), .val (.int (3 : Int32)), .val (.int ((((own_a p2) + (1 : Int32)) + (1 : Int32)) + (1 : Int32))), .val (.int (1 : Int32)), .unset] [(.int (((own_w3 (own_cc p1) (own_a p2) (fun _ => own_f p3)) ((own_a p2) + (2 : Int32))) &&& (63 : Int32))), (.int (((((own_w3 (own_cc p1) (own_a p2) (fun _ => own_f p3)) (own_a p2)) &&& (15 : Int32)) <<< ((12 : Int32) &&& 31)) ||| ((((own_w3 (own_cc p1) (own_a p2) (fun _ => own_f p3)) ((own_a p2) + (1 : Int32))) &&& (63 : Int32)) <<< ((6 : Int32) &&& 31))))])) _
              refine XS.ior X87.here hx rfl (hb hby at_358) rfl ?_
              show Steps p.tables e below (T87.setTop (mkF m 359 #[.val (.int p1), .val (.int p2), .val (.int p3), .val (.int (own_cc p1)), .val (.int (own_a p2)), .val (.int (own_f p3)), .val (.ref b1), .val (.int (3 : Int32)), .val (.int ((((own_a p2) + (1 : Int32)) + (1 : Int32)) + (1 : Int32))), .val (.int (1 : Int32)), .unset] [(.int ((((((own_w3 (own_cc p1) (own_a p2) (fun _ => own_f p3)) (own_a p2)) &&& (15 : Int32)) <<< ((12 : Int32) &&& 31)) ||| ((((own_w3 (own_cc p1) (own_a p2) (fun _ => own_f p3)) ((own_a p2) + (1 : Int32))) &&& (63 : Int32)) <<< ((6 : Int32) &&& 31))) ||| (((own_w3 (own_cc p1) (own_a p2) (fun _ => own_f p3)) ((own_a p2) + (2 : Int32))) &&& (63 : Int32))))])) _
              refine XS.istore X87.here hx rfl (hb hby at_359) rfl (l' := #[.val (.int p1), .val (.int p2), .val (.int p3), .val (.int (own_cc p1)), .val (.int (own_a p2)), .val (.int (own_f p3)), .val (.ref b1), .val (.int (3 : Int32)), .val (.int ((((own_a p2) + (1 : Int32)) + (1 : Int32)) + (1 : Int32))), .val (.int (1 : Int32)), .val (.int ((((((own_w3 (own_cc p1) (own_a p2) (fun _ => own_f p3)) (own_a p2)) &&& (15 : Int32)) <<< ((12 : Int32) &&& 31)) ||| ((((own_w3 (own_cc p1) (own_a p2) (fun _ => own_f p3)) ((own_a p2) + (1 : Int32))) &&& (63 : Int32)) <<< ((6 : Int32) &&& 31))) ||| (((own_w3 (own_cc p1) (own_a p2) (fun _ => own_f p3)) ((own_a p2) + (2 : Int32))) &&& (63 : Int32))))]) rfl ?_
              show Steps p.tables e below (T87.setTop (mkF m 361 #[.val (.int p1), .val (.int p2), .val (.int p3), .val (.int (own_cc p1)), .val (.int (own_a p2)), .val (.int (own_f p3)), .val (.ref b1), .val (.int (3 : Int32)), .val (.int ((((own_a p2) + (1 : Int32)) + (1 : Int32)) + (1 : Int32))), .val (.int (1 : Int32)), .val (.int ((((((own_w3 (own_cc p1) (own_a p2) (fun _ => own_f p3)) (own_a p2)) &&& (15 : Int32)) <<< ((12 : Int32) &&& 31)) ||| ((((own_w3 (own_cc p1) (own_a p2) (fun _ => own_f p3)) ((own_a p2) + (1 : Int32))) &&& (63 : Int32)) <<< ((6 : Int32) &&& 31))) ||| (((own_w3 (own_cc p1) (own_a p2) (fun _ => own_f p3)) ((own_a p2) + (2 : Int32))) &&& (63 : Int32))))] [])) _
              refine castTop (congrArg (fun zz => (mkF m 361 #[.val (.int p1), .val (.int p2), .val (.int p3), .val (.int (own_cc p1)), .val (.int (own_a p2)), .val (.int (own_f p3)), .val (.ref b1), .val (.int (3 : Int32)), .val (.int ((((own_a p2) + (1 : Int32)) + (1 : Int32)) + (1 : Int32))), .val (.int (1 : Int32)), .val (.int zz)] [])) (by exact own_dd3 (own_ai p2) (own_cci p1).1 (own_lt hc98_66) : ((((((own_w3 (own_cc p1) (own_a p2) (fun _ => own_f p3)) (own_a p2)) &&& (15 : Int32)) <<< ((12 : Int32) &&& 31)) ||| ((((own_w3 (own_cc p1) (own_a p2) (fun _ => own_f p3)) ((own_a p2) + (1 : Int32))) &&& (63 : Int32)) <<< ((6 : Int32) &&& 31))) ||| (((own_w3 (own_cc p1) (own_a p2) (fun _ => own_f p3)) ((own_a p2) + (2 : Int32))) &&& (63 : Int32))) = (own_cc p1))) ?_
              exact kt
            obtain ⟨fs, hr, hrun, hended, hW, hsame⟩ := X87.leave (v := some (.int (nar .boolean (1 : Int32)))) (fun h => by rw [Bd.returns] at h; cases h)
            refine ⟨_, _, pr94 _ ?_, hrun, hended, _, _, rfl, ?_, ⟨_, rfl⟩, hW, hsame.mono (by decide) (by decide)⟩
            · show Steps p.tables e below (T87.setTop (mkF m 320 #[.val (.int p1), .val (.int p2), .val (.int p3), .val (.int (own_cc p1)), .val (.int (own_a p2)), .val (.int (own_f p3)), .val (.ref b1), .val (.int (3 : Int32)), .val (.int ((((own_a p2) + (1 : Int32)) + (1 : Int32)) + (1 : Int32))), .val (.int (1 : Int32)), .unset] [(.int (57343 : Int32)), (.int (own_cc p1))])) _
              refine XS.icmpNo X87.here hx rfl (hb hby at_320) rfl (flt hc320_93).2.2.1 ?_
              show Steps p.tables e below (T87.setTop (mkF m 323 #[.val (.int p1), .val (.int p2), .val (.int p3), .val (.int (own_cc p1)), .val (.int (own_a p2)), .val (.int (own_f p3)), .val (.ref b1), .val (.int (3 : Int32)), .val (.int ((((own_a p2) + (1 : Int32)) + (1 : Int32)) + (1 : Int32))), .val (.int (1 : Int32)), .unset] [])) _
              refine sg97 _ ?_
              show Steps p.tables e below (T87.setTop (mkF m 361 #[.val (.int p1), .val (.int p2), .val (.int p3), .val (.int (own_cc p1)), .val (.int (own_a p2)), .val (.int (own_f p3)), .val (.ref b1), .val (.int (3 : Int32)), .val (.int ((((own_a p2) + (1 : Int32)) + (1 : Int32)) + (1 : Int32))), .val (.int (1 : Int32)), .val (.int (own_cc p1))] [])) _
              refine XS.iload X87.here hx rfl (hb hby at_361) rfl ?_
              show Steps p.tables e below (T87.setTop (mkF m 363 #[.val (.int p1), .val (.int p2), .val (.int p3), .val (.int (own_cc p1)), .val (.int (own_a p2)), .val (.int (own_f p3)), .val (.ref b1), .val (.int (3 : Int32)), .val (.int ((((own_a p2) + (1 : Int32)) + (1 : Int32)) + (1 : Int32))), .val (.int (1 : Int32)), .val (.int (own_cc p1))] [(.int (1 : Int32))])) _
              refine XS.ifNo X87.here hx rfl (hb hby at_363) rfl ((if0 _ _).trans (feq (by decide : ¬ ((1 : Int32) = (0 : Int32)))).1) ?_
              show Steps p.tables e below (T87.setTop (mkF m 366 #[.val (.int p1), .val (.int p2), .val (.int p3), .val (.int (own_cc p1)), .val (.int (own_a p2)), .val (.int (own_f p3)), .val (.ref b1), .val (.int (3 : Int32)), .val (.int ((((own_a p2) + (1 : Int32)) + (1 : Int32)) + (1 : Int32))), .val (.int (1 : Int32)), .val (.int (own_cc p1))] [])) _
              refine XS.aload X87.here hx rfl (hb hby at_366) rfl rfl ?_
              show Steps p.tables e below (T87.setTop (mkF m 368 #[.val (.int p1), .val (.int p2), .val (.int p3), .val (.int (own_cc p1)), .val (.int (own_a p2)), .val (.int (own_f p3)), .val (.ref b1), .val (.int (3 : Int32)), .val (.int ((((own_a p2) + (1 : Int32)) + (1 : Int32)) + (1 : Int32))), .val (.int (1 : Int32)), .val (.int (own_cc p1))] [(.ref b1)])) _
              refine XS.iload X87.here hx rfl (hb hby at_368) rfl ?_
              show Steps p.tables e below (T87.setTop (mkF m 370 #[.val (.int p1), .val (.int p2), .val (.int p3), .val (.int (own_cc p1)), .val (.int (own_a p2)), .val (.int (own_f p3)), .val (.ref b1), .val (.int (3 : Int32)), .val (.int ((((own_a p2) + (1 : Int32)) + (1 : Int32)) + (1 : Int32))), .val (.int (1 : Int32)), .val (.int (own_cc p1))] [(.int (own_a p2)), (.ref b1)])) _
              refine XS.iconst X87.here hx rfl (hb hby at_370) ?_
              show Steps p.tables e below (T87.setTop (mkF m 371 #[.val (.int p1), .val (.int p2), .val (.int p3), .val (.int (own_cc p1)), .val (.int (own_a p2)), .val (.int (own_f p3)), .val (.ref b1), .val (.int (3 : Int32)), .val (.int ((((own_a p2) + (1 : Int32)) + (1 : Int32)) + (1 : Int32))), .val (.int (1 : Int32)), .val (.int (own_cc p1))] [(.int (1 : Int32)), (.int (own_a p2)), (.ref b1)])) _
              refine XS.iadd X87.here hx rfl (hb hby at_371) rfl ?_
              show Steps p.tables e below (T87.setTop (mkF m 372 #[.val (.int p1), .val (.int p2), .val (.int p3), .val (.int (own_cc p1)), .val (.int (own_a p2)), .val (.int (own_f p3)), .val (.ref b1), .val (.int (3 : Int32)), .val (.int ((((own_a p2) + (1 : Int32)) + (1 : Int32)) + (1 : Int32))), .val (.int (1 : Int32)), .val (.int (own_cc p1))] [(.int ((own_a p2) + (1 : Int32))), (.ref b1)])) _
              refine X87.baloadBytes hx (j := ((own_a p2) + (1 : Int32))) (v := (.int ((own_w3 (own_cc p1) (own_a p2) (fun _ => own_f p3)) ((own_a p2) + (1 : Int32))))) (by rw [e87]; exact Ar.1) (State.isArrayOf_alike hZ.alike Ar.2.1) Ar.2.2 (own_in Sz (own_ix1 (own_ai p2))) (Hs ((own_a p2) + (1 : Int32)) (own_ix1 (own_ai p2)).1 (own_ix1 (own_ai p2)).2) (g := (mkF m 372 #[.val (.int p1), .val (.int p2), .val (.int p3), .val (.int (own_cc p1)), .val (.int (own_a p2)), .val (.int (own_f p3)), .val (.ref b1), .val (.int (3 : Int32)), .val (.int ((((own_a p2) + (1 : Int32)) + (1 : Int32)) + (1 : Int32))), .val (.int (1 : Int32)), .val (.int (own_cc p1))] [(.int ((own_a p2) + (1 : Int32))), (.ref b1)])) rfl rfl (hb hby at_372) _ ?_
              show Steps p.tables e below (T87.setTop (mkF m 373 #[.val (.int p1), .val (.int p2), .val (.int p3), .val (.int (own_cc p1)), .val (.int (own_a p2)), .val (.int (own_f p3)), .val (.ref b1), .val (.int (3 : Int32)), .val (.int ((((own_a p2) + (1 : Int32)) + (1 : Int32)) + (1 : Int32))), .val (.int (1 : Int32)), .val (.int (own_cc p1))] [(.int ((own_w3 (own_cc p1) (own_a p2) (fun _ => own_f p3)) ((own_a p2) + (1 : Int32))))])) _
              refine XS.sipush X87.here hx rfl (hb hby at_373) ?_
              show Steps p.tables e below (T87.setTop (mkF m 376 #[.val (.int p1), .val (.int p2), .val (.int p3), .val (.int (own_cc p1)), .val (.int (own_a p2)), .val (.int (own_f p3)), .val (.ref b1), .val (.int (3 : Int32)), .val (.int ((((own_a p2) + (1 : Int32)) + (1 : Int32)) + (1 : Int32))), .val (.int (1 : Int32)), .val (.int (own_cc p1))] [(.int (192 : Int32)), (.int ((own_w3 (own_cc p1) (own_a p2) (fun _ => own_f p3)) ((own_a p2) + (1 : Int32))))])) _
              refine XS.iand X87.here hx rfl (hb hby at_376) rfl ?_
              show Steps p.tables e below (T87.setTop (mkF m 377 #[.val (.int p1), .val (.int p2), .val (.int p3), .val (.int (own_cc p1)), .val (.int (own_a p2)), .val (.int (own_f p3)), .val (.ref b1), .val (.int (3 : Int32)), .val (.int ((((own_a p2) + (1 : Int32)) + (1 : Int32)) + (1 : Int32))), .val (.int (1 : Int32)), .val (.int (own_cc p1))] [(.int (((own_w3 (own_cc p1) (own_a p2) (fun _ => own_f p3)) ((own_a p2) + (1 : Int32))) &&& (192 : Int32)))])) _
              refine XS.sipush X87.here hx rfl (hb hby at_377) ?_
              show Steps p.tables e below (T87.setTop (mkF m 380 #[.val (.int p1), .val (.int p2), .val (.int p3), .val (.int (own_cc p1)), .val (.int (own_a p2)), .val (.int (own_f p3)), .val (.ref b1), .val (.int (3 : Int32)), .val (.int ((((own_a p2) + (1 : Int32)) + (1 : Int32)) + (1 : Int32))), .val (.int (1 : Int32)), .val (.int (own_cc p1))] [(.int (128 : Int32)), (.int (((own_w3 (own_cc p1) (own_a p2) (fun _ => own_f p3)) ((own_a p2) + (1 : Int32))) &&& (192 : Int32)))])) _
              refine XS.icmpNo X87.here hx rfl (hb hby at_380) rfl (teq (own_ff31 (own_ai p2) : (((own_w3 (own_cc p1) (own_a p2) (fun _ => own_f p3)) ((own_a p2) + (1 : Int32))) &&& (192 : Int32)) = (128 : Int32))).2 ?_
              show Steps p.tables e below (T87.setTop (mkF m 383 #[.val (.int p1), .val (.int p2), .val (.int p3), .val (.int (own_cc p1)), .val (.int (own_a p2)), .val (.int (own_f p3)), .val (.ref b1), .val (.int (3 : Int32)), .val (.int ((((own_a p2) + (1 : Int32)) + (1 : Int32)) + (1 : Int32))), .val (.int (1 : Int32)), .val (.int (own_cc p1))] [])) _
              refine XS.aload X87.here hx rfl (hb hby at_383) rfl rfl ?_
              show Steps p.tables e below (T87.setTop (mkF m 385 #[.val (.int p1), .val (.int p2), .val (.int p3), .val (.int (own_cc p1)), .val (.int (own_a p2)), .val (.int (own_f p3)), .val (.ref b1), .val (.int (3 : Int32)), .val (.int ((((own_a p2) + (1 : Int32)) + (1 : Int32)) + (1 : Int32))), .val (.int (1 : Int32)), .val (.int (own_cc p1))] [(.ref b1)])) _
              refine XS.iload X87.here hx rfl (hb hby at_385) rfl ?_
              show Steps p.tables e below (T87.setTop (mkF m 387 #[.val (.int p1), .val (.int p2), .val (.int p3), .val (.int (own_cc p1)), .val (.int (own_a p2)), .val (.int (own_f p3)), .val (.ref b1), .val (.int (3 : Int32)), .val (.int ((((own_a p2) + (1 : Int32)) + (1 : Int32)) + (1 : Int32))), .val (.int (1 : Int32)), .val (.int (own_cc p1))] [(.int (own_a p2)), (.ref b1)])) _
              refine XS.iconst X87.here hx rfl (hb hby at_387) ?_
              show Steps p.tables e below (T87.setTop (mkF m 388 #[.val (.int p1), .val (.int p2), .val (.int p3), .val (.int (own_cc p1)), .val (.int (own_a p2)), .val (.int (own_f p3)), .val (.ref b1), .val (.int (3 : Int32)), .val (.int ((((own_a p2) + (1 : Int32)) + (1 : Int32)) + (1 : Int32))), .val (.int (1 : Int32)), .val (.int (own_cc p1))] [(.int (2 : Int32)), (.int (own_a p2)), (.ref b1)])) _
              refine XS.iadd X87.here hx rfl (hb hby at_388) rfl ?_
              show Steps p.tables e below (T87.setTop (mkF m 389 #[.val (.int p1), .val (.int p2), .val (.int p3), .val (.int (own_cc p1)), .val (.int (own_a p2)), .val (.int (own_f p3)), .val (.ref b1), .val (.int (3 : Int32)), .val (.int ((((own_a p2) + (1 : Int32)) + (1 : Int32)) + (1 : Int32))), .val (.int (1 : Int32)), .val (.int (own_cc p1))] [(.int ((own_a p2) + (2 : Int32))), (.ref b1)])) _
              refine X87.baloadBytes hx (j := ((own_a p2) + (2 : Int32))) (v := (.int ((own_w3 (own_cc p1) (own_a p2) (fun _ => own_f p3)) ((own_a p2) + (2 : Int32))))) (by rw [e87]; exact Ar.1) (State.isArrayOf_alike hZ.alike Ar.2.1) Ar.2.2 (own_in Sz (own_iy2 (own_ai p2))) (Hs ((own_a p2) + (2 : Int32)) (own_iy2 (own_ai p2)).1 (own_iy2 (own_ai p2)).2) (g := (mkF m 389 #[.val (.int p1), .val (.int p2), .val (.int p3), .val (.int (own_cc p1)), .val (.int (own_a p2)), .val (.int (own_f p3)), .val (.ref b1), .val (.int (3 : Int32)), .val (.int ((((own_a p2) + (1 : Int32)) + (1 : Int32)) + (1 : Int32))), .val (.int (1 : Int32)), .val (.int (own_cc p1))] [(.int ((own_a p2) + (2 : Int32))), (.ref b1)])) rfl rfl (hb hby at_389) _ ?_
              show Steps p.tables e below (T87.setTop (mkF m 390 #[.val (.int p1), .val (.int p2), .val (.int p3), .val (.int (own_cc p1)), .val (.int (own_a p2)), .val (.int (own_f p3)), .val (.ref b1), .val (.int (3 : Int32)), .val (.int ((((own_a p2) + (1 : Int32)) + (1 : Int32)) + (1 : Int32))), .val (.int (1 : Int32)), .val (.int (own_cc p1))] [(.int ((own_w3 (own_cc p1) (own_a p2) (fun _ => own_f p3)) ((own_a p2) + (2 : Int32))))])) _
              refine XS.sipush X87.here hx rfl (hb hby at_390) ?_
              show Steps p.tables e below (T87.setTop (mkF m 393 #[.val (.int p1), .val (.int p2), .val (.int p3), .val (.int (own_cc p1)), .val (.int (own_a p2)), .val (.int (own_f p3)), .val (.ref b1), .val (.int (3 : Int32)), .val (.int ((((own_a p2) + (1 : Int32)) + (1 : Int32)) + (1 : Int32))), .val (.int (1 : Int32)), .val (.int (own_cc p1))] [(.int (192 : Int32)), (.int ((own_w3 (own_cc p1) (own_a p2) (fun _ => own_f p3)) ((own_a p2) + (2 : Int32))))])) _
              refine XS.iand X87.here hx rfl (hb hby at_393) rfl ?_
              show Steps p.tables e below (T87.setTop (mkF m 394 #[.val (.int p1), .val (.int p2), .val (.int p3), .val (.int (own_cc p1)), .val (.int (own_a p2)), .val (.int (own_f p3)), .val (.ref b1), .val (.int (3 : Int32)), .val (.int ((((own_a p2) + (1 : Int32)) + (1 : Int32)) + (1 : Int32))), .val (.int (1 : Int32)), .val (.int (own_cc p1))] [(.int (((own_w3 (own_cc p1) (own_a p2) (fun _ => own_f p3)) ((own_a p2) + (2 : Int32))) &&& (192 : Int32)))])) _
              refine XS.sipush X87.here hx rfl (hb hby at_394) ?_
              show Steps p.tables e below (T87.setTop (mkF m 397 #[.val (.int p1), .val (.int p2), .val (.int p3), .val (.int (own_cc p1)), .val (.int (own_a p2)), .val (.int (own_f p3)), .val (.ref b1), .val (.int (3 : Int32)), .val (.int ((((own_a p2) + (1 : Int32)) + (1 : Int32)) + (1 : Int32))), .val (.int (1 : Int32)), .val (.int (own_cc p1))] [(.int (128 : Int32)), (.int (((own_w3 (own_cc p1) (own_a p2) (fun _ => own_f p3)) ((own_a p2) + (2 : Int32))) &&& (192 : Int32)))])) _
              refine XS.icmpNo X87.here hx rfl (hb hby at_397) rfl (teq (own_ff32 (own_ai p2) : (((own_w3 (own_cc p1) (own_a p2) (fun _ => own_f p3)) ((own_a p2) + (2 : Int32))) &&& (192 : Int32)) = (128 : Int32))).2 ?_
              show Steps p.tables e below (T87.setTop (mkF m 400 #[.val (.int p1), .val (.int p2), .val (.int p3), .val (.int (own_cc p1)), .val (.int (own_a p2)), .val (.int (own_f p3)), .val (.ref b1), .val (.int (3 : Int32)), .val (.int ((((own_a p2) + (1 : Int32)) + (1 : Int32)) + (1 : Int32))), .val (.int (1 : Int32)), .val (.int (own_cc p1))] [])) _
              refine XS.iload X87.here hx rfl (hb hby at_400) rfl ?_
              show Steps p.tables e below (T87.setTop (mkF m 402 #[.val (.int p1), .val (.int p2), .val (.int p3), .val (.int (own_cc p1)), .val (.int (own_a p2)), .val (.int (own_f p3)), .val (.ref b1), .val (.int (3 : Int32)), .val (.int ((((own_a p2) + (1 : Int32)) + (1 : Int32)) + (1 : Int32))), .val (.int (1 : Int32)), .val (.int (own_cc p1))] [(.int (own_cc p1))])) _
              refine XS.iloadN X87.here hx rfl (hb hby at_402) rfl ?_
              show Steps p.tables e below (T87.setTop (mkF m 403 #[.val (.int p1), .val (.int p2), .val (.int p3), .val (.int (own_cc p1)), .val (.int (own_a p2)), .val (.int (own_f p3)), .val (.ref b1), .val (.int (3 : Int32)), .val (.int ((((own_a p2) + (1 : Int32)) + (1 : Int32)) + (1 : Int32))), .val (.int (1 : Int32)), .val (.int (own_cc p1))] [(.int (own_cc p1)), (.int (own_cc p1))])) _
              refine XS.icmpNo X87.here hx rfl (hb hby at_403) rfl (teq (rfl : (own_cc p1) = (own_cc p1))).2 ?_
              show Steps p.tables e below (T87.setTop (mkF m 406 #[.val (.int p1), .val (.int p2), .val (.int p3), .val (.int (own_cc p1)), .val (.int (own_a p2)), .val (.int (own_f p3)), .val (.ref b1), .val (.int (3 : Int32)), .val (.int ((((own_a p2) + (1 : Int32)) + (1 : Int32)) + (1 : Int32))), .val (.int (1 : Int32)), .val (.int (own_cc p1))] [])) _
              refine XS.iconst X87.here hx rfl (hb hby at_406) ?_
              show Steps p.tables e below (T87.setTop (mkF m 407 #[.val (.int p1), .val (.int p2), .val (.int p3), .val (.int (own_cc p1)), .val (.int (own_a p2)), .val (.int (own_f p3)), .val (.ref b1), .val (.int (3 : Int32)), .val (.int ((((own_a p2) + (1 : Int32)) + (1 : Int32)) + (1 : Int32))), .val (.int (1 : Int32)), .val (.int (own_cc p1))] [(.int (1 : Int32))])) _
              refine XS.goto X87.here hx rfl (pc0 := 407) (pc' := 411) rfl (hb hby at_407) (by decide) (by decide) ?_
              show Steps p.tables e below (T87.setTop (mkF m 411 #[.val (.int p1), .val (.int p2), .val (.int p3), .val (.int (own_cc p1)), .val (.int (own_a p2)), .val (.int (own_f p3)), .val (.ref b1), .val (.int (3 : Int32)), .val (.int ((((own_a p2) + (1 : Int32)) + (1 : Int32)) + (1 : Int32))), .val (.int (1 : Int32)), .val (.int (own_cc p1))] [(.int (1 : Int32))])) _
              exact retN X87 hx (t := .boolean) Bd.returns (by simp) (hb hby at_411) hr
            · show Q_law Z p1 p2 p3 h0 n0 _ T87.heap _
              rw [e87]
              exact ⟨(congrArg (fun zz => some (Value.int zz)) (by rfl : nar .boolean (1 : Int32) = (1 : Int32))), N87⟩
      · have pr99 : ∀ t, Steps p.tables e below (T17.setTop (mkF m 113 #[.val (.int p1), .val (.int p2), .val (.int p3), .val (.int (own_cc p1)), .val (.int (own_a p2)), .val (.int (own_f p3)), .val (.ref b1), .val (.int (4 : Int32)), .unset, .unset, .unset] [(.int (own_a p2)), (.ref b1), (.int (own_cc p1))])) t → Steps p.tables e below (s₁.setTop (entryFrame m #[(.int p1), (.int p2), (.int p3)] maxLocals)) t := fun t kt => pr67 t (by
          show Steps p.tables e below (T17.setTop (mkF m 98 #[.val (.int p1), .val (.int p2), .val (.int p3), .val (.int (own_cc p1)), .val (.int (own_a p2)), .val (.int (own_f p3)), .val (.ref b1), .unset, .unset, .unset, .unset] [(.int (65536 : Int32)), (.int (own_cc p1))])) _
          refine XS.icmpYes X17.here hx rfl (pc0 := 98) (pc' := 105) rfl (hb hby at_98) rfl (flt hc98_66).2.1 (by decide) (by decide) ?_
          show Steps p.tables e below (T17.setTop (mkF m 105 #[.val (.int p1), .val (.int p2), .val (.int p3), .val (.int (own_cc p1)), .val (.int (own_a p2)), .val (.int (own_f p3)), .val (.ref b1), .unset, .unset, .unset, .unset] [])) _
          refine XS.iconst X17.here hx rfl (hb hby at_105) ?_
          show Steps p.tables e below (T17.setTop (mkF m 106 #[.val (.int p1), .val (.int p2), .val (.int p3), .val (.int (own_cc p1)), .val (.int (own_a p2)), .val (.int (own_f p3)), .val (.ref b1), .unset, .unset, .unset, .unset] [(.int (4 : Int32))])) _
          refine XS.istore X17.here hx rfl (hb hby at_106) rfl (l' := #[.val (.int p1), .val (.int p2), .val (.int p3), .val (.int (own_cc p1)), .val (.int (own_a p2)), .val (.int (own_f p3)), .val (.ref b1), .val (.int (4 : Int32)), .unset, .unset, .unset]) rfl ?_
          show Steps p.tables e below (T17.setTop (mkF m 108 #[.val (.int p1), .val (.int p2), .val (.int p3), .val (.int (own_cc p1)), .val (.int (own_a p2)), .val (.int (own_f p3)), .val (.ref b1), .val (.int (4 : Int32)), .unset, .unset, .unset] [])) _
          refine XS.iloadN X17.here hx rfl (hb hby at_108) rfl ?_
          show Steps p.tables e below (T17.setTop (mkF m 109 #[.val (.int p1), .val (.int p2), .val (.int p3), .val (.int (own_cc p1)), .val (.int (own_a p2)), .val (.int (own_f p3)), .val (.ref b1), .val (.int (4 : Int32)), .unset, .unset, .unset] [(.int (own_cc p1))])) _
          refine XS.aload X17.here hx rfl (hb hby at_109) rfl rfl ?_
          show Steps p.tables e below (T17.setTop (mkF m 111 #[.val (.int p1), .val (.int p2), .val (.int p3), .val (.int (own_cc p1)), .val (.int (own_a p2)), .val (.int (own_f p3)), .val (.ref b1), .val (.int (4 : Int32)), .unset, .unset, .unset] [(.ref b1), (.int (own_cc p1))])) _
          refine XS.iload X17.here hx rfl (hb hby at_111) rfl ?_
          show Steps p.tables e below (T17.setTop (mkF m 113 #[.val (.int p1), .val (.int p2), .val (.int p3), .val (.int (own_cc p1)), .val (.int (own_a p2)), .val (.int (own_f p3)), .val (.ref b1), .val (.int (4 : Int32)), .unset, .unset, .unset] [(.int (own_a p2)), (.ref b1), (.int (own_cc p1))])) _
          exact kt)
        obtain ⟨_, _, ⟨T98, L98, k98, n98⟩, -, X98, ⟨Lc98, hQ98, l98, y98, z98⟩, st98⟩ := Jvm.LawKit.callS X17 hx (y := (⟨"com/example/nuthatch/nuthatch/Utf8", "write", "(I[BI)I"⟩ : MethodName)) hown (mvT hZ (hw _ (List.mem_of_getElem? (i := 3) rfl))) (mvT hZ (hw _ (List.mem_of_getElem? (i := 4) rfl))) (mvT hZ (hw _ (List.mem_of_getElem? (i := 5) rfl))) (mvT hZ (hw _ (List.mem_of_getElem? (i := 6) rfl))) (by decide) (backOf (W := 0) (rm_w4 l Z a0 hw [] (own_cc p1) b1 (own_a p2) (fun _ => own_f p3) h17 n0 Z17 Vf (own_ai p2) g_b1 hc77_20 hc88_41 hc98_66) hZ (hw _ (List.mem_of_getElem? (i := 6) rfl)) (hw _ (List.mem_of_getElem? (i := 5) rfl)) (by decide) (by decide)) (g := (mkF m 113 #[.val (.int p1), .val (.int p2), .val (.int p3), .val (.int (own_cc p1)), .val (.int (own_a p2)), .val (.int (own_f p3)), .val (.ref b1), .val (.int (4 : Int32)), .unset, .unset, .unset] [(.int (own_a p2)), (.ref b1), (.int (own_cc p1))])) rfl (by rw [hml]; rfl) (argsL := [(.int (own_cc p1)), (.ref b1), (.int (own_a p2))]) (rest := []) (lenOf pd_law_0 rfl) rfl (by show 2 * 0 + _ ≤ _; exact Nat.le_of_eq rfl) (hb hby at_113) (fun _ _ => ⟨rfl, e17, (by decide : 1 + 0 ≤ _), (by decide : 8 + 0 ≤ _)⟩)
        dsimp only [Pt.U, Pt.locs, Pt.cells, Pt.slots] at X98 l98 y98 z98 st98 hQ98
        subst l98 y98 z98
        obtain ⟨rfl, N98q, V98, s98⟩ := hQ98
        have N98 := Fr.app N17 N98q
        have pr101 : ∀ t, Steps p.tables e below (T98.setTop (mkF m 139 #[.val (.int p1), .val (.int p2), .val (.int p3), .val (.int (own_cc p1)), .val (.int (own_a p2)), .val (.int (own_f p3)), .val (.ref b1), .val (.int (4 : Int32)), .val (.int (((((own_a p2) + (1 : Int32)) + (1 : Int32)) + (1 : Int32)) + (1 : Int32))), .unset, .unset] [(.int (own_f p3)), (.int (((((own_a p2) + (1 : Int32)) + (1 : Int32)) + (1 : Int32)) + (1 : Int32))), (.int (own_a p2)), (.int (0 : Int32)), (.ref b1)])) t → Steps p.tables e below (s₁.setTop (entryFrame m #[(.int p1), (.int p2), (.int p3)] maxLocals)) t := fun t kt => pr99 t (by
          refine st98 _ ?_
          show Steps p.tables e below (T98.setTop (mkF m 116 #[.val (.int p1), .val (.int p2), .val (.int p3), .val (.int (own_cc p1)), .val (.int (own_a p2)), .val (.int (own_f p3)), .val (.ref b1), .val (.int (4 : Int32)), .unset, .unset, .unset] [(.int (((((own_a p2) + (1 : Int32)) + (1 : Int32)) + (1 : Int32)) + (1 : Int32)))])) _
          refine XS.istore X98.here hx rfl (hb hby at_116) rfl (l' := #[.val (.int p1), .val (.int p2), .val (.int p3), .val (.int (own_cc p1)), .val (.int (own_a p2)), .val (.int (own_f p3)), .val (.ref b1), .val (.int (4 : Int32)), .val (.int (((((own_a p2) + (1 : Int32)) + (1 : Int32)) + (1 : Int32)) + (1 : Int32))), .unset, .unset]) rfl ?_
          show Steps p.tables e below (T98.setTop (mkF m 118 #[.val (.int p1), .val (.int p2), .val (.int p3), .val (.int (own_cc p1)), .val (.int (own_a p2)), .val (.int (own_f p3)), .val (.ref b1), .val (.int (4 : Int32)), .val (.int (((((own_a p2) + (1 : Int32)) + (1 : Int32)) + (1 : Int32)) + (1 : Int32))), .unset, .unset] [])) _
          refine XS.iload X98.here hx rfl (hb hby at_118) rfl ?_
          show Steps p.tables e below (T98.setTop (mkF m 120 #[.val (.int p1), .val (.int p2), .val (.int p3), .val (.int (own_cc p1)), .val (.int (own_a p2)), .val (.int (own_f p3)), .val (.ref b1), .val (.int (4 : Int32)), .val (.int (((((own_a p2) + (1 : Int32)) + (1 : Int32)) + (1 : Int32)) + (1 : Int32))), .unset, .unset] [(.int (((((own_a p2) + (1 : Int32)) + (1 : Int32)) + (1 : Int32)) + (1 : Int32)))])) _
          refine XS.iload X98.here hx rfl (hb hby at_120) rfl ?_
          show Steps p.tables e below (T98.setTop (mkF m 122 #[.val (.int p1), .val (.int p2), .val (.int p3), .val (.int (own_cc p1)), .val (.int (own_a p2)), .val (.int (own_f p3)), .val (.ref b1), .val (.int (4 : Int32)), .val (.int (((((own_a p2) + (1 : Int32)) + (1 : Int32)) + (1 : Int32)) + (1 : Int32))), .unset, .unset] [(.int (own_a p2)), (.int (((((own_a p2) + (1 : Int32)) + (1 : Int32)) + (1 : Int32)) + (1 : Int32)))])) _
          refine XS.iload X98.here hx rfl (hb hby at_122) rfl ?_
          show Steps p.tables e below (T98.setTop (mkF m 124 #[.val (.int p1), .val (.int p2), .val (.int p3), .val (.int (own_cc p1)), .val (.int (own_a p2)), .val (.int (own_f p3)), .val (.ref b1), .val (.int (4 : Int32)), .val (.int (((((own_a p2) + (1 : Int32)) + (1 : Int32)) + (1 : Int32)) + (1 : Int32))), .unset, .unset] [(.int (4 : Int32)), (.int (own_a p2)), (.int (((((own_a p2) + (1 : Int32)) + (1 : Int32)) + (1 : Int32)) + (1 : Int32)))])) _
          refine XS.iadd X98.here hx rfl (hb hby at_124) rfl ?_
          show Steps p.tables e below (T98.setTop (mkF m 125 #[.val (.int p1), .val (.int p2), .val (.int p3), .val (.int (own_cc p1)), .val (.int (own_a p2)), .val (.int (own_f p3)), .val (.ref b1), .val (.int (4 : Int32)), .val (.int (((((own_a p2) + (1 : Int32)) + (1 : Int32)) + (1 : Int32)) + (1 : Int32))), .unset, .unset] [(.int ((own_a p2) + (4 : Int32))), (.int (((((own_a p2) + (1 : Int32)) + (1 : Int32)) + (1 : Int32)) + (1 : Int32)))])) _
          refine XS.icmpYes X98.here hx rfl (pc0 := 125) (pc' := 130) rfl (hb hby at_125) rfl (teq (own_s4 : (((((own_a p2) + (1 : Int32)) + (1 : Int32)) + (1 : Int32)) + (1 : Int32)) = ((own_a p2) + (4 : Int32)))).1 (by decide) (by decide) ?_
          show Steps p.tables e below (T98.setTop (mkF m 130 #[.val (.int p1), .val (.int p2), .val (.int p3), .val (.int (own_cc p1)), .val (.int (own_a p2)), .val (.int (own_f p3)), .val (.ref b1), .val (.int (4 : Int32)), .val (.int (((((own_a p2) + (1 : Int32)) + (1 : Int32)) + (1 : Int32)) + (1 : Int32))), .unset, .unset] [])) _
          refine XS.aload X98.here hx rfl (hb hby at_130) rfl rfl ?_
          show Steps p.tables e below (T98.setTop (mkF m 132 #[.val (.int p1), .val (.int p2), .val (.int p3), .val (.int (own_cc p1)), .val (.int (own_a p2)), .val (.int (own_f p3)), .val (.ref b1), .val (.int (4 : Int32)), .val (.int (((((own_a p2) + (1 : Int32)) + (1 : Int32)) + (1 : Int32)) + (1 : Int32))), .unset, .unset] [(.ref b1)])) _
          refine XS.iconst X98.here hx rfl (hb hby at_132) ?_
          show Steps p.tables e below (T98.setTop (mkF m 133 #[.val (.int p1), .val (.int p2), .val (.int p3), .val (.int (own_cc p1)), .val (.int (own_a p2)), .val (.int (own_f p3)), .val (.ref b1), .val (.int (4 : Int32)), .val (.int (((((own_a p2) + (1 : Int32)) + (1 : Int32)) + (1 : Int32)) + (1 : Int32))), .unset, .unset] [(.int (0 : Int32)), (.ref b1)])) _
          refine XS.iload X98.here hx rfl (hb hby at_133) rfl ?_
          show Steps p.tables e below (T98.setTop (mkF m 135 #[.val (.int p1), .val (.int p2), .val (.int p3), .val (.int (own_cc p1)), .val (.int (own_a p2)), .val (.int (own_f p3)), .val (.ref b1), .val (.int (4 : Int32)), .val (.int (((((own_a p2) + (1 : Int32)) + (1 : Int32)) + (1 : Int32)) + (1 : Int32))), .unset, .unset] [(.int (own_a p2)), (.int (0 : Int32)), (.ref b1)])) _
          refine XS.iload X98.here hx rfl (hb hby at_135) rfl ?_
          show Steps p.tables e below (T98.setTop (mkF m 137 #[.val (.int p1), .val (.int p2), .val (.int p3), .val (.int (own_cc p1)), .val (.int (own_a p2)), .val (.int (own_f p3)), .val (.ref b1), .val (.int (4 : Int32)), .val (.int (((((own_a p2) + (1 : Int32)) + (1 : Int32)) + (1 : Int32)) + (1 : Int32))), .unset, .unset] [(.int (((((own_a p2) + (1 : Int32)) + (1 : Int32)) + (1 : Int32)) + (1 : Int32))), (.int (own_a p2)), (.int (0 : Int32)), (.ref b1)])) _
          refine XS.iload X98.here hx rfl (hb hby at_137) rfl ?_
          show Steps p.tables e below (T98.setTop (mkF m 139 #[.val (.int p1), .val (.int p2), .val (.int p3), .val (.int (own_cc p1)), .val (.int (own_a p2)), .val (.int (own_f p3)), .val (.ref b1), .val (.int (4 : Int32)), .val (.int (((((own_a p2) + (1 : Int32)) + (1 : Int32)) + (1 : Int32)) + (1 : Int32))), .unset, .unset] [(.int (own_f p3)), (.int (((((own_a p2) + (1 : Int32)) + (1 : Int32)) + (1 : Int32)) + (1 : Int32))), (.int (own_a p2)), (.int (0 : Int32)), (.ref b1)])) _
          exact kt)
        obtain ⟨_, _, ⟨T100, L100, k100, n100⟩, -, X100, ⟨Lc100, hQ100, l100, y100, z100⟩, st100⟩ := Jvm.LawKit.callS X98 hx (y := (⟨"com/example/nuthatch/nuthatch/Utf8WritePinLaw", "kept", "([BIIIB)Z"⟩ : MethodName)) hown (mvT hZ (hw _ (List.mem_of_getElem? (i := 7) rfl))) (mvT hZ (hw _ (List.mem_of_getElem? (i := 8) rfl))) (mvT hZ (hw _ (List.mem_of_getElem? (i := 9) rfl))) (mvT hZ (hw _ (List.mem_of_getElem? (i := 10) rfl))) (by decide) (backOf (W := 0) (rm_kt l Z a0 hw [] b1 (0 : Int32) (own_a p2) (((((own_a p2) + (1 : Int32)) + (1 : Int32)) + (1 : Int32)) + (1 : Int32)) (own_f p3) (own_w4 (own_cc p1) (own_a p2) (fun _ => own_f p3)) T98.heap n0 (Nat.le_trans Z17 s98) V98 (by decide) (own_k4 (own_ai p2))) hZ (hw _ (List.mem_of_getElem? (i := 10) rfl)) (hw _ (List.mem_of_getElem? (i := 9) rfl)) (by decide) (by decide)) (g := (mkF m 139 #[.val (.int p1), .val (.int p2), .val (.int p3), .val (.int (own_cc p1)), .val (.int (own_a p2)), .val (.int (own_f p3)), .val (.ref b1), .val (.int (4 : Int32)), .val (.int (((((own_a p2) + (1 : Int32)) + (1 : Int32)) + (1 : Int32)) + (1 : Int32))), .unset, .unset] [(.int (own_f p3)), (.int (((((own_a p2) + (1 : Int32)) + (1 : Int32)) + (1 : Int32)) + (1 : Int32))), (.int (own_a p2)), (.int (0 : Int32)), (.ref b1)])) rfl (by rw [hml]; rfl) (argsL := [(.ref b1), (.int (0 : Int32)), (.int (own_a p2)), (.int (((((own_a p2) + (1 : Int32)) + (1 : Int32)) + (1 : Int32)) + (1 : Int32))), (.int (own_f p3))]) (rest := []) (lenOf pd_law_1 rfl) rfl (by show 2 * 0 + _ ≤ _; exact Nat.le_of_eq rfl) (hb hby at_139) (fun _ _ => ⟨rfl, rfl, (by decide : 1 + 0 ≤ _), (by decide : 8 + 0 ≤ _)⟩)
        dsimp only [Pt.U, Pt.locs, Pt.cells, Pt.slots] at X100 l100 y100 z100 st100 hQ100
        subst l100 y100 z100
        obtain ⟨rfl, N100q, e100⟩ := hQ100
        have N100 := Fr.app N98 N100q
        have pr103 : ∀ t, Steps p.tables e below (T100.setTop (mkF m 154 #[.val (.int p1), .val (.int p2), .val (.int p3), .val (.int (own_cc p1)), .val (.int (own_a p2)), .val (.int (own_f p3)), .val (.ref b1), .val (.int (4 : Int32)), .val (.int (((((own_a p2) + (1 : Int32)) + (1 : Int32)) + (1 : Int32)) + (1 : Int32))), .unset, .unset] [(.int (own_f p3)), (.int (((((own_a p2) + (1 : Int32)) + (1 : Int32)) + (1 : Int32)) + (1 : Int32))), (.int (own_a p2)), (.int (1 : Int32)), (.ref b1)])) t → Steps p.tables e below (s₁.setTop (entryFrame m #[(.int p1), (.int p2), (.int p3)] maxLocals)) t := fun t kt => pr101 t (by
          refine st100 _ ?_
          show Steps p.tables e below (T100.setTop (mkF m 142 #[.val (.int p1), .val (.int p2), .val (.int p3), .val (.int (own_cc p1)), .val (.int (own_a p2)), .val (.int (own_f p3)), .val (.ref b1), .val (.int (4 : Int32)), .val (.int (((((own_a p2) + (1 : Int32)) + (1 : Int32)) + (1 : Int32)) + (1 : Int32))), .unset, .unset] [(.int (1 : Int32))])) _
          refine XS.ifNo X100.here hx rfl (hb hby at_142) rfl ((if0 _ _).trans (feq (by decide : ¬ ((1 : Int32) = (0 : Int32)))).1) ?_
          show Steps p.tables e below (T100.setTop (mkF m 145 #[.val (.int p1), .val (.int p2), .val (.int p3), .val (.int (own_cc p1)), .val (.int (own_a p2)), .val (.int (own_f p3)), .val (.ref b1), .val (.int (4 : Int32)), .val (.int (((((own_a p2) + (1 : Int32)) + (1 : Int32)) + (1 : Int32)) + (1 : Int32))), .unset, .unset] [])) _
          refine XS.aload X100.here hx rfl (hb hby at_145) rfl rfl ?_
          show Steps p.tables e below (T100.setTop (mkF m 147 #[.val (.int p1), .val (.int p2), .val (.int p3), .val (.int (own_cc p1)), .val (.int (own_a p2)), .val (.int (own_f p3)), .val (.ref b1), .val (.int (4 : Int32)), .val (.int (((((own_a p2) + (1 : Int32)) + (1 : Int32)) + (1 : Int32)) + (1 : Int32))), .unset, .unset] [(.ref b1)])) _
          refine XS.iconst X100.here hx rfl (hb hby at_147) ?_
          show Steps p.tables e below (T100.setTop (mkF m 148 #[.val (.int p1), .val (.int p2), .val (.int p3), .val (.int (own_cc p1)), .val (.int (own_a p2)), .val (.int (own_f p3)), .val (.ref b1), .val (.int (4 : Int32)), .val (.int (((((own_a p2) + (1 : Int32)) + (1 : Int32)) + (1 : Int32)) + (1 : Int32))), .unset, .unset] [(.int (1 : Int32)), (.ref b1)])) _
          refine XS.iload X100.here hx rfl (hb hby at_148) rfl ?_
          show Steps p.tables e below (T100.setTop (mkF m 150 #[.val (.int p1), .val (.int p2), .val (.int p3), .val (.int (own_cc p1)), .val (.int (own_a p2)), .val (.int (own_f p3)), .val (.ref b1), .val (.int (4 : Int32)), .val (.int (((((own_a p2) + (1 : Int32)) + (1 : Int32)) + (1 : Int32)) + (1 : Int32))), .unset, .unset] [(.int (own_a p2)), (.int (1 : Int32)), (.ref b1)])) _
          refine XS.iload X100.here hx rfl (hb hby at_150) rfl ?_
          show Steps p.tables e below (T100.setTop (mkF m 152 #[.val (.int p1), .val (.int p2), .val (.int p3), .val (.int (own_cc p1)), .val (.int (own_a p2)), .val (.int (own_f p3)), .val (.ref b1), .val (.int (4 : Int32)), .val (.int (((((own_a p2) + (1 : Int32)) + (1 : Int32)) + (1 : Int32)) + (1 : Int32))), .unset, .unset] [(.int (((((own_a p2) + (1 : Int32)) + (1 : Int32)) + (1 : Int32)) + (1 : Int32))), (.int (own_a p2)), (.int (1 : Int32)), (.ref b1)])) _
          refine XS.iload X100.here hx rfl (hb hby at_152) rfl ?_
          show Steps p.tables e below (T100.setTop (mkF m 154 #[.val (.int p1), .val (.int p2), .val (.int p3), .val (.int (own_cc p1)), .val (.int (own_a p2)), .val (.int (own_f p3)), .val (.ref b1), .val (.int (4 : Int32)), .val (.int (((((own_a p2) + (1 : Int32)) + (1 : Int32)) + (1 : Int32)) + (1 : Int32))), .unset, .unset] [(.int (own_f p3)), (.int (((((own_a p2) + (1 : Int32)) + (1 : Int32)) + (1 : Int32)) + (1 : Int32))), (.int (own_a p2)), (.int (1 : Int32)), (.ref b1)])) _
          exact kt)
        obtain ⟨_, _, ⟨T102, L102, k102, n102⟩, -, X102, ⟨Lc102, hQ102, l102, y102, z102⟩, st102⟩ := Jvm.LawKit.callS X100 hx (y := (⟨"com/example/nuthatch/nuthatch/Utf8WritePinLaw", "kept", "([BIIIB)Z"⟩ : MethodName)) hown (mvT hZ (hw _ (List.mem_of_getElem? (i := 7) rfl))) (mvT hZ (hw _ (List.mem_of_getElem? (i := 8) rfl))) (mvT hZ (hw _ (List.mem_of_getElem? (i := 9) rfl))) (mvT hZ (hw _ (List.mem_of_getElem? (i := 10) rfl))) (by decide) (backOf (W := 0) (rm_kt l Z a0 hw [] b1 (1 : Int32) (own_a p2) (((((own_a p2) + (1 : Int32)) + (1 : Int32)) + (1 : Int32)) + (1 : Int32)) (own_f p3) (own_w4 (own_cc p1) (own_a p2) (fun _ => own_f p3)) T98.heap n0 (Nat.le_trans Z17 s98) V98 (by decide) (own_k4 (own_ai p2))) hZ (hw _ (List.mem_of_getElem? (i := 10) rfl)) (hw _ (List.mem_of_getElem? (i := 9) rfl)) (by decide) (by decide)) (g := (mkF m 154 #[.val (.int p1), .val (.int p2), .val (.int p3), .val (.int (own_cc p1)), .val (.int (own_a p2)), .val (.int (own_f p3)), .val (.ref b1), .val (.int (4 : Int32)), .val (.int (((((own_a p2) + (1 : Int32)) + (1 : Int32)) + (1 : Int32)) + (1 : Int32))), .unset, .unset] [(.int (own_f p3)), (.int (((((own_a p2) + (1 : Int32)) + (1 : Int32)) + (1 : Int32)) + (1 : Int32))), (.int (own_a p2)), (.int (1 : Int32)), (.ref b1)])) rfl (by rw [hml]; rfl) (argsL := [(.ref b1), (.int (1 : Int32)), (.int (own_a p2)), (.int (((((own_a p2) + (1 : Int32)) + (1 : Int32)) + (1 : Int32)) + (1 : Int32))), (.int (own_f p3))]) (rest := []) (lenOf pd_law_1 rfl) rfl (by show 2 * 0 + _ ≤ _; exact Nat.le_of_eq rfl) (hb hby at_154) (fun _ _ => ⟨rfl, e100, (by decide : 1 + 0 ≤ _), (by decide : 8 + 0 ≤ _)⟩)
        dsimp only [Pt.U, Pt.locs, Pt.cells, Pt.slots] at X102 l102 y102 z102 st102 hQ102
        subst l102 y102 z102
        obtain ⟨rfl, N102q, e102⟩ := hQ102
        have N102 := Fr.app N100 N102q
        have pr105 : ∀ t, Steps p.tables e below (T102.setTop (mkF m 169 #[.val (.int p1), .val (.int p2), .val (.int p3), .val (.int (own_cc p1)), .val (.int (own_a p2)), .val (.int (own_f p3)), .val (.ref b1), .val (.int (4 : Int32)), .val (.int (((((own_a p2) + (1 : Int32)) + (1 : Int32)) + (1 : Int32)) + (1 : Int32))), .unset, .unset] [(.int (own_f p3)), (.int (((((own_a p2) + (1 : Int32)) + (1 : Int32)) + (1 : Int32)) + (1 : Int32))), (.int (own_a p2)), (.int (2 : Int32)), (.ref b1)])) t → Steps p.tables e below (s₁.setTop (entryFrame m #[(.int p1), (.int p2), (.int p3)] maxLocals)) t := fun t kt => pr103 t (by
          refine st102 _ ?_
          show Steps p.tables e below (T102.setTop (mkF m 157 #[.val (.int p1), .val (.int p2), .val (.int p3), .val (.int (own_cc p1)), .val (.int (own_a p2)), .val (.int (own_f p3)), .val (.ref b1), .val (.int (4 : Int32)), .val (.int (((((own_a p2) + (1 : Int32)) + (1 : Int32)) + (1 : Int32)) + (1 : Int32))), .unset, .unset] [(.int (1 : Int32))])) _
          refine XS.ifNo X102.here hx rfl (hb hby at_157) rfl ((if0 _ _).trans (feq (by decide : ¬ ((1 : Int32) = (0 : Int32)))).1) ?_
          show Steps p.tables e below (T102.setTop (mkF m 160 #[.val (.int p1), .val (.int p2), .val (.int p3), .val (.int (own_cc p1)), .val (.int (own_a p2)), .val (.int (own_f p3)), .val (.ref b1), .val (.int (4 : Int32)), .val (.int (((((own_a p2) + (1 : Int32)) + (1 : Int32)) + (1 : Int32)) + (1 : Int32))), .unset, .unset] [])) _
          refine XS.aload X102.here hx rfl (hb hby at_160) rfl rfl ?_
          show Steps p.tables e below (T102.setTop (mkF m 162 #[.val (.int p1), .val (.int p2), .val (.int p3), .val (.int (own_cc p1)), .val (.int (own_a p2)), .val (.int (own_f p3)), .val (.ref b1), .val (.int (4 : Int32)), .val (.int (((((own_a p2) + (1 : Int32)) + (1 : Int32)) + (1 : Int32)) + (1 : Int32))), .unset, .unset] [(.ref b1)])) _
          refine XS.iconst X102.here hx rfl (hb hby at_162) ?_
          show Steps p.tables e below (T102.setTop (mkF m 163 #[.val (.int p1), .val (.int p2), .val (.int p3), .val (.int (own_cc p1)), .val (.int (own_a p2)), .val (.int (own_f p3)), .val (.ref b1), .val (.int (4 : Int32)), .val (.int (((((own_a p2) + (1 : Int32)) + (1 : Int32)) + (1 : Int32)) + (1 : Int32))), .unset, .unset] [(.int (2 : Int32)), (.ref b1)])) _
          refine XS.iload X102.here hx rfl (hb hby at_163) rfl ?_
          show Steps p.tables e below (T102.setTop (mkF m 165 #[.val (.int p1), .val (.int p2), .val (.int p3), .val (.int (own_cc p1)), .val (.int (own_a p2)), .val (.int (own_f p3)), .val (.ref b1), .val (.int (4 : Int32)), .val (.int (((((own_a p2) + (1 : Int32)) + (1 : Int32)) + (1 : Int32)) + (1 : Int32))), .unset, .unset] [(.int (own_a p2)), (.int (2 : Int32)), (.ref b1)])) _
          refine XS.iload X102.here hx rfl (hb hby at_165) rfl ?_
          show Steps p.tables e below (T102.setTop (mkF m 167 #[.val (.int p1), .val (.int p2), .val (.int p3), .val (.int (own_cc p1)), .val (.int (own_a p2)), .val (.int (own_f p3)), .val (.ref b1), .val (.int (4 : Int32)), .val (.int (((((own_a p2) + (1 : Int32)) + (1 : Int32)) + (1 : Int32)) + (1 : Int32))), .unset, .unset] [(.int (((((own_a p2) + (1 : Int32)) + (1 : Int32)) + (1 : Int32)) + (1 : Int32))), (.int (own_a p2)), (.int (2 : Int32)), (.ref b1)])) _
          refine XS.iload X102.here hx rfl (hb hby at_167) rfl ?_
          show Steps p.tables e below (T102.setTop (mkF m 169 #[.val (.int p1), .val (.int p2), .val (.int p3), .val (.int (own_cc p1)), .val (.int (own_a p2)), .val (.int (own_f p3)), .val (.ref b1), .val (.int (4 : Int32)), .val (.int (((((own_a p2) + (1 : Int32)) + (1 : Int32)) + (1 : Int32)) + (1 : Int32))), .unset, .unset] [(.int (own_f p3)), (.int (((((own_a p2) + (1 : Int32)) + (1 : Int32)) + (1 : Int32)) + (1 : Int32))), (.int (own_a p2)), (.int (2 : Int32)), (.ref b1)])) _
          exact kt)
        obtain ⟨_, _, ⟨T104, L104, k104, n104⟩, -, X104, ⟨Lc104, hQ104, l104, y104, z104⟩, st104⟩ := Jvm.LawKit.callS X102 hx (y := (⟨"com/example/nuthatch/nuthatch/Utf8WritePinLaw", "kept", "([BIIIB)Z"⟩ : MethodName)) hown (mvT hZ (hw _ (List.mem_of_getElem? (i := 7) rfl))) (mvT hZ (hw _ (List.mem_of_getElem? (i := 8) rfl))) (mvT hZ (hw _ (List.mem_of_getElem? (i := 9) rfl))) (mvT hZ (hw _ (List.mem_of_getElem? (i := 10) rfl))) (by decide) (backOf (W := 0) (rm_kt l Z a0 hw [] b1 (2 : Int32) (own_a p2) (((((own_a p2) + (1 : Int32)) + (1 : Int32)) + (1 : Int32)) + (1 : Int32)) (own_f p3) (own_w4 (own_cc p1) (own_a p2) (fun _ => own_f p3)) T98.heap n0 (Nat.le_trans Z17 s98) V98 (by decide) (own_k4 (own_ai p2))) hZ (hw _ (List.mem_of_getElem? (i := 10) rfl)) (hw _ (List.mem_of_getElem? (i := 9) rfl)) (by decide) (by decide)) (g := (mkF m 169 #[.val (.int p1), .val (.int p2), .val (.int p3), .val (.int (own_cc p1)), .val (.int (own_a p2)), .val (.int (own_f p3)), .val (.ref b1), .val (.int (4 : Int32)), .val (.int (((((own_a p2) + (1 : Int32)) + (1 : Int32)) + (1 : Int32)) + (1 : Int32))), .unset, .unset] [(.int (own_f p3)), (.int (((((own_a p2) + (1 : Int32)) + (1 : Int32)) + (1 : Int32)) + (1 : Int32))), (.int (own_a p2)), (.int (2 : Int32)), (.ref b1)])) rfl (by rw [hml]; rfl) (argsL := [(.ref b1), (.int (2 : Int32)), (.int (own_a p2)), (.int (((((own_a p2) + (1 : Int32)) + (1 : Int32)) + (1 : Int32)) + (1 : Int32))), (.int (own_f p3))]) (rest := []) (lenOf pd_law_1 rfl) rfl (by show 2 * 0 + _ ≤ _; exact Nat.le_of_eq rfl) (hb hby at_169) (fun _ _ => ⟨rfl, e102, (by decide : 1 + 0 ≤ _), (by decide : 8 + 0 ≤ _)⟩)
        dsimp only [Pt.U, Pt.locs, Pt.cells, Pt.slots] at X104 l104 y104 z104 st104 hQ104
        subst l104 y104 z104
        obtain ⟨rfl, N104q, e104⟩ := hQ104
        have N104 := Fr.app N102 N104q
        have pr107 : ∀ t, Steps p.tables e below (T104.setTop (mkF m 184 #[.val (.int p1), .val (.int p2), .val (.int p3), .val (.int (own_cc p1)), .val (.int (own_a p2)), .val (.int (own_f p3)), .val (.ref b1), .val (.int (4 : Int32)), .val (.int (((((own_a p2) + (1 : Int32)) + (1 : Int32)) + (1 : Int32)) + (1 : Int32))), .unset, .unset] [(.int (own_f p3)), (.int (((((own_a p2) + (1 : Int32)) + (1 : Int32)) + (1 : Int32)) + (1 : Int32))), (.int (own_a p2)), (.int (3 : Int32)), (.ref b1)])) t → Steps p.tables e below (s₁.setTop (entryFrame m #[(.int p1), (.int p2), (.int p3)] maxLocals)) t := fun t kt => pr105 t (by
          refine st104 _ ?_
          show Steps p.tables e below (T104.setTop (mkF m 172 #[.val (.int p1), .val (.int p2), .val (.int p3), .val (.int (own_cc p1)), .val (.int (own_a p2)), .val (.int (own_f p3)), .val (.ref b1), .val (.int (4 : Int32)), .val (.int (((((own_a p2) + (1 : Int32)) + (1 : Int32)) + (1 : Int32)) + (1 : Int32))), .unset, .unset] [(.int (1 : Int32))])) _
          refine XS.ifNo X104.here hx rfl (hb hby at_172) rfl ((if0 _ _).trans (feq (by decide : ¬ ((1 : Int32) = (0 : Int32)))).1) ?_
          show Steps p.tables e below (T104.setTop (mkF m 175 #[.val (.int p1), .val (.int p2), .val (.int p3), .val (.int (own_cc p1)), .val (.int (own_a p2)), .val (.int (own_f p3)), .val (.ref b1), .val (.int (4 : Int32)), .val (.int (((((own_a p2) + (1 : Int32)) + (1 : Int32)) + (1 : Int32)) + (1 : Int32))), .unset, .unset] [])) _
          refine XS.aload X104.here hx rfl (hb hby at_175) rfl rfl ?_
          show Steps p.tables e below (T104.setTop (mkF m 177 #[.val (.int p1), .val (.int p2), .val (.int p3), .val (.int (own_cc p1)), .val (.int (own_a p2)), .val (.int (own_f p3)), .val (.ref b1), .val (.int (4 : Int32)), .val (.int (((((own_a p2) + (1 : Int32)) + (1 : Int32)) + (1 : Int32)) + (1 : Int32))), .unset, .unset] [(.ref b1)])) _
          refine XS.iconst X104.here hx rfl (hb hby at_177) ?_
          show Steps p.tables e below (T104.setTop (mkF m 178 #[.val (.int p1), .val (.int p2), .val (.int p3), .val (.int (own_cc p1)), .val (.int (own_a p2)), .val (.int (own_f p3)), .val (.ref b1), .val (.int (4 : Int32)), .val (.int (((((own_a p2) + (1 : Int32)) + (1 : Int32)) + (1 : Int32)) + (1 : Int32))), .unset, .unset] [(.int (3 : Int32)), (.ref b1)])) _
          refine XS.iload X104.here hx rfl (hb hby at_178) rfl ?_
          show Steps p.tables e below (T104.setTop (mkF m 180 #[.val (.int p1), .val (.int p2), .val (.int p3), .val (.int (own_cc p1)), .val (.int (own_a p2)), .val (.int (own_f p3)), .val (.ref b1), .val (.int (4 : Int32)), .val (.int (((((own_a p2) + (1 : Int32)) + (1 : Int32)) + (1 : Int32)) + (1 : Int32))), .unset, .unset] [(.int (own_a p2)), (.int (3 : Int32)), (.ref b1)])) _
          refine XS.iload X104.here hx rfl (hb hby at_180) rfl ?_
          show Steps p.tables e below (T104.setTop (mkF m 182 #[.val (.int p1), .val (.int p2), .val (.int p3), .val (.int (own_cc p1)), .val (.int (own_a p2)), .val (.int (own_f p3)), .val (.ref b1), .val (.int (4 : Int32)), .val (.int (((((own_a p2) + (1 : Int32)) + (1 : Int32)) + (1 : Int32)) + (1 : Int32))), .unset, .unset] [(.int (((((own_a p2) + (1 : Int32)) + (1 : Int32)) + (1 : Int32)) + (1 : Int32))), (.int (own_a p2)), (.int (3 : Int32)), (.ref b1)])) _
          refine XS.iload X104.here hx rfl (hb hby at_182) rfl ?_
          show Steps p.tables e below (T104.setTop (mkF m 184 #[.val (.int p1), .val (.int p2), .val (.int p3), .val (.int (own_cc p1)), .val (.int (own_a p2)), .val (.int (own_f p3)), .val (.ref b1), .val (.int (4 : Int32)), .val (.int (((((own_a p2) + (1 : Int32)) + (1 : Int32)) + (1 : Int32)) + (1 : Int32))), .unset, .unset] [(.int (own_f p3)), (.int (((((own_a p2) + (1 : Int32)) + (1 : Int32)) + (1 : Int32)) + (1 : Int32))), (.int (own_a p2)), (.int (3 : Int32)), (.ref b1)])) _
          exact kt)
        obtain ⟨_, _, ⟨T106, L106, k106, n106⟩, -, X106, ⟨Lc106, hQ106, l106, y106, z106⟩, st106⟩ := Jvm.LawKit.callS X104 hx (y := (⟨"com/example/nuthatch/nuthatch/Utf8WritePinLaw", "kept", "([BIIIB)Z"⟩ : MethodName)) hown (mvT hZ (hw _ (List.mem_of_getElem? (i := 7) rfl))) (mvT hZ (hw _ (List.mem_of_getElem? (i := 8) rfl))) (mvT hZ (hw _ (List.mem_of_getElem? (i := 9) rfl))) (mvT hZ (hw _ (List.mem_of_getElem? (i := 10) rfl))) (by decide) (backOf (W := 0) (rm_kt l Z a0 hw [] b1 (3 : Int32) (own_a p2) (((((own_a p2) + (1 : Int32)) + (1 : Int32)) + (1 : Int32)) + (1 : Int32)) (own_f p3) (own_w4 (own_cc p1) (own_a p2) (fun _ => own_f p3)) T98.heap n0 (Nat.le_trans Z17 s98) V98 (by decide) (own_k4 (own_ai p2))) hZ (hw _ (List.mem_of_getElem? (i := 10) rfl)) (hw _ (List.mem_of_getElem? (i := 9) rfl)) (by decide) (by decide)) (g := (mkF m 184 #[.val (.int p1), .val (.int p2), .val (.int p3), .val (.int (own_cc p1)), .val (.int (own_a p2)), .val (.int (own_f p3)), .val (.ref b1), .val (.int (4 : Int32)), .val (.int (((((own_a p2) + (1 : Int32)) + (1 : Int32)) + (1 : Int32)) + (1 : Int32))), .unset, .unset] [(.int (own_f p3)), (.int (((((own_a p2) + (1 : Int32)) + (1 : Int32)) + (1 : Int32)) + (1 : Int32))), (.int (own_a p2)), (.int (3 : Int32)), (.ref b1)])) rfl (by rw [hml]; rfl) (argsL := [(.ref b1), (.int (3 : Int32)), (.int (own_a p2)), (.int (((((own_a p2) + (1 : Int32)) + (1 : Int32)) + (1 : Int32)) + (1 : Int32))), (.int (own_f p3))]) (rest := []) (lenOf pd_law_1 rfl) rfl (by show 2 * 0 + _ ≤ _; exact Nat.le_of_eq rfl) (hb hby at_184) (fun _ _ => ⟨rfl, e104, (by decide : 1 + 0 ≤ _), (by decide : 8 + 0 ≤ _)⟩)
        dsimp only [Pt.U, Pt.locs, Pt.cells, Pt.slots] at X106 l106 y106 z106 st106 hQ106
        subst l106 y106 z106
        obtain ⟨rfl, N106q, e106⟩ := hQ106
        have N106 := Fr.app N104 N106q
        have pr109 : ∀ t, Steps p.tables e below (T106.setTop (mkF m 199 #[.val (.int p1), .val (.int p2), .val (.int p3), .val (.int (own_cc p1)), .val (.int (own_a p2)), .val (.int (own_f p3)), .val (.ref b1), .val (.int (4 : Int32)), .val (.int (((((own_a p2) + (1 : Int32)) + (1 : Int32)) + (1 : Int32)) + (1 : Int32))), .unset, .unset] [(.int (own_f p3)), (.int (((((own_a p2) + (1 : Int32)) + (1 : Int32)) + (1 : Int32)) + (1 : Int32))), (.int (own_a p2)), (.int (4 : Int32)), (.ref b1)])) t → Steps p.tables e below (s₁.setTop (entryFrame m #[(.int p1), (.int p2), (.int p3)] maxLocals)) t := fun t kt => pr107 t (by
          refine st106 _ ?_
          show Steps p.tables e below (T106.setTop (mkF m 187 #[.val (.int p1), .val (.int p2), .val (.int p3), .val (.int (own_cc p1)), .val (.int (own_a p2)), .val (.int (own_f p3)), .val (.ref b1), .val (.int (4 : Int32)), .val (.int (((((own_a p2) + (1 : Int32)) + (1 : Int32)) + (1 : Int32)) + (1 : Int32))), .unset, .unset] [(.int (1 : Int32))])) _
          refine XS.ifNo X106.here hx rfl (hb hby at_187) rfl ((if0 _ _).trans (feq (by decide : ¬ ((1 : Int32) = (0 : Int32)))).1) ?_
          show Steps p.tables e below (T106.setTop (mkF m 190 #[.val (.int p1), .val (.int p2), .val (.int p3), .val (.int (own_cc p1)), .val (.int (own_a p2)), .val (.int (own_f p3)), .val (.ref b1), .val (.int (4 : Int32)), .val (.int (((((own_a p2) + (1 : Int32)) + (1 : Int32)) + (1 : Int32)) + (1 : Int32))), .unset, .unset] [])) _
          refine XS.aload X106.here hx rfl (hb hby at_190) rfl rfl ?_
          show Steps p.tables e below (T106.setTop (mkF m 192 #[.val (.int p1), .val (.int p2), .val (.int p3), .val (.int (own_cc p1)), .val (.int (own_a p2)), .val (.int (own_f p3)), .val (.ref b1), .val (.int (4 : Int32)), .val (.int (((((own_a p2) + (1 : Int32)) + (1 : Int32)) + (1 : Int32)) + (1 : Int32))), .unset, .unset] [(.ref b1)])) _
          refine XS.iconst X106.here hx rfl (hb hby at_192) ?_
          show Steps p.tables e below (T106.setTop (mkF m 193 #[.val (.int p1), .val (.int p2), .val (.int p3), .val (.int (own_cc p1)), .val (.int (own_a p2)), .val (.int (own_f p3)), .val (.ref b1), .val (.int (4 : Int32)), .val (.int (((((own_a p2) + (1 : Int32)) + (1 : Int32)) + (1 : Int32)) + (1 : Int32))), .unset, .unset] [(.int (4 : Int32)), (.ref b1)])) _
          refine XS.iload X106.here hx rfl (hb hby at_193) rfl ?_
          show Steps p.tables e below (T106.setTop (mkF m 195 #[.val (.int p1), .val (.int p2), .val (.int p3), .val (.int (own_cc p1)), .val (.int (own_a p2)), .val (.int (own_f p3)), .val (.ref b1), .val (.int (4 : Int32)), .val (.int (((((own_a p2) + (1 : Int32)) + (1 : Int32)) + (1 : Int32)) + (1 : Int32))), .unset, .unset] [(.int (own_a p2)), (.int (4 : Int32)), (.ref b1)])) _
          refine XS.iload X106.here hx rfl (hb hby at_195) rfl ?_
          show Steps p.tables e below (T106.setTop (mkF m 197 #[.val (.int p1), .val (.int p2), .val (.int p3), .val (.int (own_cc p1)), .val (.int (own_a p2)), .val (.int (own_f p3)), .val (.ref b1), .val (.int (4 : Int32)), .val (.int (((((own_a p2) + (1 : Int32)) + (1 : Int32)) + (1 : Int32)) + (1 : Int32))), .unset, .unset] [(.int (((((own_a p2) + (1 : Int32)) + (1 : Int32)) + (1 : Int32)) + (1 : Int32))), (.int (own_a p2)), (.int (4 : Int32)), (.ref b1)])) _
          refine XS.iload X106.here hx rfl (hb hby at_197) rfl ?_
          show Steps p.tables e below (T106.setTop (mkF m 199 #[.val (.int p1), .val (.int p2), .val (.int p3), .val (.int (own_cc p1)), .val (.int (own_a p2)), .val (.int (own_f p3)), .val (.ref b1), .val (.int (4 : Int32)), .val (.int (((((own_a p2) + (1 : Int32)) + (1 : Int32)) + (1 : Int32)) + (1 : Int32))), .unset, .unset] [(.int (own_f p3)), (.int (((((own_a p2) + (1 : Int32)) + (1 : Int32)) + (1 : Int32)) + (1 : Int32))), (.int (own_a p2)), (.int (4 : Int32)), (.ref b1)])) _
          exact kt)
        obtain ⟨_, _, ⟨T108, L108, k108, n108⟩, -, X108, ⟨Lc108, hQ108, l108, y108, z108⟩, st108⟩ := Jvm.LawKit.callS X106 hx (y := (⟨"com/example/nuthatch/nuthatch/Utf8WritePinLaw", "kept", "([BIIIB)Z"⟩ : MethodName)) hown (mvT hZ (hw _ (List.mem_of_getElem? (i := 7) rfl))) (mvT hZ (hw _ (List.mem_of_getElem? (i := 8) rfl))) (mvT hZ (hw _ (List.mem_of_getElem? (i := 9) rfl))) (mvT hZ (hw _ (List.mem_of_getElem? (i := 10) rfl))) (by decide) (backOf (W := 0) (rm_kt l Z a0 hw [] b1 (4 : Int32) (own_a p2) (((((own_a p2) + (1 : Int32)) + (1 : Int32)) + (1 : Int32)) + (1 : Int32)) (own_f p3) (own_w4 (own_cc p1) (own_a p2) (fun _ => own_f p3)) T98.heap n0 (Nat.le_trans Z17 s98) V98 (by decide) (own_k4 (own_ai p2))) hZ (hw _ (List.mem_of_getElem? (i := 10) rfl)) (hw _ (List.mem_of_getElem? (i := 9) rfl)) (by decide) (by decide)) (g := (mkF m 199 #[.val (.int p1), .val (.int p2), .val (.int p3), .val (.int (own_cc p1)), .val (.int (own_a p2)), .val (.int (own_f p3)), .val (.ref b1), .val (.int (4 : Int32)), .val (.int (((((own_a p2) + (1 : Int32)) + (1 : Int32)) + (1 : Int32)) + (1 : Int32))), .unset, .unset] [(.int (own_f p3)), (.int (((((own_a p2) + (1 : Int32)) + (1 : Int32)) + (1 : Int32)) + (1 : Int32))), (.int (own_a p2)), (.int (4 : Int32)), (.ref b1)])) rfl (by rw [hml]; rfl) (argsL := [(.ref b1), (.int (4 : Int32)), (.int (own_a p2)), (.int (((((own_a p2) + (1 : Int32)) + (1 : Int32)) + (1 : Int32)) + (1 : Int32))), (.int (own_f p3))]) (rest := []) (lenOf pd_law_1 rfl) rfl (by show 2 * 0 + _ ≤ _; exact Nat.le_of_eq rfl) (hb hby at_199) (fun _ _ => ⟨rfl, e106, (by decide : 1 + 0 ≤ _), (by decide : 8 + 0 ≤ _)⟩)
        dsimp only [Pt.U, Pt.locs, Pt.cells, Pt.slots] at X108 l108 y108 z108 st108 hQ108
        subst l108 y108 z108
        obtain ⟨rfl, N108q, e108⟩ := hQ108
        have N108 := Fr.app N106 N108q
        have pr111 : ∀ t, Steps p.tables e below (T108.setTop (mkF m 214 #[.val (.int p1), .val (.int p2), .val (.int p3), .val (.int (own_cc p1)), .val (.int (own_a p2)), .val (.int (own_f p3)), .val (.ref b1), .val (.int (4 : Int32)), .val (.int (((((own_a p2) + (1 : Int32)) + (1 : Int32)) + (1 : Int32)) + (1 : Int32))), .unset, .unset] [(.int (own_f p3)), (.int (((((own_a p2) + (1 : Int32)) + (1 : Int32)) + (1 : Int32)) + (1 : Int32))), (.int (own_a p2)), (.int (5 : Int32)), (.ref b1)])) t → Steps p.tables e below (s₁.setTop (entryFrame m #[(.int p1), (.int p2), (.int p3)] maxLocals)) t := fun t kt => pr109 t (by
          refine st108 _ ?_
          show Steps p.tables e below (T108.setTop (mkF m 202 #[.val (.int p1), .val (.int p2), .val (.int p3), .val (.int (own_cc p1)), .val (.int (own_a p2)), .val (.int (own_f p3)), .val (.ref b1), .val (.int (4 : Int32)), .val (.int (((((own_a p2) + (1 : Int32)) + (1 : Int32)) + (1 : Int32)) + (1 : Int32))), .unset, .unset] [(.int (1 : Int32))])) _
          refine XS.ifNo X108.here hx rfl (hb hby at_202) rfl ((if0 _ _).trans (feq (by decide : ¬ ((1 : Int32) = (0 : Int32)))).1) ?_
          show Steps p.tables e below (T108.setTop (mkF m 205 #[.val (.int p1), .val (.int p2), .val (.int p3), .val (.int (own_cc p1)), .val (.int (own_a p2)), .val (.int (own_f p3)), .val (.ref b1), .val (.int (4 : Int32)), .val (.int (((((own_a p2) + (1 : Int32)) + (1 : Int32)) + (1 : Int32)) + (1 : Int32))), .unset, .unset] [])) _
          refine XS.aload X108.here hx rfl (hb hby at_205) rfl rfl ?_
          show Steps p.tables e below (T108.setTop (mkF m 207 #[.val (.int p1), .val (.int p2), .val (.int p3), .val (.int (own_cc p1)), .val (.int (own_a p2)), .val (.int (own_f p3)), .val (.ref b1), .val (.int (4 : Int32)), .val (.int (((((own_a p2) + (1 : Int32)) + (1 : Int32)) + (1 : Int32)) + (1 : Int32))), .unset, .unset] [(.ref b1)])) _
          refine XS.iconst X108.here hx rfl (hb hby at_207) ?_
          show Steps p.tables e below (T108.setTop (mkF m 208 #[.val (.int p1), .val (.int p2), .val (.int p3), .val (.int (own_cc p1)), .val (.int (own_a p2)), .val (.int (own_f p3)), .val (.ref b1), .val (.int (4 : Int32)), .val (.int (((((own_a p2) + (1 : Int32)) + (1 : Int32)) + (1 : Int32)) + (1 : Int32))), .unset, .unset] [(.int (5 : Int32)), (.ref b1)])) _
          refine XS.iload X108.here hx rfl (hb hby at_208) rfl ?_
          show Steps p.tables e below (T108.setTop (mkF m 210 #[.val (.int p1), .val (.int p2), .val (.int p3), .val (.int (own_cc p1)), .val (.int (own_a p2)), .val (.int (own_f p3)), .val (.ref b1), .val (.int (4 : Int32)), .val (.int (((((own_a p2) + (1 : Int32)) + (1 : Int32)) + (1 : Int32)) + (1 : Int32))), .unset, .unset] [(.int (own_a p2)), (.int (5 : Int32)), (.ref b1)])) _
          refine XS.iload X108.here hx rfl (hb hby at_210) rfl ?_
          show Steps p.tables e below (T108.setTop (mkF m 212 #[.val (.int p1), .val (.int p2), .val (.int p3), .val (.int (own_cc p1)), .val (.int (own_a p2)), .val (.int (own_f p3)), .val (.ref b1), .val (.int (4 : Int32)), .val (.int (((((own_a p2) + (1 : Int32)) + (1 : Int32)) + (1 : Int32)) + (1 : Int32))), .unset, .unset] [(.int (((((own_a p2) + (1 : Int32)) + (1 : Int32)) + (1 : Int32)) + (1 : Int32))), (.int (own_a p2)), (.int (5 : Int32)), (.ref b1)])) _
          refine XS.iload X108.here hx rfl (hb hby at_212) rfl ?_
          show Steps p.tables e below (T108.setTop (mkF m 214 #[.val (.int p1), .val (.int p2), .val (.int p3), .val (.int (own_cc p1)), .val (.int (own_a p2)), .val (.int (own_f p3)), .val (.ref b1), .val (.int (4 : Int32)), .val (.int (((((own_a p2) + (1 : Int32)) + (1 : Int32)) + (1 : Int32)) + (1 : Int32))), .unset, .unset] [(.int (own_f p3)), (.int (((((own_a p2) + (1 : Int32)) + (1 : Int32)) + (1 : Int32)) + (1 : Int32))), (.int (own_a p2)), (.int (5 : Int32)), (.ref b1)])) _
          exact kt)
        obtain ⟨_, _, ⟨T110, L110, k110, n110⟩, -, X110, ⟨Lc110, hQ110, l110, y110, z110⟩, st110⟩ := Jvm.LawKit.callS X108 hx (y := (⟨"com/example/nuthatch/nuthatch/Utf8WritePinLaw", "kept", "([BIIIB)Z"⟩ : MethodName)) hown (mvT hZ (hw _ (List.mem_of_getElem? (i := 7) rfl))) (mvT hZ (hw _ (List.mem_of_getElem? (i := 8) rfl))) (mvT hZ (hw _ (List.mem_of_getElem? (i := 9) rfl))) (mvT hZ (hw _ (List.mem_of_getElem? (i := 10) rfl))) (by decide) (backOf (W := 0) (rm_kt l Z a0 hw [] b1 (5 : Int32) (own_a p2) (((((own_a p2) + (1 : Int32)) + (1 : Int32)) + (1 : Int32)) + (1 : Int32)) (own_f p3) (own_w4 (own_cc p1) (own_a p2) (fun _ => own_f p3)) T98.heap n0 (Nat.le_trans Z17 s98) V98 (by decide) (own_k4 (own_ai p2))) hZ (hw _ (List.mem_of_getElem? (i := 10) rfl)) (hw _ (List.mem_of_getElem? (i := 9) rfl)) (by decide) (by decide)) (g := (mkF m 214 #[.val (.int p1), .val (.int p2), .val (.int p3), .val (.int (own_cc p1)), .val (.int (own_a p2)), .val (.int (own_f p3)), .val (.ref b1), .val (.int (4 : Int32)), .val (.int (((((own_a p2) + (1 : Int32)) + (1 : Int32)) + (1 : Int32)) + (1 : Int32))), .unset, .unset] [(.int (own_f p3)), (.int (((((own_a p2) + (1 : Int32)) + (1 : Int32)) + (1 : Int32)) + (1 : Int32))), (.int (own_a p2)), (.int (5 : Int32)), (.ref b1)])) rfl (by rw [hml]; rfl) (argsL := [(.ref b1), (.int (5 : Int32)), (.int (own_a p2)), (.int (((((own_a p2) + (1 : Int32)) + (1 : Int32)) + (1 : Int32)) + (1 : Int32))), (.int (own_f p3))]) (rest := []) (lenOf pd_law_1 rfl) rfl (by show 2 * 0 + _ ≤ _; exact Nat.le_of_eq rfl) (hb hby at_214) (fun _ _ => ⟨rfl, e108, (by decide : 1 + 0 ≤ _), (by decide : 8 + 0 ≤ _)⟩)
        dsimp only [Pt.U, Pt.locs, Pt.cells, Pt.slots] at X110 l110 y110 z110 st110 hQ110
        subst l110 y110 z110
        obtain ⟨rfl, N110q, e110⟩ := hQ110
        have N110 := Fr.app N108 N110q
        have pr113 : ∀ t, Steps p.tables e below (T110.setTop (mkF m 230 #[.val (.int p1), .val (.int p2), .val (.int p3), .val (.int (own_cc p1)), .val (.int (own_a p2)), .val (.int (own_f p3)), .val (.ref b1), .val (.int (4 : Int32)), .val (.int (((((own_a p2) + (1 : Int32)) + (1 : Int32)) + (1 : Int32)) + (1 : Int32))), .unset, .unset] [(.int (own_f p3)), (.int (((((own_a p2) + (1 : Int32)) + (1 : Int32)) + (1 : Int32)) + (1 : Int32))), (.int (own_a p2)), (.int (6 : Int32)), (.ref b1)])) t → Steps p.tables e below (s₁.setTop (entryFrame m #[(.int p1), (.int p2), (.int p3)] maxLocals)) t := fun t kt => pr111 t (by
          refine st110 _ ?_
          show Steps p.tables e below (T110.setTop (mkF m 217 #[.val (.int p1), .val (.int p2), .val (.int p3), .val (.int (own_cc p1)), .val (.int (own_a p2)), .val (.int (own_f p3)), .val (.ref b1), .val (.int (4 : Int32)), .val (.int (((((own_a p2) + (1 : Int32)) + (1 : Int32)) + (1 : Int32)) + (1 : Int32))), .unset, .unset] [(.int (1 : Int32))])) _
          refine XS.ifNo X110.here hx rfl (hb hby at_217) rfl ((if0 _ _).trans (feq (by decide : ¬ ((1 : Int32) = (0 : Int32)))).1) ?_
          show Steps p.tables e below (T110.setTop (mkF m 220 #[.val (.int p1), .val (.int p2), .val (.int p3), .val (.int (own_cc p1)), .val (.int (own_a p2)), .val (.int (own_f p3)), .val (.ref b1), .val (.int (4 : Int32)), .val (.int (((((own_a p2) + (1 : Int32)) + (1 : Int32)) + (1 : Int32)) + (1 : Int32))), .unset, .unset] [])) _
          refine XS.aload X110.here hx rfl (hb hby at_220) rfl rfl ?_
          show Steps p.tables e below (T110.setTop (mkF m 222 #[.val (.int p1), .val (.int p2), .val (.int p3), .val (.int (own_cc p1)), .val (.int (own_a p2)), .val (.int (own_f p3)), .val (.ref b1), .val (.int (4 : Int32)), .val (.int (((((own_a p2) + (1 : Int32)) + (1 : Int32)) + (1 : Int32)) + (1 : Int32))), .unset, .unset] [(.ref b1)])) _
          refine XS.bipush X110.here hx rfl (hb hby at_222) ?_
          show Steps p.tables e below (T110.setTop (mkF m 224 #[.val (.int p1), .val (.int p2), .val (.int p3), .val (.int (own_cc p1)), .val (.int (own_a p2)), .val (.int (own_f p3)), .val (.ref b1), .val (.int (4 : Int32)), .val (.int (((((own_a p2) + (1 : Int32)) + (1 : Int32)) + (1 : Int32)) + (1 : Int32))), .unset, .unset] [(.int (6 : Int32)), (.ref b1)])) _
          refine XS.iload X110.here hx rfl (hb hby at_224) rfl ?_
          show Steps p.tables e below (T110.setTop (mkF m 226 #[.val (.int p1), .val (.int p2), .val (.int p3), .val (.int (own_cc p1)), .val (.int (own_a p2)), .val (.int (own_f p3)), .val (.ref b1), .val (.int (4 : Int32)), .val (.int (((((own_a p2) + (1 : Int32)) + (1 : Int32)) + (1 : Int32)) + (1 : Int32))), .unset, .unset] [(.int (own_a p2)), (.int (6 : Int32)), (.ref b1)])) _
          refine XS.iload X110.here hx rfl (hb hby at_226) rfl ?_
          show Steps p.tables e below (T110.setTop (mkF m 228 #[.val (.int p1), .val (.int p2), .val (.int p3), .val (.int (own_cc p1)), .val (.int (own_a p2)), .val (.int (own_f p3)), .val (.ref b1), .val (.int (4 : Int32)), .val (.int (((((own_a p2) + (1 : Int32)) + (1 : Int32)) + (1 : Int32)) + (1 : Int32))), .unset, .unset] [(.int (((((own_a p2) + (1 : Int32)) + (1 : Int32)) + (1 : Int32)) + (1 : Int32))), (.int (own_a p2)), (.int (6 : Int32)), (.ref b1)])) _
          refine XS.iload X110.here hx rfl (hb hby at_228) rfl ?_
          show Steps p.tables e below (T110.setTop (mkF m 230 #[.val (.int p1), .val (.int p2), .val (.int p3), .val (.int (own_cc p1)), .val (.int (own_a p2)), .val (.int (own_f p3)), .val (.ref b1), .val (.int (4 : Int32)), .val (.int (((((own_a p2) + (1 : Int32)) + (1 : Int32)) + (1 : Int32)) + (1 : Int32))), .unset, .unset] [(.int (own_f p3)), (.int (((((own_a p2) + (1 : Int32)) + (1 : Int32)) + (1 : Int32)) + (1 : Int32))), (.int (own_a p2)), (.int (6 : Int32)), (.ref b1)])) _
          exact kt)
        obtain ⟨_, _, ⟨T112, L112, k112, n112⟩, -, X112, ⟨Lc112, hQ112, l112, y112, z112⟩, st112⟩ := Jvm.LawKit.callS X110 hx (y := (⟨"com/example/nuthatch/nuthatch/Utf8WritePinLaw", "kept", "([BIIIB)Z"⟩ : MethodName)) hown (mvT hZ (hw _ (List.mem_of_getElem? (i := 7) rfl))) (mvT hZ (hw _ (List.mem_of_getElem? (i := 8) rfl))) (mvT hZ (hw _ (List.mem_of_getElem? (i := 9) rfl))) (mvT hZ (hw _ (List.mem_of_getElem? (i := 10) rfl))) (by decide) (backOf (W := 0) (rm_kt l Z a0 hw [] b1 (6 : Int32) (own_a p2) (((((own_a p2) + (1 : Int32)) + (1 : Int32)) + (1 : Int32)) + (1 : Int32)) (own_f p3) (own_w4 (own_cc p1) (own_a p2) (fun _ => own_f p3)) T98.heap n0 (Nat.le_trans Z17 s98) V98 (by decide) (own_k4 (own_ai p2))) hZ (hw _ (List.mem_of_getElem? (i := 10) rfl)) (hw _ (List.mem_of_getElem? (i := 9) rfl)) (by decide) (by decide)) (g := (mkF m 230 #[.val (.int p1), .val (.int p2), .val (.int p3), .val (.int (own_cc p1)), .val (.int (own_a p2)), .val (.int (own_f p3)), .val (.ref b1), .val (.int (4 : Int32)), .val (.int (((((own_a p2) + (1 : Int32)) + (1 : Int32)) + (1 : Int32)) + (1 : Int32))), .unset, .unset] [(.int (own_f p3)), (.int (((((own_a p2) + (1 : Int32)) + (1 : Int32)) + (1 : Int32)) + (1 : Int32))), (.int (own_a p2)), (.int (6 : Int32)), (.ref b1)])) rfl (by rw [hml]; rfl) (argsL := [(.ref b1), (.int (6 : Int32)), (.int (own_a p2)), (.int (((((own_a p2) + (1 : Int32)) + (1 : Int32)) + (1 : Int32)) + (1 : Int32))), (.int (own_f p3))]) (rest := []) (lenOf pd_law_1 rfl) rfl (by show 2 * 0 + _ ≤ _; exact Nat.le_of_eq rfl) (hb hby at_230) (fun _ _ => ⟨rfl, e110, (by decide : 1 + 0 ≤ _), (by decide : 8 + 0 ≤ _)⟩)
        dsimp only [Pt.U, Pt.locs, Pt.cells, Pt.slots] at X112 l112 y112 z112 st112 hQ112
        subst l112 y112 z112
        obtain ⟨rfl, N112q, e112⟩ := hQ112
        have N112 := Fr.app N110 N112q
        have pr115 : ∀ t, Steps p.tables e below (T112.setTop (mkF m 246 #[.val (.int p1), .val (.int p2), .val (.int p3), .val (.int (own_cc p1)), .val (.int (own_a p2)), .val (.int (own_f p3)), .val (.ref b1), .val (.int (4 : Int32)), .val (.int (((((own_a p2) + (1 : Int32)) + (1 : Int32)) + (1 : Int32)) + (1 : Int32))), .unset, .unset] [(.int (own_f p3)), (.int (((((own_a p2) + (1 : Int32)) + (1 : Int32)) + (1 : Int32)) + (1 : Int32))), (.int (own_a p2)), (.int (7 : Int32)), (.ref b1)])) t → Steps p.tables e below (s₁.setTop (entryFrame m #[(.int p1), (.int p2), (.int p3)] maxLocals)) t := fun t kt => pr113 t (by
          refine st112 _ ?_
          show Steps p.tables e below (T112.setTop (mkF m 233 #[.val (.int p1), .val (.int p2), .val (.int p3), .val (.int (own_cc p1)), .val (.int (own_a p2)), .val (.int (own_f p3)), .val (.ref b1), .val (.int (4 : Int32)), .val (.int (((((own_a p2) + (1 : Int32)) + (1 : Int32)) + (1 : Int32)) + (1 : Int32))), .unset, .unset] [(.int (1 : Int32))])) _
          refine XS.ifNo X112.here hx rfl (hb hby at_233) rfl ((if0 _ _).trans (feq (by decide : ¬ ((1 : Int32) = (0 : Int32)))).1) ?_
          show Steps p.tables e below (T112.setTop (mkF m 236 #[.val (.int p1), .val (.int p2), .val (.int p3), .val (.int (own_cc p1)), .val (.int (own_a p2)), .val (.int (own_f p3)), .val (.ref b1), .val (.int (4 : Int32)), .val (.int (((((own_a p2) + (1 : Int32)) + (1 : Int32)) + (1 : Int32)) + (1 : Int32))), .unset, .unset] [])) _
          refine XS.aload X112.here hx rfl (hb hby at_236) rfl rfl ?_
          show Steps p.tables e below (T112.setTop (mkF m 238 #[.val (.int p1), .val (.int p2), .val (.int p3), .val (.int (own_cc p1)), .val (.int (own_a p2)), .val (.int (own_f p3)), .val (.ref b1), .val (.int (4 : Int32)), .val (.int (((((own_a p2) + (1 : Int32)) + (1 : Int32)) + (1 : Int32)) + (1 : Int32))), .unset, .unset] [(.ref b1)])) _
          refine XS.bipush X112.here hx rfl (hb hby at_238) ?_
          show Steps p.tables e below (T112.setTop (mkF m 240 #[.val (.int p1), .val (.int p2), .val (.int p3), .val (.int (own_cc p1)), .val (.int (own_a p2)), .val (.int (own_f p3)), .val (.ref b1), .val (.int (4 : Int32)), .val (.int (((((own_a p2) + (1 : Int32)) + (1 : Int32)) + (1 : Int32)) + (1 : Int32))), .unset, .unset] [(.int (7 : Int32)), (.ref b1)])) _
          refine XS.iload X112.here hx rfl (hb hby at_240) rfl ?_
          show Steps p.tables e below (T112.setTop (mkF m 242 #[.val (.int p1), .val (.int p2), .val (.int p3), .val (.int (own_cc p1)), .val (.int (own_a p2)), .val (.int (own_f p3)), .val (.ref b1), .val (.int (4 : Int32)), .val (.int (((((own_a p2) + (1 : Int32)) + (1 : Int32)) + (1 : Int32)) + (1 : Int32))), .unset, .unset] [(.int (own_a p2)), (.int (7 : Int32)), (.ref b1)])) _
          refine XS.iload X112.here hx rfl (hb hby at_242) rfl ?_
          show Steps p.tables e below (T112.setTop (mkF m 244 #[.val (.int p1), .val (.int p2), .val (.int p3), .val (.int (own_cc p1)), .val (.int (own_a p2)), .val (.int (own_f p3)), .val (.ref b1), .val (.int (4 : Int32)), .val (.int (((((own_a p2) + (1 : Int32)) + (1 : Int32)) + (1 : Int32)) + (1 : Int32))), .unset, .unset] [(.int (((((own_a p2) + (1 : Int32)) + (1 : Int32)) + (1 : Int32)) + (1 : Int32))), (.int (own_a p2)), (.int (7 : Int32)), (.ref b1)])) _
          refine XS.iload X112.here hx rfl (hb hby at_244) rfl ?_
          show Steps p.tables e below (T112.setTop (mkF m 246 #[.val (.int p1), .val (.int p2), .val (.int p3), .val (.int (own_cc p1)), .val (.int (own_a p2)), .val (.int (own_f p3)), .val (.ref b1), .val (.int (4 : Int32)), .val (.int (((((own_a p2) + (1 : Int32)) + (1 : Int32)) + (1 : Int32)) + (1 : Int32))), .unset, .unset] [(.int (own_f p3)), (.int (((((own_a p2) + (1 : Int32)) + (1 : Int32)) + (1 : Int32)) + (1 : Int32))), (.int (own_a p2)), (.int (7 : Int32)), (.ref b1)])) _
          exact kt)
        obtain ⟨_, _, ⟨T114, L114, k114, n114⟩, -, X114, ⟨Lc114, hQ114, l114, y114, z114⟩, st114⟩ := Jvm.LawKit.callS X112 hx (y := (⟨"com/example/nuthatch/nuthatch/Utf8WritePinLaw", "kept", "([BIIIB)Z"⟩ : MethodName)) hown (mvT hZ (hw _ (List.mem_of_getElem? (i := 7) rfl))) (mvT hZ (hw _ (List.mem_of_getElem? (i := 8) rfl))) (mvT hZ (hw _ (List.mem_of_getElem? (i := 9) rfl))) (mvT hZ (hw _ (List.mem_of_getElem? (i := 10) rfl))) (by decide) (backOf (W := 0) (rm_kt l Z a0 hw [] b1 (7 : Int32) (own_a p2) (((((own_a p2) + (1 : Int32)) + (1 : Int32)) + (1 : Int32)) + (1 : Int32)) (own_f p3) (own_w4 (own_cc p1) (own_a p2) (fun _ => own_f p3)) T98.heap n0 (Nat.le_trans Z17 s98) V98 (by decide) (own_k4 (own_ai p2))) hZ (hw _ (List.mem_of_getElem? (i := 10) rfl)) (hw _ (List.mem_of_getElem? (i := 9) rfl)) (by decide) (by decide)) (g := (mkF m 246 #[.val (.int p1), .val (.int p2), .val (.int p3), .val (.int (own_cc p1)), .val (.int (own_a p2)), .val (.int (own_f p3)), .val (.ref b1), .val (.int (4 : Int32)), .val (.int (((((own_a p2) + (1 : Int32)) + (1 : Int32)) + (1 : Int32)) + (1 : Int32))), .unset, .unset] [(.int (own_f p3)), (.int (((((own_a p2) + (1 : Int32)) + (1 : Int32)) + (1 : Int32)) + (1 : Int32))), (.int (own_a p2)), (.int (7 : Int32)), (.ref b1)])) rfl (by rw [hml]; rfl) (argsL := [(.ref b1), (.int (7 : Int32)), (.int (own_a p2)), (.int (((((own_a p2) + (1 : Int32)) + (1 : Int32)) + (1 : Int32)) + (1 : Int32))), (.int (own_f p3))]) (rest := []) (lenOf pd_law_1 rfl) rfl (by show 2 * 0 + _ ≤ _; exact Nat.le_of_eq rfl) (hb hby at_246) (fun _ _ => ⟨rfl, e112, (by decide : 1 + 0 ≤ _), (by decide : 8 + 0 ≤ _)⟩)
        dsimp only [Pt.U, Pt.locs, Pt.cells, Pt.slots] at X114 l114 y114 z114 st114 hQ114
        subst l114 y114 z114
        obtain ⟨rfl, N114q, e114⟩ := hQ114
        have N114 := Fr.app N112 N114q
        have pr116 : ∀ t, Steps p.tables e below (T114.setTop (mkF m 259 #[.val (.int p1), .val (.int p2), .val (.int p3), .val (.int (own_cc p1)), .val (.int (own_a p2)), .val (.int (own_f p3)), .val (.ref b1), .val (.int (4 : Int32)), .val (.int (((((own_a p2) + (1 : Int32)) + (1 : Int32)) + (1 : Int32)) + (1 : Int32))), .val (.int (1 : Int32)), .unset] [])) t → Steps p.tables e below (s₁.setTop (entryFrame m #[(.int p1), (.int p2), (.int p3)] maxLocals)) t := fun t kt => pr115 t (by
          refine st114 _ ?_
          show Steps p.tables e below (T114.setTop (mkF m 249 #[.val (.int p1), .val (.int p2), .val (.int p3), .val (.int (own_cc p1)), .val (.int (own_a p2)), .val (.int (own_f p3)), .val (.ref b1), .val (.int (4 : Int32)), .val (.int (((((own_a p2) + (1 : Int32)) + (1 : Int32)) + (1 : Int32)) + (1 : Int32))), .unset, .unset] [(.int (1 : Int32))])) _
          refine XS.ifNo X114.here hx rfl (hb hby at_249) rfl ((if0 _ _).trans (feq (by decide : ¬ ((1 : Int32) = (0 : Int32)))).1) ?_
          show Steps p.tables e below (T114.setTop (mkF m 252 #[.val (.int p1), .val (.int p2), .val (.int p3), .val (.int (own_cc p1)), .val (.int (own_a p2)), .val (.int (own_f p3)), .val (.ref b1), .val (.int (4 : Int32)), .val (.int (((((own_a p2) + (1 : Int32)) + (1 : Int32)) + (1 : Int32)) + (1 : Int32))), .unset, .unset] [])) _
          refine XS.iconst X114.here hx rfl (hb hby at_252) ?_
          show Steps p.tables e below (T114.setTop (mkF m 253 #[.val (.int p1), .val (.int p2), .val (.int p3), .val (.int (own_cc p1)), .val (.int (own_a p2)), .val (.int (own_f p3)), .val (.ref b1), .val (.int (4 : Int32)), .val (.int (((((own_a p2) + (1 : Int32)) + (1 : Int32)) + (1 : Int32)) + (1 : Int32))), .unset, .unset] [(.int (1 : Int32))])) _
          refine XS.goto X114.here hx rfl (pc0 := 253) (pc' := 257) rfl (hb hby at_253) (by decide) (by decide) ?_
          show Steps p.tables e below (T114.setTop (mkF m 257 #[.val (.int p1), .val (.int p2), .val (.int p3), .val (.int (own_cc p1)), .val (.int (own_a p2)), .val (.int (own_f p3)), .val (.ref b1), .val (.int (4 : Int32)), .val (.int (((((own_a p2) + (1 : Int32)) + (1 : Int32)) + (1 : Int32)) + (1 : Int32))), .unset, .unset] [(.int (1 : Int32))])) _
          refine XS.istore X114.here hx rfl (hb hby at_257) rfl (l' := #[.val (.int p1), .val (.int p2), .val (.int p3), .val (.int (own_cc p1)), .val (.int (own_a p2)), .val (.int (own_f p3)), .val (.ref b1), .val (.int (4 : Int32)), .val (.int (((((own_a p2) + (1 : Int32)) + (1 : Int32)) + (1 : Int32)) + (1 : Int32))), .val (.int (1 : Int32)), .unset]) rfl ?_
          show Steps p.tables e below (T114.setTop (mkF m 259 #[.val (.int p1), .val (.int p2), .val (.int p3), .val (.int (own_cc p1)), .val (.int (own_a p2)), .val (.int (own_f p3)), .val (.ref b1), .val (.int (4 : Int32)), .val (.int (((((own_a p2) + (1 : Int32)) + (1 : Int32)) + (1 : Int32)) + (1 : Int32))), .val (.int (1 : Int32)), .unset] [])) _
          exact kt)
        obtain ⟨cl, Ar, Sz, Hs⟩ := id V98
        have pr118 : ∀ t, Steps p.tables e below (T114.setTop (mkF m 296 #[.val (.int p1), .val (.int p2), .val (.int p3), .val (.int (own_cc p1)), .val (.int (own_a p2)), .val (.int (own_f p3)), .val (.ref b1), .val (.int (4 : Int32)), .val (.int (((((own_a p2) + (1 : Int32)) + (1 : Int32)) + (1 : Int32)) + (1 : Int32))), .val (.int (1 : Int32)), .unset] [(.int ((own_w4 (own_cc p1) (own_a p2) (fun _ => own_f p3)) (own_a p2)))])) t → Steps p.tables e below (s₁.setTop (entryFrame m #[(.int p1), (.int p2), (.int p3)] maxLocals)) t := fun t kt => pr116 t (by
          show Steps p.tables e below (T114.setTop (mkF m 259 #[.val (.int p1), .val (.int p2), .val (.int p3), .val (.int (own_cc p1)), .val (.int (own_a p2)), .val (.int (own_f p3)), .val (.ref b1), .val (.int (4 : Int32)), .val (.int (((((own_a p2) + (1 : Int32)) + (1 : Int32)) + (1 : Int32)) + (1 : Int32))), .val (.int (1 : Int32)), .unset] [])) _
          refine XS.iload X114.here hx rfl (hb hby at_259) rfl ?_
          show Steps p.tables e below (T114.setTop (mkF m 261 #[.val (.int p1), .val (.int p2), .val (.int p3), .val (.int (own_cc p1)), .val (.int (own_a p2)), .val (.int (own_f p3)), .val (.ref b1), .val (.int (4 : Int32)), .val (.int (((((own_a p2) + (1 : Int32)) + (1 : Int32)) + (1 : Int32)) + (1 : Int32))), .val (.int (1 : Int32)), .unset] [(.int (4 : Int32))])) _
          refine XS.iconst X114.here hx rfl (hb hby at_261) ?_
          show Steps p.tables e below (T114.setTop (mkF m 262 #[.val (.int p1), .val (.int p2), .val (.int p3), .val (.int (own_cc p1)), .val (.int (own_a p2)), .val (.int (own_f p3)), .val (.ref b1), .val (.int (4 : Int32)), .val (.int (((((own_a p2) + (1 : Int32)) + (1 : Int32)) + (1 : Int32)) + (1 : Int32))), .val (.int (1 : Int32)), .unset] [(.int (1 : Int32)), (.int (4 : Int32))])) _
          refine XS.icmpYes X114.here hx rfl (pc0 := 262) (pc' := 286) rfl (hb hby at_262) rfl (feq (by decide : ¬ ((4 : Int32) = (1 : Int32)))).2 (by decide) (by decide) ?_
          show Steps p.tables e below (T114.setTop (mkF m 286 #[.val (.int p1), .val (.int p2), .val (.int p3), .val (.int (own_cc p1)), .val (.int (own_a p2)), .val (.int (own_f p3)), .val (.ref b1), .val (.int (4 : Int32)), .val (.int (((((own_a p2) + (1 : Int32)) + (1 : Int32)) + (1 : Int32)) + (1 : Int32))), .val (.int (1 : Int32)), .unset] [])) _
          refine XS.iload X114.here hx rfl (hb hby at_286) rfl ?_
          show Steps p.tables e below (T114.setTop (mkF m 288 #[.val (.int p1), .val (.int p2), .val (.int p3), .val (.int (own_cc p1)), .val (.int (own_a p2)), .val (.int (own_f p3)), .val (.ref b1), .val (.int (4 : Int32)), .val (.int (((((own_a p2) + (1 : Int32)) + (1 : Int32)) + (1 : Int32)) + (1 : Int32))), .val (.int (1 : Int32)), .unset] [(.int (1 : Int32))])) _
          refine XS.ifNo X114.here hx rfl (hb hby at_288) rfl ((if0 _ _).trans (feq (by decide : ¬ ((1 : Int32) = (0 : Int32)))).1) ?_
          show Steps p.tables e below (T114.setTop (mkF m 291 #[.val (.int p1), .val (.int p2), .val (.int p3), .val (.int (own_cc p1)), .val (.int (own_a p2)), .val (.int (own_f p3)), .val (.ref b1), .val (.int (4 : Int32)), .val (.int (((((own_a p2) + (1 : Int32)) + (1 : Int32)) + (1 : Int32)) + (1 : Int32))), .val (.int (1 : Int32)), .unset] [])) _
          refine XS.aload X114.here hx rfl (hb hby at_291) rfl rfl ?_
          show Steps p.tables e below (T114.setTop (mkF m 293 #[.val (.int p1), .val (.int p2), .val (.int p3), .val (.int (own_cc p1)), .val (.int (own_a p2)), .val (.int (own_f p3)), .val (.ref b1), .val (.int (4 : Int32)), .val (.int (((((own_a p2) + (1 : Int32)) + (1 : Int32)) + (1 : Int32)) + (1 : Int32))), .val (.int (1 : Int32)), .unset] [(.ref b1)])) _
          refine XS.iload X114.here hx rfl (hb hby at_293) rfl ?_
          show Steps p.tables e below (T114.setTop (mkF m 295 #[.val (.int p1), .val (.int p2), .val (.int p3), .val (.int (own_cc p1)), .val (.int (own_a p2)), .val (.int (own_f p3)), .val (.ref b1), .val (.int (4 : Int32)), .val (.int (((((own_a p2) + (1 : Int32)) + (1 : Int32)) + (1 : Int32)) + (1 : Int32))), .val (.int (1 : Int32)), .unset] [(.int (own_a p2)), (.ref b1)])) _
          refine X114.baloadBytes hx (j := (own_a p2)) (v := (.int ((own_w4 (own_cc p1) (own_a p2) (fun _ => own_f p3)) (own_a p2)))) (by rw [e114]; exact Ar.1) (State.isArrayOf_alike hZ.alike Ar.2.1) Ar.2.2 (own_in Sz (own_ix0 (own_ai p2))) (Hs (own_a p2) (own_ix0 (own_ai p2)).1 (own_ix0 (own_ai p2)).2) (g := (mkF m 295 #[.val (.int p1), .val (.int p2), .val (.int p3), .val (.int (own_cc p1)), .val (.int (own_a p2)), .val (.int (own_f p3)), .val (.ref b1), .val (.int (4 : Int32)), .val (.int (((((own_a p2) + (1 : Int32)) + (1 : Int32)) + (1 : Int32)) + (1 : Int32))), .val (.int (1 : Int32)), .unset] [(.int (own_a p2)), (.ref b1)])) rfl rfl (hb hby at_295) _ ?_
          show Steps p.tables e below (T114.setTop (mkF m 296 #[.val (.int p1), .val (.int p2), .val (.int p3), .val (.int (own_cc p1)), .val (.int (own_a p2)), .val (.int (own_f p3)), .val (.ref b1), .val (.int (4 : Int32)), .val (.int (((((own_a p2) + (1 : Int32)) + (1 : Int32)) + (1 : Int32)) + (1 : Int32))), .val (.int (1 : Int32)), .unset] [(.int ((own_w4 (own_cc p1) (own_a p2) (fun _ => own_f p3)) (own_a p2)))])) _
          exact kt)
        obtain ⟨_, _, ⟨T117, L117, k117, n117⟩, -, X117, ⟨Lc117, hQ117, l117, y117, z117⟩, st117⟩ := Jvm.LawKit.callS X114 hx (y := (⟨"com/example/nuthatch/nuthatch/Utf8", "sequenceLength", "(B)I"⟩ : MethodName)) hown (mvT hZ (hw _ (List.mem_of_getElem? (i := 11) rfl))) (mvT hZ (hw _ (List.mem_of_getElem? (i := 12) rfl))) (mvT hZ (hw _ (List.mem_of_getElem? (i := 5) rfl))) (mvT hZ (hw _ (List.mem_of_getElem? (i := 13) rfl))) (by decide) (backOf (W := 0) (rm_sl l Z a0 hw [] ((own_w4 (own_cc p1) (own_a p2) (fun _ => own_f p3)) (own_a p2)) T98.heap n0 (Nat.le_trans Z17 s98) ) hZ (hw _ (List.mem_of_getElem? (i := 13) rfl)) (hw _ (List.mem_of_getElem? (i := 5) rfl)) (by decide) (by decide)) (g := (mkF m 296 #[.val (.int p1), .val (.int p2), .val (.int p3), .val (.int (own_cc p1)), .val (.int (own_a p2)), .val (.int (own_f p3)), .val (.ref b1), .val (.int (4 : Int32)), .val (.int (((((own_a p2) + (1 : Int32)) + (1 : Int32)) + (1 : Int32)) + (1 : Int32))), .val (.int (1 : Int32)), .unset] [(.int ((own_w4 (own_cc p1) (own_a p2) (fun _ => own_f p3)) (own_a p2)))])) rfl (by rw [hml]; rfl) (argsL := [(.int ((own_w4 (own_cc p1) (own_a p2) (fun _ => own_f p3)) (own_a p2)))]) (rest := []) (lenOf pd_law_2 rfl) rfl (by show 2 * 0 + _ ≤ _; exact Nat.le_of_eq rfl) (hb hby at_296) (fun _ _ => ⟨rfl, e114, (by decide : 1 + 0 ≤ _), (by decide : 8 + 0 ≤ _)⟩)
        dsimp only [Pt.U, Pt.locs, Pt.cells, Pt.slots] at X117 l117 y117 z117 st117 hQ117
        subst l117 y117 z117
        obtain ⟨rfl, N117q, e117⟩ := hQ117
        have N117 := Fr.app N114 N117q
        have pr120 : ∀ t, Steps p.tables e below (T117.setTop (mkF m 423 #[.val (.int p1), .val (.int p2), .val (.int p3), .val (.int (own_cc p1)), .val (.int (own_a p2)), .val (.int (own_f p3)), .val (.ref b1), .val (.int (4 : Int32)), .val (.int (((((own_a p2) + (1 : Int32)) + (1 : Int32)) + (1 : Int32)) + (1 : Int32))), .val (.int (1 : Int32)), .unset] [(.int (4 : Int32)), (.int (own_a p2)), (.ref b1)])) t → Steps p.tables e below (s₁.setTop (entryFrame m #[(.int p1), (.int p2), (.int p3)] maxLocals)) t := fun t kt => pr118 t (by
          refine st117 _ ?_
          show Steps p.tables e below (T117.setTop (mkF m 299 #[.val (.int p1), .val (.int p2), .val (.int p3), .val (.int (own_cc p1)), .val (.int (own_a p2)), .val (.int (own_f p3)), .val (.ref b1), .val (.int (4 : Int32)), .val (.int (((((own_a p2) + (1 : Int32)) + (1 : Int32)) + (1 : Int32)) + (1 : Int32))), .val (.int (1 : Int32)), .unset] [(.int (own_sl ((own_w4 (own_cc p1) (own_a p2) (fun _ => own_f p3)) (own_a p2))))])) _
          refine XS.iload X117.here hx rfl (hb hby at_299) rfl ?_
          show Steps p.tables e below (T117.setTop (mkF m 301 #[.val (.int p1), .val (.int p2), .val (.int p3), .val (.int (own_cc p1)), .val (.int (own_a p2)), .val (.int (own_f p3)), .val (.ref b1), .val (.int (4 : Int32)), .val (.int (((((own_a p2) + (1 : Int32)) + (1 : Int32)) + (1 : Int32)) + (1 : Int32))), .val (.int (1 : Int32)), .unset] [(.int (4 : Int32)), (.int (own_sl ((own_w4 (own_cc p1) (own_a p2) (fun _ => own_f p3)) (own_a p2))))])) _
          refine XS.icmpNo X117.here hx rfl (hb hby at_301) rfl (teq ((congrArg own_sl (own_v40 (own_ai p2))).trans (own_sl4 _ (own_cci p1).1 (own_cci p1).2) : (own_sl ((own_w4 (own_cc p1) (own_a p2) (fun _ => own_f p3)) (own_a p2))) = (4 : Int32))).2 ?_
          show Steps p.tables e below (T117.setTop (mkF m 304 #[.val (.int p1), .val (.int p2), .val (.int p3), .val (.int (own_cc p1)), .val (.int (own_a p2)), .val (.int (own_f p3)), .val (.ref b1), .val (.int (4 : Int32)), .val (.int (((((own_a p2) + (1 : Int32)) + (1 : Int32)) + (1 : Int32)) + (1 : Int32))), .val (.int (1 : Int32)), .unset] [])) _
          refine XS.iconst X117.here hx rfl (hb hby at_304) ?_
          show Steps p.tables e below (T117.setTop (mkF m 305 #[.val (.int p1), .val (.int p2), .val (.int p3), .val (.int (own_cc p1)), .val (.int (own_a p2)), .val (.int (own_f p3)), .val (.ref b1), .val (.int (4 : Int32)), .val (.int (((((own_a p2) + (1 : Int32)) + (1 : Int32)) + (1 : Int32)) + (1 : Int32))), .val (.int (1 : Int32)), .unset] [(.int (1 : Int32))])) _
          refine XS.goto X117.here hx rfl (pc0 := 305) (pc' := 309) rfl (hb hby at_305) (by decide) (by decide) ?_
          show Steps p.tables e below (T117.setTop (mkF m 309 #[.val (.int p1), .val (.int p2), .val (.int p3), .val (.int (own_cc p1)), .val (.int (own_a p2)), .val (.int (own_f p3)), .val (.ref b1), .val (.int (4 : Int32)), .val (.int (((((own_a p2) + (1 : Int32)) + (1 : Int32)) + (1 : Int32)) + (1 : Int32))), .val (.int (1 : Int32)), .unset] [(.int (1 : Int32))])) _
          refine XS.istore X117.here hx rfl (hb hby at_309) rfl (l' := #[.val (.int p1), .val (.int p2), .val (.int p3), .val (.int (own_cc p1)), .val (.int (own_a p2)), .val (.int (own_f p3)), .val (.ref b1), .val (.int (4 : Int32)), .val (.int (((((own_a p2) + (1 : Int32)) + (1 : Int32)) + (1 : Int32)) + (1 : Int32))), .val (.int (1 : Int32)), .unset]) rfl ?_
          show Steps p.tables e below (T117.setTop (mkF m 311 #[.val (.int p1), .val (.int p2), .val (.int p3), .val (.int (own_cc p1)), .val (.int (own_a p2)), .val (.int (own_f p3)), .val (.ref b1), .val (.int (4 : Int32)), .val (.int (((((own_a p2) + (1 : Int32)) + (1 : Int32)) + (1 : Int32)) + (1 : Int32))), .val (.int (1 : Int32)), .unset] [])) _
          refine XS.iloadN X117.here hx rfl (hb hby at_311) rfl ?_
          show Steps p.tables e below (T117.setTop (mkF m 312 #[.val (.int p1), .val (.int p2), .val (.int p3), .val (.int (own_cc p1)), .val (.int (own_a p2)), .val (.int (own_f p3)), .val (.ref b1), .val (.int (4 : Int32)), .val (.int (((((own_a p2) + (1 : Int32)) + (1 : Int32)) + (1 : Int32)) + (1 : Int32))), .val (.int (1 : Int32)), .unset] [(.int (own_cc p1))])) _
          refine X117.ldcInt hx hown (mvT hZ (hw _ (List.mem_of_getElem? (i := 14) rfl))) (g := (mkF m 312 #[.val (.int p1), .val (.int p2), .val (.int p3), .val (.int (own_cc p1)), .val (.int (own_a p2)), .val (.int (own_f p3)), .val (.ref b1), .val (.int (4 : Int32)), .val (.int (((((own_a p2) + (1 : Int32)) + (1 : Int32)) + (1 : Int32)) + (1 : Int32))), .val (.int (1 : Int32)), .unset] [(.int (own_cc p1))])) rfl (hb hby at_312) _ ?_
          show Steps p.tables e below (T117.setTop (mkF m 314 #[.val (.int p1), .val (.int p2), .val (.int p3), .val (.int (own_cc p1)), .val (.int (own_a p2)), .val (.int (own_f p3)), .val (.ref b1), .val (.int (4 : Int32)), .val (.int (((((own_a p2) + (1 : Int32)) + (1 : Int32)) + (1 : Int32)) + (1 : Int32))), .val (.int (1 : Int32)), .unset] [(.int (55296 : Int32)), (.int (own_cc p1))])) _
          refine XS.icmpNo X117.here hx rfl (hb hby at_314) rfl (flt (own_not_lt (by decide : (55296 : Int32) < (65536 : Int32)) hc98_66 : ¬ ((own_cc p1) < (55296 : Int32)))).1 ?_
          show Steps p.tables e below (T117.setTop (mkF m 317 #[.val (.int p1), .val (.int p2), .val (.int p3), .val (.int (own_cc p1)), .val (.int (own_a p2)), .val (.int (own_f p3)), .val (.ref b1), .val (.int (4 : Int32)), .val (.int (((((own_a p2) + (1 : Int32)) + (1 : Int32)) + (1 : Int32)) + (1 : Int32))), .val (.int (1 : Int32)), .unset] [])) _
          refine XS.iloadN X117.here hx rfl (hb hby at_317) rfl ?_
          show Steps p.tables e below (T117.setTop (mkF m 318 #[.val (.int p1), .val (.int p2), .val (.int p3), .val (.int (own_cc p1)), .val (.int (own_a p2)), .val (.int (own_f p3)), .val (.ref b1), .val (.int (4 : Int32)), .val (.int (((((own_a p2) + (1 : Int32)) + (1 : Int32)) + (1 : Int32)) + (1 : Int32))), .val (.int (1 : Int32)), .unset] [(.int (own_cc p1))])) _
          refine X117.ldcInt hx hown (mvT hZ (hw _ (List.mem_of_getElem? (i := 23) rfl))) (g := (mkF m 318 #[.val (.int p1), .val (.int p2), .val (.int p3), .val (.int (own_cc p1)), .val (.int (own_a p2)), .val (.int (own_f p3)), .val (.ref b1), .val (.int (4 : Int32)), .val (.int (((((own_a p2) + (1 : Int32)) + (1 : Int32)) + (1 : Int32)) + (1 : Int32))), .val (.int (1 : Int32)), .unset] [(.int (own_cc p1))])) rfl (hb hby at_318) _ ?_
          show Steps p.tables e below (T117.setTop (mkF m 320 #[.val (.int p1), .val (.int p2), .val (.int p3), .val (.int (own_cc p1)), .val (.int (own_a p2)), .val (.int (own_f p3)), .val (.ref b1), .val (.int (4 : Int32)), .val (.int (((((own_a p2) + (1 : Int32)) + (1 : Int32)) + (1 : Int32)) + (1 : Int32))), .val (.int (1 : Int32)), .unset] [(.int (57343 : Int32)), (.int (own_cc p1))])) _
          refine XS.icmpYes X117.here hx rfl (pc0 := 320) (pc' := 412) rfl (hb hby at_320) rfl (tlt (own_lt_of (by decide : (57343 : Int32) < (65536 : Int32)) hc98_66 : (57343 : Int32) < (own_cc p1))).2.2.1 (by decide) (by decide) ?_
          show Steps p.tables e below (T117.setTop (mkF m 412 #[.val (.int p1), .val (.int p2), .val (.int p3), .val (.int (own_cc p1)), .val (.int (own_a p2)), .val (.int (own_f p3)), .val (.ref b1), .val (.int (4 : Int32)), .val (.int (((((own_a p2) + (1 : Int32)) + (1 : Int32)) + (1 : Int32)) + (1 : Int32))), .val (.int (1 : Int32)), .unset] [])) _
          refine XS.iload X117.here hx rfl (hb hby at_412) rfl ?_
          show Steps p.tables e below (T117.setTop (mkF m 414 #[.val (.int p1), .val (.int p2), .val (.int p3), .val (.int (own_cc p1)), .val (.int (own_a p2)), .val (.int (own_f p3)), .val (.ref b1), .val (.int (4 : Int32)), .val (.int (((((own_a p2) + (1 : Int32)) + (1 : Int32)) + (1 : Int32)) + (1 : Int32))), .val (.int (1 : Int32)), .unset] [(.int (1 : Int32))])) _
          refine XS.ifNo X117.here hx rfl (hb hby at_414) rfl ((if0 _ _).trans (feq (by decide : ¬ ((1 : Int32) = (0 : Int32)))).1) ?_
          show Steps p.tables e below (T117.setTop (mkF m 417 #[.val (.int p1), .val (.int p2), .val (.int p3), .val (.int (own_cc p1)), .val (.int (own_a p2)), .val (.int (own_f p3)), .val (.ref b1), .val (.int (4 : Int32)), .val (.int (((((own_a p2) + (1 : Int32)) + (1 : Int32)) + (1 : Int32)) + (1 : Int32))), .val (.int (1 : Int32)), .unset] [])) _
          refine XS.aload X117.here hx rfl (hb hby at_417) rfl rfl ?_
          show Steps p.tables e below (T117.setTop (mkF m 419 #[.val (.int p1), .val (.int p2), .val (.int p3), .val (.int (own_cc p1)), .val (.int (own_a p2)), .val (.int (own_f p3)), .val (.ref b1), .val (.int (4 : Int32)), .val (.int (((((own_a p2) + (1 : Int32)) + (1 : Int32)) + (1 : Int32)) + (1 : Int32))), .val (.int (1 : Int32)), .unset] [(.ref b1)])) _
          refine XS.iload X117.here hx rfl (hb hby at_419) rfl ?_
          show Steps p.tables e below (T117.setTop (mkF m 421 #[.val (.int p1), .val (.int p2), .val (.int p3), .val (.int (own_cc p1)), .val (.int (own_a p2)), .val (.int (own_f p3)), .val (.ref b1), .val (.int (4 : Int32)), .val (.int (((((own_a p2) + (1 : Int32)) + (1 : Int32)) + (1 : Int32)) + (1 : Int32))), .val (.int (1 : Int32)), .unset] [(.int (own_a p2)), (.ref b1)])) _
          refine XS.iload X117.here hx rfl (hb hby at_421) rfl ?_
          show Steps p.tables e below (T117.setTop (mkF m 423 #[.val (.int p1), .val (.int p2), .val (.int p3), .val (.int (own_cc p1)), .val (.int (own_a p2)), .val (.int (own_f p3)), .val (.ref b1), .val (.int (4 : Int32)), .val (.int (((((own_a p2) + (1 : Int32)) + (1 : Int32)) + (1 : Int32)) + (1 : Int32))), .val (.int (1 : Int32)), .unset] [(.int (4 : Int32)), (.int (own_a p2)), (.ref b1)])) _
          exact kt)
        obtain ⟨_, _, ⟨T119, L119, k119, n119⟩, -, X119, ⟨Lc119, hQ119, l119, y119, z119⟩, st119⟩ := Jvm.LawKit.callS X117 hx (y := (⟨"com/example/nuthatch/nuthatch/Utf8", "codePoint", "([BII)I"⟩ : MethodName)) hown (mvT hZ (hw _ (List.mem_of_getElem? (i := 15) rfl))) (mvT hZ (hw _ (List.mem_of_getElem? (i := 16) rfl))) (mvT hZ (hw _ (List.mem_of_getElem? (i := 5) rfl))) (mvT hZ (hw _ (List.mem_of_getElem? (i := 17) rfl))) (by decide) (backOf (W := 0) (rm_cp4 l Z a0 hw [] b1 (own_a p2) (4 : Int32) (own_w4 (own_cc p1) (own_a p2) (fun _ => own_f p3)) (own_cc p1) T98.heap n0 (Nat.le_trans Z17 s98) V98 (own_ai p2) rfl (own_dd4 (own_ai p2) (own_cci p1).1 (own_cci p1).2) (own_ff41 (own_ai p2)) (own_ff42 (own_ai p2)) (own_ff43 (own_ai p2)) hc98_66 (own_top (own_cci p1))) hZ (hw _ (List.mem_of_getElem? (i := 17) rfl)) (hw _ (List.mem_of_getElem? (i := 5) rfl)) (by decide) (by decide)) (g := (mkF m 423 #[.val (.int p1), .val (.int p2), .val (.int p3), .val (.int (own_cc p1)), .val (.int (own_a p2)), .val (.int (own_f p3)), .val (.ref b1), .val (.int (4 : Int32)), .val (.int (((((own_a p2) + (1 : Int32)) + (1 : Int32)) + (1 : Int32)) + (1 : Int32))), .val (.int (1 : Int32)), .unset] [(.int (4 : Int32)), (.int (own_a p2)), (.ref b1)])) rfl (by rw [hml]; rfl) (argsL := [(.ref b1), (.int (own_a p2)), (.int (4 : Int32))]) (rest := []) (lenOf pd_law_3 rfl) rfl (by show 2 * 0 + _ ≤ _; exact Nat.le_of_eq rfl) (hb hby at_423) (fun _ _ => ⟨rfl, e117, (by decide : 1 + 0 ≤ _), (by decide : 8 + 0 ≤ _)⟩)
        dsimp only [Pt.U, Pt.locs, Pt.cells, Pt.slots] at X119 l119 y119 z119 st119 hQ119
        subst l119 y119 z119
        obtain ⟨rfl, N119q, e119⟩ := hQ119
        have N119 := Fr.app N117 N119q
        obtain ⟨fs, hr, hrun, hended, hW, hsame⟩ := X119.leave (v := some (.int (nar .boolean (1 : Int32)))) (fun h => by rw [Bd.returns] at h; cases h)
        refine ⟨_, _, pr120 _ ?_, hrun, hended, _, _, rfl, ?_, ⟨_, rfl⟩, hW, hsame.mono (by decide) (by decide)⟩
        · refine st119 _ ?_
          show Steps p.tables e below (T119.setTop (mkF m 426 #[.val (.int p1), .val (.int p2), .val (.int p3), .val (.int (own_cc p1)), .val (.int (own_a p2)), .val (.int (own_f p3)), .val (.ref b1), .val (.int (4 : Int32)), .val (.int (((((own_a p2) + (1 : Int32)) + (1 : Int32)) + (1 : Int32)) + (1 : Int32))), .val (.int (1 : Int32)), .unset] [(.int (own_cc p1))])) _
          refine XS.iloadN X119.here hx rfl (hb hby at_426) rfl ?_
          show Steps p.tables e below (T119.setTop (mkF m 427 #[.val (.int p1), .val (.int p2), .val (.int p3), .val (.int (own_cc p1)), .val (.int (own_a p2)), .val (.int (own_f p3)), .val (.ref b1), .val (.int (4 : Int32)), .val (.int (((((own_a p2) + (1 : Int32)) + (1 : Int32)) + (1 : Int32)) + (1 : Int32))), .val (.int (1 : Int32)), .unset] [(.int (own_cc p1)), (.int (own_cc p1))])) _
          refine XS.icmpNo X119.here hx rfl (hb hby at_427) rfl (teq (rfl : (own_cc p1) = (own_cc p1))).2 ?_
          show Steps p.tables e below (T119.setTop (mkF m 430 #[.val (.int p1), .val (.int p2), .val (.int p3), .val (.int (own_cc p1)), .val (.int (own_a p2)), .val (.int (own_f p3)), .val (.ref b1), .val (.int (4 : Int32)), .val (.int (((((own_a p2) + (1 : Int32)) + (1 : Int32)) + (1 : Int32)) + (1 : Int32))), .val (.int (1 : Int32)), .unset] [])) _
          refine XS.iconst X119.here hx rfl (hb hby at_430) ?_
          show Steps p.tables e below (T119.setTop (mkF m 431 #[.val (.int p1), .val (.int p2), .val (.int p3), .val (.int (own_cc p1)), .val (.int (own_a p2)), .val (.int (own_f p3)), .val (.ref b1), .val (.int (4 : Int32)), .val (.int (((((own_a p2) + (1 : Int32)) + (1 : Int32)) + (1 : Int32)) + (1 : Int32))), .val (.int (1 : Int32)), .unset] [(.int (1 : Int32))])) _
          refine XS.goto X119.here hx rfl (pc0 := 431) (pc' := 435) rfl (hb hby at_431) (by decide) (by decide) ?_
          show Steps p.tables e below (T119.setTop (mkF m 435 #[.val (.int p1), .val (.int p2), .val (.int p3), .val (.int (own_cc p1)), .val (.int (own_a p2)), .val (.int (own_f p3)), .val (.ref b1), .val (.int (4 : Int32)), .val (.int (((((own_a p2) + (1 : Int32)) + (1 : Int32)) + (1 : Int32)) + (1 : Int32))), .val (.int (1 : Int32)), .unset] [(.int (1 : Int32))])) _
          exact retN X119 hx (t := .boolean) Bd.returns (by simp) (hb hby at_435) hr
        · show Q_law Z p1 p2 p3 h0 n0 _ T119.heap _
          rw [e119]
          exact ⟨(congrArg (fun zz => some (Value.int zz)) (by rfl : nar .boolean (1 : Int32) = (1 : Int32))), N119⟩
set_option maxRecDepth 65536 in
set_option maxHeartbeats 40000000 in
theorem comes_1 {Post : Tables → Env → Array Value → State → Outcome → State → Prop} (hpost : ∀ tb e args s v u, (limb_1_1.after args s (.returned v) u = true ∧ limb_1_2.after args s (.returned v) u = true ∧ True) → FrameEnd s (.returned v) u (Jvm.fieldLocs frame_1_writes args s ++ Jvm.arrayLocs frame_1_arrays args s ++ Jvm.staticLocs frame_1_statics s) 16 128 → Post tb e args s (.returned v) u) :
    ArmFor flags0 classFile x code maxLocals ret World_1 tables_1 room_1 Calls_1 rest_1 Pre_1 Post := by
  intro l hfl _ _ p e ha hc hk s m args below hf hA hF happ hP
  obtain ⟨hcalls, hrest, hpre⟩ := hP
  obtain ⟨-, -, -, hnamed, -, -, -, hat⟩ := (Spec.applies_iff hf).mp happ
  obtain ⟨hg, hn⟩ := and_e (Cond.before_iff.mp (show (Jvm.Cond.and given_1 narrow_1).before args s = true from hpre))
  obtain ⟨hcount, hg1⟩ := and_e hg
  obtain ⟨ga0, hg2⟩ := and_e hg1
  obtain ⟨ga1, hg3⟩ := and_e hg2
  obtain ⟨w0, w1, w2, rfl⟩ : ∃ w0 w1 w2 : Value, args = #[w0, w1, w2] := by
    have hs : args.size = 3 := by simpa [Cond.value, given_1] using hcount
    obtain ⟨L⟩ := args
    match L, hs with
    | [w0, w1, w2], _ => exact ⟨w0, w1, w2, rfl⟩
  have hw := fun d (hd : d ∈ tables_1) => atoms_spec (ws := Jvm.Cond.code x code maxLocals ret :: tables_1) hat d (List.mem_cons_of_mem _ hd)
  obtain ⟨i0, ei0⟩ := is_v ga0
  obtain rfl : w0 = (.int i0) := Option.some.inj ei0
  obtain ⟨i1, ei1⟩ := is_v ga1
  obtain rfl : w1 = (.int i1) := Option.some.inj ei1
  obtain ⟨i2, ei2⟩ := is_v hg3
  obtain rfl : w2 = (.int i2) := Option.some.inj ei2
  obtain ⟨n, o, h1, h2, h3, _, L, rfl, ⟨rfl, N⟩, hq⟩ := rm_law l s _ hw tables_1 i0 i1 i2 s.heap s.heap.size (Nat.le_refl _)  p e ha hc hk s m _ below hf ((Spec.applies_iff_loose hf).mp happ).1 ⟨rfl, State.Warmed39.refl s, rfl⟩ trivial
  refine ⟨n, _, h1, h2, h3, hpost _ _ _ _ _ _ ⟨Cond.after_iff.mpr rfl, Cond.after_iff.mpr (eq_i res_at (Term.int_eval (1)) rfl), trivial⟩ ⟨hq.1, hq.2.1, (hq.2.2.sift fun y hy => Or.inr (N y hy)).mono (by decide) (by decide)⟩⟩
theorem main_1_1 : Claimed_1_1 := comes_1 fun _ _ _ _ _ _ h hF => ⟨h.1, hF⟩
theorem main_1_2 : Claimed_1_2 := comes_1 fun _ _ _ _ _ _ h hF => ⟨h.2.1, hF⟩
end Jvm.Pilot.@@N@@
namespace Jvm.Pilot.@@N@@
open Jvm Jvm.ClassFile Sem Op Lib Jvm.Free Jvm.Stand Jvm.Pilot.@@N@@.Jvm.D
/-! MADE BY PROGRAM (witnessworld.py) out of the Statement's table words and the real class files: 7 classes; the members and pool entries that the words name. The judged class is class 1, her method 2. -/
namespace start1
open Jvm.ClassFile
def u (s : String) : CpInfo := .utf8 (stringToUtf16 s)
/-- a pool by its gaps: so many unusable entries, then the entry; so many at the end -/
def gap : Nat → List CpInfo → List CpInfo
  | 0, r => r
  | n + 1, r => .unusable :: gap n r
def poolList (es : List (Nat × CpInfo)) (last : Nat) : List CpInfo := es.foldr (fun e r => gap e.1 (e.2 :: r)) (gap last [])
def pool (es : List (Nat × CpInfo)) (last : Nat) : Array CpInfo := ⟨poolList es last⟩
def fileOf (pool : Array CpInfo) (this : Nat) (attrs : Array Attribute := #[]) (ms : Array MethodInfo := #[]) (fl : Nat := 33) (sup : Nat := 0) (ifs : Array Nat := #[]) (fds : Array FieldInfo := #[]) : ClassFile where
  minorVersion := 0
  majorVersion := 65
  constantPool := pool
  accessFlags := fl
  thisClass := this
  superClass := sup
  interfaces := ifs
  fields := fds
  methods := ms
  attributes := attrs
def plain (name : String) (sup : Option ClassId) : Class where
  name := name
  kind := .ordinary
  loader := none
  accessFlags := 33
  super := sup
  interfaces := #[]
  cf := none
  fields := #[]
  methods := #[]
  instanceTypes := #[]
  staticTypes := #[]
  resolved := #[]
  callSites := []
  init := .initialized
  statics := none
  mirror := none

def pool0 : Array CpInfo := pool [(5, u "<init>"), (0, u "()V"), (1, .class_ 10), (1, u "java/lang/Object")] 113

def k0m0 : Method := { name := "<init>", desc := "()V", sig := { parameters := [], returnType := none }, accessFlags := 1, code := none }
/-- java/lang/Object -/
def k0 : Class := { plain "java/lang/Object" none with
  accessFlags := 33
  interfaces := #[]
  cf := some (fileOf pool0 8 #[] #[{ accessFlags := 1, nameIndex := 5, descriptorIndex := 6, attributes := #[] }] 33 0 #[] #[])
  fields := #[]
  methods := #[k0m0]
  instanceTypes := #[]
  staticTypes := #[]
  resolved := Array.replicate 124 none
  statics := none }

def pool1 : Array CpInfo := pool [(2, .class_ 4), (1, u "java/lang/Object"), (0, u "<init>"), (0, u "()V"), (0, .integer 2147483647), (0, .integer 1114112), (0, .integer 65536), (0, .methodref 11 12), (0, .class_ 13), (0, .nameAndType 14 15), (0, u "com/example/nuthatch/nuthatch/Utf8"), (0, u "write"), (0, u "(I[BI)I"), (0, .methodref 17 18), (0, .class_ 19), (0, .nameAndType 20 21), (0, u "com/example/nuthatch/nuthatch/Utf8WritePinLaw"), (0, u "kept"), (0, u "([BIIIB)Z"), (0, .methodref 11 23), (0, .nameAndType 24 25), (0, u "sequenceLength"), (0, u "(B)I"), (0, .integer 55296), (0, .integer 57343), (0, .methodref 11 29), (0, .nameAndType 30 31), (0, u "codePoint"), (0, u "([BII)I"), (3, u "law"), (0, u "(III)Z")] 4

def k1m0 : Method := { name := "<init>", desc := "()V", sig := { parameters := [], returnType := none }, accessFlags := 1, code := none }
def k1c1 : Code := { maxStack := 2, maxLocals := 5, code := method_2_code, exceptionTable := #[], attributes := #[] }
def k1m1 : Method := { name := "kept", desc := "([BIIIB)Z", sig := { parameters := [(.array .byte), .int, .int, .int, .byte], returnType := some .boolean }, accessFlags := 10, code := some k1c1 }
def k1c2 : Code := { maxStack := 5, maxLocals := 11, code := code, exceptionTable := #[], attributes := #[] }
def k1m2 : Method := { name := "law", desc := "(III)Z", sig := { parameters := [.int, .int, .int], returnType := some .boolean }, accessFlags := 9, code := some k1c2 }
/-- com/example/nuthatch/nuthatch/Utf8WritePinLaw -/
def k1 : Class := { plain "com/example/nuthatch/nuthatch/Utf8WritePinLaw" (some 0) with
  accessFlags := 49
  interfaces := #[]
  cf := some (fileOf pool1 17 #[] #[{ accessFlags := 1, nameIndex := 5, descriptorIndex := 6, attributes := #[] }, { accessFlags := 10, nameIndex := 20, descriptorIndex := 21, attributes := #[] }, { accessFlags := 9, nameIndex := 35, descriptorIndex := 36, attributes := #[] }] 49 2 #[] #[])
  fields := #[]
  methods := #[k1m0, k1m1, k1m2]
  instanceTypes := #[]
  staticTypes := #[]
  resolved := Array.replicate 41 none
  statics := none }

def pool2 : Array CpInfo := pool [(2, .class_ 4), (1, u "java/lang/Object"), (0, u "<init>"), (0, u "()V"), (0, .integer 65536), (0, .methodref 9 10), (0, .class_ 11), (0, .nameAndType 12 13), (0, u "com/example/nuthatch/nuthatch/Utf8"), (0, u "follows"), (0, u "(I)Z"), (2, .integer 55296), (0, .integer 57343), (0, .integer 1114111), (21, u "HIGH_BITS"), (0, u "J"), (6, u "sequenceLength"), (0, u "(B)I"), (0, u "codePoint"), (0, u "([BII)I"), (2, u "write"), (0, u "(I[BI)I")] 3

def k2m0 : Method := { name := "<init>", desc := "()V", sig := { parameters := [], returnType := none }, accessFlags := 2, code := none }
def k2c1 : Code := { maxStack := 2, maxLocals := 2, code := prog_37_method_3_code, exceptionTable := #[], attributes := #[] }
def k2m1 : Method := { name := "sequenceLength", desc := "(B)I", sig := { parameters := [.byte], returnType := some .int }, accessFlags := 8, code := some k2c1 }
def k2c2 : Code := { maxStack := 2, maxLocals := 1, code := prog_37_method_4_code, exceptionTable := #[], attributes := #[] }
def k2m2 : Method := { name := "follows", desc := "(I)Z", sig := { parameters := [.int], returnType := some .boolean }, accessFlags := 8, code := some k2c2 }
def k2c3 : Code := { maxStack := 4, maxLocals := 5, code := prog_37_method_5_code, exceptionTable := #[], attributes := #[] }
def k2m3 : Method := { name := "codePoint", desc := "([BII)I", sig := { parameters := [(.array .byte), .int, .int], returnType := some .int }, accessFlags := 8, code := some k2c3 }
def k2c4 : Code := { maxStack := 5, maxLocals := 4, code := prog_37_method_6_code, exceptionTable := #[], attributes := #[] }
def k2m4 : Method := { name := "write", desc := "(I[BI)I", sig := { parameters := [.int, (.array .byte), .int], returnType := some .int }, accessFlags := 8, code := some k2c4 }
/-- com/example/nuthatch/nuthatch/Utf8 -/
def k2 : Class := { plain "com/example/nuthatch/nuthatch/Utf8" (some 0) with
  accessFlags := 32
  interfaces := #[]
  cf := some (fileOf pool2 9 #[] #[{ accessFlags := 2, nameIndex := 5, descriptorIndex := 6, attributes := #[] }, { accessFlags := 8, nameIndex := 48, descriptorIndex := 49, attributes := #[] }, { accessFlags := 8, nameIndex := 12, descriptorIndex := 13, attributes := #[] }, { accessFlags := 8, nameIndex := 50, descriptorIndex := 51, attributes := #[] }, { accessFlags := 8, nameIndex := 54, descriptorIndex := 55, attributes := #[] }] 32 2 #[] #[{ accessFlags := 26, nameIndex := 40, descriptorIndex := 41, attributes := #[] }])
  fields := #[{ name := "HIGH_BITS", type := .long, accessFlags := 26, slot := 0, constantValue := 0 }]
  methods := #[k2m0, k2m1, k2m2, k2m3, k2m4]
  instanceTypes := #[]
  staticTypes := #[.long]
  resolved := Array.replicate 59 none
  statics := none }

def pool3 : Array CpInfo := pool [(1, u "java/lang/Cloneable"), (0, .class_ 1), (0, u "java/lang/Object"), (0, .class_ 3)] 3

/-- java/lang/Cloneable -/
def k3 : Class := { plain "java/lang/Cloneable" (some 0) with
  accessFlags := 1537
  interfaces := #[]
  cf := some (fileOf pool3 2 #[] #[] 1537 4 #[] #[])
  fields := #[]
  methods := #[]
  instanceTypes := #[]
  staticTypes := #[]
  resolved := Array.replicate 8 none
  statics := none }

def pool4 : Array CpInfo := pool [(1, u "java/io/Serializable"), (0, .class_ 1), (0, u "java/lang/Object"), (0, .class_ 3)] 3

/-- java/io/Serializable -/
def k4 : Class := { plain "java/io/Serializable" (some 0) with
  accessFlags := 1537
  interfaces := #[]
  cf := some (fileOf pool4 2 #[] #[] 1537 4 #[] #[])
  fields := #[]
  methods := #[]
  instanceTypes := #[]
  staticTypes := #[]
  resolved := Array.replicate 8 none
  statics := none }

/-- the primitive byte -/
def k5 : Class := { plain "byte" none with kind := .primitive 'B', accessFlags := 0x411 }
/-- [B -/
def k6 : Class := { plain "[B" (some 0) with kind := .array 5 .byte, interfaces := #[3, 4], accessFlags := 1041 }

def heap : Heap := #[]
def classes : Array Class := #[k0, k1, k2, k3, k4, k5, k6]
def interned : List (Array UInt16 × Addr) := []
def slotsUsed : Nat := 0
def theMethod : MethodId := ⟨1, 2⟩
def args0 : Array Value := #[.int 233, .int 1, .int 7]
def aboutOver (below : List Frame) : State where
  vm := { classes := classes, interned := interned.toArray }
  heap := heap
  slotsUsed := slotsUsed
  threads := #[{ frames := .invoking theMethod args0 :: below }]
def below0 : List Frame := [.native { method := ⟨0, 0⟩, args := #[] }]
def about1 : State := aboutOver below0
def p0 : Program := .bare "" "" ""
def e0 : Env := launch0.env 0 0 0
theorem w_frames : about1.frames = Frame.invoking theMethod args0 :: below0 := rfl
set_option maxRecDepth 65536 in
theorem w_args : argsFit about1.vm theMethod args0 = true := by decide +kernel
set_option maxRecDepth 65536 in
theorem w_heap : heapFits about1 = true := by decide +kernel
set_option maxRecDepth 65536 in
theorem w_runnable : about1.curStatus? = some .runnable := by decide +kernel
set_option maxRecDepth 65536 in
theorem w_alone : about1.alone = true := by decide +kernel
set_option maxRecDepth 65536 in
theorem w_named : about1.methodNamed? x = some theMethod := by decide +kernel
set_option maxRecDepth 65536 in
theorem w_hears : about1.hears theMethod below0 = true := by decide +kernel
set_option maxRecDepth 65536 in
theorem w_ripe : about1.ripe theMethod args0 below0 = true := by decide +kernel
theorem w_running : about1.status = .running := rfl
set_option maxRecDepth 65536 in
theorem w_room : about1.hasRoom e0.platform room_1 = true :=
  launch0.hasRoom_least _ room_1 (by decide +kernel) (by decide +kernel) (by decide +kernel) (by decide +kernel) (by decide +kernel) (by decide +kernel)
theorem allAtoms_all (ts : List Jvm.Cond) (a : Array Jvm.Value) (st : Jvm.State) : (allAtoms ts).before a st = ts.all (fun c => c.before a st) := by
  induction ts with
  | nil => rfl
  | cons c t ih =>
    show (Jvm.Cond.and c (allAtoms t)).before a st = _
    rw [Jvm.Cond.before_and, ih, List.all_cons]
def words1 : List Jvm.Cond := Jvm.Cond.code x code maxLocals ret :: tables_1
/-- a 'code' word, met by the world's own term for the bytes: nothing is compared byte by byte -/
theorem code_word {y : MethodName} {bytes : ByteArray} {mx : Nat} {rt : Option FieldType} {a : Array Value} {s : State} {m : MethodId} {meth : Method} {c : Code} (h1 : s.methodNamed? y = some m) (h2 : s.vm.method? m = some meth) (h3 : meth.code = some c) (h4 : c.code = bytes)
    (h5 : (c.maxLocals == mx && c.exceptionTable.isEmpty && decide (c.maxStack ≤ mostOperands) && decide (meth.sig.returnType = rt) && !meth.locks && decide (parseMethodDescriptor y.desc = some meth.sig)) = true) : (Jvm.Cond.code y bytes mx rt).before a s = true := by
  simp only [Bool.and_eq_true, beq_iff_eq, Bool.not_eq_true', decide_eq_true_eq] at h5
  obtain ⟨⟨⟨⟨⟨g1, g2⟩, g3⟩, g4⟩, g5⟩, g6⟩ := h5
  simp [Cond.before, Cond.holds, Cond.value, h1, h2, h3, h4, g1, g2, g3, g4, g5, g6]
def isCode : Jvm.Cond → Bool
  | .code _ _ _ _ => true
  | _ => false
theorem all_split {L : List Jvm.Cond} {P : Jvm.Cond → Bool} (h1 : L.all (fun c => isCode c || P c) = true) (h2 : ∀ c ∈ L.filter isCode, P c = true) : L.all P = true := by
  refine List.all_eq_true.mpr fun c hc => ?_
  have h := List.all_eq_true.mp h1 c hc
  rcases Bool.eq_false_or_eq_true (isCode c) with hi | hi
  · exact h2 c (List.mem_filter.mpr ⟨hc, hi⟩)
  · simpa [hi] using h
set_option maxRecDepth 65536 in
theorem w_c0 : (Jvm.Cond.code x code maxLocals ret).before args0 about1 = true := code_word (m := ⟨1, 2⟩) (meth := k1m2) (c := k1c2) (by decide +kernel) rfl rfl rfl (by decide +kernel)
set_option maxRecDepth 65536 in
theorem w_c1 : (Jvm.Cond.code ({ cls := "com/example/nuthatch/nuthatch/Utf8", name := "write", desc := "(I[BI)I" } : Jvm.MethodName) prog_37_method_6_code (4 : Nat) (Option.some Jvm.ClassFile.FieldType.int)).before args0 about1 = true := code_word (m := ⟨2, 4⟩) (meth := k2m4) (c := k2c4) (by decide +kernel) rfl rfl rfl (by decide +kernel)
set_option maxRecDepth 65536 in
theorem w_c2 : (Jvm.Cond.code ({ cls := "com/example/nuthatch/nuthatch/Utf8WritePinLaw", name := "kept", desc := "([BIIIB)Z" } : Jvm.MethodName) method_2_code (5 : Nat) (Option.some Jvm.ClassFile.FieldType.boolean)).before args0 about1 = true := code_word (m := ⟨1, 1⟩) (meth := k1m1) (c := k1c1) (by decide +kernel) rfl rfl rfl (by decide +kernel)
set_option maxRecDepth 65536 in
theorem w_c3 : (Jvm.Cond.code ({ cls := "com/example/nuthatch/nuthatch/Utf8", name := "sequenceLength", desc := "(B)I" } : Jvm.MethodName) prog_37_method_3_code (2 : Nat) (Option.some Jvm.ClassFile.FieldType.int)).before args0 about1 = true := code_word (m := ⟨2, 1⟩) (meth := k2m1) (c := k2c1) (by decide +kernel) rfl rfl rfl (by decide +kernel)
set_option maxRecDepth 65536 in
theorem w_c4 : (Jvm.Cond.code ({ cls := "com/example/nuthatch/nuthatch/Utf8", name := "codePoint", desc := "([BII)I" } : Jvm.MethodName) prog_37_method_5_code (5 : Nat) (Option.some Jvm.ClassFile.FieldType.int)).before args0 about1 = true := code_word (m := ⟨2, 3⟩) (meth := k2m3) (c := k2c3) (by decide +kernel) rfl rfl rfl (by decide +kernel)
set_option maxRecDepth 65536 in
theorem w_c5 : (Jvm.Cond.code ({ cls := "com/example/nuthatch/nuthatch/Utf8", name := "follows", desc := "(I)Z" } : Jvm.MethodName) prog_37_method_4_code (1 : Nat) (Option.some Jvm.ClassFile.FieldType.boolean)).before args0 about1 = true := code_word (m := ⟨2, 2⟩) (meth := k2m2) (c := k2c2) (by decide +kernel) rfl rfl rfl (by decide +kernel)
def codes1 : List Jvm.Cond := [Jvm.Cond.code x code maxLocals ret, Jvm.Cond.code ({ cls := "com/example/nuthatch/nuthatch/Utf8", name := "write", desc := "(I[BI)I" } : Jvm.MethodName) prog_37_method_6_code (4 : Nat) (Option.some Jvm.ClassFile.FieldType.int), Jvm.Cond.code ({ cls := "com/example/nuthatch/nuthatch/Utf8WritePinLaw", name := "kept", desc := "([BIIIB)Z" } : Jvm.MethodName) method_2_code (5 : Nat) (Option.some Jvm.ClassFile.FieldType.boolean), Jvm.Cond.code ({ cls := "com/example/nuthatch/nuthatch/Utf8", name := "sequenceLength", desc := "(B)I" } : Jvm.MethodName) prog_37_method_3_code (2 : Nat) (Option.some Jvm.ClassFile.FieldType.int), Jvm.Cond.code ({ cls := "com/example/nuthatch/nuthatch/Utf8", name := "codePoint", desc := "([BII)I" } : Jvm.MethodName) prog_37_method_5_code (5 : Nat) (Option.some Jvm.ClassFile.FieldType.int), Jvm.Cond.code ({ cls := "com/example/nuthatch/nuthatch/Utf8", name := "follows", desc := "(I)Z" } : Jvm.MethodName) prog_37_method_4_code (1 : Nat) (Option.some Jvm.ClassFile.FieldType.boolean)]
set_option maxRecDepth 65536 in
theorem codes_eq : words1.filter isCode = codes1 := rfl
theorem w_codes : ∀ c ∈ words1.filter isCode, c.before args0 about1 = true := by
  rw [codes_eq]
  intro c hc
  simp only [codes1, List.mem_cons, List.not_mem_nil, or_false] at hc
  rcases hc with rfl | rfl | rfl | rfl | rfl | rfl
  · exact w_c0
  · exact w_c1
  · exact w_c2
  · exact w_c3
  · exact w_c4
  · exact w_c5
set_option maxRecDepth 65536 in
theorem w_t1 : (words1.take 24).all (fun c => isCode c || c.before args0 about1) = true := by decide +kernel
set_option maxRecDepth 65536 in
theorem w_t2 : (words1.drop 24).all (fun c => isCode c || c.before args0 about1) = true := by decide +kernel
theorem w_tables : (allAtoms (Jvm.Cond.code x code maxLocals ret :: tables_1)).before args0 about1 = true := by
  rw [allAtoms_all]
  show words1.all (fun c => c.before args0 about1) = true
  refine all_split ?_ w_codes
  rw [← List.take_append_drop 24 words1, List.all_append, w_t1, w_t2]
  rfl
set_option maxRecDepth 65536 in
theorem w_case : (Jvm.Cond.and given_1 narrow_1).before args0 about1 = true := by decide +kernel
theorem w_applies : (headSpec (Jvm.Cond.code x code maxLocals ret :: tables_1) room_1).applies x e0.platform about1 = true :=
  (Spec.applies_iff w_frames).mpr ⟨w_running, w_runnable, w_alone, w_named, w_hears, w_ripe, w_room, w_tables⟩
theorem atStart : AtStart classFile x code maxLocals ret World_1 tables_1 room_1 Calls_1 rest_1 Pre_1 launch0 p0 e0 about1 theMethod args0 below0 :=
  ⟨lists_1, trivial, launch0.admits_env _ _ _, launch0.least_env, fairChoices_fair.cas, fairChoices_fair.clock, w_frames, w_args, w_heap, w_applies, trivial, trivial, w_case⟩
end start1
theorem witness_1 : WitnessClaimed_1 := ⟨start1.p0, start1.e0, start1.about1, start1.theMethod, start1.args0, start1.below0, start1.atStart⟩
end Jvm.Pilot.@@N@@
