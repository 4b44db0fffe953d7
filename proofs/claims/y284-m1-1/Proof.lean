import JvmDerived
import JvmDerived.Pilot.@@N@@Statement
import JvmDerived.Pilot.@@N@@Code
set_option linter.unusedVariables false
set_option linter.unusedSimpArgs false
namespace Jvm.RoadKit
open Sem ClassFile Op Lib Jvm.Stand Jvm.Free Jvm.LawKit
section New
variable {p : Program} {l : Launch} {e : Env} {R : Room} {s : State} {m : MethodId} {args : Array Value} {below : List Frame} {meth : Method} {c : Code} {T : State} {locs : List Loc} {cells slots : Nat}
theorem retI (X : Stand p l e R s m args below meth c T locs cells slots) (hx : p.tables.exec = Jvm.exec) {pc : Nat} {Ls : Array Slot} {z : Int32} {rest : List Value} (hret : meth.sig.returnType = some .int) (hd : decode c.code pc = .ok (.ireturn, 1)) {fs : List Frame}
    (hl : ∀ (f : JFrame) (acts : List Action), f.method = m → f.locked = none → f.entered = [] → (doReturn e (T.setTop f) acts (some (.int z))).1 = T.setFrames fs) : Steps p.tables e below (T.setTop (mkF m pc Ls (.int z :: rest))) (T.setFrames fs) := by
  have hm' : T.vm.method? m = some meth := X.method'
  have hn : narrow .int (.int z) = .int z := rfl
  show Steps p.tables e below (T.setTop { method := m, pc := pc, locals := Ls, stack := _ :: rest, locked := none }) _
  jvm_step X.here [X.here.top, hx, hd, hm', hret, hn]
  first | (intro acts; rw [hl _ acts rfl rfl rfl]) | rw [hl _ _ rfl rfl rfl]
  exact Steps.refl _
end New
end Jvm.RoadKit
namespace Jvm.Pilot.@@N@@
open Jvm Jvm.ClassFile Sem Op Lib Jvm.Free Jvm.Stand Jvm.LawKit Jvm.RoadKit Bundle Jvm.Pilot.@@N@@.Jvm.D
def own_b (b : Bool) : Int32 := if b = true then 1 else 0
theorem own_b0 {b : Bool} (h : ¬ (b = true)) : own_b b = 0 := if_neg h
theorem own_b1 {b : Bool} (h : b = true) : ¬ own_b b = 0 := by subst h; decide
theorem own_nb (b : Bool) : nar .boolean (own_b b) = own_b b := by cases b <;> decide
theorem own_bm {n : Int} (h1 : -2147483648 ≤ n) (h2 : n < 2147483648) : n.bmod (2 ^ 32) = n := by
  rw [Int.bmod_def]; omega
theorem own_m31 (x : Int32) : 0 ≤ (x &&& (2147483647 : Int32)).toInt ∧ (x &&& (2147483647 : Int32)).toInt < 2147483648 := by
  have h : (x &&& (2147483647 : Int32)).toInt = (((x.toBitVec &&& 2147483647#32).toNat : Nat) : Int) := by
    show (x &&& (2147483647 : Int32)).toBitVec.toInt = _
    rw [Int32.toBitVec_and]
    show (x.toBitVec &&& 2147483647#32).toInt = _
    apply BitVec.toInt_eq_toNat_of_lt
    have := Nat.and_le_right (n := x.toBitVec.toNat) (m := 2147483647)
    rw [BitVec.toNat_and]
    show 2 * (x.toBitVec.toNat &&& 2147483647) < _
    omega
  rw [h, BitVec.toNat_and]
  have := Nat.and_le_right (n := x.toBitVec.toNat) (m := 2147483647)
  show (0:Int) ≤ ((x.toBitVec.toNat &&& 2147483647 : Nat) : Int) ∧ _
  constructor
  · omega
  · show ((x.toBitVec.toNat &&& 2147483647 : Nat) : Int) < 2147483648
    omega
theorem own_rem {a k : Int32} (h0 : 0 ≤ a.toInt) (hk : 0 < k.toInt) : (a - (a / k) * k).toInt = a.toInt % k.toInt := by
  have e1 : (a / k).toInt = a.toInt / k.toInt := by
    rw [Int32.toInt_div, Int.tdiv_eq_ediv_of_nonneg h0]
    have := Int.ediv_nonneg h0 (Int.le_of_lt hk)
    have := Int.ediv_le_self k.toInt h0
    have := a.toInt_lt
    exact own_bm (by omega) (by omega)
  have h1 := Int.emod_add_mul_ediv a.toInt k.toInt
  have h2 := Int.emod_nonneg a.toInt (Int.ne_of_gt hk)
  have h3 := Int.emod_lt_of_pos a.toInt hk
  have h4 := a.toInt_lt
  have h6 := k.toInt_lt
  have h7 := Int.mul_nonneg (Int.le_of_lt hk) (Int.ediv_nonneg h0 (Int.le_of_lt hk))
  have h5 : (a / k * k).toInt = a.toInt - a.toInt % k.toInt := by
    rw [Int32.toInt_mul, e1, Int.mul_comm]
    rw [own_bm (by omega) (by omega)]; omega
  rw [Int32.toInt_sub, h5, own_bm (by omega) (by omega)]; omega
def own_bd (v k : Int32) : Bool := decide (k = (-1 : Int32)) || !decide ((1 : Int32) < v)
def own_ag (a ka b kb : Int32) : Bool := decide (a = 0) || decide (b = 0) || decide (ka = (-1 : Int32)) || decide (kb = (-1 : Int32)) || decide (ka = kb)
def own_kp (a b c ka kb kc : Int32) : Bool := own_bd a ka && own_bd b kb && own_bd c kc && own_ag a ka b kb && own_ag a ka c kc && own_ag b kb c kc
def own_at (p x y z : Int32) : Int32 := if p = 0 then x else if p = 1 then y else z
def own_z (v : Int32) : Bool := decide (v = 0)
def own_ok (v k kat : Int32) : Bool := decide (v = 0) || decide (k = (-1 : Int32)) || decide (k = kat)
theorem own_okt {v k t : Int32} (h : k = t) : own_ok v k t = true := by simp [own_ok, h]
def own_mg (p v0 v1 v2 c0 c1 c2 : Int32) : Bool := decide (own_at p c0 c1 c2 = (-1 : Int32)) || (own_z (own_at p v0 v1 v2) && own_ok v0 c0 (own_at p c0 c1 c2) && own_ok v1 c1 (own_at p c0 c1 c2) && own_ok v2 c2 (own_at p c0 c1 c2))
theorem own_ld {cl : Cell} {v0 v1 v2 : Int32} (S : cl.slots.size = (3 : Int32).toNatClampNeg) (H : Has cl [(.int v0), (.int v1), (.int v2)] (.int (0 : Int32))) {p : Int32} (hp : p = 0 ∨ p = 1 ∨ p = 2) :
    ¬ (p < 0 ∨ cl.slots.size ≤ p.toNatClampNeg) ∧ cl.slots[p.toNatClampNeg]? = some (.int (own_at p v0 v1 v2)) := by
  rcases hp with rfl | rfl | rfl
  · exact ⟨inb_of S ⟨by decide, by decide⟩, H 0 (by rw [S]; decide)⟩
  · exact ⟨inb_of S ⟨by decide, by decide⟩, H 1 (by rw [S]; decide)⟩
  · exact ⟨inb_of S ⟨by decide, by decide⟩, H 2 (by rw [S]; decide)⟩
def own_v0 (x : Int32) : Int32 := (x &&& (3 : Int32))
def own_v1 (x : Int32) : Int32 := (((x.toUInt32 >>> ((2 : Int32) &&& 31).toUInt32).toInt32) &&& (3 : Int32))
def own_v2 (x : Int32) : Int32 := (((x.toUInt32 >>> ((4 : Int32) &&& 31).toUInt32).toInt32) &&& (3 : Int32))
def own_c (x : Int32) : Int32 := ((x &&& (3 : Int32)) - (1 : Int32))
def own_u (x : Int32) : Int32 := ((x &&& (2147483647 : Int32)) - ((x &&& (2147483647 : Int32)) / (3 : Int32)) * (3 : Int32))
def own_g (v u k : Int32) : Int32 := if u = k then v + (1 : Int32) else v + (0 : Int32)
theorem own_ui (x : Int32) : own_u x = 0 ∨ own_u x = 1 ∨ own_u x = 2 := by
  have h := own_m31 x
  have e := own_rem (k := 3) h.1 (by decide)
  rw [show (3 : Int32).toInt = 3 by decide] at e
  rw [← Int32.toInt_inj, ← Int32.toInt_inj, ← Int32.toInt_inj, show (0 : Int32).toInt = 0 by decide, show (1 : Int32).toInt = 1 by decide, show (2 : Int32).toInt = 2 by decide]
  unfold own_u
  rw [e]; omega
theorem own_m3 (x : Int32) : (x &&& (3 : Int32)) = 0 ∨ (x &&& (3 : Int32)) = 1 ∨ (x &&& (3 : Int32)) = 2 ∨ (x &&& (3 : Int32)) = 3 := by
  have h : (x &&& (3 : Int32)).toInt = (((x.toBitVec.toNat &&& 3 : Nat)) : Int) := by
    show (x &&& (3 : Int32)).toBitVec.toInt = _
    rw [Int32.toBitVec_and]
    show (x.toBitVec &&& 3#32).toInt = _
    rw [BitVec.toInt_eq_toNat_of_lt, BitVec.toNat_and]
    · rfl
    · have := Nat.and_le_right (n := x.toBitVec.toNat) (m := 3)
      rw [BitVec.toNat_and]
      show 2 * (x.toBitVec.toNat &&& 3) < _
      omega
  have := Nat.and_le_right (n := x.toBitVec.toNat) (m := 3)
  rw [← Int32.toInt_inj, ← Int32.toInt_inj, ← Int32.toInt_inj, ← Int32.toInt_inj, show (0 : Int32).toInt = 0 by decide, show (1 : Int32).toInt = 1 by decide, show (2 : Int32).toInt = 2 by decide, show (3 : Int32).toInt = 3 by decide, h]
  omega
theorem own_bdi (v k : Int32) : own_bd v k = true ↔ (k.toInt = -1 ∨ ¬ 1 < v.toInt) := by
  simp only [own_bd, Bool.or_eq_true, Bool.not_eq_true', decide_eq_true_eq, decide_eq_false_iff_not, Int32.lt_iff_toInt_lt, ← Int32.toInt_inj]; rfl
theorem own_agi (a ka b kb : Int32) : own_ag a ka b kb = true ↔ (a.toInt = 0 ∨ b.toInt = 0 ∨ ka.toInt = -1 ∨ kb.toInt = -1 ∨ ka.toInt = kb.toInt) := by
  simp only [own_ag, Bool.or_eq_true, decide_eq_true_eq, ← Int32.toInt_inj, or_assoc]; rfl
theorem own_oki (v k t : Int32) : own_ok v k t = true ↔ (v.toInt = 0 ∨ k.toInt = -1 ∨ k.toInt = t.toInt) := by
  simp only [own_ok, Bool.or_eq_true, decide_eq_true_eq, ← Int32.toInt_inj, or_assoc]; rfl
theorem own_zi (v : Int32) : own_z v = true ↔ v.toInt = 0 := by
  simp only [own_z, decide_eq_true_eq, ← Int32.toInt_inj]; rfl
theorem own_inc {v : Int32} (h : v = 0 ∨ v = 1 ∨ v = 2 ∨ v = 3) : 0 ≤ v.toInt ∧ (v + (1 : Int32)).toInt = v.toInt + 1 ∧ (v + (0 : Int32)).toInt = v.toInt := by
  rcases h with rfl | rfl | rfl | rfl <;> decide
theorem own_iff0 {x0 x1 x2 y0 y1 y2 : Int} (h0 : 0 ≤ x0) (b1 : y1 = -1 ∨ ¬ 1 < x1) (b2 : y2 = -1 ∨ ¬ 1 < x2) (a12 : x1 = 0 ∨ x2 = 0 ∨ y1 = -1 ∨ y2 = -1 ∨ y1 = y2) :
    (y0 = -1 ∨ ((x0 = 0 ∧ (x1 = 0 ∨ y1 = -1 ∨ y1 = y0)) ∧ (x2 = 0 ∨ y2 = -1 ∨ y2 = y0))) ↔
    ((((y0 = -1 ∨ ¬ 1 < x0 + 1) ∧ (y1 = -1 ∨ ¬ 1 < x1)) ∧ (y2 = -1 ∨ ¬ 1 < x2)) ∧ (x0 + 1 = 0 ∨ x1 = 0 ∨ y0 = -1 ∨ y1 = -1 ∨ y0 = y1)) ∧ (x0 + 1 = 0 ∨ x2 = 0 ∨ y0 = -1 ∨ y2 = -1 ∨ y0 = y2) ∧ (x1 = 0 ∨ x2 = 0 ∨ y1 = -1 ∨ y2 = -1 ∨ y1 = y2) := by
  constructor
  · rintro (a | ⟨⟨z, o1⟩, o2⟩)
    · exact ⟨⟨⟨⟨Or.inl a, b1⟩, b2⟩, Or.inr (Or.inr (Or.inl a))⟩, Or.inr (Or.inr (Or.inl a)), a12⟩
    · refine ⟨⟨⟨⟨?_, b1⟩, b2⟩, ?_⟩, ?_, a12⟩ <;> clear a12 b1 b2
      · omega
      · clear o2; omega
      · clear o1; omega
  · rintro ⟨⟨⟨⟨b0, -⟩, -⟩, a1⟩, a2, -⟩
    clear a12 b1 b2
    by_cases a : y0 = -1
    · exact Or.inl a
    · refine Or.inr ⟨⟨?_, ?_⟩, ?_⟩
      · clear a1 a2; omega
      · clear a2; omega
      · clear a1; omega
theorem own_kpp {v0 v1 v2 c0 c1 c2 u : Int32} (h0 : v0 = 0 ∨ v0 = 1 ∨ v0 = 2 ∨ v0 = 3) (h1 : v1 = 0 ∨ v1 = 1 ∨ v1 = 2 ∨ v1 = 3) (h2 : v2 = 0 ∨ v2 = 1 ∨ v2 = 2 ∨ v2 = 3) (hu : u = 0 ∨ u = 1 ∨ u = 2) (hk : own_kp v0 v1 v2 c0 c1 c2 = true) :
    own_mg u v0 v1 v2 c0 c1 c2 = own_kp (own_g v0 u 0) (own_g v1 u 1) (own_g v2 u 2) c0 c1 c2 := by
  have i0 := own_inc h0
  have i1 := own_inc h1
  have i2 := own_inc h2
  have em : (-1 : Int32).toInt = -1 := by decide
  rw [Bool.eq_iff_iff]
  simp only [own_kp, own_mg, Bool.and_eq_true, Bool.or_eq_true, decide_eq_true_eq, own_bdi, own_agi, own_oki, own_zi, ← Int32.toInt_inj, em] at hk ⊢
  obtain ⟨⟨⟨⟨⟨b0, b1⟩, b2⟩, a01⟩, a02⟩, a12⟩ := hk
  rcases hu with rfl | rfl | rfl
  · rw [show own_at 0 c0 c1 c2 = c0 from rfl, show own_at 0 v0 v1 v2 = v0 from rfl, show own_g v0 0 0 = v0 + (1 : Int32) from rfl, show own_g v1 0 1 = v1 + (0 : Int32) from rfl, show own_g v2 0 2 = v2 + (0 : Int32) from rfl, i0.2.1, i1.2.2, i2.2.2]
    have q := own_iff0 (y0 := c0.toInt) i0.1 b1 b2 a12
    simp only [and_assoc, or_true, true_and] at q ⊢
    exact q
  · rw [show own_at 1 c0 c1 c2 = c1 from rfl, show own_at 1 v0 v1 v2 = v1 from rfl, show own_g v0 1 0 = v0 + (0 : Int32) from rfl, show own_g v1 1 1 = v1 + (1 : Int32) from rfl, show own_g v2 1 2 = v2 + (0 : Int32) from rfl, i0.2.2, i1.2.1, i2.2.2]
    have q := own_iff0 (y0 := c1.toInt) i1.1 b0 b2 a02
    simp only [and_assoc, or_true, true_and] at q ⊢
    rw [q]
    constructor
    · rintro ⟨p1, p2, p3, p4, p5, p6⟩; refine ⟨p2, p1, p3, ?_, p6, p5⟩; clear p1 p2 p3 p5 p6 b0 b1 b2 a01 a02 a12 q; omega
    · rintro ⟨p1, p2, p3, p4, p5, p6⟩; refine ⟨p2, p1, p3, ?_, p6, p5⟩; clear p1 p2 p3 p5 p6 b0 b1 b2 a01 a02 a12 q; omega
  · rw [show own_at 2 c0 c1 c2 = c2 from rfl, show own_at 2 v0 v1 v2 = v2 from rfl, show own_g v0 2 0 = v0 + (0 : Int32) from rfl, show own_g v1 2 1 = v1 + (0 : Int32) from rfl, show own_g v2 2 2 = v2 + (1 : Int32) from rfl, i0.2.2, i1.2.2, i2.2.1]
    have q := own_iff0 (y0 := c2.toInt) i2.1 b0 b1 a01
    simp only [and_assoc, or_true, and_true] at q ⊢
    rw [q]
    constructor
    · rintro ⟨p1, p2, p3, p4, p5, p6⟩; refine ⟨p2, p3, p1, p6, ?_, ?_⟩ <;> clear p1 p2 p3 p6 b0 b1 b2 a01 a02 a12 q
      · clear p5; omega
      · clear p4; omega
    · rintro ⟨p1, p2, p3, p4, p5, p6⟩; refine ⟨p3, p1, p2, ?_, ?_, p4⟩ <;> clear p1 p2 p3 p4 b0 b1 b2 a01 a02 a12 q
      · clear p6; omega
      · clear p5; omega
theorem own_grow (p1 p2 p3 p4 p5 : Int32) (hk : own_kp (own_v0 p1) (own_v1 p1) (own_v2 p1) (own_c p2) (own_c p3) (own_c p4) = true) :
    own_b (own_mg (own_u p5) (own_v0 p1) (own_v1 p1) (own_v2 p1) (own_c p2) (own_c p3) (own_c p4)) = own_b (own_kp (own_g (own_v0 p1) (own_u p5) 0) (own_g (own_v1 p1) (own_u p5) 1) (own_g (own_v2 p1) (own_u p5) 2) (own_c p2) (own_c p3) (own_c p4)) :=
  congrArg own_b (own_kpp (own_m3 _) (own_m3 _) (own_m3 _) (own_ui p5) hk)
theorem d_bd_0 : decode method_4_code 0 = .ok (.iload_n 1, 1) := by decide +kernel
theorem d_bd_1 : decode method_4_code 1 = .ok (.iconst (-1), 1) := by decide +kernel
theorem d_bd_2 : decode method_4_code 2 = .ok (.if_icmp .eq 8, 3) := by decide +kernel
theorem d_bd_5 : decode method_4_code 5 = .ok (.iload_n 0, 1) := by decide +kernel
theorem d_bd_6 : decode method_4_code 6 = .ok (.iconst 1, 1) := by decide +kernel
theorem d_bd_7 : decode method_4_code 7 = .ok (.if_icmp .gt 7, 3) := by decide +kernel
theorem d_bd_10 : decode method_4_code 10 = .ok (.iconst 1, 1) := by decide +kernel
theorem d_bd_11 : decode method_4_code 11 = .ok (.goto 4, 3) := by decide +kernel
theorem d_bd_14 : decode method_4_code 14 = .ok (.iconst 0, 1) := by decide +kernel
theorem d_bd_15 : decode method_4_code 15 = .ok (.ireturn, 1) := by decide +kernel
theorem pn_bd : plainName "com/example/term_unifier/termunifier/service/DiophantineBasisMayGrowPinLaw" = true := by first | (simp [plainName, overriddenIn]; done) | decide +kernel
theorem ef_bd (m : MethodId) (p1 : Int32) (p2 : Int32) : entryFrame m #[(.int p1), (.int p2)] 2 = mkF m 0 #[.val (.int p1), .val (.int p2)] [] := by first | (simp [entryFrame, mkF, argsToLocals, Value.category]; done) | rfl
def Q_bd (Z : State) (p1 : Int32) (p2 : Int32) (h0 : Heap) (n0 : Nat) (v : Option Value) (h : Heap) (L : List Loc) : Prop := v = some (.int (own_b (own_bd p1 p2))) ∧ Fr n0 L ∧ h = h0
set_option maxRecDepth 65536 in
set_option maxHeartbeats 40000000 in
theorem rm_bd (l : Launch) (Z : State) (a0 : Array Value) (hw : ∀ d ∈ tables_1, d.before a0 Z = true) (ws : List Jvm.Cond) (p1 : Int32) (p2 : Int32) (h0 : Heap) (n0 : Nat) (Z0 : n0 ≤ h0.size) :
    MetFree l (⟨"com/example/term_unifier/termunifier/service/DiophantineBasisMayGrowPinLaw", "bounded", "(II)Z"⟩ : MethodName) (head1 (Jvm.Cond.code (⟨"com/example/term_unifier/termunifier/service/DiophantineBasisMayGrowPinLaw", "bounded", "(II)Z"⟩ : MethodName) method_4_code 2 (some .boolean) :: ws) ({ frames := 0, cells := 0, slots := 0, locals := 0 } : Room)) (fun a U => a = #[(.int p1), (.int p2)] ∧ Z.Warmed39 U.vm ∧ U.heap = h0) (fun _ _ _ _ _ => True) (fun _ U o U' => ∃ v L, o = .returned v ∧ Q_bd Z p1 p2 h0 n0 v U'.heap L ∧ FrameEnd U o U' L ({ frames := 0, cells := 0, slots := 0, locals := 0 } : Room).cells ({ frames := 0, cells := 0, slots := 0, locals := 0 } : Room).slots) := by
  refine MetFree.of_bodySF (plainFor_of_name pn_bd) hisR ?_
  intro p e s m args below meth c s₁ Bd hml0 hP hK
  obtain ⟨rfl, hZ, hh⟩ := hP
  have hx := Bd.exec
  have hby := Bd.bytes
  have hml : c.maxLocals = 2 := hml0
  have hown : s.vm.findClass "com/example/term_unifier/termunifier/service/DiophantineBasisMayGrowPinLaw" = some m.cls := findClass_of_methodNamed Bd.named
  have hnm := (name_of_methodNamed Bd.named Bd.method).1
  have X0 : Stand p l e ({ frames := 0, cells := 0, slots := 0, locals := 0 } : Room) s m #[(.int p1), (.int p2)] below meth c s₁ [] 0 0 := Stand.of_body Bd
  have e0 : s₁.heap = h0 := by rw [← hh, Bd.state]; rfl
  have N0 := Fr.nil n0
  have pre0 : ∀ t, Steps p.tables e below (s₁.setTop (mkF m 0 #[.val (.int p1), .val (.int p2)] [])) t → Steps p.tables e below (s₁.setTop (entryFrame m #[(.int p1), (.int p2)] 2)) t := fun t k => castTop (ef_bd m p1 p2) k
  have pr2 : ∀ t, Steps p.tables e below (s₁.setTop (mkF m 2 #[.val (.int p1), .val (.int p2)] [(.int (-1 : Int32)), (.int p2)])) t → Steps p.tables e below (s₁.setTop (entryFrame m #[(.int p1), (.int p2)] 2)) t := fun t kt => pre0 t (by
    show Steps p.tables e below (s₁.setTop (mkF m 0 #[.val (.int p1), .val (.int p2)] [])) _
    refine XS.iloadN X0.here hx rfl (hb hby d_bd_0) rfl ?_
    show Steps p.tables e below (s₁.setTop (mkF m 1 #[.val (.int p1), .val (.int p2)] [(.int p2)])) _
    refine XS.iconst X0.here hx rfl (hb hby d_bd_1) ?_
    exact kt)
  by_cases hc2_1 : p2 = (-1 : Int32)
  · obtain ⟨fs, hr, hrun, hended, hW, hsame⟩ := X0.leave (v := some (.int (nar .boolean (1 : Int32)))) (fun h => by rw [Bd.returns] at h; cases h)
    refine ⟨_, _, pr2 _ ?_, hrun, hended, _, _, rfl, ?_, ⟨_, rfl⟩, hW, hsame.mono (by decide) (by decide)⟩
    · show Steps p.tables e below (s₁.setTop (mkF m 2 #[.val (.int p1), .val (.int p2)] [(.int (-1 : Int32)), (.int p2)])) _
      refine XS.icmpYes X0.here hx rfl (pc0 := 2) (pc' := 10) rfl (hb hby d_bd_2) rfl (teq hc2_1).1 (by decide) (by decide) ?_
      show Steps p.tables e below (s₁.setTop (mkF m 10 #[.val (.int p1), .val (.int p2)] [])) _
      refine XS.iconst X0.here hx rfl (hb hby d_bd_10) ?_
      show Steps p.tables e below (s₁.setTop (mkF m 11 #[.val (.int p1), .val (.int p2)] [(.int (1 : Int32))])) _
      refine XS.goto X0.here hx rfl (pc0 := 11) (pc' := 15) rfl (hb hby d_bd_11) (by decide) (by decide) ?_
      show Steps p.tables e below (s₁.setTop (mkF m 15 #[.val (.int p1), .val (.int p2)] [(.int (1 : Int32))])) _
      exact retN X0 hx (t := .boolean) Bd.returns (by simp) (hb hby d_bd_15) hr
    · show Q_bd Z p1 p2 h0 n0 _ s₁.heap _
      rw [e0]
      exact ⟨(congrArg (fun zz => some (Value.int zz)) (by rw [show own_bd p1 p2 = true from by simp [own_bd, hc2_1]]; rfl : nar .boolean (1 : Int32) = (own_b (own_bd p1 p2)))), N0, rfl⟩
  · have pr4 : ∀ t, Steps p.tables e below (s₁.setTop (mkF m 7 #[.val (.int p1), .val (.int p2)] [(.int (1 : Int32)), (.int p1)])) t → Steps p.tables e below (s₁.setTop (entryFrame m #[(.int p1), (.int p2)] 2)) t := fun t kt => pr2 t (by
      show Steps p.tables e below (s₁.setTop (mkF m 2 #[.val (.int p1), .val (.int p2)] [(.int (-1 : Int32)), (.int p2)])) _
      refine XS.icmpNo X0.here hx rfl (hb hby d_bd_2) rfl (feq hc2_1).1 ?_
      show Steps p.tables e below (s₁.setTop (mkF m 5 #[.val (.int p1), .val (.int p2)] [])) _
      refine XS.iloadN X0.here hx rfl (hb hby d_bd_5) rfl ?_
      show Steps p.tables e below (s₁.setTop (mkF m 6 #[.val (.int p1), .val (.int p2)] [(.int p1)])) _
      refine XS.iconst X0.here hx rfl (hb hby d_bd_6) ?_
      exact kt)
    by_cases hc7_3 : (1 : Int32) < p1
    · obtain ⟨fs, hr, hrun, hended, hW, hsame⟩ := X0.leave (v := some (.int (nar .boolean (0 : Int32)))) (fun h => by rw [Bd.returns] at h; cases h)
      refine ⟨_, _, pr4 _ ?_, hrun, hended, _, _, rfl, ?_, ⟨_, rfl⟩, hW, hsame.mono (by decide) (by decide)⟩
      · show Steps p.tables e below (s₁.setTop (mkF m 7 #[.val (.int p1), .val (.int p2)] [(.int (1 : Int32)), (.int p1)])) _
        refine XS.icmpYes X0.here hx rfl (pc0 := 7) (pc' := 14) rfl (hb hby d_bd_7) rfl (tlt hc7_3).2.2.1 (by decide) (by decide) ?_
        show Steps p.tables e below (s₁.setTop (mkF m 14 #[.val (.int p1), .val (.int p2)] [])) _
        refine XS.iconst X0.here hx rfl (hb hby d_bd_14) ?_
        show Steps p.tables e below (s₁.setTop (mkF m 15 #[.val (.int p1), .val (.int p2)] [(.int (0 : Int32))])) _
        exact retN X0 hx (t := .boolean) Bd.returns (by simp) (hb hby d_bd_15) hr
      · show Q_bd Z p1 p2 h0 n0 _ s₁.heap _
        rw [e0]
        exact ⟨(congrArg (fun zz => some (Value.int zz)) (by rw [show own_bd p1 p2 = false from by simp [own_bd, hc2_1, hc7_3]]; rfl : nar .boolean (0 : Int32) = (own_b (own_bd p1 p2)))), N0, rfl⟩
    · obtain ⟨fs, hr, hrun, hended, hW, hsame⟩ := X0.leave (v := some (.int (nar .boolean (1 : Int32)))) (fun h => by rw [Bd.returns] at h; cases h)
      refine ⟨_, _, pr4 _ ?_, hrun, hended, _, _, rfl, ?_, ⟨_, rfl⟩, hW, hsame.mono (by decide) (by decide)⟩
      · show Steps p.tables e below (s₁.setTop (mkF m 7 #[.val (.int p1), .val (.int p2)] [(.int (1 : Int32)), (.int p1)])) _
        refine XS.icmpNo X0.here hx rfl (hb hby d_bd_7) rfl (flt hc7_3).2.2.1 ?_
        show Steps p.tables e below (s₁.setTop (mkF m 10 #[.val (.int p1), .val (.int p2)] [])) _
        refine XS.iconst X0.here hx rfl (hb hby d_bd_10) ?_
        show Steps p.tables e below (s₁.setTop (mkF m 11 #[.val (.int p1), .val (.int p2)] [(.int (1 : Int32))])) _
        refine XS.goto X0.here hx rfl (pc0 := 11) (pc' := 15) rfl (hb hby d_bd_11) (by decide) (by decide) ?_
        show Steps p.tables e below (s₁.setTop (mkF m 15 #[.val (.int p1), .val (.int p2)] [(.int (1 : Int32))])) _
        exact retN X0 hx (t := .boolean) Bd.returns (by simp) (hb hby d_bd_15) hr
      · show Q_bd Z p1 p2 h0 n0 _ s₁.heap _
        rw [e0]
        exact ⟨(congrArg (fun zz => some (Value.int zz)) (by rw [show own_bd p1 p2 = true from by simp [own_bd, hc2_1, hc7_3]]; rfl : nar .boolean (1 : Int32) = (own_b (own_bd p1 p2)))), N0, rfl⟩
theorem d_ag_0 : decode method_5_code 0 = .ok (.iload_n 0, 1) := by decide +kernel
theorem d_ag_1 : decode method_5_code 1 = .ok (.ifCond .eq 22, 3) := by decide +kernel
theorem d_ag_4 : decode method_5_code 4 = .ok (.iload_n 2, 1) := by decide +kernel
theorem d_ag_5 : decode method_5_code 5 = .ok (.ifCond .eq 18, 3) := by decide +kernel
theorem d_ag_8 : decode method_5_code 8 = .ok (.iload_n 1, 1) := by decide +kernel
theorem d_ag_9 : decode method_5_code 9 = .ok (.iconst (-1), 1) := by decide +kernel
theorem d_ag_10 : decode method_5_code 10 = .ok (.if_icmp .eq 13, 3) := by decide +kernel
theorem d_ag_13 : decode method_5_code 13 = .ok (.iload_n 3, 1) := by decide +kernel
theorem d_ag_14 : decode method_5_code 14 = .ok (.iconst (-1), 1) := by decide +kernel
theorem d_ag_15 : decode method_5_code 15 = .ok (.if_icmp .eq 8, 3) := by decide +kernel
theorem d_ag_18 : decode method_5_code 18 = .ok (.iload_n 1, 1) := by decide +kernel
theorem d_ag_19 : decode method_5_code 19 = .ok (.iload_n 3, 1) := by decide +kernel
theorem d_ag_20 : decode method_5_code 20 = .ok (.if_icmp .ne 7, 3) := by decide +kernel
theorem d_ag_23 : decode method_5_code 23 = .ok (.iconst 1, 1) := by decide +kernel
theorem d_ag_24 : decode method_5_code 24 = .ok (.goto 4, 3) := by decide +kernel
theorem d_ag_27 : decode method_5_code 27 = .ok (.iconst 0, 1) := by decide +kernel
theorem d_ag_28 : decode method_5_code 28 = .ok (.ireturn, 1) := by decide +kernel
theorem pn_ag : plainName "com/example/term_unifier/termunifier/service/DiophantineBasisMayGrowPinLaw" = true := by first | (simp [plainName, overriddenIn]; done) | decide +kernel
theorem ef_ag (m : MethodId) (p1 : Int32) (p2 : Int32) (p3 : Int32) (p4 : Int32) : entryFrame m #[(.int p1), (.int p2), (.int p3), (.int p4)] 4 = mkF m 0 #[.val (.int p1), .val (.int p2), .val (.int p3), .val (.int p4)] [] := by first | (simp [entryFrame, mkF, argsToLocals, Value.category]; done) | rfl
def Q_ag (Z : State) (p1 : Int32) (p2 : Int32) (p3 : Int32) (p4 : Int32) (h0 : Heap) (n0 : Nat) (v : Option Value) (h : Heap) (L : List Loc) : Prop := v = some (.int (own_b (own_ag p1 p2 p3 p4))) ∧ Fr n0 L ∧ h = h0
set_option maxRecDepth 65536 in
set_option maxHeartbeats 40000000 in
theorem rm_ag (l : Launch) (Z : State) (a0 : Array Value) (hw : ∀ d ∈ tables_1, d.before a0 Z = true) (ws : List Jvm.Cond) (p1 : Int32) (p2 : Int32) (p3 : Int32) (p4 : Int32) (h0 : Heap) (n0 : Nat) (Z0 : n0 ≤ h0.size) :
    MetFree l (⟨"com/example/term_unifier/termunifier/service/DiophantineBasisMayGrowPinLaw", "agree", "(IIII)Z"⟩ : MethodName) (head1 (Jvm.Cond.code (⟨"com/example/term_unifier/termunifier/service/DiophantineBasisMayGrowPinLaw", "agree", "(IIII)Z"⟩ : MethodName) method_5_code 4 (some .boolean) :: ws) ({ frames := 0, cells := 0, slots := 0, locals := 0 } : Room)) (fun a U => a = #[(.int p1), (.int p2), (.int p3), (.int p4)] ∧ Z.Warmed39 U.vm ∧ U.heap = h0) (fun _ _ _ _ _ => True) (fun _ U o U' => ∃ v L, o = .returned v ∧ Q_ag Z p1 p2 p3 p4 h0 n0 v U'.heap L ∧ FrameEnd U o U' L ({ frames := 0, cells := 0, slots := 0, locals := 0 } : Room).cells ({ frames := 0, cells := 0, slots := 0, locals := 0 } : Room).slots) := by
  refine MetFree.of_bodySF (plainFor_of_name pn_ag) hisR ?_
  intro p e s m args below meth c s₁ Bd hml0 hP hK
  obtain ⟨rfl, hZ, hh⟩ := hP
  have hx := Bd.exec
  have hby := Bd.bytes
  have hml : c.maxLocals = 4 := hml0
  have hown : s.vm.findClass "com/example/term_unifier/termunifier/service/DiophantineBasisMayGrowPinLaw" = some m.cls := findClass_of_methodNamed Bd.named
  have hnm := (name_of_methodNamed Bd.named Bd.method).1
  have X0 : Stand p l e ({ frames := 0, cells := 0, slots := 0, locals := 0 } : Room) s m #[(.int p1), (.int p2), (.int p3), (.int p4)] below meth c s₁ [] 0 0 := Stand.of_body Bd
  have e0 : s₁.heap = h0 := by rw [← hh, Bd.state]; rfl
  have N0 := Fr.nil n0
  have pre0 : ∀ t, Steps p.tables e below (s₁.setTop (mkF m 0 #[.val (.int p1), .val (.int p2), .val (.int p3), .val (.int p4)] [])) t → Steps p.tables e below (s₁.setTop (entryFrame m #[(.int p1), (.int p2), (.int p3), (.int p4)] 4)) t := fun t k => castTop (ef_ag m p1 p2 p3 p4) k
  have pr2 : ∀ t, Steps p.tables e below (s₁.setTop (mkF m 1 #[.val (.int p1), .val (.int p2), .val (.int p3), .val (.int p4)] [(.int p1)])) t → Steps p.tables e below (s₁.setTop (entryFrame m #[(.int p1), (.int p2), (.int p3), (.int p4)] 4)) t := fun t kt => pre0 t (by
    show Steps p.tables e below (s₁.setTop (mkF m 0 #[.val (.int p1), .val (.int p2), .val (.int p3), .val (.int p4)] [])) _
    refine XS.iloadN X0.here hx rfl (hb hby d_ag_0) rfl ?_
    exact kt)
  by_cases hc1_1 : p1 = (0 : Int32)
  · obtain ⟨fs, hr, hrun, hended, hW, hsame⟩ := X0.leave (v := some (.int (nar .boolean (1 : Int32)))) (fun h => by rw [Bd.returns] at h; cases h)
    refine ⟨_, _, pr2 _ ?_, hrun, hended, _, _, rfl, ?_, ⟨_, rfl⟩, hW, hsame.mono (by decide) (by decide)⟩
    · show Steps p.tables e below (s₁.setTop (mkF m 1 #[.val (.int p1), .val (.int p2), .val (.int p3), .val (.int p4)] [(.int p1)])) _
      refine XS.ifYes X0.here hx rfl (pc0 := 1) (pc' := 23) rfl (hb hby d_ag_1) rfl ((if0 _ _).trans (teq hc1_1).1) (by decide) (by decide) ?_
      show Steps p.tables e below (s₁.setTop (mkF m 23 #[.val (.int p1), .val (.int p2), .val (.int p3), .val (.int p4)] [])) _
      refine XS.iconst X0.here hx rfl (hb hby d_ag_23) ?_
      show Steps p.tables e below (s₁.setTop (mkF m 24 #[.val (.int p1), .val (.int p2), .val (.int p3), .val (.int p4)] [(.int (1 : Int32))])) _
      refine XS.goto X0.here hx rfl (pc0 := 24) (pc' := 28) rfl (hb hby d_ag_24) (by decide) (by decide) ?_
      show Steps p.tables e below (s₁.setTop (mkF m 28 #[.val (.int p1), .val (.int p2), .val (.int p3), .val (.int p4)] [(.int (1 : Int32))])) _
      exact retN X0 hx (t := .boolean) Bd.returns (by simp) (hb hby d_ag_28) hr
    · show Q_ag Z p1 p2 p3 p4 h0 n0 _ s₁.heap _
      rw [e0]
      exact ⟨(congrArg (fun zz => some (Value.int zz)) (by rw [show own_ag p1 p2 p3 p4 = true from by simp [own_ag, hc1_1]]; rfl : nar .boolean (1 : Int32) = (own_b (own_ag p1 p2 p3 p4)))), N0, rfl⟩
  · have pr4 : ∀ t, Steps p.tables e below (s₁.setTop (mkF m 5 #[.val (.int p1), .val (.int p2), .val (.int p3), .val (.int p4)] [(.int p3)])) t → Steps p.tables e below (s₁.setTop (entryFrame m #[(.int p1), (.int p2), (.int p3), (.int p4)] 4)) t := fun t kt => pr2 t (by
      show Steps p.tables e below (s₁.setTop (mkF m 1 #[.val (.int p1), .val (.int p2), .val (.int p3), .val (.int p4)] [(.int p1)])) _
      refine XS.ifNo X0.here hx rfl (hb hby d_ag_1) rfl ((if0 _ _).trans (feq hc1_1).1) ?_
      show Steps p.tables e below (s₁.setTop (mkF m 4 #[.val (.int p1), .val (.int p2), .val (.int p3), .val (.int p4)] [])) _
      refine XS.iloadN X0.here hx rfl (hb hby d_ag_4) rfl ?_
      exact kt)
    by_cases hc5_3 : p3 = (0 : Int32)
    · obtain ⟨fs, hr, hrun, hended, hW, hsame⟩ := X0.leave (v := some (.int (nar .boolean (1 : Int32)))) (fun h => by rw [Bd.returns] at h; cases h)
      refine ⟨_, _, pr4 _ ?_, hrun, hended, _, _, rfl, ?_, ⟨_, rfl⟩, hW, hsame.mono (by decide) (by decide)⟩
      · show Steps p.tables e below (s₁.setTop (mkF m 5 #[.val (.int p1), .val (.int p2), .val (.int p3), .val (.int p4)] [(.int p3)])) _
        refine XS.ifYes X0.here hx rfl (pc0 := 5) (pc' := 23) rfl (hb hby d_ag_5) rfl ((if0 _ _).trans (teq hc5_3).1) (by decide) (by decide) ?_
        show Steps p.tables e below (s₁.setTop (mkF m 23 #[.val (.int p1), .val (.int p2), .val (.int p3), .val (.int p4)] [])) _
        refine XS.iconst X0.here hx rfl (hb hby d_ag_23) ?_
        show Steps p.tables e below (s₁.setTop (mkF m 24 #[.val (.int p1), .val (.int p2), .val (.int p3), .val (.int p4)] [(.int (1 : Int32))])) _
        refine XS.goto X0.here hx rfl (pc0 := 24) (pc' := 28) rfl (hb hby d_ag_24) (by decide) (by decide) ?_
        show Steps p.tables e below (s₁.setTop (mkF m 28 #[.val (.int p1), .val (.int p2), .val (.int p3), .val (.int p4)] [(.int (1 : Int32))])) _
        exact retN X0 hx (t := .boolean) Bd.returns (by simp) (hb hby d_ag_28) hr
      · show Q_ag Z p1 p2 p3 p4 h0 n0 _ s₁.heap _
        rw [e0]
        exact ⟨(congrArg (fun zz => some (Value.int zz)) (by rw [show own_ag p1 p2 p3 p4 = true from by simp [own_ag, hc1_1, hc5_3]]; rfl : nar .boolean (1 : Int32) = (own_b (own_ag p1 p2 p3 p4)))), N0, rfl⟩
    · have pr6 : ∀ t, Steps p.tables e below (s₁.setTop (mkF m 10 #[.val (.int p1), .val (.int p2), .val (.int p3), .val (.int p4)] [(.int (-1 : Int32)), (.int p2)])) t → Steps p.tables e below (s₁.setTop (entryFrame m #[(.int p1), (.int p2), (.int p3), (.int p4)] 4)) t := fun t kt => pr4 t (by
        show Steps p.tables e below (s₁.setTop (mkF m 5 #[.val (.int p1), .val (.int p2), .val (.int p3), .val (.int p4)] [(.int p3)])) _
        refine XS.ifNo X0.here hx rfl (hb hby d_ag_5) rfl ((if0 _ _).trans (feq hc5_3).1) ?_
        show Steps p.tables e below (s₁.setTop (mkF m 8 #[.val (.int p1), .val (.int p2), .val (.int p3), .val (.int p4)] [])) _
        refine XS.iloadN X0.here hx rfl (hb hby d_ag_8) rfl ?_
        show Steps p.tables e below (s₁.setTop (mkF m 9 #[.val (.int p1), .val (.int p2), .val (.int p3), .val (.int p4)] [(.int p2)])) _
        refine XS.iconst X0.here hx rfl (hb hby d_ag_9) ?_
        exact kt)
      by_cases hc10_5 : p2 = (-1 : Int32)
      · obtain ⟨fs, hr, hrun, hended, hW, hsame⟩ := X0.leave (v := some (.int (nar .boolean (1 : Int32)))) (fun h => by rw [Bd.returns] at h; cases h)
        refine ⟨_, _, pr6 _ ?_, hrun, hended, _, _, rfl, ?_, ⟨_, rfl⟩, hW, hsame.mono (by decide) (by decide)⟩
        · show Steps p.tables e below (s₁.setTop (mkF m 10 #[.val (.int p1), .val (.int p2), .val (.int p3), .val (.int p4)] [(.int (-1 : Int32)), (.int p2)])) _
          refine XS.icmpYes X0.here hx rfl (pc0 := 10) (pc' := 23) rfl (hb hby d_ag_10) rfl (teq hc10_5).1 (by decide) (by decide) ?_
          show Steps p.tables e below (s₁.setTop (mkF m 23 #[.val (.int p1), .val (.int p2), .val (.int p3), .val (.int p4)] [])) _
          refine XS.iconst X0.here hx rfl (hb hby d_ag_23) ?_
          show Steps p.tables e below (s₁.setTop (mkF m 24 #[.val (.int p1), .val (.int p2), .val (.int p3), .val (.int p4)] [(.int (1 : Int32))])) _
          refine XS.goto X0.here hx rfl (pc0 := 24) (pc' := 28) rfl (hb hby d_ag_24) (by decide) (by decide) ?_
          show Steps p.tables e below (s₁.setTop (mkF m 28 #[.val (.int p1), .val (.int p2), .val (.int p3), .val (.int p4)] [(.int (1 : Int32))])) _
          exact retN X0 hx (t := .boolean) Bd.returns (by simp) (hb hby d_ag_28) hr
        · show Q_ag Z p1 p2 p3 p4 h0 n0 _ s₁.heap _
          rw [e0]
          exact ⟨(congrArg (fun zz => some (Value.int zz)) (by rw [show own_ag p1 p2 p3 p4 = true from by simp [own_ag, hc1_1, hc5_3, hc10_5]]; rfl : nar .boolean (1 : Int32) = (own_b (own_ag p1 p2 p3 p4)))), N0, rfl⟩
      · have pr8 : ∀ t, Steps p.tables e below (s₁.setTop (mkF m 15 #[.val (.int p1), .val (.int p2), .val (.int p3), .val (.int p4)] [(.int (-1 : Int32)), (.int p4)])) t → Steps p.tables e below (s₁.setTop (entryFrame m #[(.int p1), (.int p2), (.int p3), (.int p4)] 4)) t := fun t kt => pr6 t (by
          show Steps p.tables e below (s₁.setTop (mkF m 10 #[.val (.int p1), .val (.int p2), .val (.int p3), .val (.int p4)] [(.int (-1 : Int32)), (.int p2)])) _
          refine XS.icmpNo X0.here hx rfl (hb hby d_ag_10) rfl (feq hc10_5).1 ?_
          show Steps p.tables e below (s₁.setTop (mkF m 13 #[.val (.int p1), .val (.int p2), .val (.int p3), .val (.int p4)] [])) _
          refine XS.iloadN X0.here hx rfl (hb hby d_ag_13) rfl ?_
          show Steps p.tables e below (s₁.setTop (mkF m 14 #[.val (.int p1), .val (.int p2), .val (.int p3), .val (.int p4)] [(.int p4)])) _
          refine XS.iconst X0.here hx rfl (hb hby d_ag_14) ?_
          exact kt)
        by_cases hc15_7 : p4 = (-1 : Int32)
        · obtain ⟨fs, hr, hrun, hended, hW, hsame⟩ := X0.leave (v := some (.int (nar .boolean (1 : Int32)))) (fun h => by rw [Bd.returns] at h; cases h)
          refine ⟨_, _, pr8 _ ?_, hrun, hended, _, _, rfl, ?_, ⟨_, rfl⟩, hW, hsame.mono (by decide) (by decide)⟩
          · show Steps p.tables e below (s₁.setTop (mkF m 15 #[.val (.int p1), .val (.int p2), .val (.int p3), .val (.int p4)] [(.int (-1 : Int32)), (.int p4)])) _
            refine XS.icmpYes X0.here hx rfl (pc0 := 15) (pc' := 23) rfl (hb hby d_ag_15) rfl (teq hc15_7).1 (by decide) (by decide) ?_
            show Steps p.tables e below (s₁.setTop (mkF m 23 #[.val (.int p1), .val (.int p2), .val (.int p3), .val (.int p4)] [])) _
            refine XS.iconst X0.here hx rfl (hb hby d_ag_23) ?_
            show Steps p.tables e below (s₁.setTop (mkF m 24 #[.val (.int p1), .val (.int p2), .val (.int p3), .val (.int p4)] [(.int (1 : Int32))])) _
            refine XS.goto X0.here hx rfl (pc0 := 24) (pc' := 28) rfl (hb hby d_ag_24) (by decide) (by decide) ?_
            show Steps p.tables e below (s₁.setTop (mkF m 28 #[.val (.int p1), .val (.int p2), .val (.int p3), .val (.int p4)] [(.int (1 : Int32))])) _
            exact retN X0 hx (t := .boolean) Bd.returns (by simp) (hb hby d_ag_28) hr
          · show Q_ag Z p1 p2 p3 p4 h0 n0 _ s₁.heap _
            rw [e0]
            exact ⟨(congrArg (fun zz => some (Value.int zz)) (by rw [show own_ag p1 p2 p3 p4 = true from by simp [own_ag, hc1_1, hc5_3, hc10_5, hc15_7]]; rfl : nar .boolean (1 : Int32) = (own_b (own_ag p1 p2 p3 p4)))), N0, rfl⟩
        · have pr10 : ∀ t, Steps p.tables e below (s₁.setTop (mkF m 20 #[.val (.int p1), .val (.int p2), .val (.int p3), .val (.int p4)] [(.int p4), (.int p2)])) t → Steps p.tables e below (s₁.setTop (entryFrame m #[(.int p1), (.int p2), (.int p3), (.int p4)] 4)) t := fun t kt => pr8 t (by
            show Steps p.tables e below (s₁.setTop (mkF m 15 #[.val (.int p1), .val (.int p2), .val (.int p3), .val (.int p4)] [(.int (-1 : Int32)), (.int p4)])) _
            refine XS.icmpNo X0.here hx rfl (hb hby d_ag_15) rfl (feq hc15_7).1 ?_
            show Steps p.tables e below (s₁.setTop (mkF m 18 #[.val (.int p1), .val (.int p2), .val (.int p3), .val (.int p4)] [])) _
            refine XS.iloadN X0.here hx rfl (hb hby d_ag_18) rfl ?_
            show Steps p.tables e below (s₁.setTop (mkF m 19 #[.val (.int p1), .val (.int p2), .val (.int p3), .val (.int p4)] [(.int p2)])) _
            refine XS.iloadN X0.here hx rfl (hb hby d_ag_19) rfl ?_
            exact kt)
          by_cases hc20_9 : p2 = p4
          · obtain ⟨fs, hr, hrun, hended, hW, hsame⟩ := X0.leave (v := some (.int (nar .boolean (1 : Int32)))) (fun h => by rw [Bd.returns] at h; cases h)
            refine ⟨_, _, pr10 _ ?_, hrun, hended, _, _, rfl, ?_, ⟨_, rfl⟩, hW, hsame.mono (by decide) (by decide)⟩
            · show Steps p.tables e below (s₁.setTop (mkF m 20 #[.val (.int p1), .val (.int p2), .val (.int p3), .val (.int p4)] [(.int p4), (.int p2)])) _
              refine XS.icmpNo X0.here hx rfl (hb hby d_ag_20) rfl (teq hc20_9).2 ?_
              show Steps p.tables e below (s₁.setTop (mkF m 23 #[.val (.int p1), .val (.int p2), .val (.int p3), .val (.int p4)] [])) _
              refine XS.iconst X0.here hx rfl (hb hby d_ag_23) ?_
              show Steps p.tables e below (s₁.setTop (mkF m 24 #[.val (.int p1), .val (.int p2), .val (.int p3), .val (.int p4)] [(.int (1 : Int32))])) _
              refine XS.goto X0.here hx rfl (pc0 := 24) (pc' := 28) rfl (hb hby d_ag_24) (by decide) (by decide) ?_
              show Steps p.tables e below (s₁.setTop (mkF m 28 #[.val (.int p1), .val (.int p2), .val (.int p3), .val (.int p4)] [(.int (1 : Int32))])) _
              exact retN X0 hx (t := .boolean) Bd.returns (by simp) (hb hby d_ag_28) hr
            · show Q_ag Z p1 p2 p3 p4 h0 n0 _ s₁.heap _
              rw [e0]
              exact ⟨(congrArg (fun zz => some (Value.int zz)) (by rw [show own_ag p1 p2 p3 p4 = true from by simp [own_ag, hc1_1, hc5_3, hc10_5, hc15_7, hc20_9]]; rfl : nar .boolean (1 : Int32) = (own_b (own_ag p1 p2 p3 p4)))), N0, rfl⟩
          · obtain ⟨fs, hr, hrun, hended, hW, hsame⟩ := X0.leave (v := some (.int (nar .boolean (0 : Int32)))) (fun h => by rw [Bd.returns] at h; cases h)
            refine ⟨_, _, pr10 _ ?_, hrun, hended, _, _, rfl, ?_, ⟨_, rfl⟩, hW, hsame.mono (by decide) (by decide)⟩
            · show Steps p.tables e below (s₁.setTop (mkF m 20 #[.val (.int p1), .val (.int p2), .val (.int p3), .val (.int p4)] [(.int p4), (.int p2)])) _
              refine XS.icmpYes X0.here hx rfl (pc0 := 20) (pc' := 27) rfl (hb hby d_ag_20) rfl (feq hc20_9).2 (by decide) (by decide) ?_
              show Steps p.tables e below (s₁.setTop (mkF m 27 #[.val (.int p1), .val (.int p2), .val (.int p3), .val (.int p4)] [])) _
              refine XS.iconst X0.here hx rfl (hb hby d_ag_27) ?_
              show Steps p.tables e below (s₁.setTop (mkF m 28 #[.val (.int p1), .val (.int p2), .val (.int p3), .val (.int p4)] [(.int (0 : Int32))])) _
              exact retN X0 hx (t := .boolean) Bd.returns (by simp) (hb hby d_ag_28) hr
            · show Q_ag Z p1 p2 p3 p4 h0 n0 _ s₁.heap _
              rw [e0]
              exact ⟨(congrArg (fun zz => some (Value.int zz)) (by rw [show own_ag p1 p2 p3 p4 = false from by simp [own_ag, hc1_1, hc5_3, hc10_5, hc15_7, hc20_9]]; rfl : nar .boolean (0 : Int32) = (own_b (own_ag p1 p2 p3 p4)))), N0, rfl⟩
theorem d_kp_0 : decode method_3_code 0 = .ok (.iload_n 0, 1) := by decide +kernel
theorem d_kp_1 : decode method_3_code 1 = .ok (.iload_n 3, 1) := by decide +kernel
theorem d_kp_2 : decode method_3_code 2 = .ok (.invokestatic 20, 3) := by decide +kernel
theorem d_kp_5 : decode method_3_code 5 = .ok (.ifCond .eq 59, 3) := by decide +kernel
theorem d_kp_8 : decode method_3_code 8 = .ok (.iload_n 1, 1) := by decide +kernel
theorem d_kp_9 : decode method_3_code 9 = .ok (.iload 4, 2) := by decide +kernel
theorem d_kp_11 : decode method_3_code 11 = .ok (.invokestatic 20, 3) := by decide +kernel
theorem d_kp_14 : decode method_3_code 14 = .ok (.ifCond .eq 50, 3) := by decide +kernel
theorem d_kp_17 : decode method_3_code 17 = .ok (.iload_n 2, 1) := by decide +kernel
theorem d_kp_18 : decode method_3_code 18 = .ok (.iload 5, 2) := by decide +kernel
theorem d_kp_20 : decode method_3_code 20 = .ok (.invokestatic 20, 3) := by decide +kernel
theorem d_kp_23 : decode method_3_code 23 = .ok (.ifCond .eq 41, 3) := by decide +kernel
theorem d_kp_26 : decode method_3_code 26 = .ok (.iload_n 0, 1) := by decide +kernel
theorem d_kp_27 : decode method_3_code 27 = .ok (.iload_n 3, 1) := by decide +kernel
theorem d_kp_28 : decode method_3_code 28 = .ok (.iload_n 1, 1) := by decide +kernel
theorem d_kp_29 : decode method_3_code 29 = .ok (.iload 4, 2) := by decide +kernel
theorem d_kp_31 : decode method_3_code 31 = .ok (.invokestatic 24, 3) := by decide +kernel
theorem d_kp_34 : decode method_3_code 34 = .ok (.ifCond .eq 30, 3) := by decide +kernel
theorem d_kp_37 : decode method_3_code 37 = .ok (.iload_n 0, 1) := by decide +kernel
theorem d_kp_38 : decode method_3_code 38 = .ok (.iload_n 3, 1) := by decide +kernel
theorem d_kp_39 : decode method_3_code 39 = .ok (.iload_n 2, 1) := by decide +kernel
theorem d_kp_40 : decode method_3_code 40 = .ok (.iload 5, 2) := by decide +kernel
theorem d_kp_42 : decode method_3_code 42 = .ok (.invokestatic 24, 3) := by decide +kernel
theorem d_kp_45 : decode method_3_code 45 = .ok (.ifCond .eq 19, 3) := by decide +kernel
theorem d_kp_48 : decode method_3_code 48 = .ok (.iload_n 1, 1) := by decide +kernel
theorem d_kp_49 : decode method_3_code 49 = .ok (.iload 4, 2) := by decide +kernel
theorem d_kp_51 : decode method_3_code 51 = .ok (.iload_n 2, 1) := by decide +kernel
theorem d_kp_52 : decode method_3_code 52 = .ok (.iload 5, 2) := by decide +kernel
theorem d_kp_54 : decode method_3_code 54 = .ok (.invokestatic 24, 3) := by decide +kernel
theorem d_kp_57 : decode method_3_code 57 = .ok (.ifCond .eq 7, 3) := by decide +kernel
theorem d_kp_60 : decode method_3_code 60 = .ok (.iconst 1, 1) := by decide +kernel
theorem d_kp_61 : decode method_3_code 61 = .ok (.goto 4, 3) := by decide +kernel
theorem d_kp_64 : decode method_3_code 64 = .ok (.iconst 0, 1) := by decide +kernel
theorem d_kp_65 : decode method_3_code 65 = .ok (.ireturn, 1) := by decide +kernel
theorem pn_kp : plainName "com/example/term_unifier/termunifier/service/DiophantineBasisMayGrowPinLaw" = true := by first | (simp [plainName, overriddenIn]; done) | decide +kernel
theorem pd_kp_0 : parseMethodDescriptor "(II)Z" = some ⟨[.int, .int], some .boolean⟩ := by decide +kernel
theorem pd_kp_1 : parseMethodDescriptor "(IIII)Z" = some ⟨[.int, .int, .int, .int], some .boolean⟩ := by decide +kernel
theorem ef_kp (m : MethodId) (p1 : Int32) (p2 : Int32) (p3 : Int32) (p4 : Int32) (p5 : Int32) (p6 : Int32) : entryFrame m #[(.int p1), (.int p2), (.int p3), (.int p4), (.int p5), (.int p6)] 6 = mkF m 0 #[.val (.int p1), .val (.int p2), .val (.int p3), .val (.int p4), .val (.int p5), .val (.int p6)] [] := by first | (simp [entryFrame, mkF, argsToLocals, Value.category]; done) | rfl
def Q_kp (Z : State) (p1 : Int32) (p2 : Int32) (p3 : Int32) (p4 : Int32) (p5 : Int32) (p6 : Int32) (h0 : Heap) (n0 : Nat) (v : Option Value) (h : Heap) (L : List Loc) : Prop := v = some (.int (own_b (own_kp p1 p2 p3 p4 p5 p6))) ∧ Fr n0 L ∧ h = h0
set_option maxRecDepth 65536 in
set_option maxHeartbeats 40000000 in
theorem rm_kp (l : Launch) (Z : State) (a0 : Array Value) (hw : ∀ d ∈ tables_1, d.before a0 Z = true) (ws : List Jvm.Cond) (p1 : Int32) (p2 : Int32) (p3 : Int32) (p4 : Int32) (p5 : Int32) (p6 : Int32) (h0 : Heap) (n0 : Nat) (Z0 : n0 ≤ h0.size) :
    MetFree l (⟨"com/example/term_unifier/termunifier/service/DiophantineBasisMayGrowPinLaw", "keeps", "(IIIIII)Z"⟩ : MethodName) (head1 (Jvm.Cond.code (⟨"com/example/term_unifier/termunifier/service/DiophantineBasisMayGrowPinLaw", "keeps", "(IIIIII)Z"⟩ : MethodName) method_3_code 6 (some .boolean) :: ws) ({ frames := 1, cells := 0, slots := 0, locals := 15 } : Room)) (fun a U => a = #[(.int p1), (.int p2), (.int p3), (.int p4), (.int p5), (.int p6)] ∧ Z.Warmed39 U.vm ∧ U.heap = h0) (fun _ _ _ _ _ => True) (fun _ U o U' => ∃ v L, o = .returned v ∧ Q_kp Z p1 p2 p3 p4 p5 p6 h0 n0 v U'.heap L ∧ FrameEnd U o U' L ({ frames := 1, cells := 0, slots := 0, locals := 15 } : Room).cells ({ frames := 1, cells := 0, slots := 0, locals := 15 } : Room).slots) := by
  refine MetFree.of_bodySF (plainFor_of_name pn_kp) hisR ?_
  intro p e s m args below meth c s₁ Bd hml0 hP hK
  obtain ⟨rfl, hZ, hh⟩ := hP
  have hx := Bd.exec
  have hby := Bd.bytes
  have hml : c.maxLocals = 6 := hml0
  have hown : s.vm.findClass "com/example/term_unifier/termunifier/service/DiophantineBasisMayGrowPinLaw" = some m.cls := findClass_of_methodNamed Bd.named
  have hnm := (name_of_methodNamed Bd.named Bd.method).1
  have X0 : Stand p l e ({ frames := 1, cells := 0, slots := 0, locals := 15 } : Room) s m #[(.int p1), (.int p2), (.int p3), (.int p4), (.int p5), (.int p6)] below meth c s₁ [] 0 0 := Stand.of_body Bd
  have e0 : s₁.heap = h0 := by rw [← hh, Bd.state]; rfl
  have N0 := Fr.nil n0
  have pre0 : ∀ t, Steps p.tables e below (s₁.setTop (mkF m 0 #[.val (.int p1), .val (.int p2), .val (.int p3), .val (.int p4), .val (.int p5), .val (.int p6)] [])) t → Steps p.tables e below (s₁.setTop (entryFrame m #[(.int p1), (.int p2), (.int p3), (.int p4), (.int p5), (.int p6)] 6)) t := fun t k => castTop (ef_kp m p1 p2 p3 p4 p5 p6) k
  have pr2 : ∀ t, Steps p.tables e below (s₁.setTop (mkF m 2 #[.val (.int p1), .val (.int p2), .val (.int p3), .val (.int p4), .val (.int p5), .val (.int p6)] [(.int p4), (.int p1)])) t → Steps p.tables e below (s₁.setTop (entryFrame m #[(.int p1), (.int p2), (.int p3), (.int p4), (.int p5), (.int p6)] 6)) t := fun t kt => pre0 t (by
    show Steps p.tables e below (s₁.setTop (mkF m 0 #[.val (.int p1), .val (.int p2), .val (.int p3), .val (.int p4), .val (.int p5), .val (.int p6)] [])) _
    refine XS.iloadN X0.here hx rfl (hb hby d_kp_0) rfl ?_
    show Steps p.tables e below (s₁.setTop (mkF m 1 #[.val (.int p1), .val (.int p2), .val (.int p3), .val (.int p4), .val (.int p5), .val (.int p6)] [(.int p1)])) _
    refine XS.iloadN X0.here hx rfl (hb hby d_kp_1) rfl ?_
    show Steps p.tables e below (s₁.setTop (mkF m 2 #[.val (.int p1), .val (.int p2), .val (.int p3), .val (.int p4), .val (.int p5), .val (.int p6)] [(.int p4), (.int p1)])) _
    exact kt)
  obtain ⟨_, _, ⟨T1, L1, k1, n1⟩, -, X1, ⟨Lc1, hQ1, l1, y1, z1⟩, st1⟩ := Jvm.LawKit.callS X0 hx (y := (⟨"com/example/term_unifier/termunifier/service/DiophantineBasisMayGrowPinLaw", "bounded", "(II)Z"⟩ : MethodName)) hown (mvT hZ (hw _ (List.mem_of_getElem? (i := 5) rfl))) (mvT hZ (hw _ (List.mem_of_getElem? (i := 6) rfl))) (mvT hZ (hw _ (List.mem_of_getElem? (i := 3) rfl))) (mvT hZ (hw _ (List.mem_of_getElem? (i := 7) rfl))) (by decide) (backOf (W := 0) (rm_bd l Z a0 hw [] p1 p4 h0 n0 Z0 ) hZ (hw _ (List.mem_of_getElem? (i := 7) rfl)) (hw _ (List.mem_of_getElem? (i := 3) rfl)) (by decide) (by decide)) (g := (mkF m 2 #[.val (.int p1), .val (.int p2), .val (.int p3), .val (.int p4), .val (.int p5), .val (.int p6)] [(.int p4), (.int p1)])) rfl (by rw [hml]; rfl) (argsL := [(.int p1), (.int p4)]) (rest := []) (lenOf pd_kp_0 rfl) rfl (by show 2 * 0 + _ ≤ _; exact Nat.le_of_eq rfl) (hb hby d_kp_2) (fun _ _ => ⟨rfl, e0, (by decide : 0 + 0 ≤ _), (by decide : 0 + 0 ≤ _)⟩)
  dsimp only [Pt.U, Pt.locs, Pt.cells, Pt.slots] at X1 l1 y1 z1 st1 hQ1
  subst l1 y1 z1
  obtain ⟨rfl, N1q, e1⟩ := hQ1
  have N1 := Fr.app N0 N1q
  have pr4 : ∀ t, Steps p.tables e below (T1.setTop (mkF m 5 #[.val (.int p1), .val (.int p2), .val (.int p3), .val (.int p4), .val (.int p5), .val (.int p6)] [(.int (own_b (own_bd p1 p4)))])) t → Steps p.tables e below (s₁.setTop (entryFrame m #[(.int p1), (.int p2), (.int p3), (.int p4), (.int p5), (.int p6)] 6)) t := fun t kt => pr2 t (by
    refine st1 _ ?_
    exact kt)
  by_cases hc5_3 : (own_bd p1 p4) = true
  · have pr6 : ∀ t, Steps p.tables e below (T1.setTop (mkF m 11 #[.val (.int p1), .val (.int p2), .val (.int p3), .val (.int p4), .val (.int p5), .val (.int p6)] [(.int p5), (.int p2)])) t → Steps p.tables e below (s₁.setTop (entryFrame m #[(.int p1), (.int p2), (.int p3), (.int p4), (.int p5), (.int p6)] 6)) t := fun t kt => pr4 t (by
      show Steps p.tables e below (T1.setTop (mkF m 5 #[.val (.int p1), .val (.int p2), .val (.int p3), .val (.int p4), .val (.int p5), .val (.int p6)] [(.int (own_b (own_bd p1 p4)))])) _
      refine XS.ifNo X1.here hx rfl (hb hby d_kp_5) rfl ((if0 _ _).trans (feq (own_b1 hc5_3)).1) ?_
      show Steps p.tables e below (T1.setTop (mkF m 8 #[.val (.int p1), .val (.int p2), .val (.int p3), .val (.int p4), .val (.int p5), .val (.int p6)] [])) _
      refine XS.iloadN X1.here hx rfl (hb hby d_kp_8) rfl ?_
      show Steps p.tables e below (T1.setTop (mkF m 9 #[.val (.int p1), .val (.int p2), .val (.int p3), .val (.int p4), .val (.int p5), .val (.int p6)] [(.int p2)])) _
      refine XS.iload X1.here hx rfl (hb hby d_kp_9) rfl ?_
      show Steps p.tables e below (T1.setTop (mkF m 11 #[.val (.int p1), .val (.int p2), .val (.int p3), .val (.int p4), .val (.int p5), .val (.int p6)] [(.int p5), (.int p2)])) _
      exact kt)
    obtain ⟨_, _, ⟨T5, L5, k5, n5⟩, -, X5, ⟨Lc5, hQ5, l5, y5, z5⟩, st5⟩ := Jvm.LawKit.callS X1 hx (y := (⟨"com/example/term_unifier/termunifier/service/DiophantineBasisMayGrowPinLaw", "bounded", "(II)Z"⟩ : MethodName)) hown (mvT hZ (hw _ (List.mem_of_getElem? (i := 5) rfl))) (mvT hZ (hw _ (List.mem_of_getElem? (i := 6) rfl))) (mvT hZ (hw _ (List.mem_of_getElem? (i := 3) rfl))) (mvT hZ (hw _ (List.mem_of_getElem? (i := 7) rfl))) (by decide) (backOf (W := 0) (rm_bd l Z a0 hw [] p2 p5 h0 n0 Z0 ) hZ (hw _ (List.mem_of_getElem? (i := 7) rfl)) (hw _ (List.mem_of_getElem? (i := 3) rfl)) (by decide) (by decide)) (g := (mkF m 11 #[.val (.int p1), .val (.int p2), .val (.int p3), .val (.int p4), .val (.int p5), .val (.int p6)] [(.int p5), (.int p2)])) rfl (by rw [hml]; rfl) (argsL := [(.int p2), (.int p5)]) (rest := []) (lenOf pd_kp_0 rfl) rfl (by show 2 * 0 + _ ≤ _; exact Nat.le_of_eq rfl) (hb hby d_kp_11) (fun _ _ => ⟨rfl, e1, (by decide : 0 + 0 ≤ _), (by decide : 0 + 0 ≤ _)⟩)
    dsimp only [Pt.U, Pt.locs, Pt.cells, Pt.slots] at X5 l5 y5 z5 st5 hQ5
    subst l5 y5 z5
    obtain ⟨rfl, N5q, e5⟩ := hQ5
    have N5 := Fr.app N1 N5q
    have pr8 : ∀ t, Steps p.tables e below (T5.setTop (mkF m 14 #[.val (.int p1), .val (.int p2), .val (.int p3), .val (.int p4), .val (.int p5), .val (.int p6)] [(.int (own_b (own_bd p2 p5)))])) t → Steps p.tables e below (s₁.setTop (entryFrame m #[(.int p1), (.int p2), (.int p3), (.int p4), (.int p5), (.int p6)] 6)) t := fun t kt => pr6 t (by
      refine st5 _ ?_
      exact kt)
    by_cases hc14_7 : (own_bd p2 p5) = true
    · have pr10 : ∀ t, Steps p.tables e below (T5.setTop (mkF m 20 #[.val (.int p1), .val (.int p2), .val (.int p3), .val (.int p4), .val (.int p5), .val (.int p6)] [(.int p6), (.int p3)])) t → Steps p.tables e below (s₁.setTop (entryFrame m #[(.int p1), (.int p2), (.int p3), (.int p4), (.int p5), (.int p6)] 6)) t := fun t kt => pr8 t (by
        show Steps p.tables e below (T5.setTop (mkF m 14 #[.val (.int p1), .val (.int p2), .val (.int p3), .val (.int p4), .val (.int p5), .val (.int p6)] [(.int (own_b (own_bd p2 p5)))])) _
        refine XS.ifNo X5.here hx rfl (hb hby d_kp_14) rfl ((if0 _ _).trans (feq (own_b1 hc14_7)).1) ?_
        show Steps p.tables e below (T5.setTop (mkF m 17 #[.val (.int p1), .val (.int p2), .val (.int p3), .val (.int p4), .val (.int p5), .val (.int p6)] [])) _
        refine XS.iloadN X5.here hx rfl (hb hby d_kp_17) rfl ?_
        show Steps p.tables e below (T5.setTop (mkF m 18 #[.val (.int p1), .val (.int p2), .val (.int p3), .val (.int p4), .val (.int p5), .val (.int p6)] [(.int p3)])) _
        refine XS.iload X5.here hx rfl (hb hby d_kp_18) rfl ?_
        show Steps p.tables e below (T5.setTop (mkF m 20 #[.val (.int p1), .val (.int p2), .val (.int p3), .val (.int p4), .val (.int p5), .val (.int p6)] [(.int p6), (.int p3)])) _
        exact kt)
      obtain ⟨_, _, ⟨T9, L9, k9, n9⟩, -, X9, ⟨Lc9, hQ9, l9, y9, z9⟩, st9⟩ := Jvm.LawKit.callS X5 hx (y := (⟨"com/example/term_unifier/termunifier/service/DiophantineBasisMayGrowPinLaw", "bounded", "(II)Z"⟩ : MethodName)) hown (mvT hZ (hw _ (List.mem_of_getElem? (i := 5) rfl))) (mvT hZ (hw _ (List.mem_of_getElem? (i := 6) rfl))) (mvT hZ (hw _ (List.mem_of_getElem? (i := 3) rfl))) (mvT hZ (hw _ (List.mem_of_getElem? (i := 7) rfl))) (by decide) (backOf (W := 0) (rm_bd l Z a0 hw [] p3 p6 h0 n0 Z0 ) hZ (hw _ (List.mem_of_getElem? (i := 7) rfl)) (hw _ (List.mem_of_getElem? (i := 3) rfl)) (by decide) (by decide)) (g := (mkF m 20 #[.val (.int p1), .val (.int p2), .val (.int p3), .val (.int p4), .val (.int p5), .val (.int p6)] [(.int p6), (.int p3)])) rfl (by rw [hml]; rfl) (argsL := [(.int p3), (.int p6)]) (rest := []) (lenOf pd_kp_0 rfl) rfl (by show 2 * 0 + _ ≤ _; exact Nat.le_of_eq rfl) (hb hby d_kp_20) (fun _ _ => ⟨rfl, e5, (by decide : 0 + 0 ≤ _), (by decide : 0 + 0 ≤ _)⟩)
      dsimp only [Pt.U, Pt.locs, Pt.cells, Pt.slots] at X9 l9 y9 z9 st9 hQ9
      subst l9 y9 z9
      obtain ⟨rfl, N9q, e9⟩ := hQ9
      have N9 := Fr.app N5 N9q
      have pr12 : ∀ t, Steps p.tables e below (T9.setTop (mkF m 23 #[.val (.int p1), .val (.int p2), .val (.int p3), .val (.int p4), .val (.int p5), .val (.int p6)] [(.int (own_b (own_bd p3 p6)))])) t → Steps p.tables e below (s₁.setTop (entryFrame m #[(.int p1), (.int p2), (.int p3), (.int p4), (.int p5), (.int p6)] 6)) t := fun t kt => pr10 t (by
        refine st9 _ ?_
        exact kt)
      by_cases hc23_11 : (own_bd p3 p6) = true
      · have pr14 : ∀ t, Steps p.tables e below (T9.setTop (mkF m 31 #[.val (.int p1), .val (.int p2), .val (.int p3), .val (.int p4), .val (.int p5), .val (.int p6)] [(.int p5), (.int p2), (.int p4), (.int p1)])) t → Steps p.tables e below (s₁.setTop (entryFrame m #[(.int p1), (.int p2), (.int p3), (.int p4), (.int p5), (.int p6)] 6)) t := fun t kt => pr12 t (by
          show Steps p.tables e below (T9.setTop (mkF m 23 #[.val (.int p1), .val (.int p2), .val (.int p3), .val (.int p4), .val (.int p5), .val (.int p6)] [(.int (own_b (own_bd p3 p6)))])) _
          refine XS.ifNo X9.here hx rfl (hb hby d_kp_23) rfl ((if0 _ _).trans (feq (own_b1 hc23_11)).1) ?_
          show Steps p.tables e below (T9.setTop (mkF m 26 #[.val (.int p1), .val (.int p2), .val (.int p3), .val (.int p4), .val (.int p5), .val (.int p6)] [])) _
          refine XS.iloadN X9.here hx rfl (hb hby d_kp_26) rfl ?_
          show Steps p.tables e below (T9.setTop (mkF m 27 #[.val (.int p1), .val (.int p2), .val (.int p3), .val (.int p4), .val (.int p5), .val (.int p6)] [(.int p1)])) _
          refine XS.iloadN X9.here hx rfl (hb hby d_kp_27) rfl ?_
          show Steps p.tables e below (T9.setTop (mkF m 28 #[.val (.int p1), .val (.int p2), .val (.int p3), .val (.int p4), .val (.int p5), .val (.int p6)] [(.int p4), (.int p1)])) _
          refine XS.iloadN X9.here hx rfl (hb hby d_kp_28) rfl ?_
          show Steps p.tables e below (T9.setTop (mkF m 29 #[.val (.int p1), .val (.int p2), .val (.int p3), .val (.int p4), .val (.int p5), .val (.int p6)] [(.int p2), (.int p4), (.int p1)])) _
          refine XS.iload X9.here hx rfl (hb hby d_kp_29) rfl ?_
          show Steps p.tables e below (T9.setTop (mkF m 31 #[.val (.int p1), .val (.int p2), .val (.int p3), .val (.int p4), .val (.int p5), .val (.int p6)] [(.int p5), (.int p2), (.int p4), (.int p1)])) _
          exact kt)
        obtain ⟨_, _, ⟨T13, L13, k13, n13⟩, -, X13, ⟨Lc13, hQ13, l13, y13, z13⟩, st13⟩ := Jvm.LawKit.callS X9 hx (y := (⟨"com/example/term_unifier/termunifier/service/DiophantineBasisMayGrowPinLaw", "agree", "(IIII)Z"⟩ : MethodName)) hown (mvT hZ (hw _ (List.mem_of_getElem? (i := 8) rfl))) (mvT hZ (hw _ (List.mem_of_getElem? (i := 9) rfl))) (mvT hZ (hw _ (List.mem_of_getElem? (i := 3) rfl))) (mvT hZ (hw _ (List.mem_of_getElem? (i := 10) rfl))) (by decide) (backOf (W := 0) (rm_ag l Z a0 hw [] p1 p4 p2 p5 h0 n0 Z0 ) hZ (hw _ (List.mem_of_getElem? (i := 10) rfl)) (hw _ (List.mem_of_getElem? (i := 3) rfl)) (by decide) (by decide)) (g := (mkF m 31 #[.val (.int p1), .val (.int p2), .val (.int p3), .val (.int p4), .val (.int p5), .val (.int p6)] [(.int p5), (.int p2), (.int p4), (.int p1)])) rfl (by rw [hml]; rfl) (argsL := [(.int p1), (.int p4), (.int p2), (.int p5)]) (rest := []) (lenOf pd_kp_1 rfl) rfl (by show 2 * 0 + _ ≤ _; exact Nat.le_of_eq rfl) (hb hby d_kp_31) (fun _ _ => ⟨rfl, e9, (by decide : 0 + 0 ≤ _), (by decide : 0 + 0 ≤ _)⟩)
        dsimp only [Pt.U, Pt.locs, Pt.cells, Pt.slots] at X13 l13 y13 z13 st13 hQ13
        subst l13 y13 z13
        obtain ⟨rfl, N13q, e13⟩ := hQ13
        have N13 := Fr.app N9 N13q
        have pr16 : ∀ t, Steps p.tables e below (T13.setTop (mkF m 34 #[.val (.int p1), .val (.int p2), .val (.int p3), .val (.int p4), .val (.int p5), .val (.int p6)] [(.int (own_b (own_ag p1 p4 p2 p5)))])) t → Steps p.tables e below (s₁.setTop (entryFrame m #[(.int p1), (.int p2), (.int p3), (.int p4), (.int p5), (.int p6)] 6)) t := fun t kt => pr14 t (by
          refine st13 _ ?_
          exact kt)
        by_cases hc34_15 : (own_ag p1 p4 p2 p5) = true
        · have pr18 : ∀ t, Steps p.tables e below (T13.setTop (mkF m 42 #[.val (.int p1), .val (.int p2), .val (.int p3), .val (.int p4), .val (.int p5), .val (.int p6)] [(.int p6), (.int p3), (.int p4), (.int p1)])) t → Steps p.tables e below (s₁.setTop (entryFrame m #[(.int p1), (.int p2), (.int p3), (.int p4), (.int p5), (.int p6)] 6)) t := fun t kt => pr16 t (by
            show Steps p.tables e below (T13.setTop (mkF m 34 #[.val (.int p1), .val (.int p2), .val (.int p3), .val (.int p4), .val (.int p5), .val (.int p6)] [(.int (own_b (own_ag p1 p4 p2 p5)))])) _
            refine XS.ifNo X13.here hx rfl (hb hby d_kp_34) rfl ((if0 _ _).trans (feq (own_b1 hc34_15)).1) ?_
            show Steps p.tables e below (T13.setTop (mkF m 37 #[.val (.int p1), .val (.int p2), .val (.int p3), .val (.int p4), .val (.int p5), .val (.int p6)] [])) _
            refine XS.iloadN X13.here hx rfl (hb hby d_kp_37) rfl ?_
            show Steps p.tables e below (T13.setTop (mkF m 38 #[.val (.int p1), .val (.int p2), .val (.int p3), .val (.int p4), .val (.int p5), .val (.int p6)] [(.int p1)])) _
            refine XS.iloadN X13.here hx rfl (hb hby d_kp_38) rfl ?_
            show Steps p.tables e below (T13.setTop (mkF m 39 #[.val (.int p1), .val (.int p2), .val (.int p3), .val (.int p4), .val (.int p5), .val (.int p6)] [(.int p4), (.int p1)])) _
            refine XS.iloadN X13.here hx rfl (hb hby d_kp_39) rfl ?_
            show Steps p.tables e below (T13.setTop (mkF m 40 #[.val (.int p1), .val (.int p2), .val (.int p3), .val (.int p4), .val (.int p5), .val (.int p6)] [(.int p3), (.int p4), (.int p1)])) _
            refine XS.iload X13.here hx rfl (hb hby d_kp_40) rfl ?_
            show Steps p.tables e below (T13.setTop (mkF m 42 #[.val (.int p1), .val (.int p2), .val (.int p3), .val (.int p4), .val (.int p5), .val (.int p6)] [(.int p6), (.int p3), (.int p4), (.int p1)])) _
            exact kt)
          obtain ⟨_, _, ⟨T17, L17, k17, n17⟩, -, X17, ⟨Lc17, hQ17, l17, y17, z17⟩, st17⟩ := Jvm.LawKit.callS X13 hx (y := (⟨"com/example/term_unifier/termunifier/service/DiophantineBasisMayGrowPinLaw", "agree", "(IIII)Z"⟩ : MethodName)) hown (mvT hZ (hw _ (List.mem_of_getElem? (i := 8) rfl))) (mvT hZ (hw _ (List.mem_of_getElem? (i := 9) rfl))) (mvT hZ (hw _ (List.mem_of_getElem? (i := 3) rfl))) (mvT hZ (hw _ (List.mem_of_getElem? (i := 10) rfl))) (by decide) (backOf (W := 0) (rm_ag l Z a0 hw [] p1 p4 p3 p6 h0 n0 Z0 ) hZ (hw _ (List.mem_of_getElem? (i := 10) rfl)) (hw _ (List.mem_of_getElem? (i := 3) rfl)) (by decide) (by decide)) (g := (mkF m 42 #[.val (.int p1), .val (.int p2), .val (.int p3), .val (.int p4), .val (.int p5), .val (.int p6)] [(.int p6), (.int p3), (.int p4), (.int p1)])) rfl (by rw [hml]; rfl) (argsL := [(.int p1), (.int p4), (.int p3), (.int p6)]) (rest := []) (lenOf pd_kp_1 rfl) rfl (by show 2 * 0 + _ ≤ _; exact Nat.le_of_eq rfl) (hb hby d_kp_42) (fun _ _ => ⟨rfl, e13, (by decide : 0 + 0 ≤ _), (by decide : 0 + 0 ≤ _)⟩)
          dsimp only [Pt.U, Pt.locs, Pt.cells, Pt.slots] at X17 l17 y17 z17 st17 hQ17
          subst l17 y17 z17
          obtain ⟨rfl, N17q, e17⟩ := hQ17
          have N17 := Fr.app N13 N17q
          have pr20 : ∀ t, Steps p.tables e below (T17.setTop (mkF m 45 #[.val (.int p1), .val (.int p2), .val (.int p3), .val (.int p4), .val (.int p5), .val (.int p6)] [(.int (own_b (own_ag p1 p4 p3 p6)))])) t → Steps p.tables e below (s₁.setTop (entryFrame m #[(.int p1), (.int p2), (.int p3), (.int p4), (.int p5), (.int p6)] 6)) t := fun t kt => pr18 t (by
            refine st17 _ ?_
            exact kt)
          by_cases hc45_19 : (own_ag p1 p4 p3 p6) = true
          · have pr22 : ∀ t, Steps p.tables e below (T17.setTop (mkF m 54 #[.val (.int p1), .val (.int p2), .val (.int p3), .val (.int p4), .val (.int p5), .val (.int p6)] [(.int p6), (.int p3), (.int p5), (.int p2)])) t → Steps p.tables e below (s₁.setTop (entryFrame m #[(.int p1), (.int p2), (.int p3), (.int p4), (.int p5), (.int p6)] 6)) t := fun t kt => pr20 t (by
              show Steps p.tables e below (T17.setTop (mkF m 45 #[.val (.int p1), .val (.int p2), .val (.int p3), .val (.int p4), .val (.int p5), .val (.int p6)] [(.int (own_b (own_ag p1 p4 p3 p6)))])) _
              refine XS.ifNo X17.here hx rfl (hb hby d_kp_45) rfl ((if0 _ _).trans (feq (own_b1 hc45_19)).1) ?_
              show Steps p.tables e below (T17.setTop (mkF m 48 #[.val (.int p1), .val (.int p2), .val (.int p3), .val (.int p4), .val (.int p5), .val (.int p6)] [])) _
              refine XS.iloadN X17.here hx rfl (hb hby d_kp_48) rfl ?_
              show Steps p.tables e below (T17.setTop (mkF m 49 #[.val (.int p1), .val (.int p2), .val (.int p3), .val (.int p4), .val (.int p5), .val (.int p6)] [(.int p2)])) _
              refine XS.iload X17.here hx rfl (hb hby d_kp_49) rfl ?_
              show Steps p.tables e below (T17.setTop (mkF m 51 #[.val (.int p1), .val (.int p2), .val (.int p3), .val (.int p4), .val (.int p5), .val (.int p6)] [(.int p5), (.int p2)])) _
              refine XS.iloadN X17.here hx rfl (hb hby d_kp_51) rfl ?_
              show Steps p.tables e below (T17.setTop (mkF m 52 #[.val (.int p1), .val (.int p2), .val (.int p3), .val (.int p4), .val (.int p5), .val (.int p6)] [(.int p3), (.int p5), (.int p2)])) _
              refine XS.iload X17.here hx rfl (hb hby d_kp_52) rfl ?_
              show Steps p.tables e below (T17.setTop (mkF m 54 #[.val (.int p1), .val (.int p2), .val (.int p3), .val (.int p4), .val (.int p5), .val (.int p6)] [(.int p6), (.int p3), (.int p5), (.int p2)])) _
              exact kt)
            obtain ⟨_, _, ⟨T21, L21, k21, n21⟩, -, X21, ⟨Lc21, hQ21, l21, y21, z21⟩, st21⟩ := Jvm.LawKit.callS X17 hx (y := (⟨"com/example/term_unifier/termunifier/service/DiophantineBasisMayGrowPinLaw", "agree", "(IIII)Z"⟩ : MethodName)) hown (mvT hZ (hw _ (List.mem_of_getElem? (i := 8) rfl))) (mvT hZ (hw _ (List.mem_of_getElem? (i := 9) rfl))) (mvT hZ (hw _ (List.mem_of_getElem? (i := 3) rfl))) (mvT hZ (hw _ (List.mem_of_getElem? (i := 10) rfl))) (by decide) (backOf (W := 0) (rm_ag l Z a0 hw [] p2 p5 p3 p6 h0 n0 Z0 ) hZ (hw _ (List.mem_of_getElem? (i := 10) rfl)) (hw _ (List.mem_of_getElem? (i := 3) rfl)) (by decide) (by decide)) (g := (mkF m 54 #[.val (.int p1), .val (.int p2), .val (.int p3), .val (.int p4), .val (.int p5), .val (.int p6)] [(.int p6), (.int p3), (.int p5), (.int p2)])) rfl (by rw [hml]; rfl) (argsL := [(.int p2), (.int p5), (.int p3), (.int p6)]) (rest := []) (lenOf pd_kp_1 rfl) rfl (by show 2 * 0 + _ ≤ _; exact Nat.le_of_eq rfl) (hb hby d_kp_54) (fun _ _ => ⟨rfl, e17, (by decide : 0 + 0 ≤ _), (by decide : 0 + 0 ≤ _)⟩)
            dsimp only [Pt.U, Pt.locs, Pt.cells, Pt.slots] at X21 l21 y21 z21 st21 hQ21
            subst l21 y21 z21
            obtain ⟨rfl, N21q, e21⟩ := hQ21
            have N21 := Fr.app N17 N21q
            have pr24 : ∀ t, Steps p.tables e below (T21.setTop (mkF m 57 #[.val (.int p1), .val (.int p2), .val (.int p3), .val (.int p4), .val (.int p5), .val (.int p6)] [(.int (own_b (own_ag p2 p5 p3 p6)))])) t → Steps p.tables e below (s₁.setTop (entryFrame m #[(.int p1), (.int p2), (.int p3), (.int p4), (.int p5), (.int p6)] 6)) t := fun t kt => pr22 t (by
              refine st21 _ ?_
              exact kt)
            by_cases hc57_23 : (own_ag p2 p5 p3 p6) = true
            · obtain ⟨fs, hr, hrun, hended, hW, hsame⟩ := X21.leave (v := some (.int (nar .boolean (1 : Int32)))) (fun h => by rw [Bd.returns] at h; cases h)
              refine ⟨_, _, pr24 _ ?_, hrun, hended, _, _, rfl, ?_, ⟨_, rfl⟩, hW, hsame.mono (by decide) (by decide)⟩
              · show Steps p.tables e below (T21.setTop (mkF m 57 #[.val (.int p1), .val (.int p2), .val (.int p3), .val (.int p4), .val (.int p5), .val (.int p6)] [(.int (own_b (own_ag p2 p5 p3 p6)))])) _
                refine XS.ifNo X21.here hx rfl (hb hby d_kp_57) rfl ((if0 _ _).trans (feq (own_b1 hc57_23)).1) ?_
                show Steps p.tables e below (T21.setTop (mkF m 60 #[.val (.int p1), .val (.int p2), .val (.int p3), .val (.int p4), .val (.int p5), .val (.int p6)] [])) _
                refine XS.iconst X21.here hx rfl (hb hby d_kp_60) ?_
                show Steps p.tables e below (T21.setTop (mkF m 61 #[.val (.int p1), .val (.int p2), .val (.int p3), .val (.int p4), .val (.int p5), .val (.int p6)] [(.int (1 : Int32))])) _
                refine XS.goto X21.here hx rfl (pc0 := 61) (pc' := 65) rfl (hb hby d_kp_61) (by decide) (by decide) ?_
                show Steps p.tables e below (T21.setTop (mkF m 65 #[.val (.int p1), .val (.int p2), .val (.int p3), .val (.int p4), .val (.int p5), .val (.int p6)] [(.int (1 : Int32))])) _
                exact retN X21 hx (t := .boolean) Bd.returns (by simp) (hb hby d_kp_65) hr
              · show Q_kp Z p1 p2 p3 p4 p5 p6 h0 n0 _ T21.heap _
                rw [e21]
                exact ⟨(congrArg (fun zz => some (Value.int zz)) (by rw [show own_kp p1 p2 p3 p4 p5 p6 = true from by simp [own_kp, hc5_3, hc14_7, hc23_11, hc34_15, hc45_19, hc57_23]]; rfl : nar .boolean (1 : Int32) = (own_b (own_kp p1 p2 p3 p4 p5 p6)))), N21, rfl⟩
            · obtain ⟨fs, hr, hrun, hended, hW, hsame⟩ := X21.leave (v := some (.int (nar .boolean (0 : Int32)))) (fun h => by rw [Bd.returns] at h; cases h)
              refine ⟨_, _, pr24 _ ?_, hrun, hended, _, _, rfl, ?_, ⟨_, rfl⟩, hW, hsame.mono (by decide) (by decide)⟩
              · show Steps p.tables e below (T21.setTop (mkF m 57 #[.val (.int p1), .val (.int p2), .val (.int p3), .val (.int p4), .val (.int p5), .val (.int p6)] [(.int (own_b (own_ag p2 p5 p3 p6)))])) _
                refine XS.ifYes X21.here hx rfl (pc0 := 57) (pc' := 64) rfl (hb hby d_kp_57) rfl ((if0 _ _).trans (teq (own_b0 hc57_23)).1) (by decide) (by decide) ?_
                show Steps p.tables e below (T21.setTop (mkF m 64 #[.val (.int p1), .val (.int p2), .val (.int p3), .val (.int p4), .val (.int p5), .val (.int p6)] [])) _
                refine XS.iconst X21.here hx rfl (hb hby d_kp_64) ?_
                show Steps p.tables e below (T21.setTop (mkF m 65 #[.val (.int p1), .val (.int p2), .val (.int p3), .val (.int p4), .val (.int p5), .val (.int p6)] [(.int (0 : Int32))])) _
                exact retN X21 hx (t := .boolean) Bd.returns (by simp) (hb hby d_kp_65) hr
              · show Q_kp Z p1 p2 p3 p4 p5 p6 h0 n0 _ T21.heap _
                rw [e21]
                exact ⟨(congrArg (fun zz => some (Value.int zz)) (by rw [show own_kp p1 p2 p3 p4 p5 p6 = false from by simp [own_kp, hc5_3, hc14_7, hc23_11, hc34_15, hc45_19, hc57_23]]; rfl : nar .boolean (0 : Int32) = (own_b (own_kp p1 p2 p3 p4 p5 p6)))), N21, rfl⟩
          · obtain ⟨fs, hr, hrun, hended, hW, hsame⟩ := X17.leave (v := some (.int (nar .boolean (0 : Int32)))) (fun h => by rw [Bd.returns] at h; cases h)
            refine ⟨_, _, pr20 _ ?_, hrun, hended, _, _, rfl, ?_, ⟨_, rfl⟩, hW, hsame.mono (by decide) (by decide)⟩
            · show Steps p.tables e below (T17.setTop (mkF m 45 #[.val (.int p1), .val (.int p2), .val (.int p3), .val (.int p4), .val (.int p5), .val (.int p6)] [(.int (own_b (own_ag p1 p4 p3 p6)))])) _
              refine XS.ifYes X17.here hx rfl (pc0 := 45) (pc' := 64) rfl (hb hby d_kp_45) rfl ((if0 _ _).trans (teq (own_b0 hc45_19)).1) (by decide) (by decide) ?_
              show Steps p.tables e below (T17.setTop (mkF m 64 #[.val (.int p1), .val (.int p2), .val (.int p3), .val (.int p4), .val (.int p5), .val (.int p6)] [])) _
              refine XS.iconst X17.here hx rfl (hb hby d_kp_64) ?_
              show Steps p.tables e below (T17.setTop (mkF m 65 #[.val (.int p1), .val (.int p2), .val (.int p3), .val (.int p4), .val (.int p5), .val (.int p6)] [(.int (0 : Int32))])) _
              exact retN X17 hx (t := .boolean) Bd.returns (by simp) (hb hby d_kp_65) hr
            · show Q_kp Z p1 p2 p3 p4 p5 p6 h0 n0 _ T17.heap _
              rw [e17]
              exact ⟨(congrArg (fun zz => some (Value.int zz)) (by rw [show own_kp p1 p2 p3 p4 p5 p6 = false from by simp [own_kp, hc5_3, hc14_7, hc23_11, hc34_15, hc45_19]]; rfl : nar .boolean (0 : Int32) = (own_b (own_kp p1 p2 p3 p4 p5 p6)))), N17, rfl⟩
        · obtain ⟨fs, hr, hrun, hended, hW, hsame⟩ := X13.leave (v := some (.int (nar .boolean (0 : Int32)))) (fun h => by rw [Bd.returns] at h; cases h)
          refine ⟨_, _, pr16 _ ?_, hrun, hended, _, _, rfl, ?_, ⟨_, rfl⟩, hW, hsame.mono (by decide) (by decide)⟩
          · show Steps p.tables e below (T13.setTop (mkF m 34 #[.val (.int p1), .val (.int p2), .val (.int p3), .val (.int p4), .val (.int p5), .val (.int p6)] [(.int (own_b (own_ag p1 p4 p2 p5)))])) _
            refine XS.ifYes X13.here hx rfl (pc0 := 34) (pc' := 64) rfl (hb hby d_kp_34) rfl ((if0 _ _).trans (teq (own_b0 hc34_15)).1) (by decide) (by decide) ?_
            show Steps p.tables e below (T13.setTop (mkF m 64 #[.val (.int p1), .val (.int p2), .val (.int p3), .val (.int p4), .val (.int p5), .val (.int p6)] [])) _
            refine XS.iconst X13.here hx rfl (hb hby d_kp_64) ?_
            show Steps p.tables e below (T13.setTop (mkF m 65 #[.val (.int p1), .val (.int p2), .val (.int p3), .val (.int p4), .val (.int p5), .val (.int p6)] [(.int (0 : Int32))])) _
            exact retN X13 hx (t := .boolean) Bd.returns (by simp) (hb hby d_kp_65) hr
          · show Q_kp Z p1 p2 p3 p4 p5 p6 h0 n0 _ T13.heap _
            rw [e13]
            exact ⟨(congrArg (fun zz => some (Value.int zz)) (by rw [show own_kp p1 p2 p3 p4 p5 p6 = false from by simp [own_kp, hc5_3, hc14_7, hc23_11, hc34_15]]; rfl : nar .boolean (0 : Int32) = (own_b (own_kp p1 p2 p3 p4 p5 p6)))), N13, rfl⟩
      · obtain ⟨fs, hr, hrun, hended, hW, hsame⟩ := X9.leave (v := some (.int (nar .boolean (0 : Int32)))) (fun h => by rw [Bd.returns] at h; cases h)
        refine ⟨_, _, pr12 _ ?_, hrun, hended, _, _, rfl, ?_, ⟨_, rfl⟩, hW, hsame.mono (by decide) (by decide)⟩
        · show Steps p.tables e below (T9.setTop (mkF m 23 #[.val (.int p1), .val (.int p2), .val (.int p3), .val (.int p4), .val (.int p5), .val (.int p6)] [(.int (own_b (own_bd p3 p6)))])) _
          refine XS.ifYes X9.here hx rfl (pc0 := 23) (pc' := 64) rfl (hb hby d_kp_23) rfl ((if0 _ _).trans (teq (own_b0 hc23_11)).1) (by decide) (by decide) ?_
          show Steps p.tables e below (T9.setTop (mkF m 64 #[.val (.int p1), .val (.int p2), .val (.int p3), .val (.int p4), .val (.int p5), .val (.int p6)] [])) _
          refine XS.iconst X9.here hx rfl (hb hby d_kp_64) ?_
          show Steps p.tables e below (T9.setTop (mkF m 65 #[.val (.int p1), .val (.int p2), .val (.int p3), .val (.int p4), .val (.int p5), .val (.int p6)] [(.int (0 : Int32))])) _
          exact retN X9 hx (t := .boolean) Bd.returns (by simp) (hb hby d_kp_65) hr
        · show Q_kp Z p1 p2 p3 p4 p5 p6 h0 n0 _ T9.heap _
          rw [e9]
          exact ⟨(congrArg (fun zz => some (Value.int zz)) (by rw [show own_kp p1 p2 p3 p4 p5 p6 = false from by simp [own_kp, hc5_3, hc14_7, hc23_11]]; rfl : nar .boolean (0 : Int32) = (own_b (own_kp p1 p2 p3 p4 p5 p6)))), N9, rfl⟩
    · obtain ⟨fs, hr, hrun, hended, hW, hsame⟩ := X5.leave (v := some (.int (nar .boolean (0 : Int32)))) (fun h => by rw [Bd.returns] at h; cases h)
      refine ⟨_, _, pr8 _ ?_, hrun, hended, _, _, rfl, ?_, ⟨_, rfl⟩, hW, hsame.mono (by decide) (by decide)⟩
      · show Steps p.tables e below (T5.setTop (mkF m 14 #[.val (.int p1), .val (.int p2), .val (.int p3), .val (.int p4), .val (.int p5), .val (.int p6)] [(.int (own_b (own_bd p2 p5)))])) _
        refine XS.ifYes X5.here hx rfl (pc0 := 14) (pc' := 64) rfl (hb hby d_kp_14) rfl ((if0 _ _).trans (teq (own_b0 hc14_7)).1) (by decide) (by decide) ?_
        show Steps p.tables e below (T5.setTop (mkF m 64 #[.val (.int p1), .val (.int p2), .val (.int p3), .val (.int p4), .val (.int p5), .val (.int p6)] [])) _
        refine XS.iconst X5.here hx rfl (hb hby d_kp_64) ?_
        show Steps p.tables e below (T5.setTop (mkF m 65 #[.val (.int p1), .val (.int p2), .val (.int p3), .val (.int p4), .val (.int p5), .val (.int p6)] [(.int (0 : Int32))])) _
        exact retN X5 hx (t := .boolean) Bd.returns (by simp) (hb hby d_kp_65) hr
      · show Q_kp Z p1 p2 p3 p4 p5 p6 h0 n0 _ T5.heap _
        rw [e5]
        exact ⟨(congrArg (fun zz => some (Value.int zz)) (by rw [show own_kp p1 p2 p3 p4 p5 p6 = false from by simp [own_kp, hc5_3, hc14_7]]; rfl : nar .boolean (0 : Int32) = (own_b (own_kp p1 p2 p3 p4 p5 p6)))), N5, rfl⟩
  · obtain ⟨fs, hr, hrun, hended, hW, hsame⟩ := X1.leave (v := some (.int (nar .boolean (0 : Int32)))) (fun h => by rw [Bd.returns] at h; cases h)
    refine ⟨_, _, pr4 _ ?_, hrun, hended, _, _, rfl, ?_, ⟨_, rfl⟩, hW, hsame.mono (by decide) (by decide)⟩
    · show Steps p.tables e below (T1.setTop (mkF m 5 #[.val (.int p1), .val (.int p2), .val (.int p3), .val (.int p4), .val (.int p5), .val (.int p6)] [(.int (own_b (own_bd p1 p4)))])) _
      refine XS.ifYes X1.here hx rfl (pc0 := 5) (pc' := 64) rfl (hb hby d_kp_5) rfl ((if0 _ _).trans (teq (own_b0 hc5_3)).1) (by decide) (by decide) ?_
      show Steps p.tables e below (T1.setTop (mkF m 64 #[.val (.int p1), .val (.int p2), .val (.int p3), .val (.int p4), .val (.int p5), .val (.int p6)] [])) _
      refine XS.iconst X1.here hx rfl (hb hby d_kp_64) ?_
      show Steps p.tables e below (T1.setTop (mkF m 65 #[.val (.int p1), .val (.int p2), .val (.int p3), .val (.int p4), .val (.int p5), .val (.int p6)] [(.int (0 : Int32))])) _
      exact retN X1 hx (t := .boolean) Bd.returns (by simp) (hb hby d_kp_65) hr
    · show Q_kp Z p1 p2 p3 p4 p5 p6 h0 n0 _ T1.heap _
      rw [e1]
      exact ⟨(congrArg (fun zz => some (Value.int zz)) (by rw [show own_kp p1 p2 p3 p4 p5 p6 = false from by simp [own_kp, hc5_3]]; rfl : nar .boolean (0 : Int32) = (own_b (own_kp p1 p2 p3 p4 p5 p6)))), N1, rfl⟩
theorem d_mg_0 : decode prog_25_method_4_code 0 = .ok (.aload_n 2, 1) := by decide +kernel
theorem d_mg_1 : decode prog_25_method_4_code 1 = .ok (.iload_n 1, 1) := by decide +kernel
theorem d_mg_2 : decode prog_25_method_4_code 2 = .ok (.iaload, 1) := by decide +kernel
theorem d_mg_3 : decode prog_25_method_4_code 3 = .ok (.iconst (-1), 1) := by decide +kernel
theorem d_mg_4 : decode prog_25_method_4_code 4 = .ok (.if_icmp .ne 5, 3) := by decide +kernel
theorem d_mg_7 : decode prog_25_method_4_code 7 = .ok (.iconst 1, 1) := by decide +kernel
theorem d_mg_8 : decode prog_25_method_4_code 8 = .ok (.ireturn, 1) := by decide +kernel
theorem d_mg_9 : decode prog_25_method_4_code 9 = .ok (.aload_n 0, 1) := by decide +kernel
theorem d_mg_10 : decode prog_25_method_4_code 10 = .ok (.iload_n 1, 1) := by decide +kernel
theorem d_mg_11 : decode prog_25_method_4_code 11 = .ok (.iaload, 1) := by decide +kernel
theorem d_mg_12 : decode prog_25_method_4_code 12 = .ok (.ifCond .ne 7, 3) := by decide +kernel
theorem d_mg_15 : decode prog_25_method_4_code 15 = .ok (.iconst 1, 1) := by decide +kernel
theorem d_mg_16 : decode prog_25_method_4_code 16 = .ok (.goto 4, 3) := by decide +kernel
theorem d_mg_19 : decode prog_25_method_4_code 19 = .ok (.iconst 0, 1) := by decide +kernel
theorem d_mg_20 : decode prog_25_method_4_code 20 = .ok (.istore_n 3, 1) := by decide +kernel
theorem d_mg_21 : decode prog_25_method_4_code 21 = .ok (.iconst 0, 1) := by decide +kernel
theorem d_mg_22 : decode prog_25_method_4_code 22 = .ok (.istore 4, 2) := by decide +kernel
theorem d_mg_24 : decode prog_25_method_4_code 24 = .ok (.iload 4, 2) := by decide +kernel
theorem d_mg_26 : decode prog_25_method_4_code 26 = .ok (.aload_n 0, 1) := by decide +kernel
theorem d_mg_27 : decode prog_25_method_4_code 27 = .ok (.arraylength, 1) := by decide +kernel
theorem d_mg_28 : decode prog_25_method_4_code 28 = .ok (.if_icmp .ge 44, 3) := by decide +kernel
theorem d_mg_31 : decode prog_25_method_4_code 31 = .ok (.iload_n 3, 1) := by decide +kernel
theorem d_mg_32 : decode prog_25_method_4_code 32 = .ok (.ifCond .eq 40, 3) := by decide +kernel
theorem d_mg_35 : decode prog_25_method_4_code 35 = .ok (.aload_n 0, 1) := by decide +kernel
theorem d_mg_36 : decode prog_25_method_4_code 36 = .ok (.iload 4, 2) := by decide +kernel
theorem d_mg_38 : decode prog_25_method_4_code 38 = .ok (.iaload, 1) := by decide +kernel
theorem d_mg_39 : decode prog_25_method_4_code 39 = .ok (.ifCond .eq 21, 3) := by decide +kernel
theorem d_mg_42 : decode prog_25_method_4_code 42 = .ok (.aload_n 2, 1) := by decide +kernel
theorem d_mg_43 : decode prog_25_method_4_code 43 = .ok (.iload 4, 2) := by decide +kernel
theorem d_mg_45 : decode prog_25_method_4_code 45 = .ok (.iaload, 1) := by decide +kernel
theorem d_mg_46 : decode prog_25_method_4_code 46 = .ok (.iconst (-1), 1) := by decide +kernel
theorem d_mg_47 : decode prog_25_method_4_code 47 = .ok (.if_icmp .eq 13, 3) := by decide +kernel
theorem d_mg_50 : decode prog_25_method_4_code 50 = .ok (.aload_n 2, 1) := by decide +kernel
theorem d_mg_51 : decode prog_25_method_4_code 51 = .ok (.iload 4, 2) := by decide +kernel
theorem d_mg_53 : decode prog_25_method_4_code 53 = .ok (.iaload, 1) := by decide +kernel
theorem d_mg_54 : decode prog_25_method_4_code 54 = .ok (.aload_n 2, 1) := by decide +kernel
theorem d_mg_55 : decode prog_25_method_4_code 55 = .ok (.iload_n 1, 1) := by decide +kernel
theorem d_mg_56 : decode prog_25_method_4_code 56 = .ok (.iaload, 1) := by decide +kernel
theorem d_mg_57 : decode prog_25_method_4_code 57 = .ok (.if_icmp .ne 7, 3) := by decide +kernel
theorem d_mg_60 : decode prog_25_method_4_code 60 = .ok (.iconst 1, 1) := by decide +kernel
theorem d_mg_61 : decode prog_25_method_4_code 61 = .ok (.goto 4, 3) := by decide +kernel
theorem d_mg_64 : decode prog_25_method_4_code 64 = .ok (.iconst 0, 1) := by decide +kernel
theorem d_mg_65 : decode prog_25_method_4_code 65 = .ok (.istore_n 3, 1) := by decide +kernel
theorem d_mg_66 : decode prog_25_method_4_code 66 = .ok (.iinc 4 1, 3) := by decide +kernel
theorem d_mg_69 : decode prog_25_method_4_code 69 = .ok (.goto (-45), 3) := by decide +kernel
theorem d_mg_72 : decode prog_25_method_4_code 72 = .ok (.iload_n 3, 1) := by decide +kernel
theorem d_mg_73 : decode prog_25_method_4_code 73 = .ok (.ireturn, 1) := by decide +kernel
theorem pn_mg : plainName "com/example/term_unifier/termunifier/service/DiophantineBasis" = true := by first | (simp [plainName, overriddenIn]; done) | decide +kernel
theorem ef_mg (m : MethodId) (a1 : Addr) (p2 : Int32) (a3 : Addr) : entryFrame m #[(.ref a1), (.int p2), (.ref a3)] 5 = mkF m 0 #[.val (.ref a1), .val (.int p2), .val (.ref a3), .unset, .unset] [] := by first | (simp [entryFrame, mkF, argsToLocals, Value.category]; done) | rfl
def Q_mg (Z : State) (a1 : Addr) (p2 : Int32) (a3 : Addr) (k1 : ClassId) (k3 : ClassId) (v0 : Int32) (v1 : Int32) (v2 : Int32) (c0 : Int32) (c1 : Int32) (c2 : Int32) (h0 : Heap) (n0 : Nat) (v : Option Value) (h : Heap) (L : List Loc) : Prop := v = some (.int (own_b (own_mg p2 v0 v1 v2 c0 c1 c2))) ∧ Fr n0 L ∧ h = h0
set_option maxRecDepth 65536 in
set_option maxHeartbeats 40000000 in
theorem rm_mg (l : Launch) (Z : State) (a0 : Array Value) (hw : ∀ d ∈ tables_1, d.before a0 Z = true) (ws : List Jvm.Cond) (a1 : Addr) (p2 : Int32) (a3 : Addr) (k1 : ClassId) (k3 : ClassId) (v0 : Int32) (v1 : Int32) (v2 : Int32) (c0 : Int32) (c1 : Int32) (c2 : Int32) (h0 : Heap) (n0 : Nat) (Z0 : n0 ≤ h0.size) (V1 : Arv Z h0 a1 k1 .int (3 : Int32) [(.int v0), (.int v1), (.int v2)] (.int (0 : Int32))) (V3 : Arv Z h0 a3 k3 .int (3 : Int32) [(.int c0), (.int c1), (.int c2)] (.int (0 : Int32))) (hp : p2 = 0 ∨ p2 = 1 ∨ p2 = 2) :
    MetFree l (⟨"com/example/term_unifier/termunifier/service/DiophantineBasis", "mayGrow", "([II[I)Z"⟩ : MethodName) (head1 (Jvm.Cond.code (⟨"com/example/term_unifier/termunifier/service/DiophantineBasis", "mayGrow", "([II[I)Z"⟩ : MethodName) prog_25_method_4_code 5 (some .boolean) :: ws) ({ frames := 0, cells := 0, slots := 0, locals := 0 } : Room)) (fun a U => a = #[(.ref a1), (.int p2), (.ref a3)] ∧ Z.Warmed39 U.vm ∧ U.heap = h0) (fun _ _ _ _ _ => True) (fun _ U o U' => ∃ v L, o = .returned v ∧ Q_mg Z a1 p2 a3 k1 k3 v0 v1 v2 c0 c1 c2 h0 n0 v U'.heap L ∧ FrameEnd U o U' L ({ frames := 0, cells := 0, slots := 0, locals := 0 } : Room).cells ({ frames := 0, cells := 0, slots := 0, locals := 0 } : Room).slots) := by
  refine MetFree.of_bodySF (plainFor_of_name pn_mg) hisR ?_
  intro p e s m args below meth c s₁ Bd hml0 hP hK
  obtain ⟨rfl, hZ, hh⟩ := hP
  have hx := Bd.exec
  have hby := Bd.bytes
  have hml : c.maxLocals = 5 := hml0
  have hown : s.vm.findClass "com/example/term_unifier/termunifier/service/DiophantineBasis" = some m.cls := findClass_of_methodNamed Bd.named
  have hnm := (name_of_methodNamed Bd.named Bd.method).1
  have X0 : Stand p l e ({ frames := 0, cells := 0, slots := 0, locals := 0 } : Room) s m #[(.ref a1), (.int p2), (.ref a3)] below meth c s₁ [] 0 0 := Stand.of_body Bd
  have e0 : s₁.heap = h0 := by rw [← hh, Bd.state]; rfl
  have N0 := Fr.nil n0
  have pre0 : ∀ t, Steps p.tables e below (s₁.setTop (mkF m 0 #[.val (.ref a1), .val (.int p2), .val (.ref a3), .unset, .unset] [])) t → Steps p.tables e below (s₁.setTop (entryFrame m #[(.ref a1), (.int p2), (.ref a3)] 5)) t := fun t k => castTop (ef_mg m a1 p2 a3) k
  obtain ⟨cl1, Ar1, q1, S1, M1, H1, G1⟩ := V1
  obtain ⟨cl3, Ar3, q3, S3, M3, H3, G3⟩ := V3
  have pr2 : ∀ t, Steps p.tables e below (s₁.setTop (mkF m 4 #[.val (.ref a1), .val (.int p2), .val (.ref a3), .unset, .unset] [(.int (-1 : Int32)), (.int (own_at p2 c0 c1 c2))])) t → Steps p.tables e below (s₁.setTop (entryFrame m #[(.ref a1), (.int p2), (.ref a3)] 5)) t := fun t kt => pre0 t (by
    show Steps p.tables e below (s₁.setTop (mkF m 0 #[.val (.ref a1), .val (.int p2), .val (.ref a3), .unset, .unset] [])) _
    refine XS.aloadN X0.here hx rfl (hb hby d_mg_0) rfl rfl ?_
    show Steps p.tables e below (s₁.setTop (mkF m 1 #[.val (.ref a1), .val (.int p2), .val (.ref a3), .unset, .unset] [(.ref a3)])) _
    refine XS.iloadN X0.here hx rfl (hb hby d_mg_1) rfl ?_
    show Steps p.tables e below (s₁.setTop (mkF m 2 #[.val (.ref a1), .val (.int p2), .val (.ref a3), .unset, .unset] [(.int p2), (.ref a3)])) _
    refine X0.iaload hx (j := p2) (v := (.int (own_at p2 c0 c1 c2))) (by rw [e0]; exact Ar3.1) (State.isArrayOf_alike hZ.alike Ar3.2.1) Ar3.2.2 (own_ld S3 H3 hp).1 (own_ld S3 H3 hp).2 (g := (mkF m 2 #[.val (.ref a1), .val (.int p2), .val (.ref a3), .unset, .unset] [(.int p2), (.ref a3)])) rfl rfl (hb hby d_mg_2) _ ?_
    show Steps p.tables e below (s₁.setTop (mkF m 3 #[.val (.ref a1), .val (.int p2), .val (.ref a3), .unset, .unset] [(.int (own_at p2 c0 c1 c2))])) _
    refine XS.iconst X0.here hx rfl (hb hby d_mg_3) ?_
    exact kt)
  by_cases hc4_1 : (own_at p2 c0 c1 c2) = (-1 : Int32)
  · obtain ⟨fs, hr, hrun, hended, hW, hsame⟩ := X0.leave (v := some (.int (nar .boolean (1 : Int32)))) (fun h => by rw [Bd.returns] at h; cases h)
    refine ⟨_, _, pr2 _ ?_, hrun, hended, _, _, rfl, ?_, ⟨_, rfl⟩, hW, hsame.mono (by decide) (by decide)⟩
    · show Steps p.tables e below (s₁.setTop (mkF m 4 #[.val (.ref a1), .val (.int p2), .val (.ref a3), .unset, .unset] [(.int (-1 : Int32)), (.int (own_at p2 c0 c1 c2))])) _
      refine XS.icmpNo X0.here hx rfl (hb hby d_mg_4) rfl (teq hc4_1).2 ?_
      show Steps p.tables e below (s₁.setTop (mkF m 7 #[.val (.ref a1), .val (.int p2), .val (.ref a3), .unset, .unset] [])) _
      refine XS.iconst X0.here hx rfl (hb hby d_mg_7) ?_
      show Steps p.tables e below (s₁.setTop (mkF m 8 #[.val (.ref a1), .val (.int p2), .val (.ref a3), .unset, .unset] [(.int (1 : Int32))])) _
      exact retN X0 hx (t := .boolean) Bd.returns (by simp) (hb hby d_mg_8) hr
    · show Q_mg Z a1 p2 a3 k1 k3 v0 v1 v2 c0 c1 c2 h0 n0 _ s₁.heap _
      rw [e0]
      exact ⟨(congrArg (fun zz => some (Value.int zz)) (by rw [show own_mg p2 v0 v1 v2 c0 c1 c2 = true from by simp [own_mg, hc4_1]]; rfl : nar .boolean (1 : Int32) = (own_b (own_mg p2 v0 v1 v2 c0 c1 c2)))), N0, rfl⟩
  · have sg3 : ∀ t, Steps p.tables e below (s₁.setTop (mkF m 20 #[.val (.ref a1), .val (.int p2), .val (.ref a3), .unset, .unset] [(.int (own_b (own_z (own_at p2 v0 v1 v2))))])) t → Steps p.tables e below (s₁.setTop (mkF m 9 #[.val (.ref a1), .val (.int p2), .val (.ref a3), .unset, .unset] [])) t := by
      intro t kt
      show Steps p.tables e below (s₁.setTop (mkF m 9 #[.val (.ref a1), .val (.int p2), .val (.ref a3), .unset, .unset] [])) _
      refine XS.aloadN X0.here hx rfl (hb hby d_mg_9) rfl rfl ?_
      show Steps p.tables e below (s₁.setTop (mkF m 10 #[.val (.ref a1), .val (.int p2), .val (.ref a3), .unset, .unset] [(.ref a1)])) _
      refine XS.iloadN X0.here hx rfl (hb hby d_mg_10) rfl ?_
      show Steps p.tables e below (s₁.setTop (mkF m 11 #[.val (.ref a1), .val (.int p2), .val (.ref a3), .unset, .unset] [(.int p2), (.ref a1)])) _
      refine X0.iaload hx (j := p2) (v := (.int (own_at p2 v0 v1 v2))) (by rw [e0]; exact Ar1.1) (State.isArrayOf_alike hZ.alike Ar1.2.1) Ar1.2.2 (own_ld S1 H1 hp).1 (own_ld S1 H1 hp).2 (g := (mkF m 11 #[.val (.ref a1), .val (.int p2), .val (.ref a3), .unset, .unset] [(.int p2), (.ref a1)])) rfl rfl (hb hby d_mg_11) _ ?_
      by_cases hc12_4 : (own_at p2 v0 v1 v2) = (0 : Int32)
      · show Steps p.tables e below (s₁.setTop (mkF m 12 #[.val (.ref a1), .val (.int p2), .val (.ref a3), .unset, .unset] [(.int (own_at p2 v0 v1 v2))])) _
        refine XS.ifNo X0.here hx rfl (hb hby d_mg_12) rfl ((if0 _ _).trans (teq hc12_4).2) ?_
        show Steps p.tables e below (s₁.setTop (mkF m 15 #[.val (.ref a1), .val (.int p2), .val (.ref a3), .unset, .unset] [])) _
        refine XS.iconst X0.here hx rfl (hb hby d_mg_15) ?_
        show Steps p.tables e below (s₁.setTop (mkF m 16 #[.val (.ref a1), .val (.int p2), .val (.ref a3), .unset, .unset] [(.int (1 : Int32))])) _
        refine XS.goto X0.here hx rfl (pc0 := 16) (pc' := 20) rfl (hb hby d_mg_16) (by decide) (by decide) ?_
        show Steps p.tables e below (s₁.setTop (mkF m 20 #[.val (.ref a1), .val (.int p2), .val (.ref a3), .unset, .unset] [(.int (1 : Int32))])) _
        refine castTop (congrArg (fun zz => (mkF m 20 #[.val (.ref a1), .val (.int p2), .val (.ref a3), .unset, .unset] [(.int zz)])) (by rw [show own_z (own_at p2 v0 v1 v2) = true from by simp [own_z, hc12_4]]; rfl : (1 : Int32) = (own_b (own_z (own_at p2 v0 v1 v2))))) ?_
        exact kt
      · show Steps p.tables e below (s₁.setTop (mkF m 12 #[.val (.ref a1), .val (.int p2), .val (.ref a3), .unset, .unset] [(.int (own_at p2 v0 v1 v2))])) _
        refine XS.ifYes X0.here hx rfl (pc0 := 12) (pc' := 19) rfl (hb hby d_mg_12) rfl ((if0 _ _).trans (feq hc12_4).2) (by decide) (by decide) ?_
        show Steps p.tables e below (s₁.setTop (mkF m 19 #[.val (.ref a1), .val (.int p2), .val (.ref a3), .unset, .unset] [])) _
        refine XS.iconst X0.here hx rfl (hb hby d_mg_19) ?_
        show Steps p.tables e below (s₁.setTop (mkF m 20 #[.val (.ref a1), .val (.int p2), .val (.ref a3), .unset, .unset] [(.int (0 : Int32))])) _
        refine castTop (congrArg (fun zz => (mkF m 20 #[.val (.ref a1), .val (.int p2), .val (.ref a3), .unset, .unset] [(.int zz)])) (by rw [show own_z (own_at p2 v0 v1 v2) = false from by simp [own_z, hc12_4]]; rfl : (0 : Int32) = (own_b (own_z (own_at p2 v0 v1 v2))))) ?_
        exact kt
    have pr6 : ∀ t, Steps p.tables e below (s₁.setTop (mkF m 32 #[.val (.ref a1), .val (.int p2), .val (.ref a3), .val (.int (own_b (own_z (own_at p2 v0 v1 v2)))), .val (.int (0 : Int32))] [(.int (own_b (own_z (own_at p2 v0 v1 v2))))])) t → Steps p.tables e below (s₁.setTop (entryFrame m #[(.ref a1), (.int p2), (.ref a3)] 5)) t := fun t kt => pr2 t (by
      show Steps p.tables e below (s₁.setTop (mkF m 4 #[.val (.ref a1), .val (.int p2), .val (.ref a3), .unset, .unset] [(.int (-1 : Int32)), (.int (own_at p2 c0 c1 c2))])) _
      refine XS.icmpYes X0.here hx rfl (pc0 := 4) (pc' := 9) rfl (hb hby d_mg_4) rfl (feq hc4_1).2 (by decide) (by decide) ?_
      show Steps p.tables e below (s₁.setTop (mkF m 9 #[.val (.ref a1), .val (.int p2), .val (.ref a3), .unset, .unset] [])) _
      refine sg3 _ ?_
      show Steps p.tables e below (s₁.setTop (mkF m 20 #[.val (.ref a1), .val (.int p2), .val (.ref a3), .unset, .unset] [(.int (own_b (own_z (own_at p2 v0 v1 v2))))])) _
      refine XS.istoreN X0.here hx rfl (hb hby d_mg_20) rfl (l' := #[.val (.ref a1), .val (.int p2), .val (.ref a3), .val (.int (own_b (own_z (own_at p2 v0 v1 v2)))), .unset]) rfl ?_
      show Steps p.tables e below (s₁.setTop (mkF m 21 #[.val (.ref a1), .val (.int p2), .val (.ref a3), .val (.int (own_b (own_z (own_at p2 v0 v1 v2)))), .unset] [])) _
      refine XS.iconst X0.here hx rfl (hb hby d_mg_21) ?_
      show Steps p.tables e below (s₁.setTop (mkF m 22 #[.val (.ref a1), .val (.int p2), .val (.ref a3), .val (.int (own_b (own_z (own_at p2 v0 v1 v2)))), .unset] [(.int (0 : Int32))])) _
      refine XS.istore X0.here hx rfl (hb hby d_mg_22) rfl (l' := #[.val (.ref a1), .val (.int p2), .val (.ref a3), .val (.int (own_b (own_z (own_at p2 v0 v1 v2)))), .val (.int (0 : Int32))]) rfl ?_
      show Steps p.tables e below (s₁.setTop (mkF m 24 #[.val (.ref a1), .val (.int p2), .val (.ref a3), .val (.int (own_b (own_z (own_at p2 v0 v1 v2)))), .val (.int (0 : Int32))] [])) _
      refine XS.iload X0.here hx rfl (hb hby d_mg_24) rfl ?_
      show Steps p.tables e below (s₁.setTop (mkF m 26 #[.val (.ref a1), .val (.int p2), .val (.ref a3), .val (.int (own_b (own_z (own_at p2 v0 v1 v2)))), .val (.int (0 : Int32))] [(.int (0 : Int32))])) _
      refine XS.aloadN X0.here hx rfl (hb hby d_mg_26) rfl rfl ?_
      show Steps p.tables e below (s₁.setTop (mkF m 27 #[.val (.ref a1), .val (.int p2), .val (.ref a3), .val (.int (own_b (own_z (own_at p2 v0 v1 v2)))), .val (.int (0 : Int32))] [(.ref a1), (.int (0 : Int32))])) _
      refine X0.arraylength hx (by rw [e0]; exact Ar1.1) (State.isArrayOf_alike hZ.alike Ar1.2.1) (g := (mkF m 27 #[.val (.ref a1), .val (.int p2), .val (.ref a3), .val (.int (own_b (own_z (own_at p2 v0 v1 v2)))), .val (.int (0 : Int32))] [(.ref a1), (.int (0 : Int32))])) rfl rfl (hb hby d_mg_27) _ ?_
      rw [len_of S1 M1]
      show Steps p.tables e below (s₁.setTop (mkF m 28 #[.val (.ref a1), .val (.int p2), .val (.ref a3), .val (.int (own_b (own_z (own_at p2 v0 v1 v2)))), .val (.int (0 : Int32))] [(.int (3 : Int32)), (.int (0 : Int32))])) _
      refine XS.icmpNo X0.here hx rfl (hb hby d_mg_28) rfl (tlt (by decide : (0 : Int32) < (3 : Int32))).2.1 ?_
      show Steps p.tables e below (s₁.setTop (mkF m 31 #[.val (.ref a1), .val (.int p2), .val (.ref a3), .val (.int (own_b (own_z (own_at p2 v0 v1 v2)))), .val (.int (0 : Int32))] [])) _
      refine XS.iloadN X0.here hx rfl (hb hby d_mg_31) rfl ?_
      exact kt)
    by_cases hc32_5 : (own_z (own_at p2 v0 v1 v2)) = true
    · have sg7 : ∀ t, Steps p.tables e below (s₁.setTop (mkF m 65 #[.val (.ref a1), .val (.int p2), .val (.ref a3), .val (.int (own_b (own_z (own_at p2 v0 v1 v2)))), .val (.int (0 : Int32))] [(.int (own_b (own_ok v0 c0 (own_at p2 c0 c1 c2))))])) t → Steps p.tables e below (s₁.setTop (mkF m 35 #[.val (.ref a1), .val (.int p2), .val (.ref a3), .val (.int (own_b (own_z (own_at p2 v0 v1 v2)))), .val (.int (0 : Int32))] [])) t := by
        intro t kt
        show Steps p.tables e below (s₁.setTop (mkF m 35 #[.val (.ref a1), .val (.int p2), .val (.ref a3), .val (.int (own_b (own_z (own_at p2 v0 v1 v2)))), .val (.int (0 : Int32))] [])) _
        refine XS.aloadN X0.here hx rfl (hb hby d_mg_35) rfl rfl ?_
        show Steps p.tables e below (s₁.setTop (mkF m 36 #[.val (.ref a1), .val (.int p2), .val (.ref a3), .val (.int (own_b (own_z (own_at p2 v0 v1 v2)))), .val (.int (0 : Int32))] [(.ref a1)])) _
        refine XS.iload X0.here hx rfl (hb hby d_mg_36) rfl ?_
        show Steps p.tables e below (s₁.setTop (mkF m 38 #[.val (.ref a1), .val (.int p2), .val (.ref a3), .val (.int (own_b (own_z (own_at p2 v0 v1 v2)))), .val (.int (0 : Int32))] [(.int (0 : Int32)), (.ref a1)])) _
        refine X0.iaload hx (j := (0 : Int32)) (v := (.int v0)) (by rw [e0]; exact Ar1.1) (State.isArrayOf_alike hZ.alike Ar1.2.1) Ar1.2.2 (own_ld S1 H1 (p := (0 : Int32)) (by decide)).1 (own_ld S1 H1 (p := (0 : Int32)) (by decide)).2 (g := (mkF m 38 #[.val (.ref a1), .val (.int p2), .val (.ref a3), .val (.int (own_b (own_z (own_at p2 v0 v1 v2)))), .val (.int (0 : Int32))] [(.int (0 : Int32)), (.ref a1)])) rfl rfl (hb hby d_mg_38) _ ?_
        by_cases hc39_8 : v0 = (0 : Int32)
        · show Steps p.tables e below (s₁.setTop (mkF m 39 #[.val (.ref a1), .val (.int p2), .val (.ref a3), .val (.int (own_b (own_z (own_at p2 v0 v1 v2)))), .val (.int (0 : Int32))] [(.int v0)])) _
          refine XS.ifYes X0.here hx rfl (pc0 := 39) (pc' := 60) rfl (hb hby d_mg_39) rfl ((if0 _ _).trans (teq hc39_8).1) (by decide) (by decide) ?_
          show Steps p.tables e below (s₁.setTop (mkF m 60 #[.val (.ref a1), .val (.int p2), .val (.ref a3), .val (.int (own_b (own_z (own_at p2 v0 v1 v2)))), .val (.int (0 : Int32))] [])) _
          refine XS.iconst X0.here hx rfl (hb hby d_mg_60) ?_
          show Steps p.tables e below (s₁.setTop (mkF m 61 #[.val (.ref a1), .val (.int p2), .val (.ref a3), .val (.int (own_b (own_z (own_at p2 v0 v1 v2)))), .val (.int (0 : Int32))] [(.int (1 : Int32))])) _
          refine XS.goto X0.here hx rfl (pc0 := 61) (pc' := 65) rfl (hb hby d_mg_61) (by decide) (by decide) ?_
          show Steps p.tables e below (s₁.setTop (mkF m 65 #[.val (.ref a1), .val (.int p2), .val (.ref a3), .val (.int (own_b (own_z (own_at p2 v0 v1 v2)))), .val (.int (0 : Int32))] [(.int (1 : Int32))])) _
          refine castTop (congrArg (fun zz => (mkF m 65 #[.val (.ref a1), .val (.int p2), .val (.ref a3), .val (.int (own_b (own_z (own_at p2 v0 v1 v2)))), .val (.int (0 : Int32))] [(.int zz)])) (by rw [show (own_ok v0 c0 (own_at p2 c0 c1 c2)) = true from by simp [own_ok, hc39_8]]; rfl : (1 : Int32) = (own_b (own_ok v0 c0 (own_at p2 c0 c1 c2))))) ?_
          exact kt
        · show Steps p.tables e below (s₁.setTop (mkF m 39 #[.val (.ref a1), .val (.int p2), .val (.ref a3), .val (.int (own_b (own_z (own_at p2 v0 v1 v2)))), .val (.int (0 : Int32))] [(.int v0)])) _
          refine XS.ifNo X0.here hx rfl (hb hby d_mg_39) rfl ((if0 _ _).trans (feq hc39_8).1) ?_
          show Steps p.tables e below (s₁.setTop (mkF m 42 #[.val (.ref a1), .val (.int p2), .val (.ref a3), .val (.int (own_b (own_z (own_at p2 v0 v1 v2)))), .val (.int (0 : Int32))] [])) _
          refine XS.aloadN X0.here hx rfl (hb hby d_mg_42) rfl rfl ?_
          show Steps p.tables e below (s₁.setTop (mkF m 43 #[.val (.ref a1), .val (.int p2), .val (.ref a3), .val (.int (own_b (own_z (own_at p2 v0 v1 v2)))), .val (.int (0 : Int32))] [(.ref a3)])) _
          refine XS.iload X0.here hx rfl (hb hby d_mg_43) rfl ?_
          show Steps p.tables e below (s₁.setTop (mkF m 45 #[.val (.ref a1), .val (.int p2), .val (.ref a3), .val (.int (own_b (own_z (own_at p2 v0 v1 v2)))), .val (.int (0 : Int32))] [(.int (0 : Int32)), (.ref a3)])) _
          refine X0.iaload hx (j := (0 : Int32)) (v := (.int c0)) (by rw [e0]; exact Ar3.1) (State.isArrayOf_alike hZ.alike Ar3.2.1) Ar3.2.2 (own_ld S3 H3 (p := (0 : Int32)) (by decide)).1 (own_ld S3 H3 (p := (0 : Int32)) (by decide)).2 (g := (mkF m 45 #[.val (.ref a1), .val (.int p2), .val (.ref a3), .val (.int (own_b (own_z (own_at p2 v0 v1 v2)))), .val (.int (0 : Int32))] [(.int (0 : Int32)), (.ref a3)])) rfl rfl (hb hby d_mg_45) _ ?_
          show Steps p.tables e below (s₁.setTop (mkF m 46 #[.val (.ref a1), .val (.int p2), .val (.ref a3), .val (.int (own_b (own_z (own_at p2 v0 v1 v2)))), .val (.int (0 : Int32))] [(.int c0)])) _
          refine XS.iconst X0.here hx rfl (hb hby d_mg_46) ?_
          by_cases hc47_9 : c0 = (-1 : Int32)
          · show Steps p.tables e below (s₁.setTop (mkF m 47 #[.val (.ref a1), .val (.int p2), .val (.ref a3), .val (.int (own_b (own_z (own_at p2 v0 v1 v2)))), .val (.int (0 : Int32))] [(.int (-1 : Int32)), (.int c0)])) _
            refine XS.icmpYes X0.here hx rfl (pc0 := 47) (pc' := 60) rfl (hb hby d_mg_47) rfl (teq hc47_9).1 (by decide) (by decide) ?_
            show Steps p.tables e below (s₁.setTop (mkF m 60 #[.val (.ref a1), .val (.int p2), .val (.ref a3), .val (.int (own_b (own_z (own_at p2 v0 v1 v2)))), .val (.int (0 : Int32))] [])) _
            refine XS.iconst X0.here hx rfl (hb hby d_mg_60) ?_
            show Steps p.tables e below (s₁.setTop (mkF m 61 #[.val (.ref a1), .val (.int p2), .val (.ref a3), .val (.int (own_b (own_z (own_at p2 v0 v1 v2)))), .val (.int (0 : Int32))] [(.int (1 : Int32))])) _
            refine XS.goto X0.here hx rfl (pc0 := 61) (pc' := 65) rfl (hb hby d_mg_61) (by decide) (by decide) ?_
            show Steps p.tables e below (s₁.setTop (mkF m 65 #[.val (.ref a1), .val (.int p2), .val (.ref a3), .val (.int (own_b (own_z (own_at p2 v0 v1 v2)))), .val (.int (0 : Int32))] [(.int (1 : Int32))])) _
            refine castTop (congrArg (fun zz => (mkF m 65 #[.val (.ref a1), .val (.int p2), .val (.ref a3), .val (.int (own_b (own_z (own_at p2 v0 v1 v2)))), .val (.int (0 : Int32))] [(.int zz)])) (by rw [show (own_ok v0 c0 (own_at p2 c0 c1 c2)) = true from by simp [own_ok, hc39_8, hc47_9]]; rfl : (1 : Int32) = (own_b (own_ok v0 c0 (own_at p2 c0 c1 c2))))) ?_
            exact kt
          · show Steps p.tables e below (s₁.setTop (mkF m 47 #[.val (.ref a1), .val (.int p2), .val (.ref a3), .val (.int (own_b (own_z (own_at p2 v0 v1 v2)))), .val (.int (0 : Int32))] [(.int (-1 : Int32)), (.int c0)])) _
            refine XS.icmpNo X0.here hx rfl (hb hby d_mg_47) rfl (feq hc47_9).1 ?_
            show Steps p.tables e below (s₁.setTop (mkF m 50 #[.val (.ref a1), .val (.int p2), .val (.ref a3), .val (.int (own_b (own_z (own_at p2 v0 v1 v2)))), .val (.int (0 : Int32))] [])) _
            refine XS.aloadN X0.here hx rfl (hb hby d_mg_50) rfl rfl ?_
            show Steps p.tables e below (s₁.setTop (mkF m 51 #[.val (.ref a1), .val (.int p2), .val (.ref a3), .val (.int (own_b (own_z (own_at p2 v0 v1 v2)))), .val (.int (0 : Int32))] [(.ref a3)])) _
            refine XS.iload X0.here hx rfl (hb hby d_mg_51) rfl ?_
            show Steps p.tables e below (s₁.setTop (mkF m 53 #[.val (.ref a1), .val (.int p2), .val (.ref a3), .val (.int (own_b (own_z (own_at p2 v0 v1 v2)))), .val (.int (0 : Int32))] [(.int (0 : Int32)), (.ref a3)])) _
            refine X0.iaload hx (j := (0 : Int32)) (v := (.int c0)) (by rw [e0]; exact Ar3.1) (State.isArrayOf_alike hZ.alike Ar3.2.1) Ar3.2.2 (own_ld S3 H3 (p := (0 : Int32)) (by decide)).1 (own_ld S3 H3 (p := (0 : Int32)) (by decide)).2 (g := (mkF m 53 #[.val (.ref a1), .val (.int p2), .val (.ref a3), .val (.int (own_b (own_z (own_at p2 v0 v1 v2)))), .val (.int (0 : Int32))] [(.int (0 : Int32)), (.ref a3)])) rfl rfl (hb hby d_mg_53) _ ?_
            show Steps p.tables e below (s₁.setTop (mkF m 54 #[.val (.ref a1), .val (.int p2), .val (.ref a3), .val (.int (own_b (own_z (own_at p2 v0 v1 v2)))), .val (.int (0 : Int32))] [(.int c0)])) _
            refine XS.aloadN X0.here hx rfl (hb hby d_mg_54) rfl rfl ?_
            show Steps p.tables e below (s₁.setTop (mkF m 55 #[.val (.ref a1), .val (.int p2), .val (.ref a3), .val (.int (own_b (own_z (own_at p2 v0 v1 v2)))), .val (.int (0 : Int32))] [(.ref a3), (.int c0)])) _
            refine XS.iloadN X0.here hx rfl (hb hby d_mg_55) rfl ?_
            show Steps p.tables e below (s₁.setTop (mkF m 56 #[.val (.ref a1), .val (.int p2), .val (.ref a3), .val (.int (own_b (own_z (own_at p2 v0 v1 v2)))), .val (.int (0 : Int32))] [(.int p2), (.ref a3), (.int c0)])) _
            refine X0.iaload hx (j := p2) (v := (.int (own_at p2 c0 c1 c2))) (by rw [e0]; exact Ar3.1) (State.isArrayOf_alike hZ.alike Ar3.2.1) Ar3.2.2 (own_ld S3 H3 hp).1 (own_ld S3 H3 hp).2 (g := (mkF m 56 #[.val (.ref a1), .val (.int p2), .val (.ref a3), .val (.int (own_b (own_z (own_at p2 v0 v1 v2)))), .val (.int (0 : Int32))] [(.int p2), (.ref a3), (.int c0)])) rfl rfl (hb hby d_mg_56) _ ?_
            by_cases hc57_10 : c0 = (own_at p2 c0 c1 c2)
            · show Steps p.tables e below (s₁.setTop (mkF m 57 #[.val (.ref a1), .val (.int p2), .val (.ref a3), .val (.int (own_b (own_z (own_at p2 v0 v1 v2)))), .val (.int (0 : Int32))] [(.int (own_at p2 c0 c1 c2)), (.int c0)])) _
              refine XS.icmpNo X0.here hx rfl (hb hby d_mg_57) rfl (teq hc57_10).2 ?_
              show Steps p.tables e below (s₁.setTop (mkF m 60 #[.val (.ref a1), .val (.int p2), .val (.ref a3), .val (.int (own_b (own_z (own_at p2 v0 v1 v2)))), .val (.int (0 : Int32))] [])) _
              refine XS.iconst X0.here hx rfl (hb hby d_mg_60) ?_
              show Steps p.tables e below (s₁.setTop (mkF m 61 #[.val (.ref a1), .val (.int p2), .val (.ref a3), .val (.int (own_b (own_z (own_at p2 v0 v1 v2)))), .val (.int (0 : Int32))] [(.int (1 : Int32))])) _
              refine XS.goto X0.here hx rfl (pc0 := 61) (pc' := 65) rfl (hb hby d_mg_61) (by decide) (by decide) ?_
              show Steps p.tables e below (s₁.setTop (mkF m 65 #[.val (.ref a1), .val (.int p2), .val (.ref a3), .val (.int (own_b (own_z (own_at p2 v0 v1 v2)))), .val (.int (0 : Int32))] [(.int (1 : Int32))])) _
              refine castTop (congrArg (fun zz => (mkF m 65 #[.val (.ref a1), .val (.int p2), .val (.ref a3), .val (.int (own_b (own_z (own_at p2 v0 v1 v2)))), .val (.int (0 : Int32))] [(.int zz)])) (by rw [own_okt hc57_10]; rfl : (1 : Int32) = (own_b (own_ok v0 c0 (own_at p2 c0 c1 c2))))) ?_
              exact kt
            · show Steps p.tables e below (s₁.setTop (mkF m 57 #[.val (.ref a1), .val (.int p2), .val (.ref a3), .val (.int (own_b (own_z (own_at p2 v0 v1 v2)))), .val (.int (0 : Int32))] [(.int (own_at p2 c0 c1 c2)), (.int c0)])) _
              refine XS.icmpYes X0.here hx rfl (pc0 := 57) (pc' := 64) rfl (hb hby d_mg_57) rfl (feq hc57_10).2 (by decide) (by decide) ?_
              show Steps p.tables e below (s₁.setTop (mkF m 64 #[.val (.ref a1), .val (.int p2), .val (.ref a3), .val (.int (own_b (own_z (own_at p2 v0 v1 v2)))), .val (.int (0 : Int32))] [])) _
              refine XS.iconst X0.here hx rfl (hb hby d_mg_64) ?_
              show Steps p.tables e below (s₁.setTop (mkF m 65 #[.val (.ref a1), .val (.int p2), .val (.ref a3), .val (.int (own_b (own_z (own_at p2 v0 v1 v2)))), .val (.int (0 : Int32))] [(.int (0 : Int32))])) _
              refine castTop (congrArg (fun zz => (mkF m 65 #[.val (.ref a1), .val (.int p2), .val (.ref a3), .val (.int (own_b (own_z (own_at p2 v0 v1 v2)))), .val (.int (0 : Int32))] [(.int zz)])) (by rw [show (own_ok v0 c0 (own_at p2 c0 c1 c2)) = false from by simp [own_ok, hc39_8, hc47_9, hc57_10]]; rfl : (0 : Int32) = (own_b (own_ok v0 c0 (own_at p2 c0 c1 c2))))) ?_
              exact kt
      have pr12 : ∀ t, Steps p.tables e below (s₁.setTop (mkF m 32 #[.val (.ref a1), .val (.int p2), .val (.ref a3), .val (.int (own_b (own_ok v0 c0 (own_at p2 c0 c1 c2)))), .val (.int (1 : Int32))] [(.int (own_b (own_ok v0 c0 (own_at p2 c0 c1 c2))))])) t → Steps p.tables e below (s₁.setTop (entryFrame m #[(.ref a1), (.int p2), (.ref a3)] 5)) t := fun t kt => pr6 t (by
        show Steps p.tables e below (s₁.setTop (mkF m 32 #[.val (.ref a1), .val (.int p2), .val (.ref a3), .val (.int (own_b (own_z (own_at p2 v0 v1 v2)))), .val (.int (0 : Int32))] [(.int (own_b (own_z (own_at p2 v0 v1 v2))))])) _
        refine XS.ifNo X0.here hx rfl (hb hby d_mg_32) rfl ((if0 _ _).trans (feq (own_b1 hc32_5)).1) ?_
        show Steps p.tables e below (s₁.setTop (mkF m 35 #[.val (.ref a1), .val (.int p2), .val (.ref a3), .val (.int (own_b (own_z (own_at p2 v0 v1 v2)))), .val (.int (0 : Int32))] [])) _
        refine sg7 _ ?_
        show Steps p.tables e below (s₁.setTop (mkF m 65 #[.val (.ref a1), .val (.int p2), .val (.ref a3), .val (.int (own_b (own_z (own_at p2 v0 v1 v2)))), .val (.int (0 : Int32))] [(.int (own_b (own_ok v0 c0 (own_at p2 c0 c1 c2))))])) _
        refine XS.istoreN X0.here hx rfl (hb hby d_mg_65) rfl (l' := #[.val (.ref a1), .val (.int p2), .val (.ref a3), .val (.int (own_b (own_ok v0 c0 (own_at p2 c0 c1 c2)))), .val (.int (0 : Int32))]) rfl ?_
        show Steps p.tables e below (s₁.setTop (mkF m 66 #[.val (.ref a1), .val (.int p2), .val (.ref a3), .val (.int (own_b (own_ok v0 c0 (own_at p2 c0 c1 c2)))), .val (.int (0 : Int32))] [])) _
        refine XS.iinc X0.here hx rfl (hb hby d_mg_66) rfl (l' := #[.val (.ref a1), .val (.int p2), .val (.ref a3), .val (.int (own_b (own_ok v0 c0 (own_at p2 c0 c1 c2)))), .val (.int (1 : Int32))]) rfl ?_
        show Steps p.tables e below (s₁.setTop (mkF m 69 #[.val (.ref a1), .val (.int p2), .val (.ref a3), .val (.int (own_b (own_ok v0 c0 (own_at p2 c0 c1 c2)))), .val (.int (1 : Int32))] [])) _
        refine XS.goto X0.here hx rfl (pc0 := 69) (pc' := 24) rfl (hb hby d_mg_69) (by decide) (by decide) ?_
        show Steps p.tables e below (s₁.setTop (mkF m 24 #[.val (.ref a1), .val (.int p2), .val (.ref a3), .val (.int (own_b (own_ok v0 c0 (own_at p2 c0 c1 c2)))), .val (.int (1 : Int32))] [])) _
        refine XS.iload X0.here hx rfl (hb hby d_mg_24) rfl ?_
        show Steps p.tables e below (s₁.setTop (mkF m 26 #[.val (.ref a1), .val (.int p2), .val (.ref a3), .val (.int (own_b (own_ok v0 c0 (own_at p2 c0 c1 c2)))), .val (.int (1 : Int32))] [(.int (1 : Int32))])) _
        refine XS.aloadN X0.here hx rfl (hb hby d_mg_26) rfl rfl ?_
        show Steps p.tables e below (s₁.setTop (mkF m 27 #[.val (.ref a1), .val (.int p2), .val (.ref a3), .val (.int (own_b (own_ok v0 c0 (own_at p2 c0 c1 c2)))), .val (.int (1 : Int32))] [(.ref a1), (.int (1 : Int32))])) _
        refine X0.arraylength hx (by rw [e0]; exact Ar1.1) (State.isArrayOf_alike hZ.alike Ar1.2.1) (g := (mkF m 27 #[.val (.ref a1), .val (.int p2), .val (.ref a3), .val (.int (own_b (own_ok v0 c0 (own_at p2 c0 c1 c2)))), .val (.int (1 : Int32))] [(.ref a1), (.int (1 : Int32))])) rfl rfl (hb hby d_mg_27) _ ?_
        rw [len_of S1 M1]
        show Steps p.tables e below (s₁.setTop (mkF m 28 #[.val (.ref a1), .val (.int p2), .val (.ref a3), .val (.int (own_b (own_ok v0 c0 (own_at p2 c0 c1 c2)))), .val (.int (1 : Int32))] [(.int (3 : Int32)), (.int (1 : Int32))])) _
        refine XS.icmpNo X0.here hx rfl (hb hby d_mg_28) rfl (tlt (by decide : (1 : Int32) < (3 : Int32))).2.1 ?_
        show Steps p.tables e below (s₁.setTop (mkF m 31 #[.val (.ref a1), .val (.int p2), .val (.ref a3), .val (.int (own_b (own_ok v0 c0 (own_at p2 c0 c1 c2)))), .val (.int (1 : Int32))] [])) _
        refine XS.iloadN X0.here hx rfl (hb hby d_mg_31) rfl ?_
        exact kt)
      by_cases hc32_11 : (own_ok v0 c0 (own_at p2 c0 c1 c2)) = true
      · have sg13 : ∀ t, Steps p.tables e below (s₁.setTop (mkF m 65 #[.val (.ref a1), .val (.int p2), .val (.ref a3), .val (.int (own_b (own_ok v0 c0 (own_at p2 c0 c1 c2)))), .val (.int (1 : Int32))] [(.int (own_b (own_ok v1 c1 (own_at p2 c0 c1 c2))))])) t → Steps p.tables e below (s₁.setTop (mkF m 35 #[.val (.ref a1), .val (.int p2), .val (.ref a3), .val (.int (own_b (own_ok v0 c0 (own_at p2 c0 c1 c2)))), .val (.int (1 : Int32))] [])) t := by
          intro t kt
          show Steps p.tables e below (s₁.setTop (mkF m 35 #[.val (.ref a1), .val (.int p2), .val (.ref a3), .val (.int (own_b (own_ok v0 c0 (own_at p2 c0 c1 c2)))), .val (.int (1 : Int32))] [])) _
          refine XS.aloadN X0.here hx rfl (hb hby d_mg_35) rfl rfl ?_
          show Steps p.tables e below (s₁.setTop (mkF m 36 #[.val (.ref a1), .val (.int p2), .val (.ref a3), .val (.int (own_b (own_ok v0 c0 (own_at p2 c0 c1 c2)))), .val (.int (1 : Int32))] [(.ref a1)])) _
          refine XS.iload X0.here hx rfl (hb hby d_mg_36) rfl ?_
          show Steps p.tables e below (s₁.setTop (mkF m 38 #[.val (.ref a1), .val (.int p2), .val (.ref a3), .val (.int (own_b (own_ok v0 c0 (own_at p2 c0 c1 c2)))), .val (.int (1 : Int32))] [(.int (1 : Int32)), (.ref a1)])) _
          refine X0.iaload hx (j := (1 : Int32)) (v := (.int v1)) (by rw [e0]; exact Ar1.1) (State.isArrayOf_alike hZ.alike Ar1.2.1) Ar1.2.2 (own_ld S1 H1 (p := (1 : Int32)) (by decide)).1 (own_ld S1 H1 (p := (1 : Int32)) (by decide)).2 (g := (mkF m 38 #[.val (.ref a1), .val (.int p2), .val (.ref a3), .val (.int (own_b (own_ok v0 c0 (own_at p2 c0 c1 c2)))), .val (.int (1 : Int32))] [(.int (1 : Int32)), (.ref a1)])) rfl rfl (hb hby d_mg_38) _ ?_
          by_cases hc39_14 : v1 = (0 : Int32)
          · show Steps p.tables e below (s₁.setTop (mkF m 39 #[.val (.ref a1), .val (.int p2), .val (.ref a3), .val (.int (own_b (own_ok v0 c0 (own_at p2 c0 c1 c2)))), .val (.int (1 : Int32))] [(.int v1)])) _
            refine XS.ifYes X0.here hx rfl (pc0 := 39) (pc' := 60) rfl (hb hby d_mg_39) rfl ((if0 _ _).trans (teq hc39_14).1) (by decide) (by decide) ?_
            show Steps p.tables e below (s₁.setTop (mkF m 60 #[.val (.ref a1), .val (.int p2), .val (.ref a3), .val (.int (own_b (own_ok v0 c0 (own_at p2 c0 c1 c2)))), .val (.int (1 : Int32))] [])) _
            refine XS.iconst X0.here hx rfl (hb hby d_mg_60) ?_
            show Steps p.tables e below (s₁.setTop (mkF m 61 #[.val (.ref a1), .val (.int p2), .val (.ref a3), .val (.int (own_b (own_ok v0 c0 (own_at p2 c0 c1 c2)))), .val (.int (1 : Int32))] [(.int (1 : Int32))])) _
            refine XS.goto X0.here hx rfl (pc0 := 61) (pc' := 65) rfl (hb hby d_mg_61) (by decide) (by decide) ?_
            show Steps p.tables e below (s₁.setTop (mkF m 65 #[.val (.ref a1), .val (.int p2), .val (.ref a3), .val (.int (own_b (own_ok v0 c0 (own_at p2 c0 c1 c2)))), .val (.int (1 : Int32))] [(.int (1 : Int32))])) _
            refine castTop (congrArg (fun zz => (mkF m 65 #[.val (.ref a1), .val (.int p2), .val (.ref a3), .val (.int (own_b (own_ok v0 c0 (own_at p2 c0 c1 c2)))), .val (.int (1 : Int32))] [(.int zz)])) (by rw [show (own_ok v1 c1 (own_at p2 c0 c1 c2)) = true from by simp [own_ok, hc39_14]]; rfl : (1 : Int32) = (own_b (own_ok v1 c1 (own_at p2 c0 c1 c2))))) ?_
            exact kt
          · show Steps p.tables e below (s₁.setTop (mkF m 39 #[.val (.ref a1), .val (.int p2), .val (.ref a3), .val (.int (own_b (own_ok v0 c0 (own_at p2 c0 c1 c2)))), .val (.int (1 : Int32))] [(.int v1)])) _
            refine XS.ifNo X0.here hx rfl (hb hby d_mg_39) rfl ((if0 _ _).trans (feq hc39_14).1) ?_
            show Steps p.tables e below (s₁.setTop (mkF m 42 #[.val (.ref a1), .val (.int p2), .val (.ref a3), .val (.int (own_b (own_ok v0 c0 (own_at p2 c0 c1 c2)))), .val (.int (1 : Int32))] [])) _
            refine XS.aloadN X0.here hx rfl (hb hby d_mg_42) rfl rfl ?_
            show Steps p.tables e below (s₁.setTop (mkF m 43 #[.val (.ref a1), .val (.int p2), .val (.ref a3), .val (.int (own_b (own_ok v0 c0 (own_at p2 c0 c1 c2)))), .val (.int (1 : Int32))] [(.ref a3)])) _
            refine XS.iload X0.here hx rfl (hb hby d_mg_43) rfl ?_
            show Steps p.tables e below (s₁.setTop (mkF m 45 #[.val (.ref a1), .val (.int p2), .val (.ref a3), .val (.int (own_b (own_ok v0 c0 (own_at p2 c0 c1 c2)))), .val (.int (1 : Int32))] [(.int (1 : Int32)), (.ref a3)])) _
            refine X0.iaload hx (j := (1 : Int32)) (v := (.int c1)) (by rw [e0]; exact Ar3.1) (State.isArrayOf_alike hZ.alike Ar3.2.1) Ar3.2.2 (own_ld S3 H3 (p := (1 : Int32)) (by decide)).1 (own_ld S3 H3 (p := (1 : Int32)) (by decide)).2 (g := (mkF m 45 #[.val (.ref a1), .val (.int p2), .val (.ref a3), .val (.int (own_b (own_ok v0 c0 (own_at p2 c0 c1 c2)))), .val (.int (1 : Int32))] [(.int (1 : Int32)), (.ref a3)])) rfl rfl (hb hby d_mg_45) _ ?_
            show Steps p.tables e below (s₁.setTop (mkF m 46 #[.val (.ref a1), .val (.int p2), .val (.ref a3), .val (.int (own_b (own_ok v0 c0 (own_at p2 c0 c1 c2)))), .val (.int (1 : Int32))] [(.int c1)])) _
            refine XS.iconst X0.here hx rfl (hb hby d_mg_46) ?_
            by_cases hc47_15 : c1 = (-1 : Int32)
            · show Steps p.tables e below (s₁.setTop (mkF m 47 #[.val (.ref a1), .val (.int p2), .val (.ref a3), .val (.int (own_b (own_ok v0 c0 (own_at p2 c0 c1 c2)))), .val (.int (1 : Int32))] [(.int (-1 : Int32)), (.int c1)])) _
              refine XS.icmpYes X0.here hx rfl (pc0 := 47) (pc' := 60) rfl (hb hby d_mg_47) rfl (teq hc47_15).1 (by decide) (by decide) ?_
              show Steps p.tables e below (s₁.setTop (mkF m 60 #[.val (.ref a1), .val (.int p2), .val (.ref a3), .val (.int (own_b (own_ok v0 c0 (own_at p2 c0 c1 c2)))), .val (.int (1 : Int32))] [])) _
              refine XS.iconst X0.here hx rfl (hb hby d_mg_60) ?_
              show Steps p.tables e below (s₁.setTop (mkF m 61 #[.val (.ref a1), .val (.int p2), .val (.ref a3), .val (.int (own_b (own_ok v0 c0 (own_at p2 c0 c1 c2)))), .val (.int (1 : Int32))] [(.int (1 : Int32))])) _
              refine XS.goto X0.here hx rfl (pc0 := 61) (pc' := 65) rfl (hb hby d_mg_61) (by decide) (by decide) ?_
              show Steps p.tables e below (s₁.setTop (mkF m 65 #[.val (.ref a1), .val (.int p2), .val (.ref a3), .val (.int (own_b (own_ok v0 c0 (own_at p2 c0 c1 c2)))), .val (.int (1 : Int32))] [(.int (1 : Int32))])) _
              refine castTop (congrArg (fun zz => (mkF m 65 #[.val (.ref a1), .val (.int p2), .val (.ref a3), .val (.int (own_b (own_ok v0 c0 (own_at p2 c0 c1 c2)))), .val (.int (1 : Int32))] [(.int zz)])) (by rw [show (own_ok v1 c1 (own_at p2 c0 c1 c2)) = true from by simp [own_ok, hc39_14, hc47_15]]; rfl : (1 : Int32) = (own_b (own_ok v1 c1 (own_at p2 c0 c1 c2))))) ?_
              exact kt
            · show Steps p.tables e below (s₁.setTop (mkF m 47 #[.val (.ref a1), .val (.int p2), .val (.ref a3), .val (.int (own_b (own_ok v0 c0 (own_at p2 c0 c1 c2)))), .val (.int (1 : Int32))] [(.int (-1 : Int32)), (.int c1)])) _
              refine XS.icmpNo X0.here hx rfl (hb hby d_mg_47) rfl (feq hc47_15).1 ?_
              show Steps p.tables e below (s₁.setTop (mkF m 50 #[.val (.ref a1), .val (.int p2), .val (.ref a3), .val (.int (own_b (own_ok v0 c0 (own_at p2 c0 c1 c2)))), .val (.int (1 : Int32))] [])) _
              refine XS.aloadN X0.here hx rfl (hb hby d_mg_50) rfl rfl ?_
              show Steps p.tables e below (s₁.setTop (mkF m 51 #[.val (.ref a1), .val (.int p2), .val (.ref a3), .val (.int (own_b (own_ok v0 c0 (own_at p2 c0 c1 c2)))), .val (.int (1 : Int32))] [(.ref a3)])) _
              refine XS.iload X0.here hx rfl (hb hby d_mg_51) rfl ?_
              show Steps p.tables e below (s₁.setTop (mkF m 53 #[.val (.ref a1), .val (.int p2), .val (.ref a3), .val (.int (own_b (own_ok v0 c0 (own_at p2 c0 c1 c2)))), .val (.int (1 : Int32))] [(.int (1 : Int32)), (.ref a3)])) _
              refine X0.iaload hx (j := (1 : Int32)) (v := (.int c1)) (by rw [e0]; exact Ar3.1) (State.isArrayOf_alike hZ.alike Ar3.2.1) Ar3.2.2 (own_ld S3 H3 (p := (1 : Int32)) (by decide)).1 (own_ld S3 H3 (p := (1 : Int32)) (by decide)).2 (g := (mkF m 53 #[.val (.ref a1), .val (.int p2), .val (.ref a3), .val (.int (own_b (own_ok v0 c0 (own_at p2 c0 c1 c2)))), .val (.int (1 : Int32))] [(.int (1 : Int32)), (.ref a3)])) rfl rfl (hb hby d_mg_53) _ ?_
              show Steps p.tables e below (s₁.setTop (mkF m 54 #[.val (.ref a1), .val (.int p2), .val (.ref a3), .val (.int (own_b (own_ok v0 c0 (own_at p2 c0 c1 c2)))), .val (.int (1 : Int32))] [(.int c1)])) _
              refine XS.aloadN X0.here hx rfl (hb hby d_mg_54) rfl rfl ?_
              show Steps p.tables e below (s₁.setTop (mkF m 55 #[.val (.ref a1), .val (.int p2), .val (.ref a3), .val (.int (own_b (own_ok v0 c0 (own_at p2 c0 c1 c2)))), .val (.int (1 : Int32))] [(.ref a3), (.int c1)])) _
              refine XS.iloadN X0.here hx rfl (hb hby d_mg_55) rfl ?_
              show Steps p.tables e below (s₁.setTop (mkF m 56 #[.val (.ref a1), .val (.int p2), .val (.ref a3), .val (.int (own_b (own_ok v0 c0 (own_at p2 c0 c1 c2)))), .val (.int (1 : Int32))] [(.int p2), (.ref a3), (.int c1)])) _
              refine X0.iaload hx (j := p2) (v := (.int (own_at p2 c0 c1 c2))) (by rw [e0]; exact Ar3.1) (State.isArrayOf_alike hZ.alike Ar3.2.1) Ar3.2.2 (own_ld S3 H3 hp).1 (own_ld S3 H3 hp).2 (g := (mkF m 56 #[.val (.ref a1), .val (.int p2), .val (.ref a3), .val (.int (own_b (own_ok v0 c0 (own_at p2 c0 c1 c2)))), .val (.int (1 : Int32))] [(.int p2), (.ref a3), (.int c1)])) rfl rfl (hb hby d_mg_56) _ ?_
              by_cases hc57_16 : c1 = (own_at p2 c0 c1 c2)
              · show Steps p.tables e below (s₁.setTop (mkF m 57 #[.val (.ref a1), .val (.int p2), .val (.ref a3), .val (.int (own_b (own_ok v0 c0 (own_at p2 c0 c1 c2)))), .val (.int (1 : Int32))] [(.int (own_at p2 c0 c1 c2)), (.int c1)])) _
                refine XS.icmpNo X0.here hx rfl (hb hby d_mg_57) rfl (teq hc57_16).2 ?_
                show Steps p.tables e below (s₁.setTop (mkF m 60 #[.val (.ref a1), .val (.int p2), .val (.ref a3), .val (.int (own_b (own_ok v0 c0 (own_at p2 c0 c1 c2)))), .val (.int (1 : Int32))] [])) _
                refine XS.iconst X0.here hx rfl (hb hby d_mg_60) ?_
                show Steps p.tables e below (s₁.setTop (mkF m 61 #[.val (.ref a1), .val (.int p2), .val (.ref a3), .val (.int (own_b (own_ok v0 c0 (own_at p2 c0 c1 c2)))), .val (.int (1 : Int32))] [(.int (1 : Int32))])) _
                refine XS.goto X0.here hx rfl (pc0 := 61) (pc' := 65) rfl (hb hby d_mg_61) (by decide) (by decide) ?_
                show Steps p.tables e below (s₁.setTop (mkF m 65 #[.val (.ref a1), .val (.int p2), .val (.ref a3), .val (.int (own_b (own_ok v0 c0 (own_at p2 c0 c1 c2)))), .val (.int (1 : Int32))] [(.int (1 : Int32))])) _
                refine castTop (congrArg (fun zz => (mkF m 65 #[.val (.ref a1), .val (.int p2), .val (.ref a3), .val (.int (own_b (own_ok v0 c0 (own_at p2 c0 c1 c2)))), .val (.int (1 : Int32))] [(.int zz)])) (by rw [own_okt hc57_16]; rfl : (1 : Int32) = (own_b (own_ok v1 c1 (own_at p2 c0 c1 c2))))) ?_
                exact kt
              · show Steps p.tables e below (s₁.setTop (mkF m 57 #[.val (.ref a1), .val (.int p2), .val (.ref a3), .val (.int (own_b (own_ok v0 c0 (own_at p2 c0 c1 c2)))), .val (.int (1 : Int32))] [(.int (own_at p2 c0 c1 c2)), (.int c1)])) _
                refine XS.icmpYes X0.here hx rfl (pc0 := 57) (pc' := 64) rfl (hb hby d_mg_57) rfl (feq hc57_16).2 (by decide) (by decide) ?_
                show Steps p.tables e below (s₁.setTop (mkF m 64 #[.val (.ref a1), .val (.int p2), .val (.ref a3), .val (.int (own_b (own_ok v0 c0 (own_at p2 c0 c1 c2)))), .val (.int (1 : Int32))] [])) _
                refine XS.iconst X0.here hx rfl (hb hby d_mg_64) ?_
                show Steps p.tables e below (s₁.setTop (mkF m 65 #[.val (.ref a1), .val (.int p2), .val (.ref a3), .val (.int (own_b (own_ok v0 c0 (own_at p2 c0 c1 c2)))), .val (.int (1 : Int32))] [(.int (0 : Int32))])) _
                refine castTop (congrArg (fun zz => (mkF m 65 #[.val (.ref a1), .val (.int p2), .val (.ref a3), .val (.int (own_b (own_ok v0 c0 (own_at p2 c0 c1 c2)))), .val (.int (1 : Int32))] [(.int zz)])) (by rw [show (own_ok v1 c1 (own_at p2 c0 c1 c2)) = false from by simp [own_ok, hc39_14, hc47_15, hc57_16]]; rfl : (0 : Int32) = (own_b (own_ok v1 c1 (own_at p2 c0 c1 c2))))) ?_
                exact kt
        have pr18 : ∀ t, Steps p.tables e below (s₁.setTop (mkF m 32 #[.val (.ref a1), .val (.int p2), .val (.ref a3), .val (.int (own_b (own_ok v1 c1 (own_at p2 c0 c1 c2)))), .val (.int (2 : Int32))] [(.int (own_b (own_ok v1 c1 (own_at p2 c0 c1 c2))))])) t → Steps p.tables e below (s₁.setTop (entryFrame m #[(.ref a1), (.int p2), (.ref a3)] 5)) t := fun t kt => pr12 t (by
          show Steps p.tables e below (s₁.setTop (mkF m 32 #[.val (.ref a1), .val (.int p2), .val (.ref a3), .val (.int (own_b (own_ok v0 c0 (own_at p2 c0 c1 c2)))), .val (.int (1 : Int32))] [(.int (own_b (own_ok v0 c0 (own_at p2 c0 c1 c2))))])) _
          refine XS.ifNo X0.here hx rfl (hb hby d_mg_32) rfl ((if0 _ _).trans (feq (own_b1 hc32_11)).1) ?_
          show Steps p.tables e below (s₁.setTop (mkF m 35 #[.val (.ref a1), .val (.int p2), .val (.ref a3), .val (.int (own_b (own_ok v0 c0 (own_at p2 c0 c1 c2)))), .val (.int (1 : Int32))] [])) _
          refine sg13 _ ?_
          show Steps p.tables e below (s₁.setTop (mkF m 65 #[.val (.ref a1), .val (.int p2), .val (.ref a3), .val (.int (own_b (own_ok v0 c0 (own_at p2 c0 c1 c2)))), .val (.int (1 : Int32))] [(.int (own_b (own_ok v1 c1 (own_at p2 c0 c1 c2))))])) _
          refine XS.istoreN X0.here hx rfl (hb hby d_mg_65) rfl (l' := #[.val (.ref a1), .val (.int p2), .val (.ref a3), .val (.int (own_b (own_ok v1 c1 (own_at p2 c0 c1 c2)))), .val (.int (1 : Int32))]) rfl ?_
          show Steps p.tables e below (s₁.setTop (mkF m 66 #[.val (.ref a1), .val (.int p2), .val (.ref a3), .val (.int (own_b (own_ok v1 c1 (own_at p2 c0 c1 c2)))), .val (.int (1 : Int32))] [])) _
          refine XS.iinc X0.here hx rfl (hb hby d_mg_66) rfl (l' := #[.val (.ref a1), .val (.int p2), .val (.ref a3), .val (.int (own_b (own_ok v1 c1 (own_at p2 c0 c1 c2)))), .val (.int (2 : Int32))]) rfl ?_
          show Steps p.tables e below (s₁.setTop (mkF m 69 #[.val (.ref a1), .val (.int p2), .val (.ref a3), .val (.int (own_b (own_ok v1 c1 (own_at p2 c0 c1 c2)))), .val (.int (2 : Int32))] [])) _
          refine XS.goto X0.here hx rfl (pc0 := 69) (pc' := 24) rfl (hb hby d_mg_69) (by decide) (by decide) ?_
          show Steps p.tables e below (s₁.setTop (mkF m 24 #[.val (.ref a1), .val (.int p2), .val (.ref a3), .val (.int (own_b (own_ok v1 c1 (own_at p2 c0 c1 c2)))), .val (.int (2 : Int32))] [])) _
          refine XS.iload X0.here hx rfl (hb hby d_mg_24) rfl ?_
          show Steps p.tables e below (s₁.setTop (mkF m 26 #[.val (.ref a1), .val (.int p2), .val (.ref a3), .val (.int (own_b (own_ok v1 c1 (own_at p2 c0 c1 c2)))), .val (.int (2 : Int32))] [(.int (2 : Int32))])) _
          refine XS.aloadN X0.here hx rfl (hb hby d_mg_26) rfl rfl ?_
          show Steps p.tables e below (s₁.setTop (mkF m 27 #[.val (.ref a1), .val (.int p2), .val (.ref a3), .val (.int (own_b (own_ok v1 c1 (own_at p2 c0 c1 c2)))), .val (.int (2 : Int32))] [(.ref a1), (.int (2 : Int32))])) _
          refine X0.arraylength hx (by rw [e0]; exact Ar1.1) (State.isArrayOf_alike hZ.alike Ar1.2.1) (g := (mkF m 27 #[.val (.ref a1), .val (.int p2), .val (.ref a3), .val (.int (own_b (own_ok v1 c1 (own_at p2 c0 c1 c2)))), .val (.int (2 : Int32))] [(.ref a1), (.int (2 : Int32))])) rfl rfl (hb hby d_mg_27) _ ?_
          rw [len_of S1 M1]
          show Steps p.tables e below (s₁.setTop (mkF m 28 #[.val (.ref a1), .val (.int p2), .val (.ref a3), .val (.int (own_b (own_ok v1 c1 (own_at p2 c0 c1 c2)))), .val (.int (2 : Int32))] [(.int (3 : Int32)), (.int (2 : Int32))])) _
          refine XS.icmpNo X0.here hx rfl (hb hby d_mg_28) rfl (tlt (by decide : (2 : Int32) < (3 : Int32))).2.1 ?_
          show Steps p.tables e below (s₁.setTop (mkF m 31 #[.val (.ref a1), .val (.int p2), .val (.ref a3), .val (.int (own_b (own_ok v1 c1 (own_at p2 c0 c1 c2)))), .val (.int (2 : Int32))] [])) _
          refine XS.iloadN X0.here hx rfl (hb hby d_mg_31) rfl ?_
          exact kt)
        by_cases hc32_17 : (own_ok v1 c1 (own_at p2 c0 c1 c2)) = true
        · have sg19 : ∀ t, Steps p.tables e below (s₁.setTop (mkF m 65 #[.val (.ref a1), .val (.int p2), .val (.ref a3), .val (.int (own_b (own_ok v1 c1 (own_at p2 c0 c1 c2)))), .val (.int (2 : Int32))] [(.int (own_b (own_ok v2 c2 (own_at p2 c0 c1 c2))))])) t → Steps p.tables e below (s₁.setTop (mkF m 35 #[.val (.ref a1), .val (.int p2), .val (.ref a3), .val (.int (own_b (own_ok v1 c1 (own_at p2 c0 c1 c2)))), .val (.int (2 : Int32))] [])) t := by
            intro t kt
            show Steps p.tables e below (s₁.setTop (mkF m 35 #[.val (.ref a1), .val (.int p2), .val (.ref a3), .val (.int (own_b (own_ok v1 c1 (own_at p2 c0 c1 c2)))), .val (.int (2 : Int32))] [])) _
            refine XS.aloadN X0.here hx rfl (hb hby d_mg_35) rfl rfl ?_
            show Steps p.tables e below (s₁.setTop (mkF m 36 #[.val (.ref a1), .val (.int p2), .val (.ref a3), .val (.int (own_b (own_ok v1 c1 (own_at p2 c0 c1 c2)))), .val (.int (2 : Int32))] [(.ref a1)])) _
            refine XS.iload X0.here hx rfl (hb hby d_mg_36) rfl ?_
            show Steps p.tables e below (s₁.setTop (mkF m 38 #[.val (.ref a1), .val (.int p2), .val (.ref a3), .val (.int (own_b (own_ok v1 c1 (own_at p2 c0 c1 c2)))), .val (.int (2 : Int32))] [(.int (2 : Int32)), (.ref a1)])) _
            refine X0.iaload hx (j := (2 : Int32)) (v := (.int v2)) (by rw [e0]; exact Ar1.1) (State.isArrayOf_alike hZ.alike Ar1.2.1) Ar1.2.2 (own_ld S1 H1 (p := (2 : Int32)) (by decide)).1 (own_ld S1 H1 (p := (2 : Int32)) (by decide)).2 (g := (mkF m 38 #[.val (.ref a1), .val (.int p2), .val (.ref a3), .val (.int (own_b (own_ok v1 c1 (own_at p2 c0 c1 c2)))), .val (.int (2 : Int32))] [(.int (2 : Int32)), (.ref a1)])) rfl rfl (hb hby d_mg_38) _ ?_
            by_cases hc39_20 : v2 = (0 : Int32)
            · show Steps p.tables e below (s₁.setTop (mkF m 39 #[.val (.ref a1), .val (.int p2), .val (.ref a3), .val (.int (own_b (own_ok v1 c1 (own_at p2 c0 c1 c2)))), .val (.int (2 : Int32))] [(.int v2)])) _
              refine XS.ifYes X0.here hx rfl (pc0 := 39) (pc' := 60) rfl (hb hby d_mg_39) rfl ((if0 _ _).trans (teq hc39_20).1) (by decide) (by decide) ?_
              show Steps p.tables e below (s₁.setTop (mkF m 60 #[.val (.ref a1), .val (.int p2), .val (.ref a3), .val (.int (own_b (own_ok v1 c1 (own_at p2 c0 c1 c2)))), .val (.int (2 : Int32))] [])) _
              refine XS.iconst X0.here hx rfl (hb hby d_mg_60) ?_
              show Steps p.tables e below (s₁.setTop (mkF m 61 #[.val (.ref a1), .val (.int p2), .val (.ref a3), .val (.int (own_b (own_ok v1 c1 (own_at p2 c0 c1 c2)))), .val (.int (2 : Int32))] [(.int (1 : Int32))])) _
              refine XS.goto X0.here hx rfl (pc0 := 61) (pc' := 65) rfl (hb hby d_mg_61) (by decide) (by decide) ?_
              show Steps p.tables e below (s₁.setTop (mkF m 65 #[.val (.ref a1), .val (.int p2), .val (.ref a3), .val (.int (own_b (own_ok v1 c1 (own_at p2 c0 c1 c2)))), .val (.int (2 : Int32))] [(.int (1 : Int32))])) _
              refine castTop (congrArg (fun zz => (mkF m 65 #[.val (.ref a1), .val (.int p2), .val (.ref a3), .val (.int (own_b (own_ok v1 c1 (own_at p2 c0 c1 c2)))), .val (.int (2 : Int32))] [(.int zz)])) (by rw [show (own_ok v2 c2 (own_at p2 c0 c1 c2)) = true from by simp [own_ok, hc39_20]]; rfl : (1 : Int32) = (own_b (own_ok v2 c2 (own_at p2 c0 c1 c2))))) ?_
              exact kt
            · show Steps p.tables e below (s₁.setTop (mkF m 39 #[.val (.ref a1), .val (.int p2), .val (.ref a3), .val (.int (own_b (own_ok v1 c1 (own_at p2 c0 c1 c2)))), .val (.int (2 : Int32))] [(.int v2)])) _
              refine XS.ifNo X0.here hx rfl (hb hby d_mg_39) rfl ((if0 _ _).trans (feq hc39_20).1) ?_
              show Steps p.tables e below (s₁.setTop (mkF m 42 #[.val (.ref a1), .val (.int p2), .val (.ref a3), .val (.int (own_b (own_ok v1 c1 (own_at p2 c0 c1 c2)))), .val (.int (2 : Int32))] [])) _
              refine XS.aloadN X0.here hx rfl (hb hby d_mg_42) rfl rfl ?_
              show Steps p.tables e below (s₁.setTop (mkF m 43 #[.val (.ref a1), .val (.int p2), .val (.ref a3), .val (.int (own_b (own_ok v1 c1 (own_at p2 c0 c1 c2)))), .val (.int (2 : Int32))] [(.ref a3)])) _
              refine XS.iload X0.here hx rfl (hb hby d_mg_43) rfl ?_
              show Steps p.tables e below (s₁.setTop (mkF m 45 #[.val (.ref a1), .val (.int p2), .val (.ref a3), .val (.int (own_b (own_ok v1 c1 (own_at p2 c0 c1 c2)))), .val (.int (2 : Int32))] [(.int (2 : Int32)), (.ref a3)])) _
              refine X0.iaload hx (j := (2 : Int32)) (v := (.int c2)) (by rw [e0]; exact Ar3.1) (State.isArrayOf_alike hZ.alike Ar3.2.1) Ar3.2.2 (own_ld S3 H3 (p := (2 : Int32)) (by decide)).1 (own_ld S3 H3 (p := (2 : Int32)) (by decide)).2 (g := (mkF m 45 #[.val (.ref a1), .val (.int p2), .val (.ref a3), .val (.int (own_b (own_ok v1 c1 (own_at p2 c0 c1 c2)))), .val (.int (2 : Int32))] [(.int (2 : Int32)), (.ref a3)])) rfl rfl (hb hby d_mg_45) _ ?_
              show Steps p.tables e below (s₁.setTop (mkF m 46 #[.val (.ref a1), .val (.int p2), .val (.ref a3), .val (.int (own_b (own_ok v1 c1 (own_at p2 c0 c1 c2)))), .val (.int (2 : Int32))] [(.int c2)])) _
              refine XS.iconst X0.here hx rfl (hb hby d_mg_46) ?_
              by_cases hc47_21 : c2 = (-1 : Int32)
              · show Steps p.tables e below (s₁.setTop (mkF m 47 #[.val (.ref a1), .val (.int p2), .val (.ref a3), .val (.int (own_b (own_ok v1 c1 (own_at p2 c0 c1 c2)))), .val (.int (2 : Int32))] [(.int (-1 : Int32)), (.int c2)])) _
                refine XS.icmpYes X0.here hx rfl (pc0 := 47) (pc' := 60) rfl (hb hby d_mg_47) rfl (teq hc47_21).1 (by decide) (by decide) ?_
                show Steps p.tables e below (s₁.setTop (mkF m 60 #[.val (.ref a1), .val (.int p2), .val (.ref a3), .val (.int (own_b (own_ok v1 c1 (own_at p2 c0 c1 c2)))), .val (.int (2 : Int32))] [])) _
                refine XS.iconst X0.here hx rfl (hb hby d_mg_60) ?_
                show Steps p.tables e below (s₁.setTop (mkF m 61 #[.val (.ref a1), .val (.int p2), .val (.ref a3), .val (.int (own_b (own_ok v1 c1 (own_at p2 c0 c1 c2)))), .val (.int (2 : Int32))] [(.int (1 : Int32))])) _
                refine XS.goto X0.here hx rfl (pc0 := 61) (pc' := 65) rfl (hb hby d_mg_61) (by decide) (by decide) ?_
                show Steps p.tables e below (s₁.setTop (mkF m 65 #[.val (.ref a1), .val (.int p2), .val (.ref a3), .val (.int (own_b (own_ok v1 c1 (own_at p2 c0 c1 c2)))), .val (.int (2 : Int32))] [(.int (1 : Int32))])) _
                refine castTop (congrArg (fun zz => (mkF m 65 #[.val (.ref a1), .val (.int p2), .val (.ref a3), .val (.int (own_b (own_ok v1 c1 (own_at p2 c0 c1 c2)))), .val (.int (2 : Int32))] [(.int zz)])) (by rw [show (own_ok v2 c2 (own_at p2 c0 c1 c2)) = true from by simp [own_ok, hc39_20, hc47_21]]; rfl : (1 : Int32) = (own_b (own_ok v2 c2 (own_at p2 c0 c1 c2))))) ?_
                exact kt
              · show Steps p.tables e below (s₁.setTop (mkF m 47 #[.val (.ref a1), .val (.int p2), .val (.ref a3), .val (.int (own_b (own_ok v1 c1 (own_at p2 c0 c1 c2)))), .val (.int (2 : Int32))] [(.int (-1 : Int32)), (.int c2)])) _
                refine XS.icmpNo X0.here hx rfl (hb hby d_mg_47) rfl (feq hc47_21).1 ?_
                show Steps p.tables e below (s₁.setTop (mkF m 50 #[.val (.ref a1), .val (.int p2), .val (.ref a3), .val (.int (own_b (own_ok v1 c1 (own_at p2 c0 c1 c2)))), .val (.int (2 : Int32))] [])) _
                refine XS.aloadN X0.here hx rfl (hb hby d_mg_50) rfl rfl ?_
                show Steps p.tables e below (s₁.setTop (mkF m 51 #[.val (.ref a1), .val (.int p2), .val (.ref a3), .val (.int (own_b (own_ok v1 c1 (own_at p2 c0 c1 c2)))), .val (.int (2 : Int32))] [(.ref a3)])) _
                refine XS.iload X0.here hx rfl (hb hby d_mg_51) rfl ?_
                show Steps p.tables e below (s₁.setTop (mkF m 53 #[.val (.ref a1), .val (.int p2), .val (.ref a3), .val (.int (own_b (own_ok v1 c1 (own_at p2 c0 c1 c2)))), .val (.int (2 : Int32))] [(.int (2 : Int32)), (.ref a3)])) _
                refine X0.iaload hx (j := (2 : Int32)) (v := (.int c2)) (by rw [e0]; exact Ar3.1) (State.isArrayOf_alike hZ.alike Ar3.2.1) Ar3.2.2 (own_ld S3 H3 (p := (2 : Int32)) (by decide)).1 (own_ld S3 H3 (p := (2 : Int32)) (by decide)).2 (g := (mkF m 53 #[.val (.ref a1), .val (.int p2), .val (.ref a3), .val (.int (own_b (own_ok v1 c1 (own_at p2 c0 c1 c2)))), .val (.int (2 : Int32))] [(.int (2 : Int32)), (.ref a3)])) rfl rfl (hb hby d_mg_53) _ ?_
                show Steps p.tables e below (s₁.setTop (mkF m 54 #[.val (.ref a1), .val (.int p2), .val (.ref a3), .val (.int (own_b (own_ok v1 c1 (own_at p2 c0 c1 c2)))), .val (.int (2 : Int32))] [(.int c2)])) _
                refine XS.aloadN X0.here hx rfl (hb hby d_mg_54) rfl rfl ?_
                show Steps p.tables e below (s₁.setTop (mkF m 55 #[.val (.ref a1), .val (.int p2), .val (.ref a3), .val (.int (own_b (own_ok v1 c1 (own_at p2 c0 c1 c2)))), .val (.int (2 : Int32))] [(.ref a3), (.int c2)])) _
                refine XS.iloadN X0.here hx rfl (hb hby d_mg_55) rfl ?_
                show Steps p.tables e below (s₁.setTop (mkF m 56 #[.val (.ref a1), .val (.int p2), .val (.ref a3), .val (.int (own_b (own_ok v1 c1 (own_at p2 c0 c1 c2)))), .val (.int (2 : Int32))] [(.int p2), (.ref a3), (.int c2)])) _
                refine X0.iaload hx (j := p2) (v := (.int (own_at p2 c0 c1 c2))) (by rw [e0]; exact Ar3.1) (State.isArrayOf_alike hZ.alike Ar3.2.1) Ar3.2.2 (own_ld S3 H3 hp).1 (own_ld S3 H3 hp).2 (g := (mkF m 56 #[.val (.ref a1), .val (.int p2), .val (.ref a3), .val (.int (own_b (own_ok v1 c1 (own_at p2 c0 c1 c2)))), .val (.int (2 : Int32))] [(.int p2), (.ref a3), (.int c2)])) rfl rfl (hb hby d_mg_56) _ ?_
                by_cases hc57_22 : c2 = (own_at p2 c0 c1 c2)
                · show Steps p.tables e below (s₁.setTop (mkF m 57 #[.val (.ref a1), .val (.int p2), .val (.ref a3), .val (.int (own_b (own_ok v1 c1 (own_at p2 c0 c1 c2)))), .val (.int (2 : Int32))] [(.int (own_at p2 c0 c1 c2)), (.int c2)])) _
                  refine XS.icmpNo X0.here hx rfl (hb hby d_mg_57) rfl (teq hc57_22).2 ?_
                  show Steps p.tables e below (s₁.setTop (mkF m 60 #[.val (.ref a1), .val (.int p2), .val (.ref a3), .val (.int (own_b (own_ok v1 c1 (own_at p2 c0 c1 c2)))), .val (.int (2 : Int32))] [])) _
                  refine XS.iconst X0.here hx rfl (hb hby d_mg_60) ?_
                  show Steps p.tables e below (s₁.setTop (mkF m 61 #[.val (.ref a1), .val (.int p2), .val (.ref a3), .val (.int (own_b (own_ok v1 c1 (own_at p2 c0 c1 c2)))), .val (.int (2 : Int32))] [(.int (1 : Int32))])) _
                  refine XS.goto X0.here hx rfl (pc0 := 61) (pc' := 65) rfl (hb hby d_mg_61) (by decide) (by decide) ?_
                  show Steps p.tables e below (s₁.setTop (mkF m 65 #[.val (.ref a1), .val (.int p2), .val (.ref a3), .val (.int (own_b (own_ok v1 c1 (own_at p2 c0 c1 c2)))), .val (.int (2 : Int32))] [(.int (1 : Int32))])) _
                  refine castTop (congrArg (fun zz => (mkF m 65 #[.val (.ref a1), .val (.int p2), .val (.ref a3), .val (.int (own_b (own_ok v1 c1 (own_at p2 c0 c1 c2)))), .val (.int (2 : Int32))] [(.int zz)])) (by rw [own_okt hc57_22]; rfl : (1 : Int32) = (own_b (own_ok v2 c2 (own_at p2 c0 c1 c2))))) ?_
                  exact kt
                · show Steps p.tables e below (s₁.setTop (mkF m 57 #[.val (.ref a1), .val (.int p2), .val (.ref a3), .val (.int (own_b (own_ok v1 c1 (own_at p2 c0 c1 c2)))), .val (.int (2 : Int32))] [(.int (own_at p2 c0 c1 c2)), (.int c2)])) _
                  refine XS.icmpYes X0.here hx rfl (pc0 := 57) (pc' := 64) rfl (hb hby d_mg_57) rfl (feq hc57_22).2 (by decide) (by decide) ?_
                  show Steps p.tables e below (s₁.setTop (mkF m 64 #[.val (.ref a1), .val (.int p2), .val (.ref a3), .val (.int (own_b (own_ok v1 c1 (own_at p2 c0 c1 c2)))), .val (.int (2 : Int32))] [])) _
                  refine XS.iconst X0.here hx rfl (hb hby d_mg_64) ?_
                  show Steps p.tables e below (s₁.setTop (mkF m 65 #[.val (.ref a1), .val (.int p2), .val (.ref a3), .val (.int (own_b (own_ok v1 c1 (own_at p2 c0 c1 c2)))), .val (.int (2 : Int32))] [(.int (0 : Int32))])) _
                  refine castTop (congrArg (fun zz => (mkF m 65 #[.val (.ref a1), .val (.int p2), .val (.ref a3), .val (.int (own_b (own_ok v1 c1 (own_at p2 c0 c1 c2)))), .val (.int (2 : Int32))] [(.int zz)])) (by rw [show (own_ok v2 c2 (own_at p2 c0 c1 c2)) = false from by simp [own_ok, hc39_20, hc47_21, hc57_22]]; rfl : (0 : Int32) = (own_b (own_ok v2 c2 (own_at p2 c0 c1 c2))))) ?_
                  exact kt
          obtain ⟨fs, hr, hrun, hended, hW, hsame⟩ := X0.leave (v := some (.int (nar .boolean (own_b (own_ok v2 c2 (own_at p2 c0 c1 c2)))))) (fun h => by rw [Bd.returns] at h; cases h)
          refine ⟨_, _, pr18 _ ?_, hrun, hended, _, _, rfl, ?_, ⟨_, rfl⟩, hW, hsame.mono (by decide) (by decide)⟩
          · show Steps p.tables e below (s₁.setTop (mkF m 32 #[.val (.ref a1), .val (.int p2), .val (.ref a3), .val (.int (own_b (own_ok v1 c1 (own_at p2 c0 c1 c2)))), .val (.int (2 : Int32))] [(.int (own_b (own_ok v1 c1 (own_at p2 c0 c1 c2))))])) _
            refine XS.ifNo X0.here hx rfl (hb hby d_mg_32) rfl ((if0 _ _).trans (feq (own_b1 hc32_17)).1) ?_
            show Steps p.tables e below (s₁.setTop (mkF m 35 #[.val (.ref a1), .val (.int p2), .val (.ref a3), .val (.int (own_b (own_ok v1 c1 (own_at p2 c0 c1 c2)))), .val (.int (2 : Int32))] [])) _
            refine sg19 _ ?_
            show Steps p.tables e below (s₁.setTop (mkF m 65 #[.val (.ref a1), .val (.int p2), .val (.ref a3), .val (.int (own_b (own_ok v1 c1 (own_at p2 c0 c1 c2)))), .val (.int (2 : Int32))] [(.int (own_b (own_ok v2 c2 (own_at p2 c0 c1 c2))))])) _
            refine XS.istoreN X0.here hx rfl (hb hby d_mg_65) rfl (l' := #[.val (.ref a1), .val (.int p2), .val (.ref a3), .val (.int (own_b (own_ok v2 c2 (own_at p2 c0 c1 c2)))), .val (.int (2 : Int32))]) rfl ?_
            show Steps p.tables e below (s₁.setTop (mkF m 66 #[.val (.ref a1), .val (.int p2), .val (.ref a3), .val (.int (own_b (own_ok v2 c2 (own_at p2 c0 c1 c2)))), .val (.int (2 : Int32))] [])) _
            refine XS.iinc X0.here hx rfl (hb hby d_mg_66) rfl (l' := #[.val (.ref a1), .val (.int p2), .val (.ref a3), .val (.int (own_b (own_ok v2 c2 (own_at p2 c0 c1 c2)))), .val (.int (3 : Int32))]) rfl ?_
            show Steps p.tables e below (s₁.setTop (mkF m 69 #[.val (.ref a1), .val (.int p2), .val (.ref a3), .val (.int (own_b (own_ok v2 c2 (own_at p2 c0 c1 c2)))), .val (.int (3 : Int32))] [])) _
            refine XS.goto X0.here hx rfl (pc0 := 69) (pc' := 24) rfl (hb hby d_mg_69) (by decide) (by decide) ?_
            show Steps p.tables e below (s₁.setTop (mkF m 24 #[.val (.ref a1), .val (.int p2), .val (.ref a3), .val (.int (own_b (own_ok v2 c2 (own_at p2 c0 c1 c2)))), .val (.int (3 : Int32))] [])) _
            refine XS.iload X0.here hx rfl (hb hby d_mg_24) rfl ?_
            show Steps p.tables e below (s₁.setTop (mkF m 26 #[.val (.ref a1), .val (.int p2), .val (.ref a3), .val (.int (own_b (own_ok v2 c2 (own_at p2 c0 c1 c2)))), .val (.int (3 : Int32))] [(.int (3 : Int32))])) _
            refine XS.aloadN X0.here hx rfl (hb hby d_mg_26) rfl rfl ?_
            show Steps p.tables e below (s₁.setTop (mkF m 27 #[.val (.ref a1), .val (.int p2), .val (.ref a3), .val (.int (own_b (own_ok v2 c2 (own_at p2 c0 c1 c2)))), .val (.int (3 : Int32))] [(.ref a1), (.int (3 : Int32))])) _
            refine X0.arraylength hx (by rw [e0]; exact Ar1.1) (State.isArrayOf_alike hZ.alike Ar1.2.1) (g := (mkF m 27 #[.val (.ref a1), .val (.int p2), .val (.ref a3), .val (.int (own_b (own_ok v2 c2 (own_at p2 c0 c1 c2)))), .val (.int (3 : Int32))] [(.ref a1), (.int (3 : Int32))])) rfl rfl (hb hby d_mg_27) _ ?_
            rw [len_of S1 M1]
            show Steps p.tables e below (s₁.setTop (mkF m 28 #[.val (.ref a1), .val (.int p2), .val (.ref a3), .val (.int (own_b (own_ok v2 c2 (own_at p2 c0 c1 c2)))), .val (.int (3 : Int32))] [(.int (3 : Int32)), (.int (3 : Int32))])) _
            refine XS.icmpYes X0.here hx rfl (pc0 := 28) (pc' := 72) rfl (hb hby d_mg_28) rfl (flt (by decide : ¬ ((3 : Int32) < (3 : Int32)))).2.1 (by decide) (by decide) ?_
            show Steps p.tables e below (s₁.setTop (mkF m 72 #[.val (.ref a1), .val (.int p2), .val (.ref a3), .val (.int (own_b (own_ok v2 c2 (own_at p2 c0 c1 c2)))), .val (.int (3 : Int32))] [])) _
            refine XS.iloadN X0.here hx rfl (hb hby d_mg_72) rfl ?_
            show Steps p.tables e below (s₁.setTop (mkF m 73 #[.val (.ref a1), .val (.int p2), .val (.ref a3), .val (.int (own_b (own_ok v2 c2 (own_at p2 c0 c1 c2)))), .val (.int (3 : Int32))] [(.int (own_b (own_ok v2 c2 (own_at p2 c0 c1 c2))))])) _
            exact retN X0 hx (t := .boolean) Bd.returns (by simp) (hb hby d_mg_73) hr
          · show Q_mg Z a1 p2 a3 k1 k3 v0 v1 v2 c0 c1 c2 h0 n0 _ s₁.heap _
            rw [e0]
            exact ⟨(congrArg (fun zz => some (Value.int zz)) (by rw [own_nb, show own_mg p2 v0 v1 v2 c0 c1 c2 = (own_ok v2 c2 (own_at p2 c0 c1 c2)) from by simp [own_mg, hc4_1, hc32_5, hc32_11, hc32_17]] : nar .boolean (own_b (own_ok v2 c2 (own_at p2 c0 c1 c2))) = (own_b (own_mg p2 v0 v1 v2 c0 c1 c2)))), N0, rfl⟩
        · obtain ⟨fs, hr, hrun, hended, hW, hsame⟩ := X0.leave (v := some (.int (nar .boolean (own_b (own_ok v1 c1 (own_at p2 c0 c1 c2)))))) (fun h => by rw [Bd.returns] at h; cases h)
          refine ⟨_, _, pr18 _ ?_, hrun, hended, _, _, rfl, ?_, ⟨_, rfl⟩, hW, hsame.mono (by decide) (by decide)⟩
          · show Steps p.tables e below (s₁.setTop (mkF m 32 #[.val (.ref a1), .val (.int p2), .val (.ref a3), .val (.int (own_b (own_ok v1 c1 (own_at p2 c0 c1 c2)))), .val (.int (2 : Int32))] [(.int (own_b (own_ok v1 c1 (own_at p2 c0 c1 c2))))])) _
            refine XS.ifYes X0.here hx rfl (pc0 := 32) (pc' := 72) rfl (hb hby d_mg_32) rfl ((if0 _ _).trans (teq (own_b0 hc32_17)).1) (by decide) (by decide) ?_
            show Steps p.tables e below (s₁.setTop (mkF m 72 #[.val (.ref a1), .val (.int p2), .val (.ref a3), .val (.int (own_b (own_ok v1 c1 (own_at p2 c0 c1 c2)))), .val (.int (2 : Int32))] [])) _
            refine XS.iloadN X0.here hx rfl (hb hby d_mg_72) rfl ?_
            show Steps p.tables e below (s₁.setTop (mkF m 73 #[.val (.ref a1), .val (.int p2), .val (.ref a3), .val (.int (own_b (own_ok v1 c1 (own_at p2 c0 c1 c2)))), .val (.int (2 : Int32))] [(.int (own_b (own_ok v1 c1 (own_at p2 c0 c1 c2))))])) _
            exact retN X0 hx (t := .boolean) Bd.returns (by simp) (hb hby d_mg_73) hr
          · show Q_mg Z a1 p2 a3 k1 k3 v0 v1 v2 c0 c1 c2 h0 n0 _ s₁.heap _
            rw [e0]
            exact ⟨(congrArg (fun zz => some (Value.int zz)) (by rw [own_nb, show own_mg p2 v0 v1 v2 c0 c1 c2 = (own_ok v1 c1 (own_at p2 c0 c1 c2)) from by simp [own_mg, hc4_1, hc32_5, hc32_11, hc32_17]] : nar .boolean (own_b (own_ok v1 c1 (own_at p2 c0 c1 c2))) = (own_b (own_mg p2 v0 v1 v2 c0 c1 c2)))), N0, rfl⟩
      · obtain ⟨fs, hr, hrun, hended, hW, hsame⟩ := X0.leave (v := some (.int (nar .boolean (own_b (own_ok v0 c0 (own_at p2 c0 c1 c2)))))) (fun h => by rw [Bd.returns] at h; cases h)
        refine ⟨_, _, pr12 _ ?_, hrun, hended, _, _, rfl, ?_, ⟨_, rfl⟩, hW, hsame.mono (by decide) (by decide)⟩
        · show Steps p.tables e below (s₁.setTop (mkF m 32 #[.val (.ref a1), .val (.int p2), .val (.ref a3), .val (.int (own_b (own_ok v0 c0 (own_at p2 c0 c1 c2)))), .val (.int (1 : Int32))] [(.int (own_b (own_ok v0 c0 (own_at p2 c0 c1 c2))))])) _
          refine XS.ifYes X0.here hx rfl (pc0 := 32) (pc' := 72) rfl (hb hby d_mg_32) rfl ((if0 _ _).trans (teq (own_b0 hc32_11)).1) (by decide) (by decide) ?_
          show Steps p.tables e below (s₁.setTop (mkF m 72 #[.val (.ref a1), .val (.int p2), .val (.ref a3), .val (.int (own_b (own_ok v0 c0 (own_at p2 c0 c1 c2)))), .val (.int (1 : Int32))] [])) _
          refine XS.iloadN X0.here hx rfl (hb hby d_mg_72) rfl ?_
          show Steps p.tables e below (s₁.setTop (mkF m 73 #[.val (.ref a1), .val (.int p2), .val (.ref a3), .val (.int (own_b (own_ok v0 c0 (own_at p2 c0 c1 c2)))), .val (.int (1 : Int32))] [(.int (own_b (own_ok v0 c0 (own_at p2 c0 c1 c2))))])) _
          exact retN X0 hx (t := .boolean) Bd.returns (by simp) (hb hby d_mg_73) hr
        · show Q_mg Z a1 p2 a3 k1 k3 v0 v1 v2 c0 c1 c2 h0 n0 _ s₁.heap _
          rw [e0]
          exact ⟨(congrArg (fun zz => some (Value.int zz)) (by rw [own_nb, show own_mg p2 v0 v1 v2 c0 c1 c2 = (own_ok v0 c0 (own_at p2 c0 c1 c2)) from by simp [own_mg, hc4_1, hc32_5, hc32_11]] : nar .boolean (own_b (own_ok v0 c0 (own_at p2 c0 c1 c2))) = (own_b (own_mg p2 v0 v1 v2 c0 c1 c2)))), N0, rfl⟩
    · obtain ⟨fs, hr, hrun, hended, hW, hsame⟩ := X0.leave (v := some (.int (nar .boolean (own_b (own_z (own_at p2 v0 v1 v2)))))) (fun h => by rw [Bd.returns] at h; cases h)
      refine ⟨_, _, pr6 _ ?_, hrun, hended, _, _, rfl, ?_, ⟨_, rfl⟩, hW, hsame.mono (by decide) (by decide)⟩
      · show Steps p.tables e below (s₁.setTop (mkF m 32 #[.val (.ref a1), .val (.int p2), .val (.ref a3), .val (.int (own_b (own_z (own_at p2 v0 v1 v2)))), .val (.int (0 : Int32))] [(.int (own_b (own_z (own_at p2 v0 v1 v2))))])) _
        refine XS.ifYes X0.here hx rfl (pc0 := 32) (pc' := 72) rfl (hb hby d_mg_32) rfl ((if0 _ _).trans (teq (own_b0 hc32_5)).1) (by decide) (by decide) ?_
        show Steps p.tables e below (s₁.setTop (mkF m 72 #[.val (.ref a1), .val (.int p2), .val (.ref a3), .val (.int (own_b (own_z (own_at p2 v0 v1 v2)))), .val (.int (0 : Int32))] [])) _
        refine XS.iloadN X0.here hx rfl (hb hby d_mg_72) rfl ?_
        show Steps p.tables e below (s₁.setTop (mkF m 73 #[.val (.ref a1), .val (.int p2), .val (.ref a3), .val (.int (own_b (own_z (own_at p2 v0 v1 v2)))), .val (.int (0 : Int32))] [(.int (own_b (own_z (own_at p2 v0 v1 v2))))])) _
        exact retN X0 hx (t := .boolean) Bd.returns (by simp) (hb hby d_mg_73) hr
      · show Q_mg Z a1 p2 a3 k1 k3 v0 v1 v2 c0 c1 c2 h0 n0 _ s₁.heap _
        rw [e0]
        exact ⟨(congrArg (fun zz => some (Value.int zz)) (by rw [own_nb, show own_mg p2 v0 v1 v2 c0 c1 c2 = (own_z (own_at p2 v0 v1 v2)) from by simp [own_mg, hc4_1, hc32_5]] : nar .boolean (own_b (own_z (own_at p2 v0 v1 v2))) = (own_b (own_mg p2 v0 v1 v2 c0 c1 c2)))), N0, rfl⟩
theorem pn_law : plainName "com/example/term_unifier/termunifier/service/DiophantineBasisMayGrowPinLaw" = true := by first | (simp [plainName, overriddenIn]; done) | decide +kernel
theorem pd_law_0 : parseMethodDescriptor "(IIIIII)Z" = some ⟨[.int, .int, .int, .int, .int, .int], some .boolean⟩ := by decide +kernel
theorem pd_law_1 : parseMethodDescriptor "([II[I)Z" = some ⟨[(.array .int), .int, (.array .int)], some .boolean⟩ := by decide +kernel
theorem ef_law (m : MethodId) (p1 : Int32) (p2 : Int32) (p3 : Int32) (p4 : Int32) (p5 : Int32) : entryFrame m #[(.int p1), (.int p2), (.int p3), (.int p4), (.int p5)] maxLocals = mkF m 0 #[.val (.int p1), .val (.int p2), .val (.int p3), .val (.int p4), .val (.int p5), .unset, .unset, .unset, .unset, .unset, .unset, .unset, .unset, .unset, .unset, .unset, .unset, .unset, .unset, .unset] [] := by first | (simp [entryFrame, mkF, argsToLocals, Value.category, maxLocals]; done) | rfl
def Q_law (Z : State) (p1 : Int32) (p2 : Int32) (p3 : Int32) (p4 : Int32) (p5 : Int32) (h0 : Heap) (n0 : Nat) (v : Option Value) (h : Heap) (L : List Loc) : Prop := v = some (.int (1 : Int32)) ∧ Fr n0 L
set_option maxRecDepth 65536 in
set_option maxHeartbeats 40000000 in
theorem rm_law (l : Launch) (Z : State) (a0 : Array Value) (hw : ∀ d ∈ tables_1, d.before a0 Z = true) (ws : List Jvm.Cond) (p1 : Int32) (p2 : Int32) (p3 : Int32) (p4 : Int32) (p5 : Int32) (h0 : Heap) (n0 : Nat) (Z0 : n0 ≤ h0.size) :
    MetFree l x (head1 (Jvm.Cond.code x code maxLocals ret :: ws) room_1) (fun a U => a = #[(.int p1), (.int p2), (.int p3), (.int p4), (.int p5)] ∧ Z.Warmed39 U.vm ∧ U.heap = h0) (fun _ _ _ _ _ => True) (fun _ U o U' => ∃ v L, o = .returned v ∧ Q_law Z p1 p2 p3 p4 p5 h0 n0 v U'.heap L ∧ FrameEnd U o U' L room_1.cells room_1.slots) := by
  refine MetFree.of_bodySF (plainFor_of_name pn_law) hisR ?_
  intro p e s m args below meth c s₁ Bd hml0 hP hK
  obtain ⟨rfl, hZ, hh⟩ := hP
  have hx := Bd.exec
  have hby := Bd.bytes
  have hml : c.maxLocals = 20 := hml0
  have hown : s.vm.findClass "com/example/term_unifier/termunifier/service/DiophantineBasisMayGrowPinLaw" = some m.cls := findClass_of_methodNamed Bd.named
  have hnm := (name_of_methodNamed Bd.named Bd.method).1
  have X0 : Stand p l e room_1 s m #[(.int p1), (.int p2), (.int p3), (.int p4), (.int p5)] below meth c s₁ [] 0 0 := Stand.of_body Bd
  have e0 : s₁.heap = h0 := by rw [← hh, Bd.state]; rfl
  have N0 := Fr.nil n0
  have pre0 : ∀ t, Steps p.tables e below (s₁.setTop (mkF m 0 #[.val (.int p1), .val (.int p2), .val (.int p3), .val (.int p4), .val (.int p5), .unset, .unset, .unset, .unset, .unset, .unset, .unset, .unset, .unset, .unset, .unset, .unset, .unset, .unset, .unset] [])) t → Steps p.tables e below (s₁.setTop (entryFrame m #[(.int p1), (.int p2), (.int p3), (.int p4), (.int p5)] maxLocals)) t := fun t k => castTop (ef_law m p1 p2 p3 p4 p5) k
  have pr2 : ∀ t, Steps p.tables e below (s₁.setTop (mkF m 61 #[.val (.int p1), .val (.int p2), .val (.int p3), .val (.int p4), .val (.int p5), .val (.int (own_v0 p1)), .val (.int (own_v1 p1)), .val (.int (own_v2 p1)), .val (.int (own_c p2)), .val (.int (own_c p3)), .val (.int (own_c p4)), .val (.int (own_u p5)), .unset, .unset, .unset, .unset, .unset, .unset, .unset, .unset] [(.int (own_c p4)), (.int (own_c p3)), (.int (own_c p2)), (.int (own_v2 p1)), (.int (own_v1 p1)), (.int (own_v0 p1))])) t → Steps p.tables e below (s₁.setTop (entryFrame m #[(.int p1), (.int p2), (.int p3), (.int p4), (.int p5)] maxLocals)) t := fun t kt => pre0 t (by
    show Steps p.tables e below (s₁.setTop (mkF m 0 #[.val (.int p1), .val (.int p2), .val (.int p3), .val (.int p4), .val (.int p5), .unset, .unset, .unset, .unset, .unset, .unset, .unset, .unset, .unset, .unset, .unset, .unset, .unset, .unset, .unset] [])) _
    refine XS.iloadN X0.here hx rfl (hb hby at_0) rfl ?_
    show Steps p.tables e below (s₁.setTop (mkF m 1 #[.val (.int p1), .val (.int p2), .val (.int p3), .val (.int p4), .val (.int p5), .unset, .unset, .unset, .unset, .unset, .unset, .unset, .unset, .unset, .unset, .unset, .unset, .unset, .unset, .unset] [(.int p1)])) _
    refine XS.iconst X0.here hx rfl (hb hby at_1) ?_
    show Steps p.tables e below (s₁.setTop (mkF m 2 #[.val (.int p1), .val (.int p2), .val (.int p3), .val (.int p4), .val (.int p5), .unset, .unset, .unset, .unset, .unset, .unset, .unset, .unset, .unset, .unset, .unset, .unset, .unset, .unset, .unset] [(.int (3 : Int32)), (.int p1)])) _
    refine XS.iand X0.here hx rfl (hb hby at_2) rfl ?_
    show Steps p.tables e below (s₁.setTop (mkF m 3 #[.val (.int p1), .val (.int p2), .val (.int p3), .val (.int p4), .val (.int p5), .unset, .unset, .unset, .unset, .unset, .unset, .unset, .unset, .unset, .unset, .unset, .unset, .unset, .unset, .unset] [(.int (p1 &&& (3 : Int32)))])) _
    refine XS.istore X0.here hx rfl (hb hby at_3) rfl (l' := #[.val (.int p1), .val (.int p2), .val (.int p3), .val (.int p4), .val (.int p5), .val (.int (own_v0 p1)), .unset, .unset, .unset, .unset, .unset, .unset, .unset, .unset, .unset, .unset, .unset, .unset, .unset, .unset]) rfl ?_
    show Steps p.tables e below (s₁.setTop (mkF m 5 #[.val (.int p1), .val (.int p2), .val (.int p3), .val (.int p4), .val (.int p5), .val (.int (own_v0 p1)), .unset, .unset, .unset, .unset, .unset, .unset, .unset, .unset, .unset, .unset, .unset, .unset, .unset, .unset] [])) _
    refine XS.iloadN X0.here hx rfl (hb hby at_5) rfl ?_
    show Steps p.tables e below (s₁.setTop (mkF m 6 #[.val (.int p1), .val (.int p2), .val (.int p3), .val (.int p4), .val (.int p5), .val (.int (own_v0 p1)), .unset, .unset, .unset, .unset, .unset, .unset, .unset, .unset, .unset, .unset, .unset, .unset, .unset, .unset] [(.int p1)])) _
    refine XS.iconst X0.here hx rfl (hb hby at_6) ?_
    show Steps p.tables e below (s₁.setTop (mkF m 7 #[.val (.int p1), .val (.int p2), .val (.int p3), .val (.int p4), .val (.int p5), .val (.int (own_v0 p1)), .unset, .unset, .unset, .unset, .unset, .unset, .unset, .unset, .unset, .unset, .unset, .unset, .unset, .unset] [(.int (2 : Int32)), (.int p1)])) _
    refine XS.iushr X0.here hx rfl (hb hby at_7) rfl ?_
    show Steps p.tables e below (s₁.setTop (mkF m 8 #[.val (.int p1), .val (.int p2), .val (.int p3), .val (.int p4), .val (.int p5), .val (.int (own_v0 p1)), .unset, .unset, .unset, .unset, .unset, .unset, .unset, .unset, .unset, .unset, .unset, .unset, .unset, .unset] [(.int ((p1.toUInt32 >>> ((2 : Int32) &&& 31).toUInt32).toInt32))])) _
    refine XS.iconst X0.here hx rfl (hb hby at_8) ?_
    show Steps p.tables e below (s₁.setTop (mkF m 9 #[.val (.int p1), .val (.int p2), .val (.int p3), .val (.int p4), .val (.int p5), .val (.int (own_v0 p1)), .unset, .unset, .unset, .unset, .unset, .unset, .unset, .unset, .unset, .unset, .unset, .unset, .unset, .unset] [(.int (3 : Int32)), (.int ((p1.toUInt32 >>> ((2 : Int32) &&& 31).toUInt32).toInt32))])) _
    refine XS.iand X0.here hx rfl (hb hby at_9) rfl ?_
    show Steps p.tables e below (s₁.setTop (mkF m 10 #[.val (.int p1), .val (.int p2), .val (.int p3), .val (.int p4), .val (.int p5), .val (.int (own_v0 p1)), .unset, .unset, .unset, .unset, .unset, .unset, .unset, .unset, .unset, .unset, .unset, .unset, .unset, .unset] [(.int (((p1.toUInt32 >>> ((2 : Int32) &&& 31).toUInt32).toInt32) &&& (3 : Int32)))])) _
    refine XS.istore X0.here hx rfl (hb hby at_10) rfl (l' := #[.val (.int p1), .val (.int p2), .val (.int p3), .val (.int p4), .val (.int p5), .val (.int (own_v0 p1)), .val (.int (own_v1 p1)), .unset, .unset, .unset, .unset, .unset, .unset, .unset, .unset, .unset, .unset, .unset, .unset, .unset]) rfl ?_
    show Steps p.tables e below (s₁.setTop (mkF m 12 #[.val (.int p1), .val (.int p2), .val (.int p3), .val (.int p4), .val (.int p5), .val (.int (own_v0 p1)), .val (.int (own_v1 p1)), .unset, .unset, .unset, .unset, .unset, .unset, .unset, .unset, .unset, .unset, .unset, .unset, .unset] [])) _
    refine XS.iloadN X0.here hx rfl (hb hby at_12) rfl ?_
    show Steps p.tables e below (s₁.setTop (mkF m 13 #[.val (.int p1), .val (.int p2), .val (.int p3), .val (.int p4), .val (.int p5), .val (.int (own_v0 p1)), .val (.int (own_v1 p1)), .unset, .unset, .unset, .unset, .unset, .unset, .unset, .unset, .unset, .unset, .unset, .unset, .unset] [(.int p1)])) _
    refine XS.iconst X0.here hx rfl (hb hby at_13) ?_
    show Steps p.tables e below (s₁.setTop (mkF m 14 #[.val (.int p1), .val (.int p2), .val (.int p3), .val (.int p4), .val (.int p5), .val (.int (own_v0 p1)), .val (.int (own_v1 p1)), .unset, .unset, .unset, .unset, .unset, .unset, .unset, .unset, .unset, .unset, .unset, .unset, .unset] [(.int (4 : Int32)), (.int p1)])) _
    refine XS.iushr X0.here hx rfl (hb hby at_14) rfl ?_
    show Steps p.tables e below (s₁.setTop (mkF m 15 #[.val (.int p1), .val (.int p2), .val (.int p3), .val (.int p4), .val (.int p5), .val (.int (own_v0 p1)), .val (.int (own_v1 p1)), .unset, .unset, .unset, .unset, .unset, .unset, .unset, .unset, .unset, .unset, .unset, .unset, .unset] [(.int ((p1.toUInt32 >>> ((4 : Int32) &&& 31).toUInt32).toInt32))])) _
    refine XS.iconst X0.here hx rfl (hb hby at_15) ?_
    show Steps p.tables e below (s₁.setTop (mkF m 16 #[.val (.int p1), .val (.int p2), .val (.int p3), .val (.int p4), .val (.int p5), .val (.int (own_v0 p1)), .val (.int (own_v1 p1)), .unset, .unset, .unset, .unset, .unset, .unset, .unset, .unset, .unset, .unset, .unset, .unset, .unset] [(.int (3 : Int32)), (.int ((p1.toUInt32 >>> ((4 : Int32) &&& 31).toUInt32).toInt32))])) _
    refine XS.iand X0.here hx rfl (hb hby at_16) rfl ?_
    show Steps p.tables e below (s₁.setTop (mkF m 17 #[.val (.int p1), .val (.int p2), .val (.int p3), .val (.int p4), .val (.int p5), .val (.int (own_v0 p1)), .val (.int (own_v1 p1)), .unset, .unset, .unset, .unset, .unset, .unset, .unset, .unset, .unset, .unset, .unset, .unset, .unset] [(.int (((p1.toUInt32 >>> ((4 : Int32) &&& 31).toUInt32).toInt32) &&& (3 : Int32)))])) _
    refine XS.istore X0.here hx rfl (hb hby at_17) rfl (l' := #[.val (.int p1), .val (.int p2), .val (.int p3), .val (.int p4), .val (.int p5), .val (.int (own_v0 p1)), .val (.int (own_v1 p1)), .val (.int (own_v2 p1)), .unset, .unset, .unset, .unset, .unset, .unset, .unset, .unset, .unset, .unset, .unset, .unset]) rfl ?_
    show Steps p.tables e below (s₁.setTop (mkF m 19 #[.val (.int p1), .val (.int p2), .val (.int p3), .val (.int p4), .val (.int p5), .val (.int (own_v0 p1)), .val (.int (own_v1 p1)), .val (.int (own_v2 p1)), .unset, .unset, .unset, .unset, .unset, .unset, .unset, .unset, .unset, .unset, .unset, .unset] [])) _
    refine XS.iloadN X0.here hx rfl (hb hby at_19) rfl ?_
    show Steps p.tables e below (s₁.setTop (mkF m 20 #[.val (.int p1), .val (.int p2), .val (.int p3), .val (.int p4), .val (.int p5), .val (.int (own_v0 p1)), .val (.int (own_v1 p1)), .val (.int (own_v2 p1)), .unset, .unset, .unset, .unset, .unset, .unset, .unset, .unset, .unset, .unset, .unset, .unset] [(.int p2)])) _
    refine XS.iconst X0.here hx rfl (hb hby at_20) ?_
    show Steps p.tables e below (s₁.setTop (mkF m 21 #[.val (.int p1), .val (.int p2), .val (.int p3), .val (.int p4), .val (.int p5), .val (.int (own_v0 p1)), .val (.int (own_v1 p1)), .val (.int (own_v2 p1)), .unset, .unset, .unset, .unset, .unset, .unset, .unset, .unset, .unset, .unset, .unset, .unset] [(.int (3 : Int32)), (.int p2)])) _
    refine XS.iand X0.here hx rfl (hb hby at_21) rfl ?_
    show Steps p.tables e below (s₁.setTop (mkF m 22 #[.val (.int p1), .val (.int p2), .val (.int p3), .val (.int p4), .val (.int p5), .val (.int (own_v0 p1)), .val (.int (own_v1 p1)), .val (.int (own_v2 p1)), .unset, .unset, .unset, .unset, .unset, .unset, .unset, .unset, .unset, .unset, .unset, .unset] [(.int (p2 &&& (3 : Int32)))])) _
    refine XS.iconst X0.here hx rfl (hb hby at_22) ?_
    show Steps p.tables e below (s₁.setTop (mkF m 23 #[.val (.int p1), .val (.int p2), .val (.int p3), .val (.int p4), .val (.int p5), .val (.int (own_v0 p1)), .val (.int (own_v1 p1)), .val (.int (own_v2 p1)), .unset, .unset, .unset, .unset, .unset, .unset, .unset, .unset, .unset, .unset, .unset, .unset] [(.int (1 : Int32)), (.int (p2 &&& (3 : Int32)))])) _
    refine XS.isub X0.here hx rfl (hb hby at_23) rfl ?_
    show Steps p.tables e below (s₁.setTop (mkF m 24 #[.val (.int p1), .val (.int p2), .val (.int p3), .val (.int p4), .val (.int p5), .val (.int (own_v0 p1)), .val (.int (own_v1 p1)), .val (.int (own_v2 p1)), .unset, .unset, .unset, .unset, .unset, .unset, .unset, .unset, .unset, .unset, .unset, .unset] [(.int ((p2 &&& (3 : Int32)) - (1 : Int32)))])) _
    refine XS.istore X0.here hx rfl (hb hby at_24) rfl (l' := #[.val (.int p1), .val (.int p2), .val (.int p3), .val (.int p4), .val (.int p5), .val (.int (own_v0 p1)), .val (.int (own_v1 p1)), .val (.int (own_v2 p1)), .val (.int (own_c p2)), .unset, .unset, .unset, .unset, .unset, .unset, .unset, .unset, .unset, .unset, .unset]) rfl ?_
    show Steps p.tables e below (s₁.setTop (mkF m 26 #[.val (.int p1), .val (.int p2), .val (.int p3), .val (.int p4), .val (.int p5), .val (.int (own_v0 p1)), .val (.int (own_v1 p1)), .val (.int (own_v2 p1)), .val (.int (own_c p2)), .unset, .unset, .unset, .unset, .unset, .unset, .unset, .unset, .unset, .unset, .unset] [])) _
    refine XS.iloadN X0.here hx rfl (hb hby at_26) rfl ?_
    show Steps p.tables e below (s₁.setTop (mkF m 27 #[.val (.int p1), .val (.int p2), .val (.int p3), .val (.int p4), .val (.int p5), .val (.int (own_v0 p1)), .val (.int (own_v1 p1)), .val (.int (own_v2 p1)), .val (.int (own_c p2)), .unset, .unset, .unset, .unset, .unset, .unset, .unset, .unset, .unset, .unset, .unset] [(.int p3)])) _
    refine XS.iconst X0.here hx rfl (hb hby at_27) ?_
    show Steps p.tables e below (s₁.setTop (mkF m 28 #[.val (.int p1), .val (.int p2), .val (.int p3), .val (.int p4), .val (.int p5), .val (.int (own_v0 p1)), .val (.int (own_v1 p1)), .val (.int (own_v2 p1)), .val (.int (own_c p2)), .unset, .unset, .unset, .unset, .unset, .unset, .unset, .unset, .unset, .unset, .unset] [(.int (3 : Int32)), (.int p3)])) _
    refine XS.iand X0.here hx rfl (hb hby at_28) rfl ?_
    show Steps p.tables e below (s₁.setTop (mkF m 29 #[.val (.int p1), .val (.int p2), .val (.int p3), .val (.int p4), .val (.int p5), .val (.int (own_v0 p1)), .val (.int (own_v1 p1)), .val (.int (own_v2 p1)), .val (.int (own_c p2)), .unset, .unset, .unset, .unset, .unset, .unset, .unset, .unset, .unset, .unset, .unset] [(.int (p3 &&& (3 : Int32)))])) _
    refine XS.iconst X0.here hx rfl (hb hby at_29) ?_
    show Steps p.tables e below (s₁.setTop (mkF m 30 #[.val (.int p1), .val (.int p2), .val (.int p3), .val (.int p4), .val (.int p5), .val (.int (own_v0 p1)), .val (.int (own_v1 p1)), .val (.int (own_v2 p1)), .val (.int (own_c p2)), .unset, .unset, .unset, .unset, .unset, .unset, .unset, .unset, .unset, .unset, .unset] [(.int (1 : Int32)), (.int (p3 &&& (3 : Int32)))])) _
    refine XS.isub X0.here hx rfl (hb hby at_30) rfl ?_
    show Steps p.tables e below (s₁.setTop (mkF m 31 #[.val (.int p1), .val (.int p2), .val (.int p3), .val (.int p4), .val (.int p5), .val (.int (own_v0 p1)), .val (.int (own_v1 p1)), .val (.int (own_v2 p1)), .val (.int (own_c p2)), .unset, .unset, .unset, .unset, .unset, .unset, .unset, .unset, .unset, .unset, .unset] [(.int ((p3 &&& (3 : Int32)) - (1 : Int32)))])) _
    refine XS.istore X0.here hx rfl (hb hby at_31) rfl (l' := #[.val (.int p1), .val (.int p2), .val (.int p3), .val (.int p4), .val (.int p5), .val (.int (own_v0 p1)), .val (.int (own_v1 p1)), .val (.int (own_v2 p1)), .val (.int (own_c p2)), .val (.int (own_c p3)), .unset, .unset, .unset, .unset, .unset, .unset, .unset, .unset, .unset, .unset]) rfl ?_
    show Steps p.tables e below (s₁.setTop (mkF m 33 #[.val (.int p1), .val (.int p2), .val (.int p3), .val (.int p4), .val (.int p5), .val (.int (own_v0 p1)), .val (.int (own_v1 p1)), .val (.int (own_v2 p1)), .val (.int (own_c p2)), .val (.int (own_c p3)), .unset, .unset, .unset, .unset, .unset, .unset, .unset, .unset, .unset, .unset] [])) _
    refine XS.iloadN X0.here hx rfl (hb hby at_33) rfl ?_
    show Steps p.tables e below (s₁.setTop (mkF m 34 #[.val (.int p1), .val (.int p2), .val (.int p3), .val (.int p4), .val (.int p5), .val (.int (own_v0 p1)), .val (.int (own_v1 p1)), .val (.int (own_v2 p1)), .val (.int (own_c p2)), .val (.int (own_c p3)), .unset, .unset, .unset, .unset, .unset, .unset, .unset, .unset, .unset, .unset] [(.int p4)])) _
    refine XS.iconst X0.here hx rfl (hb hby at_34) ?_
    show Steps p.tables e below (s₁.setTop (mkF m 35 #[.val (.int p1), .val (.int p2), .val (.int p3), .val (.int p4), .val (.int p5), .val (.int (own_v0 p1)), .val (.int (own_v1 p1)), .val (.int (own_v2 p1)), .val (.int (own_c p2)), .val (.int (own_c p3)), .unset, .unset, .unset, .unset, .unset, .unset, .unset, .unset, .unset, .unset] [(.int (3 : Int32)), (.int p4)])) _
    refine XS.iand X0.here hx rfl (hb hby at_35) rfl ?_
    show Steps p.tables e below (s₁.setTop (mkF m 36 #[.val (.int p1), .val (.int p2), .val (.int p3), .val (.int p4), .val (.int p5), .val (.int (own_v0 p1)), .val (.int (own_v1 p1)), .val (.int (own_v2 p1)), .val (.int (own_c p2)), .val (.int (own_c p3)), .unset, .unset, .unset, .unset, .unset, .unset, .unset, .unset, .unset, .unset] [(.int (p4 &&& (3 : Int32)))])) _
    refine XS.iconst X0.here hx rfl (hb hby at_36) ?_
    show Steps p.tables e below (s₁.setTop (mkF m 37 #[.val (.int p1), .val (.int p2), .val (.int p3), .val (.int p4), .val (.int p5), .val (.int (own_v0 p1)), .val (.int (own_v1 p1)), .val (.int (own_v2 p1)), .val (.int (own_c p2)), .val (.int (own_c p3)), .unset, .unset, .unset, .unset, .unset, .unset, .unset, .unset, .unset, .unset] [(.int (1 : Int32)), (.int (p4 &&& (3 : Int32)))])) _
    refine XS.isub X0.here hx rfl (hb hby at_37) rfl ?_
    show Steps p.tables e below (s₁.setTop (mkF m 38 #[.val (.int p1), .val (.int p2), .val (.int p3), .val (.int p4), .val (.int p5), .val (.int (own_v0 p1)), .val (.int (own_v1 p1)), .val (.int (own_v2 p1)), .val (.int (own_c p2)), .val (.int (own_c p3)), .unset, .unset, .unset, .unset, .unset, .unset, .unset, .unset, .unset, .unset] [(.int ((p4 &&& (3 : Int32)) - (1 : Int32)))])) _
    refine XS.istore X0.here hx rfl (hb hby at_38) rfl (l' := #[.val (.int p1), .val (.int p2), .val (.int p3), .val (.int p4), .val (.int p5), .val (.int (own_v0 p1)), .val (.int (own_v1 p1)), .val (.int (own_v2 p1)), .val (.int (own_c p2)), .val (.int (own_c p3)), .val (.int (own_c p4)), .unset, .unset, .unset, .unset, .unset, .unset, .unset, .unset, .unset]) rfl ?_
    show Steps p.tables e below (s₁.setTop (mkF m 40 #[.val (.int p1), .val (.int p2), .val (.int p3), .val (.int p4), .val (.int p5), .val (.int (own_v0 p1)), .val (.int (own_v1 p1)), .val (.int (own_v2 p1)), .val (.int (own_c p2)), .val (.int (own_c p3)), .val (.int (own_c p4)), .unset, .unset, .unset, .unset, .unset, .unset, .unset, .unset, .unset] [])) _
    refine XS.iload X0.here hx rfl (hb hby at_40) rfl ?_
    show Steps p.tables e below (s₁.setTop (mkF m 42 #[.val (.int p1), .val (.int p2), .val (.int p3), .val (.int p4), .val (.int p5), .val (.int (own_v0 p1)), .val (.int (own_v1 p1)), .val (.int (own_v2 p1)), .val (.int (own_c p2)), .val (.int (own_c p3)), .val (.int (own_c p4)), .unset, .unset, .unset, .unset, .unset, .unset, .unset, .unset, .unset] [(.int p5)])) _
    refine X0.ldcInt hx hown (mvT hZ (hw _ (List.mem_of_getElem? (i := 0) rfl))) (g := (mkF m 42 #[.val (.int p1), .val (.int p2), .val (.int p3), .val (.int p4), .val (.int p5), .val (.int (own_v0 p1)), .val (.int (own_v1 p1)), .val (.int (own_v2 p1)), .val (.int (own_c p2)), .val (.int (own_c p3)), .val (.int (own_c p4)), .unset, .unset, .unset, .unset, .unset, .unset, .unset, .unset, .unset] [(.int p5)])) rfl (hb hby at_42) _ ?_
    show Steps p.tables e below (s₁.setTop (mkF m 44 #[.val (.int p1), .val (.int p2), .val (.int p3), .val (.int p4), .val (.int p5), .val (.int (own_v0 p1)), .val (.int (own_v1 p1)), .val (.int (own_v2 p1)), .val (.int (own_c p2)), .val (.int (own_c p3)), .val (.int (own_c p4)), .unset, .unset, .unset, .unset, .unset, .unset, .unset, .unset, .unset] [(.int (2147483647 : Int32)), (.int p5)])) _
    refine XS.iand X0.here hx rfl (hb hby at_44) rfl ?_
    show Steps p.tables e below (s₁.setTop (mkF m 45 #[.val (.int p1), .val (.int p2), .val (.int p3), .val (.int p4), .val (.int p5), .val (.int (own_v0 p1)), .val (.int (own_v1 p1)), .val (.int (own_v2 p1)), .val (.int (own_c p2)), .val (.int (own_c p3)), .val (.int (own_c p4)), .unset, .unset, .unset, .unset, .unset, .unset, .unset, .unset, .unset] [(.int (p5 &&& (2147483647 : Int32)))])) _
    refine XS.iconst X0.here hx rfl (hb hby at_45) ?_
    show Steps p.tables e below (s₁.setTop (mkF m 46 #[.val (.int p1), .val (.int p2), .val (.int p3), .val (.int p4), .val (.int p5), .val (.int (own_v0 p1)), .val (.int (own_v1 p1)), .val (.int (own_v2 p1)), .val (.int (own_c p2)), .val (.int (own_c p3)), .val (.int (own_c p4)), .unset, .unset, .unset, .unset, .unset, .unset, .unset, .unset, .unset] [(.int (3 : Int32)), (.int (p5 &&& (2147483647 : Int32)))])) _
    refine XS.irem X0.here hx rfl (hb hby at_46) rfl (by decide) ?_
    show Steps p.tables e below (s₁.setTop (mkF m 47 #[.val (.int p1), .val (.int p2), .val (.int p3), .val (.int p4), .val (.int p5), .val (.int (own_v0 p1)), .val (.int (own_v1 p1)), .val (.int (own_v2 p1)), .val (.int (own_c p2)), .val (.int (own_c p3)), .val (.int (own_c p4)), .unset, .unset, .unset, .unset, .unset, .unset, .unset, .unset, .unset] [(.int ((p5 &&& (2147483647 : Int32)) - ((p5 &&& (2147483647 : Int32)) / (3 : Int32)) * (3 : Int32)))])) _
    refine XS.istore X0.here hx rfl (hb hby at_47) rfl (l' := #[.val (.int p1), .val (.int p2), .val (.int p3), .val (.int p4), .val (.int p5), .val (.int (own_v0 p1)), .val (.int (own_v1 p1)), .val (.int (own_v2 p1)), .val (.int (own_c p2)), .val (.int (own_c p3)), .val (.int (own_c p4)), .val (.int (own_u p5)), .unset, .unset, .unset, .unset, .unset, .unset, .unset, .unset]) rfl ?_
    show Steps p.tables e below (s₁.setTop (mkF m 49 #[.val (.int p1), .val (.int p2), .val (.int p3), .val (.int p4), .val (.int p5), .val (.int (own_v0 p1)), .val (.int (own_v1 p1)), .val (.int (own_v2 p1)), .val (.int (own_c p2)), .val (.int (own_c p3)), .val (.int (own_c p4)), .val (.int (own_u p5)), .unset, .unset, .unset, .unset, .unset, .unset, .unset, .unset] [])) _
    refine XS.iload X0.here hx rfl (hb hby at_49) rfl ?_
    show Steps p.tables e below (s₁.setTop (mkF m 51 #[.val (.int p1), .val (.int p2), .val (.int p3), .val (.int p4), .val (.int p5), .val (.int (own_v0 p1)), .val (.int (own_v1 p1)), .val (.int (own_v2 p1)), .val (.int (own_c p2)), .val (.int (own_c p3)), .val (.int (own_c p4)), .val (.int (own_u p5)), .unset, .unset, .unset, .unset, .unset, .unset, .unset, .unset] [(.int (own_v0 p1))])) _
    refine XS.iload X0.here hx rfl (hb hby at_51) rfl ?_
    show Steps p.tables e below (s₁.setTop (mkF m 53 #[.val (.int p1), .val (.int p2), .val (.int p3), .val (.int p4), .val (.int p5), .val (.int (own_v0 p1)), .val (.int (own_v1 p1)), .val (.int (own_v2 p1)), .val (.int (own_c p2)), .val (.int (own_c p3)), .val (.int (own_c p4)), .val (.int (own_u p5)), .unset, .unset, .unset, .unset, .unset, .unset, .unset, .unset] [(.int (own_v1 p1)), (.int (own_v0 p1))])) _
    refine XS.iload X0.here hx rfl (hb hby at_53) rfl ?_
    show Steps p.tables e below (s₁.setTop (mkF m 55 #[.val (.int p1), .val (.int p2), .val (.int p3), .val (.int p4), .val (.int p5), .val (.int (own_v0 p1)), .val (.int (own_v1 p1)), .val (.int (own_v2 p1)), .val (.int (own_c p2)), .val (.int (own_c p3)), .val (.int (own_c p4)), .val (.int (own_u p5)), .unset, .unset, .unset, .unset, .unset, .unset, .unset, .unset] [(.int (own_v2 p1)), (.int (own_v1 p1)), (.int (own_v0 p1))])) _
    refine XS.iload X0.here hx rfl (hb hby at_55) rfl ?_
    show Steps p.tables e below (s₁.setTop (mkF m 57 #[.val (.int p1), .val (.int p2), .val (.int p3), .val (.int p4), .val (.int p5), .val (.int (own_v0 p1)), .val (.int (own_v1 p1)), .val (.int (own_v2 p1)), .val (.int (own_c p2)), .val (.int (own_c p3)), .val (.int (own_c p4)), .val (.int (own_u p5)), .unset, .unset, .unset, .unset, .unset, .unset, .unset, .unset] [(.int (own_c p2)), (.int (own_v2 p1)), (.int (own_v1 p1)), (.int (own_v0 p1))])) _
    refine XS.iload X0.here hx rfl (hb hby at_57) rfl ?_
    show Steps p.tables e below (s₁.setTop (mkF m 59 #[.val (.int p1), .val (.int p2), .val (.int p3), .val (.int p4), .val (.int p5), .val (.int (own_v0 p1)), .val (.int (own_v1 p1)), .val (.int (own_v2 p1)), .val (.int (own_c p2)), .val (.int (own_c p3)), .val (.int (own_c p4)), .val (.int (own_u p5)), .unset, .unset, .unset, .unset, .unset, .unset, .unset, .unset] [(.int (own_c p3)), (.int (own_c p2)), (.int (own_v2 p1)), (.int (own_v1 p1)), (.int (own_v0 p1))])) _
    refine XS.iload X0.here hx rfl (hb hby at_59) rfl ?_
    show Steps p.tables e below (s₁.setTop (mkF m 61 #[.val (.int p1), .val (.int p2), .val (.int p3), .val (.int p4), .val (.int p5), .val (.int (own_v0 p1)), .val (.int (own_v1 p1)), .val (.int (own_v2 p1)), .val (.int (own_c p2)), .val (.int (own_c p3)), .val (.int (own_c p4)), .val (.int (own_u p5)), .unset, .unset, .unset, .unset, .unset, .unset, .unset, .unset] [(.int (own_c p4)), (.int (own_c p3)), (.int (own_c p2)), (.int (own_v2 p1)), (.int (own_v1 p1)), (.int (own_v0 p1))])) _
    exact kt)
  obtain ⟨_, _, ⟨T1, L1, k1, n1⟩, -, X1, ⟨Lc1, hQ1, l1, y1, z1⟩, st1⟩ := Jvm.LawKit.callS X0 hx (y := (⟨"com/example/term_unifier/termunifier/service/DiophantineBasisMayGrowPinLaw", "keeps", "(IIIIII)Z"⟩ : MethodName)) hown (mvT hZ (hw _ (List.mem_of_getElem? (i := 1) rfl))) (mvT hZ (hw _ (List.mem_of_getElem? (i := 2) rfl))) (mvT hZ (hw _ (List.mem_of_getElem? (i := 3) rfl))) (mvT hZ (hw _ (List.mem_of_getElem? (i := 4) rfl))) (by decide) (backOf (W := 0) (rm_kp l Z a0 hw [] (own_v0 p1) (own_v1 p1) (own_v2 p1) (own_c p2) (own_c p3) (own_c p4) h0 n0 Z0 ) hZ (hw _ (List.mem_of_getElem? (i := 4) rfl)) (hw _ (List.mem_of_getElem? (i := 3) rfl)) (by decide) (by decide)) (g := (mkF m 61 #[.val (.int p1), .val (.int p2), .val (.int p3), .val (.int p4), .val (.int p5), .val (.int (own_v0 p1)), .val (.int (own_v1 p1)), .val (.int (own_v2 p1)), .val (.int (own_c p2)), .val (.int (own_c p3)), .val (.int (own_c p4)), .val (.int (own_u p5)), .unset, .unset, .unset, .unset, .unset, .unset, .unset, .unset] [(.int (own_c p4)), (.int (own_c p3)), (.int (own_c p2)), (.int (own_v2 p1)), (.int (own_v1 p1)), (.int (own_v0 p1))])) rfl (by rw [hml]; rfl) (argsL := [(.int (own_v0 p1)), (.int (own_v1 p1)), (.int (own_v2 p1)), (.int (own_c p2)), (.int (own_c p3)), (.int (own_c p4))]) (rest := []) (lenOf pd_law_0 rfl) rfl (by show 2 * 0 + _ ≤ _; exact Nat.le_of_eq rfl) (hb hby at_61) (fun _ _ => ⟨rfl, e0, (by decide : 0 + 0 ≤ _), (by decide : 0 + 0 ≤ _)⟩)
  dsimp only [Pt.U, Pt.locs, Pt.cells, Pt.slots] at X1 l1 y1 z1 st1 hQ1
  subst l1 y1 z1
  obtain ⟨rfl, N1q, e1⟩ := hQ1
  have N1 := Fr.app N0 N1q
  have pr4 : ∀ t, Steps p.tables e below (T1.setTop (mkF m 64 #[.val (.int p1), .val (.int p2), .val (.int p3), .val (.int p4), .val (.int p5), .val (.int (own_v0 p1)), .val (.int (own_v1 p1)), .val (.int (own_v2 p1)), .val (.int (own_c p2)), .val (.int (own_c p3)), .val (.int (own_c p4)), .val (.int (own_u p5)), .unset, .unset, .unset, .unset, .unset, .unset, .unset, .unset] [(.int (own_b (own_kp (own_v0 p1) (own_v1 p1) (own_v2 p1) (own_c p2) (own_c p3) (own_c p4))))])) t → Steps p.tables e below (s₁.setTop (entryFrame m #[(.int p1), (.int p2), (.int p3), (.int p4), (.int p5)] maxLocals)) t := fun t kt => pr2 t (by
    refine st1 _ ?_
    exact kt)
  by_cases hc64_3 : (own_kp (own_v0 p1) (own_v1 p1) (own_v2 p1) (own_c p2) (own_c p3) (own_c p4)) = true
  · have pr6 : ∀ t, Steps p.tables e below (T1.setTop (mkF m 70 #[.val (.int p1), .val (.int p2), .val (.int p3), .val (.int p4), .val (.int p5), .val (.int (own_v0 p1)), .val (.int (own_v1 p1)), .val (.int (own_v2 p1)), .val (.int (own_c p2)), .val (.int (own_c p3)), .val (.int (own_c p4)), .val (.int (own_u p5)), .unset, .unset, .unset, .unset, .unset, .unset, .unset, .unset] [(.int (3 : Int32))])) t → Steps p.tables e below (s₁.setTop (entryFrame m #[(.int p1), (.int p2), (.int p3), (.int p4), (.int p5)] maxLocals)) t := fun t kt => pr4 t (by
      show Steps p.tables e below (T1.setTop (mkF m 64 #[.val (.int p1), .val (.int p2), .val (.int p3), .val (.int p4), .val (.int p5), .val (.int (own_v0 p1)), .val (.int (own_v1 p1)), .val (.int (own_v2 p1)), .val (.int (own_c p2)), .val (.int (own_c p3)), .val (.int (own_c p4)), .val (.int (own_u p5)), .unset, .unset, .unset, .unset, .unset, .unset, .unset, .unset] [(.int (own_b (own_kp (own_v0 p1) (own_v1 p1) (own_v2 p1) (own_c p2) (own_c p3) (own_c p4))))])) _
      refine XS.ifYes X1.here hx rfl (pc0 := 64) (pc' := 69) rfl (hb hby at_64) rfl ((if0 _ _).trans (feq (own_b1 hc64_3)).2) (by decide) (by decide) ?_
      show Steps p.tables e below (T1.setTop (mkF m 69 #[.val (.int p1), .val (.int p2), .val (.int p3), .val (.int p4), .val (.int p5), .val (.int (own_v0 p1)), .val (.int (own_v1 p1)), .val (.int (own_v2 p1)), .val (.int (own_c p2)), .val (.int (own_c p3)), .val (.int (own_c p4)), .val (.int (own_u p5)), .unset, .unset, .unset, .unset, .unset, .unset, .unset, .unset] [])) _
      refine XS.iconst X1.here hx rfl (hb hby at_69) ?_
      show Steps p.tables e below (T1.setTop (mkF m 70 #[.val (.int p1), .val (.int p2), .val (.int p3), .val (.int p4), .val (.int p5), .val (.int (own_v0 p1)), .val (.int (own_v1 p1)), .val (.int (own_v2 p1)), .val (.int (own_c p2)), .val (.int (own_c p3)), .val (.int (own_c p4)), .val (.int (own_u p5)), .unset, .unset, .unset, .unset, .unset, .unset, .unset, .unset] [(.int (3 : Int32))])) _
      exact kt)
    obtain ⟨T5, h5, k5, X5, e5, E5, A5, st5⟩ := newP X1 hx hZ (hw _ (List.mem_of_getElem? (i := 11) rfl)) e1 (g := (mkF m 70 #[.val (.int p1), .val (.int p2), .val (.int p3), .val (.int p4), .val (.int p5), .val (.int (own_v0 p1)), .val (.int (own_v1 p1)), .val (.int (own_v2 p1)), .val (.int (own_c p2)), .val (.int (own_c p3)), .val (.int (own_c p4)), .val (.int (own_u p5)), .unset, .unset, .unset, .unset, .unset, .unset, .unset, .unset] [(.int (3 : Int32))])) rfl (hb hby at_70) rfl (by decide) (cap := 3) (by decide) (by decide) (by decide) (by decide)
    obtain ⟨b5, g5⟩ : ∃ z, z = h0.size := ⟨_, rfl⟩
    rw [← g5] at A5 st5
    have g_b5 : n0 ≤ b5 := Nat.le_trans Z0 (Nat.le_of_eq g5.symm)
    have Z5 : n0 ≤ h5.size := Nat.le_trans Z0 E5.1
    have V5_b5 : Arv Z h5 b5 k5 .int (3 : Int32) [(.int (0 : Int32)), (.int (0 : Int32)), (.int (0 : Int32))] (.int (0 : Int32)) := (Arv.new A5 (by decide)).pad (pad_rep [] (.int (0 : Int32)) 3)
    have pr8 : ∀ t, Steps p.tables e below (T5.setTop (mkF m 76 #[.val (.int p1), .val (.int p2), .val (.int p3), .val (.int p4), .val (.int p5), .val (.int (own_v0 p1)), .val (.int (own_v1 p1)), .val (.int (own_v2 p1)), .val (.int (own_c p2)), .val (.int (own_c p3)), .val (.int (own_c p4)), .val (.int (own_u p5)), .unset, .unset, .unset, .unset, .unset, .unset, .unset, .unset] [(.int (own_v0 p1)), (.int (0 : Int32)), (.ref b5), (.ref b5)])) t → Steps p.tables e below (s₁.setTop (entryFrame m #[(.int p1), (.int p2), (.int p3), (.int p4), (.int p5)] maxLocals)) t := fun t kt => pr6 t (by
      refine st5 _ ?_
      show Steps p.tables e below (T5.setTop (mkF m 72 #[.val (.int p1), .val (.int p2), .val (.int p3), .val (.int p4), .val (.int p5), .val (.int (own_v0 p1)), .val (.int (own_v1 p1)), .val (.int (own_v2 p1)), .val (.int (own_c p2)), .val (.int (own_c p3)), .val (.int (own_c p4)), .val (.int (own_u p5)), .unset, .unset, .unset, .unset, .unset, .unset, .unset, .unset] [(.ref b5)])) _
      refine XS.dup X5.here hx rfl (hb hby at_72) rfl rfl ?_
      show Steps p.tables e below (T5.setTop (mkF m 73 #[.val (.int p1), .val (.int p2), .val (.int p3), .val (.int p4), .val (.int p5), .val (.int (own_v0 p1)), .val (.int (own_v1 p1)), .val (.int (own_v2 p1)), .val (.int (own_c p2)), .val (.int (own_c p3)), .val (.int (own_c p4)), .val (.int (own_u p5)), .unset, .unset, .unset, .unset, .unset, .unset, .unset, .unset] [(.ref b5), (.ref b5)])) _
      refine XS.iconst X5.here hx rfl (hb hby at_73) ?_
      show Steps p.tables e below (T5.setTop (mkF m 74 #[.val (.int p1), .val (.int p2), .val (.int p3), .val (.int p4), .val (.int p5), .val (.int (own_v0 p1)), .val (.int (own_v1 p1)), .val (.int (own_v2 p1)), .val (.int (own_c p2)), .val (.int (own_c p3)), .val (.int (own_c p4)), .val (.int (own_u p5)), .unset, .unset, .unset, .unset, .unset, .unset, .unset, .unset] [(.int (0 : Int32)), (.ref b5), (.ref b5)])) _
      refine XS.iload X5.here hx rfl (hb hby at_74) rfl ?_
      show Steps p.tables e below (T5.setTop (mkF m 76 #[.val (.int p1), .val (.int p2), .val (.int p3), .val (.int p4), .val (.int p5), .val (.int (own_v0 p1)), .val (.int (own_v1 p1)), .val (.int (own_v2 p1)), .val (.int (own_c p2)), .val (.int (own_c p3)), .val (.int (own_c p4)), .val (.int (own_u p5)), .unset, .unset, .unset, .unset, .unset, .unset, .unset, .unset] [(.int (own_v0 p1)), (.int (0 : Int32)), (.ref b5), (.ref b5)])) _
      exact kt)
    obtain ⟨cl7, Ar7, q7, S7, M7, Hs7, G7⟩ := V5_b5
    have hin7 : ¬ ((0 : Int32) < 0 ∨ cl7.slots.size ≤ ((0 : Int32)).toNatClampNeg) := inb_of S7 ⟨by decide, by decide⟩
    obtain ⟨T7, h7, X7, e7, W7, st7⟩ := stI X5 hx hZ e5 Ar7 (j := (0 : Int32)) hin7 (g := (mkF m 76 #[.val (.int p1), .val (.int p2), .val (.int p3), .val (.int p4), .val (.int p5), .val (.int (own_v0 p1)), .val (.int (own_v1 p1)), .val (.int (own_v2 p1)), .val (.int (own_c p2)), .val (.int (own_c p3)), .val (.int (own_c p4)), .val (.int (own_u p5)), .unset, .unset, .unset, .unset, .unset, .unset, .unset, .unset] [(.int (own_v0 p1)), (.int (0 : Int32)), (.ref b5), (.ref b5)])) rfl rfl (hb hby at_76)
    have V7_b5 : Arv Z h7 b5 k5 .int (3 : Int32) [(.int (own_v0 p1)), (.int (0 : Int32)), (.int (0 : Int32))] (.int (0 : Int32)) := Arv.set Ar7 q7 S7 M7 Hs7 G7 rfl W7 0 rfl (Nat.le_of_ble_eq_true rfl)
    have N7 := Fr.snoc X7 N1 g_b5
    have Z7 : n0 ≤ h7.size := Nat.le_trans Z5 (Keep.of_wr W7).1
    have pr10 : ∀ t, Steps p.tables e below (T7.setTop (mkF m 81 #[.val (.int p1), .val (.int p2), .val (.int p3), .val (.int p4), .val (.int p5), .val (.int (own_v0 p1)), .val (.int (own_v1 p1)), .val (.int (own_v2 p1)), .val (.int (own_c p2)), .val (.int (own_c p3)), .val (.int (own_c p4)), .val (.int (own_u p5)), .unset, .unset, .unset, .unset, .unset, .unset, .unset, .unset] [(.int (own_v1 p1)), (.int (1 : Int32)), (.ref b5), (.ref b5)])) t → Steps p.tables e below (s₁.setTop (entryFrame m #[(.int p1), (.int p2), (.int p3), (.int p4), (.int p5)] maxLocals)) t := fun t kt => pr8 t (by
      refine st7 _ ?_
      show Steps p.tables e below (T7.setTop (mkF m 77 #[.val (.int p1), .val (.int p2), .val (.int p3), .val (.int p4), .val (.int p5), .val (.int (own_v0 p1)), .val (.int (own_v1 p1)), .val (.int (own_v2 p1)), .val (.int (own_c p2)), .val (.int (own_c p3)), .val (.int (own_c p4)), .val (.int (own_u p5)), .unset, .unset, .unset, .unset, .unset, .unset, .unset, .unset] [(.ref b5)])) _
      refine XS.dup X7.here hx rfl (hb hby at_77) rfl rfl ?_
      show Steps p.tables e below (T7.setTop (mkF m 78 #[.val (.int p1), .val (.int p2), .val (.int p3), .val (.int p4), .val (.int p5), .val (.int (own_v0 p1)), .val (.int (own_v1 p1)), .val (.int (own_v2 p1)), .val (.int (own_c p2)), .val (.int (own_c p3)), .val (.int (own_c p4)), .val (.int (own_u p5)), .unset, .unset, .unset, .unset, .unset, .unset, .unset, .unset] [(.ref b5), (.ref b5)])) _
      refine XS.iconst X7.here hx rfl (hb hby at_78) ?_
      show Steps p.tables e below (T7.setTop (mkF m 79 #[.val (.int p1), .val (.int p2), .val (.int p3), .val (.int p4), .val (.int p5), .val (.int (own_v0 p1)), .val (.int (own_v1 p1)), .val (.int (own_v2 p1)), .val (.int (own_c p2)), .val (.int (own_c p3)), .val (.int (own_c p4)), .val (.int (own_u p5)), .unset, .unset, .unset, .unset, .unset, .unset, .unset, .unset] [(.int (1 : Int32)), (.ref b5), (.ref b5)])) _
      refine XS.iload X7.here hx rfl (hb hby at_79) rfl ?_
      show Steps p.tables e below (T7.setTop (mkF m 81 #[.val (.int p1), .val (.int p2), .val (.int p3), .val (.int p4), .val (.int p5), .val (.int (own_v0 p1)), .val (.int (own_v1 p1)), .val (.int (own_v2 p1)), .val (.int (own_c p2)), .val (.int (own_c p3)), .val (.int (own_c p4)), .val (.int (own_u p5)), .unset, .unset, .unset, .unset, .unset, .unset, .unset, .unset] [(.int (own_v1 p1)), (.int (1 : Int32)), (.ref b5), (.ref b5)])) _
      exact kt)
    obtain ⟨cl9, Ar9, q9, S9, M9, Hs9, G9⟩ := V7_b5
    have hin9 : ¬ ((1 : Int32) < 0 ∨ cl9.slots.size ≤ ((1 : Int32)).toNatClampNeg) := inb_of S9 ⟨by decide, by decide⟩
    obtain ⟨T9, h9, X9, e9, W9, st9⟩ := stI X7 hx hZ e7 Ar9 (j := (1 : Int32)) hin9 (g := (mkF m 81 #[.val (.int p1), .val (.int p2), .val (.int p3), .val (.int p4), .val (.int p5), .val (.int (own_v0 p1)), .val (.int (own_v1 p1)), .val (.int (own_v2 p1)), .val (.int (own_c p2)), .val (.int (own_c p3)), .val (.int (own_c p4)), .val (.int (own_u p5)), .unset, .unset, .unset, .unset, .unset, .unset, .unset, .unset] [(.int (own_v1 p1)), (.int (1 : Int32)), (.ref b5), (.ref b5)])) rfl rfl (hb hby at_81)
    have V9_b5 : Arv Z h9 b5 k5 .int (3 : Int32) [(.int (own_v0 p1)), (.int (own_v1 p1)), (.int (0 : Int32))] (.int (0 : Int32)) := Arv.set Ar9 q9 S9 M9 Hs9 G9 rfl W9 1 rfl (Nat.le_of_ble_eq_true rfl)
    have N9 := Fr.snoc X9 N7 g_b5
    have Z9 : n0 ≤ h9.size := Nat.le_trans Z7 (Keep.of_wr W9).1
    have pr12 : ∀ t, Steps p.tables e below (T9.setTop (mkF m 86 #[.val (.int p1), .val (.int p2), .val (.int p3), .val (.int p4), .val (.int p5), .val (.int (own_v0 p1)), .val (.int (own_v1 p1)), .val (.int (own_v2 p1)), .val (.int (own_c p2)), .val (.int (own_c p3)), .val (.int (own_c p4)), .val (.int (own_u p5)), .unset, .unset, .unset, .unset, .unset, .unset, .unset, .unset] [(.int (own_v2 p1)), (.int (2 : Int32)), (.ref b5), (.ref b5)])) t → Steps p.tables e below (s₁.setTop (entryFrame m #[(.int p1), (.int p2), (.int p3), (.int p4), (.int p5)] maxLocals)) t := fun t kt => pr10 t (by
      refine st9 _ ?_
      show Steps p.tables e below (T9.setTop (mkF m 82 #[.val (.int p1), .val (.int p2), .val (.int p3), .val (.int p4), .val (.int p5), .val (.int (own_v0 p1)), .val (.int (own_v1 p1)), .val (.int (own_v2 p1)), .val (.int (own_c p2)), .val (.int (own_c p3)), .val (.int (own_c p4)), .val (.int (own_u p5)), .unset, .unset, .unset, .unset, .unset, .unset, .unset, .unset] [(.ref b5)])) _
      refine XS.dup X9.here hx rfl (hb hby at_82) rfl rfl ?_
      show Steps p.tables e below (T9.setTop (mkF m 83 #[.val (.int p1), .val (.int p2), .val (.int p3), .val (.int p4), .val (.int p5), .val (.int (own_v0 p1)), .val (.int (own_v1 p1)), .val (.int (own_v2 p1)), .val (.int (own_c p2)), .val (.int (own_c p3)), .val (.int (own_c p4)), .val (.int (own_u p5)), .unset, .unset, .unset, .unset, .unset, .unset, .unset, .unset] [(.ref b5), (.ref b5)])) _
      refine XS.iconst X9.here hx rfl (hb hby at_83) ?_
      show Steps p.tables e below (T9.setTop (mkF m 84 #[.val (.int p1), .val (.int p2), .val (.int p3), .val (.int p4), .val (.int p5), .val (.int (own_v0 p1)), .val (.int (own_v1 p1)), .val (.int (own_v2 p1)), .val (.int (own_c p2)), .val (.int (own_c p3)), .val (.int (own_c p4)), .val (.int (own_u p5)), .unset, .unset, .unset, .unset, .unset, .unset, .unset, .unset] [(.int (2 : Int32)), (.ref b5), (.ref b5)])) _
      refine XS.iload X9.here hx rfl (hb hby at_84) rfl ?_
      show Steps p.tables e below (T9.setTop (mkF m 86 #[.val (.int p1), .val (.int p2), .val (.int p3), .val (.int p4), .val (.int p5), .val (.int (own_v0 p1)), .val (.int (own_v1 p1)), .val (.int (own_v2 p1)), .val (.int (own_c p2)), .val (.int (own_c p3)), .val (.int (own_c p4)), .val (.int (own_u p5)), .unset, .unset, .unset, .unset, .unset, .unset, .unset, .unset] [(.int (own_v2 p1)), (.int (2 : Int32)), (.ref b5), (.ref b5)])) _
      exact kt)
    obtain ⟨cl11, Ar11, q11, S11, M11, Hs11, G11⟩ := V9_b5
    have hin11 : ¬ ((2 : Int32) < 0 ∨ cl11.slots.size ≤ ((2 : Int32)).toNatClampNeg) := inb_of S11 ⟨by decide, by decide⟩
    obtain ⟨T11, h11, X11, e11, W11, st11⟩ := stI X9 hx hZ e9 Ar11 (j := (2 : Int32)) hin11 (g := (mkF m 86 #[.val (.int p1), .val (.int p2), .val (.int p3), .val (.int p4), .val (.int p5), .val (.int (own_v0 p1)), .val (.int (own_v1 p1)), .val (.int (own_v2 p1)), .val (.int (own_c p2)), .val (.int (own_c p3)), .val (.int (own_c p4)), .val (.int (own_u p5)), .unset, .unset, .unset, .unset, .unset, .unset, .unset, .unset] [(.int (own_v2 p1)), (.int (2 : Int32)), (.ref b5), (.ref b5)])) rfl rfl (hb hby at_86)
    have V11_b5 : Arv Z h11 b5 k5 .int (3 : Int32) [(.int (own_v0 p1)), (.int (own_v1 p1)), (.int (own_v2 p1))] (.int (0 : Int32)) := Arv.set Ar11 q11 S11 M11 Hs11 G11 rfl W11 2 rfl (Nat.le_of_ble_eq_true rfl)
    have N11 := Fr.snoc X11 N9 g_b5
    have Z11 : n0 ≤ h11.size := Nat.le_trans Z9 (Keep.of_wr W11).1
    have pr14 : ∀ t, Steps p.tables e below (T11.setTop (mkF m 90 #[.val (.int p1), .val (.int p2), .val (.int p3), .val (.int p4), .val (.int p5), .val (.int (own_v0 p1)), .val (.int (own_v1 p1)), .val (.int (own_v2 p1)), .val (.int (own_c p2)), .val (.int (own_c p3)), .val (.int (own_c p4)), .val (.int (own_u p5)), .val (.ref b5), .unset, .unset, .unset, .unset, .unset, .unset, .unset] [(.int (3 : Int32))])) t → Steps p.tables e below (s₁.setTop (entryFrame m #[(.int p1), (.int p2), (.int p3), (.int p4), (.int p5)] maxLocals)) t := fun t kt => pr12 t (by
      refine st11 _ ?_
      show Steps p.tables e below (T11.setTop (mkF m 87 #[.val (.int p1), .val (.int p2), .val (.int p3), .val (.int p4), .val (.int p5), .val (.int (own_v0 p1)), .val (.int (own_v1 p1)), .val (.int (own_v2 p1)), .val (.int (own_c p2)), .val (.int (own_c p3)), .val (.int (own_c p4)), .val (.int (own_u p5)), .unset, .unset, .unset, .unset, .unset, .unset, .unset, .unset] [(.ref b5)])) _
      refine XS.astore X11.here hx rfl (hb hby at_87) rfl rfl (l' := #[.val (.int p1), .val (.int p2), .val (.int p3), .val (.int p4), .val (.int p5), .val (.int (own_v0 p1)), .val (.int (own_v1 p1)), .val (.int (own_v2 p1)), .val (.int (own_c p2)), .val (.int (own_c p3)), .val (.int (own_c p4)), .val (.int (own_u p5)), .val (.ref b5), .unset, .unset, .unset, .unset, .unset, .unset, .unset]) rfl ?_
      show Steps p.tables e below (T11.setTop (mkF m 89 #[.val (.int p1), .val (.int p2), .val (.int p3), .val (.int p4), .val (.int p5), .val (.int (own_v0 p1)), .val (.int (own_v1 p1)), .val (.int (own_v2 p1)), .val (.int (own_c p2)), .val (.int (own_c p3)), .val (.int (own_c p4)), .val (.int (own_u p5)), .val (.ref b5), .unset, .unset, .unset, .unset, .unset, .unset, .unset] [])) _
      refine XS.iconst X11.here hx rfl (hb hby at_89) ?_
      show Steps p.tables e below (T11.setTop (mkF m 90 #[.val (.int p1), .val (.int p2), .val (.int p3), .val (.int p4), .val (.int p5), .val (.int (own_v0 p1)), .val (.int (own_v1 p1)), .val (.int (own_v2 p1)), .val (.int (own_c p2)), .val (.int (own_c p3)), .val (.int (own_c p4)), .val (.int (own_u p5)), .val (.ref b5), .unset, .unset, .unset, .unset, .unset, .unset, .unset] [(.int (3 : Int32))])) _
      exact kt)
    obtain ⟨T13, h13, k13, X13, e13, E13, A13, st13⟩ := newP X11 hx hZ (hw _ (List.mem_of_getElem? (i := 11) rfl)) e11 (g := (mkF m 90 #[.val (.int p1), .val (.int p2), .val (.int p3), .val (.int p4), .val (.int p5), .val (.int (own_v0 p1)), .val (.int (own_v1 p1)), .val (.int (own_v2 p1)), .val (.int (own_c p2)), .val (.int (own_c p3)), .val (.int (own_c p4)), .val (.int (own_u p5)), .val (.ref b5), .unset, .unset, .unset, .unset, .unset, .unset, .unset] [(.int (3 : Int32))])) rfl (hb hby at_90) rfl (by decide) (cap := 3) (by decide) (by decide) (by decide) (by decide)
    obtain ⟨b13, g13⟩ : ∃ z, z = h11.size := ⟨_, rfl⟩
    rw [← g13] at A13 st13
    have g_b13 : n0 ≤ b13 := Nat.le_trans Z11 (Nat.le_of_eq g13.symm)
    have Z13 : n0 ≤ h13.size := Nat.le_trans Z11 E13.1
    have ne_b5_b13 : b5 ≠ b13 := Nat.ne_of_lt (Nat.lt_of_lt_of_le V11_b5.lt (Nat.le_of_eq g13.symm))
    have V13_b5 := V11_b5.ext E13
    have V13_b13 : Arv Z h13 b13 k13 .int (3 : Int32) [(.int (0 : Int32)), (.int (0 : Int32)), (.int (0 : Int32))] (.int (0 : Int32)) := (Arv.new A13 (by decide)).pad (pad_rep [] (.int (0 : Int32)) 3)
    have pr16 : ∀ t, Steps p.tables e below (T13.setTop (mkF m 96 #[.val (.int p1), .val (.int p2), .val (.int p3), .val (.int p4), .val (.int p5), .val (.int (own_v0 p1)), .val (.int (own_v1 p1)), .val (.int (own_v2 p1)), .val (.int (own_c p2)), .val (.int (own_c p3)), .val (.int (own_c p4)), .val (.int (own_u p5)), .val (.ref b5), .unset, .unset, .unset, .unset, .unset, .unset, .unset] [(.int (own_c p2)), (.int (0 : Int32)), (.ref b13), (.ref b13)])) t → Steps p.tables e below (s₁.setTop (entryFrame m #[(.int p1), (.int p2), (.int p3), (.int p4), (.int p5)] maxLocals)) t := fun t kt => pr14 t (by
      refine st13 _ ?_
      show Steps p.tables e below (T13.setTop (mkF m 92 #[.val (.int p1), .val (.int p2), .val (.int p3), .val (.int p4), .val (.int p5), .val (.int (own_v0 p1)), .val (.int (own_v1 p1)), .val (.int (own_v2 p1)), .val (.int (own_c p2)), .val (.int (own_c p3)), .val (.int (own_c p4)), .val (.int (own_u p5)), .val (.ref b5), .unset, .unset, .unset, .unset, .unset, .unset, .unset] [(.ref b13)])) _
      refine XS.dup X13.here hx rfl (hb hby at_92) rfl rfl ?_
      show Steps p.tables e below (T13.setTop (mkF m 93 #[.val (.int p1), .val (.int p2), .val (.int p3), .val (.int p4), .val (.int p5), .val (.int (own_v0 p1)), .val (.int (own_v1 p1)), .val (.int (own_v2 p1)), .val (.int (own_c p2)), .val (.int (own_c p3)), .val (.int (own_c p4)), .val (.int (own_u p5)), .val (.ref b5), .unset, .unset, .unset, .unset, .unset, .unset, .unset] [(.ref b13), (.ref b13)])) _
      refine XS.iconst X13.here hx rfl (hb hby at_93) ?_
      show Steps p.tables e below (T13.setTop (mkF m 94 #[.val (.int p1), .val (.int p2), .val (.int p3), .val (.int p4), .val (.int p5), .val (.int (own_v0 p1)), .val (.int (own_v1 p1)), .val (.int (own_v2 p1)), .val (.int (own_c p2)), .val (.int (own_c p3)), .val (.int (own_c p4)), .val (.int (own_u p5)), .val (.ref b5), .unset, .unset, .unset, .unset, .unset, .unset, .unset] [(.int (0 : Int32)), (.ref b13), (.ref b13)])) _
      refine XS.iload X13.here hx rfl (hb hby at_94) rfl ?_
      show Steps p.tables e below (T13.setTop (mkF m 96 #[.val (.int p1), .val (.int p2), .val (.int p3), .val (.int p4), .val (.int p5), .val (.int (own_v0 p1)), .val (.int (own_v1 p1)), .val (.int (own_v2 p1)), .val (.int (own_c p2)), .val (.int (own_c p3)), .val (.int (own_c p4)), .val (.int (own_u p5)), .val (.ref b5), .unset, .unset, .unset, .unset, .unset, .unset, .unset] [(.int (own_c p2)), (.int (0 : Int32)), (.ref b13), (.ref b13)])) _
      exact kt)
    obtain ⟨cl15, Ar15, q15, S15, M15, Hs15, G15⟩ := V13_b13
    have hin15 : ¬ ((0 : Int32) < 0 ∨ cl15.slots.size ≤ ((0 : Int32)).toNatClampNeg) := inb_of S15 ⟨by decide, by decide⟩
    obtain ⟨T15, h15, X15, e15, W15, st15⟩ := stI X13 hx hZ e13 Ar15 (j := (0 : Int32)) hin15 (g := (mkF m 96 #[.val (.int p1), .val (.int p2), .val (.int p3), .val (.int p4), .val (.int p5), .val (.int (own_v0 p1)), .val (.int (own_v1 p1)), .val (.int (own_v2 p1)), .val (.int (own_c p2)), .val (.int (own_c p3)), .val (.int (own_c p4)), .val (.int (own_u p5)), .val (.ref b5), .unset, .unset, .unset, .unset, .unset, .unset, .unset] [(.int (own_c p2)), (.int (0 : Int32)), (.ref b13), (.ref b13)])) rfl rfl (hb hby at_96)
    have V15_b13 : Arv Z h15 b13 k13 .int (3 : Int32) [(.int (own_c p2)), (.int (0 : Int32)), (.int (0 : Int32))] (.int (0 : Int32)) := Arv.set Ar15 q15 S15 M15 Hs15 G15 rfl W15 0 rfl (Nat.le_of_ble_eq_true rfl)
    have V15_b5 := V13_b5.other W15 ne_b5_b13
    have N15 := Fr.snoc X15 N11 g_b13
    have Z15 : n0 ≤ h15.size := Nat.le_trans Z13 (Keep.of_wr W15).1
    have pr18 : ∀ t, Steps p.tables e below (T15.setTop (mkF m 101 #[.val (.int p1), .val (.int p2), .val (.int p3), .val (.int p4), .val (.int p5), .val (.int (own_v0 p1)), .val (.int (own_v1 p1)), .val (.int (own_v2 p1)), .val (.int (own_c p2)), .val (.int (own_c p3)), .val (.int (own_c p4)), .val (.int (own_u p5)), .val (.ref b5), .unset, .unset, .unset, .unset, .unset, .unset, .unset] [(.int (own_c p3)), (.int (1 : Int32)), (.ref b13), (.ref b13)])) t → Steps p.tables e below (s₁.setTop (entryFrame m #[(.int p1), (.int p2), (.int p3), (.int p4), (.int p5)] maxLocals)) t := fun t kt => pr16 t (by
      refine st15 _ ?_
      show Steps p.tables e below (T15.setTop (mkF m 97 #[.val (.int p1), .val (.int p2), .val (.int p3), .val (.int p4), .val (.int p5), .val (.int (own_v0 p1)), .val (.int (own_v1 p1)), .val (.int (own_v2 p1)), .val (.int (own_c p2)), .val (.int (own_c p3)), .val (.int (own_c p4)), .val (.int (own_u p5)), .val (.ref b5), .unset, .unset, .unset, .unset, .unset, .unset, .unset] [(.ref b13)])) _
      refine XS.dup X15.here hx rfl (hb hby at_97) rfl rfl ?_
      show Steps p.tables e below (T15.setTop (mkF m 98 #[.val (.int p1), .val (.int p2), .val (.int p3), .val (.int p4), .val (.int p5), .val (.int (own_v0 p1)), .val (.int (own_v1 p1)), .val (.int (own_v2 p1)), .val (.int (own_c p2)), .val (.int (own_c p3)), .val (.int (own_c p4)), .val (.int (own_u p5)), .val (.ref b5), .unset, .unset, .unset, .unset, .unset, .unset, .unset] [(.ref b13), (.ref b13)])) _
      refine XS.iconst X15.here hx rfl (hb hby at_98) ?_
      show Steps p.tables e below (T15.setTop (mkF m 99 #[.val (.int p1), .val (.int p2), .val (.int p3), .val (.int p4), .val (.int p5), .val (.int (own_v0 p1)), .val (.int (own_v1 p1)), .val (.int (own_v2 p1)), .val (.int (own_c p2)), .val (.int (own_c p3)), .val (.int (own_c p4)), .val (.int (own_u p5)), .val (.ref b5), .unset, .unset, .unset, .unset, .unset, .unset, .unset] [(.int (1 : Int32)), (.ref b13), (.ref b13)])) _
      refine XS.iload X15.here hx rfl (hb hby at_99) rfl ?_
      show Steps p.tables e below (T15.setTop (mkF m 101 #[.val (.int p1), .val (.int p2), .val (.int p3), .val (.int p4), .val (.int p5), .val (.int (own_v0 p1)), .val (.int (own_v1 p1)), .val (.int (own_v2 p1)), .val (.int (own_c p2)), .val (.int (own_c p3)), .val (.int (own_c p4)), .val (.int (own_u p5)), .val (.ref b5), .unset, .unset, .unset, .unset, .unset, .unset, .unset] [(.int (own_c p3)), (.int (1 : Int32)), (.ref b13), (.ref b13)])) _
      exact kt)
    obtain ⟨cl17, Ar17, q17, S17, M17, Hs17, G17⟩ := V15_b13
    have hin17 : ¬ ((1 : Int32) < 0 ∨ cl17.slots.size ≤ ((1 : Int32)).toNatClampNeg) := inb_of S17 ⟨by decide, by decide⟩
    obtain ⟨T17, h17, X17, e17, W17, st17⟩ := stI X15 hx hZ e15 Ar17 (j := (1 : Int32)) hin17 (g := (mkF m 101 #[.val (.int p1), .val (.int p2), .val (.int p3), .val (.int p4), .val (.int p5), .val (.int (own_v0 p1)), .val (.int (own_v1 p1)), .val (.int (own_v2 p1)), .val (.int (own_c p2)), .val (.int (own_c p3)), .val (.int (own_c p4)), .val (.int (own_u p5)), .val (.ref b5), .unset, .unset, .unset, .unset, .unset, .unset, .unset] [(.int (own_c p3)), (.int (1 : Int32)), (.ref b13), (.ref b13)])) rfl rfl (hb hby at_101)
    have V17_b13 : Arv Z h17 b13 k13 .int (3 : Int32) [(.int (own_c p2)), (.int (own_c p3)), (.int (0 : Int32))] (.int (0 : Int32)) := Arv.set Ar17 q17 S17 M17 Hs17 G17 rfl W17 1 rfl (Nat.le_of_ble_eq_true rfl)
    have V17_b5 := V15_b5.other W17 ne_b5_b13
    have N17 := Fr.snoc X17 N15 g_b13
    have Z17 : n0 ≤ h17.size := Nat.le_trans Z15 (Keep.of_wr W17).1
    have pr20 : ∀ t, Steps p.tables e below (T17.setTop (mkF m 106 #[.val (.int p1), .val (.int p2), .val (.int p3), .val (.int p4), .val (.int p5), .val (.int (own_v0 p1)), .val (.int (own_v1 p1)), .val (.int (own_v2 p1)), .val (.int (own_c p2)), .val (.int (own_c p3)), .val (.int (own_c p4)), .val (.int (own_u p5)), .val (.ref b5), .unset, .unset, .unset, .unset, .unset, .unset, .unset] [(.int (own_c p4)), (.int (2 : Int32)), (.ref b13), (.ref b13)])) t → Steps p.tables e below (s₁.setTop (entryFrame m #[(.int p1), (.int p2), (.int p3), (.int p4), (.int p5)] maxLocals)) t := fun t kt => pr18 t (by
      refine st17 _ ?_
      show Steps p.tables e below (T17.setTop (mkF m 102 #[.val (.int p1), .val (.int p2), .val (.int p3), .val (.int p4), .val (.int p5), .val (.int (own_v0 p1)), .val (.int (own_v1 p1)), .val (.int (own_v2 p1)), .val (.int (own_c p2)), .val (.int (own_c p3)), .val (.int (own_c p4)), .val (.int (own_u p5)), .val (.ref b5), .unset, .unset, .unset, .unset, .unset, .unset, .unset] [(.ref b13)])) _
      refine XS.dup X17.here hx rfl (hb hby at_102) rfl rfl ?_
      show Steps p.tables e below (T17.setTop (mkF m 103 #[.val (.int p1), .val (.int p2), .val (.int p3), .val (.int p4), .val (.int p5), .val (.int (own_v0 p1)), .val (.int (own_v1 p1)), .val (.int (own_v2 p1)), .val (.int (own_c p2)), .val (.int (own_c p3)), .val (.int (own_c p4)), .val (.int (own_u p5)), .val (.ref b5), .unset, .unset, .unset, .unset, .unset, .unset, .unset] [(.ref b13), (.ref b13)])) _
      refine XS.iconst X17.here hx rfl (hb hby at_103) ?_
      show Steps p.tables e below (T17.setTop (mkF m 104 #[.val (.int p1), .val (.int p2), .val (.int p3), .val (.int p4), .val (.int p5), .val (.int (own_v0 p1)), .val (.int (own_v1 p1)), .val (.int (own_v2 p1)), .val (.int (own_c p2)), .val (.int (own_c p3)), .val (.int (own_c p4)), .val (.int (own_u p5)), .val (.ref b5), .unset, .unset, .unset, .unset, .unset, .unset, .unset] [(.int (2 : Int32)), (.ref b13), (.ref b13)])) _
      refine XS.iload X17.here hx rfl (hb hby at_104) rfl ?_
      show Steps p.tables e below (T17.setTop (mkF m 106 #[.val (.int p1), .val (.int p2), .val (.int p3), .val (.int p4), .val (.int p5), .val (.int (own_v0 p1)), .val (.int (own_v1 p1)), .val (.int (own_v2 p1)), .val (.int (own_c p2)), .val (.int (own_c p3)), .val (.int (own_c p4)), .val (.int (own_u p5)), .val (.ref b5), .unset, .unset, .unset, .unset, .unset, .unset, .unset] [(.int (own_c p4)), (.int (2 : Int32)), (.ref b13), (.ref b13)])) _
      exact kt)
    obtain ⟨cl19, Ar19, q19, S19, M19, Hs19, G19⟩ := V17_b13
    have hin19 : ¬ ((2 : Int32) < 0 ∨ cl19.slots.size ≤ ((2 : Int32)).toNatClampNeg) := inb_of S19 ⟨by decide, by decide⟩
    obtain ⟨T19, h19, X19, e19, W19, st19⟩ := stI X17 hx hZ e17 Ar19 (j := (2 : Int32)) hin19 (g := (mkF m 106 #[.val (.int p1), .val (.int p2), .val (.int p3), .val (.int p4), .val (.int p5), .val (.int (own_v0 p1)), .val (.int (own_v1 p1)), .val (.int (own_v2 p1)), .val (.int (own_c p2)), .val (.int (own_c p3)), .val (.int (own_c p4)), .val (.int (own_u p5)), .val (.ref b5), .unset, .unset, .unset, .unset, .unset, .unset, .unset] [(.int (own_c p4)), (.int (2 : Int32)), (.ref b13), (.ref b13)])) rfl rfl (hb hby at_106)
    have V19_b13 : Arv Z h19 b13 k13 .int (3 : Int32) [(.int (own_c p2)), (.int (own_c p3)), (.int (own_c p4))] (.int (0 : Int32)) := Arv.set Ar19 q19 S19 M19 Hs19 G19 rfl W19 2 rfl (Nat.le_of_ble_eq_true rfl)
    have V19_b5 := V17_b5.other W19 ne_b5_b13
    have N19 := Fr.snoc X19 N17 g_b13
    have Z19 : n0 ≤ h19.size := Nat.le_trans Z17 (Keep.of_wr W19).1
    have sg21 : ∀ t, Steps p.tables e below (T19.setTop (mkF m 124 #[.val (.int p1), .val (.int p2), .val (.int p3), .val (.int p4), .val (.int p5), .val (.int (own_v0 p1)), .val (.int (own_v1 p1)), .val (.int (own_v2 p1)), .val (.int (own_c p2)), .val (.int (own_c p3)), .val (.int (own_c p4)), .val (.int (own_u p5)), .val (.ref b5), .val (.ref b13), .val (.int (own_g (own_v0 p1) (own_u p5) (0 : Int32))), .unset, .unset, .unset, .unset, .unset] [])) t → Steps p.tables e below (T19.setTop (mkF m 109 #[.val (.int p1), .val (.int p2), .val (.int p3), .val (.int p4), .val (.int p5), .val (.int (own_v0 p1)), .val (.int (own_v1 p1)), .val (.int (own_v2 p1)), .val (.int (own_c p2)), .val (.int (own_c p3)), .val (.int (own_c p4)), .val (.int (own_u p5)), .val (.ref b5), .val (.ref b13), .unset, .unset, .unset, .unset, .unset, .unset] [])) t := by
      intro t kt
      show Steps p.tables e below (T19.setTop (mkF m 109 #[.val (.int p1), .val (.int p2), .val (.int p3), .val (.int p4), .val (.int p5), .val (.int (own_v0 p1)), .val (.int (own_v1 p1)), .val (.int (own_v2 p1)), .val (.int (own_c p2)), .val (.int (own_c p3)), .val (.int (own_c p4)), .val (.int (own_u p5)), .val (.ref b5), .val (.ref b13), .unset, .unset, .unset, .unset, .unset, .unset] [])) _
      refine XS.iload X19.here hx rfl (hb hby at_109) rfl ?_
      show Steps p.tables e below (T19.setTop (mkF m 111 #[.val (.int p1), .val (.int p2), .val (.int p3), .val (.int p4), .val (.int p5), .val (.int (own_v0 p1)), .val (.int (own_v1 p1)), .val (.int (own_v2 p1)), .val (.int (own_c p2)), .val (.int (own_c p3)), .val (.int (own_c p4)), .val (.int (own_u p5)), .val (.ref b5), .val (.ref b13), .unset, .unset, .unset, .unset, .unset, .unset] [(.int (own_v0 p1))])) _
      refine XS.iload X19.here hx rfl (hb hby at_111) rfl ?_
      by_cases hc113_22 : (own_u p5) = (0 : Int32)
      · show Steps p.tables e below (T19.setTop (mkF m 113 #[.val (.int p1), .val (.int p2), .val (.int p3), .val (.int p4), .val (.int p5), .val (.int (own_v0 p1)), .val (.int (own_v1 p1)), .val (.int (own_v2 p1)), .val (.int (own_c p2)), .val (.int (own_c p3)), .val (.int (own_c p4)), .val (.int (own_u p5)), .val (.ref b5), .val (.ref b13), .unset, .unset, .unset, .unset, .unset, .unset] [(.int (own_u p5)), (.int (own_v0 p1))])) _
        refine XS.ifNo X19.here hx rfl (hb hby at_113) rfl ((if0 _ _).trans (teq hc113_22).2) ?_
        show Steps p.tables e below (T19.setTop (mkF m 116 #[.val (.int p1), .val (.int p2), .val (.int p3), .val (.int p4), .val (.int p5), .val (.int (own_v0 p1)), .val (.int (own_v1 p1)), .val (.int (own_v2 p1)), .val (.int (own_c p2)), .val (.int (own_c p3)), .val (.int (own_c p4)), .val (.int (own_u p5)), .val (.ref b5), .val (.ref b13), .unset, .unset, .unset, .unset, .unset, .unset] [(.int (own_v0 p1))])) _
        refine XS.iconst X19.here hx rfl (hb hby at_116) ?_
        show Steps p.tables e below (T19.setTop (mkF m 117 #[.val (.int p1), .val (.int p2), .val (.int p3), .val (.int p4), .val (.int p5), .val (.int (own_v0 p1)), .val (.int (own_v1 p1)), .val (.int (own_v2 p1)), .val (.int (own_c p2)), .val (.int (own_c p3)), .val (.int (own_c p4)), .val (.int (own_u p5)), .val (.ref b5), .val (.ref b13), .unset, .unset, .unset, .unset, .unset, .unset] [(.int (1 : Int32)), (.int (own_v0 p1))])) _
        refine XS.goto X19.here hx rfl (pc0 := 117) (pc' := 121) rfl (hb hby at_117) (by decide) (by decide) ?_
        show Steps p.tables e below (T19.setTop (mkF m 121 #[.val (.int p1), .val (.int p2), .val (.int p3), .val (.int p4), .val (.int p5), .val (.int (own_v0 p1)), .val (.int (own_v1 p1)), .val (.int (own_v2 p1)), .val (.int (own_c p2)), .val (.int (own_c p3)), .val (.int (own_c p4)), .val (.int (own_u p5)), .val (.ref b5), .val (.ref b13), .unset, .unset, .unset, .unset, .unset, .unset] [(.int (1 : Int32)), (.int (own_v0 p1))])) _
        refine XS.iadd X19.here hx rfl (hb hby at_121) rfl ?_
        show Steps p.tables e below (T19.setTop (mkF m 122 #[.val (.int p1), .val (.int p2), .val (.int p3), .val (.int p4), .val (.int p5), .val (.int (own_v0 p1)), .val (.int (own_v1 p1)), .val (.int (own_v2 p1)), .val (.int (own_c p2)), .val (.int (own_c p3)), .val (.int (own_c p4)), .val (.int (own_u p5)), .val (.ref b5), .val (.ref b13), .unset, .unset, .unset, .unset, .unset, .unset] [(.int ((own_v0 p1) + (1 : Int32)))])) _
        refine XS.istore X19.here hx rfl (hb hby at_122) rfl (l' := #[.val (.int p1), .val (.int p2), .val (.int p3), .val (.int p4), .val (.int p5), .val (.int (own_v0 p1)), .val (.int (own_v1 p1)), .val (.int (own_v2 p1)), .val (.int (own_c p2)), .val (.int (own_c p3)), .val (.int (own_c p4)), .val (.int (own_u p5)), .val (.ref b5), .val (.ref b13), .val (.int ((own_v0 p1) + (1 : Int32))), .unset, .unset, .unset, .unset, .unset]) rfl ?_
        show Steps p.tables e below (T19.setTop (mkF m 124 #[.val (.int p1), .val (.int p2), .val (.int p3), .val (.int p4), .val (.int p5), .val (.int (own_v0 p1)), .val (.int (own_v1 p1)), .val (.int (own_v2 p1)), .val (.int (own_c p2)), .val (.int (own_c p3)), .val (.int (own_c p4)), .val (.int (own_u p5)), .val (.ref b5), .val (.ref b13), .val (.int ((own_v0 p1) + (1 : Int32))), .unset, .unset, .unset, .unset, .unset] [])) _
        refine castTop (congrArg (fun zz => (mkF m 124 #[.val (.int p1), .val (.int p2), .val (.int p3), .val (.int p4), .val (.int p5), .val (.int (own_v0 p1)), .val (.int (own_v1 p1)), .val (.int (own_v2 p1)), .val (.int (own_c p2)), .val (.int (own_c p3)), .val (.int (own_c p4)), .val (.int (own_u p5)), .val (.ref b5), .val (.ref b13), .val (.int zz), .unset, .unset, .unset, .unset, .unset] [])) (by simp [own_g, hc64_3, hc113_22] : ((own_v0 p1) + (1 : Int32)) = (own_g (own_v0 p1) (own_u p5) (0 : Int32)))) ?_
        exact kt
      · show Steps p.tables e below (T19.setTop (mkF m 113 #[.val (.int p1), .val (.int p2), .val (.int p3), .val (.int p4), .val (.int p5), .val (.int (own_v0 p1)), .val (.int (own_v1 p1)), .val (.int (own_v2 p1)), .val (.int (own_c p2)), .val (.int (own_c p3)), .val (.int (own_c p4)), .val (.int (own_u p5)), .val (.ref b5), .val (.ref b13), .unset, .unset, .unset, .unset, .unset, .unset] [(.int (own_u p5)), (.int (own_v0 p1))])) _
        refine XS.ifYes X19.here hx rfl (pc0 := 113) (pc' := 120) rfl (hb hby at_113) rfl ((if0 _ _).trans (feq hc113_22).2) (by decide) (by decide) ?_
        show Steps p.tables e below (T19.setTop (mkF m 120 #[.val (.int p1), .val (.int p2), .val (.int p3), .val (.int p4), .val (.int p5), .val (.int (own_v0 p1)), .val (.int (own_v1 p1)), .val (.int (own_v2 p1)), .val (.int (own_c p2)), .val (.int (own_c p3)), .val (.int (own_c p4)), .val (.int (own_u p5)), .val (.ref b5), .val (.ref b13), .unset, .unset, .unset, .unset, .unset, .unset] [(.int (own_v0 p1))])) _
        refine XS.iconst X19.here hx rfl (hb hby at_120) ?_
        show Steps p.tables e below (T19.setTop (mkF m 121 #[.val (.int p1), .val (.int p2), .val (.int p3), .val (.int p4), .val (.int p5), .val (.int (own_v0 p1)), .val (.int (own_v1 p1)), .val (.int (own_v2 p1)), .val (.int (own_c p2)), .val (.int (own_c p3)), .val (.int (own_c p4)), .val (.int (own_u p5)), .val (.ref b5), .val (.ref b13), .unset, .unset, .unset, .unset, .unset, .unset] [(.int (0 : Int32)), (.int (own_v0 p1))])) _
        refine XS.iadd X19.here hx rfl (hb hby at_121) rfl ?_
        show Steps p.tables e below (T19.setTop (mkF m 122 #[.val (.int p1), .val (.int p2), .val (.int p3), .val (.int p4), .val (.int p5), .val (.int (own_v0 p1)), .val (.int (own_v1 p1)), .val (.int (own_v2 p1)), .val (.int (own_c p2)), .val (.int (own_c p3)), .val (.int (own_c p4)), .val (.int (own_u p5)), .val (.ref b5), .val (.ref b13), .unset, .unset, .unset, .unset, .unset, .unset] [(.int ((own_v0 p1) + (0 : Int32)))])) _
        refine XS.istore X19.here hx rfl (hb hby at_122) rfl (l' := #[.val (.int p1), .val (.int p2), .val (.int p3), .val (.int p4), .val (.int p5), .val (.int (own_v0 p1)), .val (.int (own_v1 p1)), .val (.int (own_v2 p1)), .val (.int (own_c p2)), .val (.int (own_c p3)), .val (.int (own_c p4)), .val (.int (own_u p5)), .val (.ref b5), .val (.ref b13), .val (.int ((own_v0 p1) + (0 : Int32))), .unset, .unset, .unset, .unset, .unset]) rfl ?_
        show Steps p.tables e below (T19.setTop (mkF m 124 #[.val (.int p1), .val (.int p2), .val (.int p3), .val (.int p4), .val (.int p5), .val (.int (own_v0 p1)), .val (.int (own_v1 p1)), .val (.int (own_v2 p1)), .val (.int (own_c p2)), .val (.int (own_c p3)), .val (.int (own_c p4)), .val (.int (own_u p5)), .val (.ref b5), .val (.ref b13), .val (.int ((own_v0 p1) + (0 : Int32))), .unset, .unset, .unset, .unset, .unset] [])) _
        refine castTop (congrArg (fun zz => (mkF m 124 #[.val (.int p1), .val (.int p2), .val (.int p3), .val (.int p4), .val (.int p5), .val (.int (own_v0 p1)), .val (.int (own_v1 p1)), .val (.int (own_v2 p1)), .val (.int (own_c p2)), .val (.int (own_c p3)), .val (.int (own_c p4)), .val (.int (own_u p5)), .val (.ref b5), .val (.ref b13), .val (.int zz), .unset, .unset, .unset, .unset, .unset] [])) (by simp [own_g, hc64_3, hc113_22] : ((own_v0 p1) + (0 : Int32)) = (own_g (own_v0 p1) (own_u p5) (0 : Int32)))) ?_
        exact kt
    have sg23 : ∀ t, Steps p.tables e below (T19.setTop (mkF m 140 #[.val (.int p1), .val (.int p2), .val (.int p3), .val (.int p4), .val (.int p5), .val (.int (own_v0 p1)), .val (.int (own_v1 p1)), .val (.int (own_v2 p1)), .val (.int (own_c p2)), .val (.int (own_c p3)), .val (.int (own_c p4)), .val (.int (own_u p5)), .val (.ref b5), .val (.ref b13), .val (.int (own_g (own_v0 p1) (own_u p5) (0 : Int32))), .val (.int (own_g (own_v1 p1) (own_u p5) (1 : Int32))), .unset, .unset, .unset, .unset] [])) t → Steps p.tables e below (T19.setTop (mkF m 124 #[.val (.int p1), .val (.int p2), .val (.int p3), .val (.int p4), .val (.int p5), .val (.int (own_v0 p1)), .val (.int (own_v1 p1)), .val (.int (own_v2 p1)), .val (.int (own_c p2)), .val (.int (own_c p3)), .val (.int (own_c p4)), .val (.int (own_u p5)), .val (.ref b5), .val (.ref b13), .val (.int (own_g (own_v0 p1) (own_u p5) (0 : Int32))), .unset, .unset, .unset, .unset, .unset] [])) t := by
      intro t kt
      show Steps p.tables e below (T19.setTop (mkF m 124 #[.val (.int p1), .val (.int p2), .val (.int p3), .val (.int p4), .val (.int p5), .val (.int (own_v0 p1)), .val (.int (own_v1 p1)), .val (.int (own_v2 p1)), .val (.int (own_c p2)), .val (.int (own_c p3)), .val (.int (own_c p4)), .val (.int (own_u p5)), .val (.ref b5), .val (.ref b13), .val (.int (own_g (own_v0 p1) (own_u p5) (0 : Int32))), .unset, .unset, .unset, .unset, .unset] [])) _
      refine XS.iload X19.here hx rfl (hb hby at_124) rfl ?_
      show Steps p.tables e below (T19.setTop (mkF m 126 #[.val (.int p1), .val (.int p2), .val (.int p3), .val (.int p4), .val (.int p5), .val (.int (own_v0 p1)), .val (.int (own_v1 p1)), .val (.int (own_v2 p1)), .val (.int (own_c p2)), .val (.int (own_c p3)), .val (.int (own_c p4)), .val (.int (own_u p5)), .val (.ref b5), .val (.ref b13), .val (.int (own_g (own_v0 p1) (own_u p5) (0 : Int32))), .unset, .unset, .unset, .unset, .unset] [(.int (own_v1 p1))])) _
      refine XS.iload X19.here hx rfl (hb hby at_126) rfl ?_
      show Steps p.tables e below (T19.setTop (mkF m 128 #[.val (.int p1), .val (.int p2), .val (.int p3), .val (.int p4), .val (.int p5), .val (.int (own_v0 p1)), .val (.int (own_v1 p1)), .val (.int (own_v2 p1)), .val (.int (own_c p2)), .val (.int (own_c p3)), .val (.int (own_c p4)), .val (.int (own_u p5)), .val (.ref b5), .val (.ref b13), .val (.int (own_g (own_v0 p1) (own_u p5) (0 : Int32))), .unset, .unset, .unset, .unset, .unset] [(.int (own_u p5)), (.int (own_v1 p1))])) _
      refine XS.iconst X19.here hx rfl (hb hby at_128) ?_
      by_cases hc129_24 : (own_u p5) = (1 : Int32)
      · show Steps p.tables e below (T19.setTop (mkF m 129 #[.val (.int p1), .val (.int p2), .val (.int p3), .val (.int p4), .val (.int p5), .val (.int (own_v0 p1)), .val (.int (own_v1 p1)), .val (.int (own_v2 p1)), .val (.int (own_c p2)), .val (.int (own_c p3)), .val (.int (own_c p4)), .val (.int (own_u p5)), .val (.ref b5), .val (.ref b13), .val (.int (own_g (own_v0 p1) (own_u p5) (0 : Int32))), .unset, .unset, .unset, .unset, .unset] [(.int (1 : Int32)), (.int (own_u p5)), (.int (own_v1 p1))])) _
        refine XS.icmpNo X19.here hx rfl (hb hby at_129) rfl (teq hc129_24).2 ?_
        show Steps p.tables e below (T19.setTop (mkF m 132 #[.val (.int p1), .val (.int p2), .val (.int p3), .val (.int p4), .val (.int p5), .val (.int (own_v0 p1)), .val (.int (own_v1 p1)), .val (.int (own_v2 p1)), .val (.int (own_c p2)), .val (.int (own_c p3)), .val (.int (own_c p4)), .val (.int (own_u p5)), .val (.ref b5), .val (.ref b13), .val (.int (own_g (own_v0 p1) (own_u p5) (0 : Int32))), .unset, .unset, .unset, .unset, .unset] [(.int (own_v1 p1))])) _
        refine XS.iconst X19.here hx rfl (hb hby at_132) ?_
        show Steps p.tables e below (T19.setTop (mkF m 133 #[.val (.int p1), .val (.int p2), .val (.int p3), .val (.int p4), .val (.int p5), .val (.int (own_v0 p1)), .val (.int (own_v1 p1)), .val (.int (own_v2 p1)), .val (.int (own_c p2)), .val (.int (own_c p3)), .val (.int (own_c p4)), .val (.int (own_u p5)), .val (.ref b5), .val (.ref b13), .val (.int (own_g (own_v0 p1) (own_u p5) (0 : Int32))), .unset, .unset, .unset, .unset, .unset] [(.int (1 : Int32)), (.int (own_v1 p1))])) _
        refine XS.goto X19.here hx rfl (pc0 := 133) (pc' := 137) rfl (hb hby at_133) (by decide) (by decide) ?_
        show Steps p.tables e below (T19.setTop (mkF m 137 #[.val (.int p1), .val (.int p2), .val (.int p3), .val (.int p4), .val (.int p5), .val (.int (own_v0 p1)), .val (.int (own_v1 p1)), .val (.int (own_v2 p1)), .val (.int (own_c p2)), .val (.int (own_c p3)), .val (.int (own_c p4)), .val (.int (own_u p5)), .val (.ref b5), .val (.ref b13), .val (.int (own_g (own_v0 p1) (own_u p5) (0 : Int32))), .unset, .unset, .unset, .unset, .unset] [(.int (1 : Int32)), (.int (own_v1 p1))])) _
        refine XS.iadd X19.here hx rfl (hb hby at_137) rfl ?_
        show Steps p.tables e below (T19.setTop (mkF m 138 #[.val (.int p1), .val (.int p2), .val (.int p3), .val (.int p4), .val (.int p5), .val (.int (own_v0 p1)), .val (.int (own_v1 p1)), .val (.int (own_v2 p1)), .val (.int (own_c p2)), .val (.int (own_c p3)), .val (.int (own_c p4)), .val (.int (own_u p5)), .val (.ref b5), .val (.ref b13), .val (.int (own_g (own_v0 p1) (own_u p5) (0 : Int32))), .unset, .unset, .unset, .unset, .unset] [(.int ((own_v1 p1) + (1 : Int32)))])) _
        refine XS.istore X19.here hx rfl (hb hby at_138) rfl (l' := #[.val (.int p1), .val (.int p2), .val (.int p3), .val (.int p4), .val (.int p5), .val (.int (own_v0 p1)), .val (.int (own_v1 p1)), .val (.int (own_v2 p1)), .val (.int (own_c p2)), .val (.int (own_c p3)), .val (.int (own_c p4)), .val (.int (own_u p5)), .val (.ref b5), .val (.ref b13), .val (.int (own_g (own_v0 p1) (own_u p5) (0 : Int32))), .val (.int ((own_v1 p1) + (1 : Int32))), .unset, .unset, .unset, .unset]) rfl ?_
        show Steps p.tables e below (T19.setTop (mkF m 140 #[.val (.int p1), .val (.int p2), .val (.int p3), .val (.int p4), .val (.int p5), .val (.int (own_v0 p1)), .val (.int (own_v1 p1)), .val (.int (own_v2 p1)), .val (.int (own_c p2)), .val (.int (own_c p3)), .val (.int (own_c p4)), .val (.int (own_u p5)), .val (.ref b5), .val (.ref b13), .val (.int (own_g (own_v0 p1) (own_u p5) (0 : Int32))), .val (.int ((own_v1 p1) + (1 : Int32))), .unset, .unset, .unset, .unset] [])) _
        refine castTop (congrArg (fun zz => (mkF m 140 #[.val (.int p1), .val (.int p2), .val (.int p3), .val (.int p4), .val (.int p5), .val (.int (own_v0 p1)), .val (.int (own_v1 p1)), .val (.int (own_v2 p1)), .val (.int (own_c p2)), .val (.int (own_c p3)), .val (.int (own_c p4)), .val (.int (own_u p5)), .val (.ref b5), .val (.ref b13), .val (.int (own_g (own_v0 p1) (own_u p5) (0 : Int32))), .val (.int zz), .unset, .unset, .unset, .unset] [])) (by simp [own_g, hc64_3, hc129_24] : ((own_v1 p1) + (1 : Int32)) = (own_g (own_v1 p1) (own_u p5) (1 : Int32)))) ?_
        exact kt
      · show Steps p.tables e below (T19.setTop (mkF m 129 #[.val (.int p1), .val (.int p2), .val (.int p3), .val (.int p4), .val (.int p5), .val (.int (own_v0 p1)), .val (.int (own_v1 p1)), .val (.int (own_v2 p1)), .val (.int (own_c p2)), .val (.int (own_c p3)), .val (.int (own_c p4)), .val (.int (own_u p5)), .val (.ref b5), .val (.ref b13), .val (.int (own_g (own_v0 p1) (own_u p5) (0 : Int32))), .unset, .unset, .unset, .unset, .unset] [(.int (1 : Int32)), (.int (own_u p5)), (.int (own_v1 p1))])) _
        refine XS.icmpYes X19.here hx rfl (pc0 := 129) (pc' := 136) rfl (hb hby at_129) rfl (feq hc129_24).2 (by decide) (by decide) ?_
        show Steps p.tables e below (T19.setTop (mkF m 136 #[.val (.int p1), .val (.int p2), .val (.int p3), .val (.int p4), .val (.int p5), .val (.int (own_v0 p1)), .val (.int (own_v1 p1)), .val (.int (own_v2 p1)), .val (.int (own_c p2)), .val (.int (own_c p3)), .val (.int (own_c p4)), .val (.int (own_u p5)), .val (.ref b5), .val (.ref b13), .val (.int (own_g (own_v0 p1) (own_u p5) (0 : Int32))), .unset, .unset, .unset, .unset, .unset] [(.int (own_v1 p1))])) _
        refine XS.iconst X19.here hx rfl (hb hby at_136) ?_
        show Steps p.tables e below (T19.setTop (mkF m 137 #[.val (.int p1), .val (.int p2), .val (.int p3), .val (.int p4), .val (.int p5), .val (.int (own_v0 p1)), .val (.int (own_v1 p1)), .val (.int (own_v2 p1)), .val (.int (own_c p2)), .val (.int (own_c p3)), .val (.int (own_c p4)), .val (.int (own_u p5)), .val (.ref b5), .val (.ref b13), .val (.int (own_g (own_v0 p1) (own_u p5) (0 : Int32))), .unset, .unset, .unset, .unset, .unset] [(.int (0 : Int32)), (.int (own_v1 p1))])) _
        refine XS.iadd X19.here hx rfl (hb hby at_137) rfl ?_
        show Steps p.tables e below (T19.setTop (mkF m 138 #[.val (.int p1), .val (.int p2), .val (.int p3), .val (.int p4), .val (.int p5), .val (.int (own_v0 p1)), .val (.int (own_v1 p1)), .val (.int (own_v2 p1)), .val (.int (own_c p2)), .val (.int (own_c p3)), .val (.int (own_c p4)), .val (.int (own_u p5)), .val (.ref b5), .val (.ref b13), .val (.int (own_g (own_v0 p1) (own_u p5) (0 : Int32))), .unset, .unset, .unset, .unset, .unset] [(.int ((own_v1 p1) + (0 : Int32)))])) _
        refine XS.istore X19.here hx rfl (hb hby at_138) rfl (l' := #[.val (.int p1), .val (.int p2), .val (.int p3), .val (.int p4), .val (.int p5), .val (.int (own_v0 p1)), .val (.int (own_v1 p1)), .val (.int (own_v2 p1)), .val (.int (own_c p2)), .val (.int (own_c p3)), .val (.int (own_c p4)), .val (.int (own_u p5)), .val (.ref b5), .val (.ref b13), .val (.int (own_g (own_v0 p1) (own_u p5) (0 : Int32))), .val (.int ((own_v1 p1) + (0 : Int32))), .unset, .unset, .unset, .unset]) rfl ?_
        show Steps p.tables e below (T19.setTop (mkF m 140 #[.val (.int p1), .val (.int p2), .val (.int p3), .val (.int p4), .val (.int p5), .val (.int (own_v0 p1)), .val (.int (own_v1 p1)), .val (.int (own_v2 p1)), .val (.int (own_c p2)), .val (.int (own_c p3)), .val (.int (own_c p4)), .val (.int (own_u p5)), .val (.ref b5), .val (.ref b13), .val (.int (own_g (own_v0 p1) (own_u p5) (0 : Int32))), .val (.int ((own_v1 p1) + (0 : Int32))), .unset, .unset, .unset, .unset] [])) _
        refine castTop (congrArg (fun zz => (mkF m 140 #[.val (.int p1), .val (.int p2), .val (.int p3), .val (.int p4), .val (.int p5), .val (.int (own_v0 p1)), .val (.int (own_v1 p1)), .val (.int (own_v2 p1)), .val (.int (own_c p2)), .val (.int (own_c p3)), .val (.int (own_c p4)), .val (.int (own_u p5)), .val (.ref b5), .val (.ref b13), .val (.int (own_g (own_v0 p1) (own_u p5) (0 : Int32))), .val (.int zz), .unset, .unset, .unset, .unset] [])) (by simp [own_g, hc64_3, hc129_24] : ((own_v1 p1) + (0 : Int32)) = (own_g (own_v1 p1) (own_u p5) (1 : Int32)))) ?_
        exact kt
    have sg25 : ∀ t, Steps p.tables e below (T19.setTop (mkF m 156 #[.val (.int p1), .val (.int p2), .val (.int p3), .val (.int p4), .val (.int p5), .val (.int (own_v0 p1)), .val (.int (own_v1 p1)), .val (.int (own_v2 p1)), .val (.int (own_c p2)), .val (.int (own_c p3)), .val (.int (own_c p4)), .val (.int (own_u p5)), .val (.ref b5), .val (.ref b13), .val (.int (own_g (own_v0 p1) (own_u p5) (0 : Int32))), .val (.int (own_g (own_v1 p1) (own_u p5) (1 : Int32))), .val (.int (own_g (own_v2 p1) (own_u p5) (2 : Int32))), .unset, .unset, .unset] [])) t → Steps p.tables e below (T19.setTop (mkF m 140 #[.val (.int p1), .val (.int p2), .val (.int p3), .val (.int p4), .val (.int p5), .val (.int (own_v0 p1)), .val (.int (own_v1 p1)), .val (.int (own_v2 p1)), .val (.int (own_c p2)), .val (.int (own_c p3)), .val (.int (own_c p4)), .val (.int (own_u p5)), .val (.ref b5), .val (.ref b13), .val (.int (own_g (own_v0 p1) (own_u p5) (0 : Int32))), .val (.int (own_g (own_v1 p1) (own_u p5) (1 : Int32))), .unset, .unset, .unset, .unset] [])) t := by
      intro t kt
      show Steps p.tables e below (T19.setTop (mkF m 140 #[.val (.int p1), .val (.int p2), .val (.int p3), .val (.int p4), .val (.int p5), .val (.int (own_v0 p1)), .val (.int (own_v1 p1)), .val (.int (own_v2 p1)), .val (.int (own_c p2)), .val (.int (own_c p3)), .val (.int (own_c p4)), .val (.int (own_u p5)), .val (.ref b5), .val (.ref b13), .val (.int (own_g (own_v0 p1) (own_u p5) (0 : Int32))), .val (.int (own_g (own_v1 p1) (own_u p5) (1 : Int32))), .unset, .unset, .unset, .unset] [])) _
      refine XS.iload X19.here hx rfl (hb hby at_140) rfl ?_
      show Steps p.tables e below (T19.setTop (mkF m 142 #[.val (.int p1), .val (.int p2), .val (.int p3), .val (.int p4), .val (.int p5), .val (.int (own_v0 p1)), .val (.int (own_v1 p1)), .val (.int (own_v2 p1)), .val (.int (own_c p2)), .val (.int (own_c p3)), .val (.int (own_c p4)), .val (.int (own_u p5)), .val (.ref b5), .val (.ref b13), .val (.int (own_g (own_v0 p1) (own_u p5) (0 : Int32))), .val (.int (own_g (own_v1 p1) (own_u p5) (1 : Int32))), .unset, .unset, .unset, .unset] [(.int (own_v2 p1))])) _
      refine XS.iload X19.here hx rfl (hb hby at_142) rfl ?_
      show Steps p.tables e below (T19.setTop (mkF m 144 #[.val (.int p1), .val (.int p2), .val (.int p3), .val (.int p4), .val (.int p5), .val (.int (own_v0 p1)), .val (.int (own_v1 p1)), .val (.int (own_v2 p1)), .val (.int (own_c p2)), .val (.int (own_c p3)), .val (.int (own_c p4)), .val (.int (own_u p5)), .val (.ref b5), .val (.ref b13), .val (.int (own_g (own_v0 p1) (own_u p5) (0 : Int32))), .val (.int (own_g (own_v1 p1) (own_u p5) (1 : Int32))), .unset, .unset, .unset, .unset] [(.int (own_u p5)), (.int (own_v2 p1))])) _
      refine XS.iconst X19.here hx rfl (hb hby at_144) ?_
      by_cases hc145_26 : (own_u p5) = (2 : Int32)
      · show Steps p.tables e below (T19.setTop (mkF m 145 #[.val (.int p1), .val (.int p2), .val (.int p3), .val (.int p4), .val (.int p5), .val (.int (own_v0 p1)), .val (.int (own_v1 p1)), .val (.int (own_v2 p1)), .val (.int (own_c p2)), .val (.int (own_c p3)), .val (.int (own_c p4)), .val (.int (own_u p5)), .val (.ref b5), .val (.ref b13), .val (.int (own_g (own_v0 p1) (own_u p5) (0 : Int32))), .val (.int (own_g (own_v1 p1) (own_u p5) (1 : Int32))), .unset, .unset, .unset, .unset] [(.int (2 : Int32)), (.int (own_u p5)), (.int (own_v2 p1))])) _
        refine XS.icmpNo X19.here hx rfl (hb hby at_145) rfl (teq hc145_26).2 ?_
        show Steps p.tables e below (T19.setTop (mkF m 148 #[.val (.int p1), .val (.int p2), .val (.int p3), .val (.int p4), .val (.int p5), .val (.int (own_v0 p1)), .val (.int (own_v1 p1)), .val (.int (own_v2 p1)), .val (.int (own_c p2)), .val (.int (own_c p3)), .val (.int (own_c p4)), .val (.int (own_u p5)), .val (.ref b5), .val (.ref b13), .val (.int (own_g (own_v0 p1) (own_u p5) (0 : Int32))), .val (.int (own_g (own_v1 p1) (own_u p5) (1 : Int32))), .unset, .unset, .unset, .unset] [(.int (own_v2 p1))])) _
        refine XS.iconst X19.here hx rfl (hb hby at_148) ?_
        show Steps p.tables e below (T19.setTop (mkF m 149 #[.val (.int p1), .val (.int p2), .val (.int p3), .val (.int p4), .val (.int p5), .val (.int (own_v0 p1)), .val (.int (own_v1 p1)), .val (.int (own_v2 p1)), .val (.int (own_c p2)), .val (.int (own_c p3)), .val (.int (own_c p4)), .val (.int (own_u p5)), .val (.ref b5), .val (.ref b13), .val (.int (own_g (own_v0 p1) (own_u p5) (0 : Int32))), .val (.int (own_g (own_v1 p1) (own_u p5) (1 : Int32))), .unset, .unset, .unset, .unset] [(.int (1 : Int32)), (.int (own_v2 p1))])) _
        refine XS.goto X19.here hx rfl (pc0 := 149) (pc' := 153) rfl (hb hby at_149) (by decide) (by decide) ?_
        show Steps p.tables e below (T19.setTop (mkF m 153 #[.val (.int p1), .val (.int p2), .val (.int p3), .val (.int p4), .val (.int p5), .val (.int (own_v0 p1)), .val (.int (own_v1 p1)), .val (.int (own_v2 p1)), .val (.int (own_c p2)), .val (.int (own_c p3)), .val (.int (own_c p4)), .val (.int (own_u p5)), .val (.ref b5), .val (.ref b13), .val (.int (own_g (own_v0 p1) (own_u p5) (0 : Int32))), .val (.int (own_g (own_v1 p1) (own_u p5) (1 : Int32))), .unset, .unset, .unset, .unset] [(.int (1 : Int32)), (.int (own_v2 p1))])) _
        refine XS.iadd X19.here hx rfl (hb hby at_153) rfl ?_
        show Steps p.tables e below (T19.setTop (mkF m 154 #[.val (.int p1), .val (.int p2), .val (.int p3), .val (.int p4), .val (.int p5), .val (.int (own_v0 p1)), .val (.int (own_v1 p1)), .val (.int (own_v2 p1)), .val (.int (own_c p2)), .val (.int (own_c p3)), .val (.int (own_c p4)), .val (.int (own_u p5)), .val (.ref b5), .val (.ref b13), .val (.int (own_g (own_v0 p1) (own_u p5) (0 : Int32))), .val (.int (own_g (own_v1 p1) (own_u p5) (1 : Int32))), .unset, .unset, .unset, .unset] [(.int ((own_v2 p1) + (1 : Int32)))])) _
        refine XS.istore X19.here hx rfl (hb hby at_154) rfl (l' := #[.val (.int p1), .val (.int p2), .val (.int p3), .val (.int p4), .val (.int p5), .val (.int (own_v0 p1)), .val (.int (own_v1 p1)), .val (.int (own_v2 p1)), .val (.int (own_c p2)), .val (.int (own_c p3)), .val (.int (own_c p4)), .val (.int (own_u p5)), .val (.ref b5), .val (.ref b13), .val (.int (own_g (own_v0 p1) (own_u p5) (0 : Int32))), .val (.int (own_g (own_v1 p1) (own_u p5) (1 : Int32))), .val (.int ((own_v2 p1) + (1 : Int32))), .unset, .unset, .unset]) rfl ?_
        show Steps p.tables e below (T19.setTop (mkF m 156 #[.val (.int p1), .val (.int p2), .val (.int p3), .val (.int p4), .val (.int p5), .val (.int (own_v0 p1)), .val (.int (own_v1 p1)), .val (.int (own_v2 p1)), .val (.int (own_c p2)), .val (.int (own_c p3)), .val (.int (own_c p4)), .val (.int (own_u p5)), .val (.ref b5), .val (.ref b13), .val (.int (own_g (own_v0 p1) (own_u p5) (0 : Int32))), .val (.int (own_g (own_v1 p1) (own_u p5) (1 : Int32))), .val (.int ((own_v2 p1) + (1 : Int32))), .unset, .unset, .unset] [])) _
        refine castTop (congrArg (fun zz => (mkF m 156 #[.val (.int p1), .val (.int p2), .val (.int p3), .val (.int p4), .val (.int p5), .val (.int (own_v0 p1)), .val (.int (own_v1 p1)), .val (.int (own_v2 p1)), .val (.int (own_c p2)), .val (.int (own_c p3)), .val (.int (own_c p4)), .val (.int (own_u p5)), .val (.ref b5), .val (.ref b13), .val (.int (own_g (own_v0 p1) (own_u p5) (0 : Int32))), .val (.int (own_g (own_v1 p1) (own_u p5) (1 : Int32))), .val (.int zz), .unset, .unset, .unset] [])) (by simp [own_g, hc64_3, hc145_26] : ((own_v2 p1) + (1 : Int32)) = (own_g (own_v2 p1) (own_u p5) (2 : Int32)))) ?_
        exact kt
      · show Steps p.tables e below (T19.setTop (mkF m 145 #[.val (.int p1), .val (.int p2), .val (.int p3), .val (.int p4), .val (.int p5), .val (.int (own_v0 p1)), .val (.int (own_v1 p1)), .val (.int (own_v2 p1)), .val (.int (own_c p2)), .val (.int (own_c p3)), .val (.int (own_c p4)), .val (.int (own_u p5)), .val (.ref b5), .val (.ref b13), .val (.int (own_g (own_v0 p1) (own_u p5) (0 : Int32))), .val (.int (own_g (own_v1 p1) (own_u p5) (1 : Int32))), .unset, .unset, .unset, .unset] [(.int (2 : Int32)), (.int (own_u p5)), (.int (own_v2 p1))])) _
        refine XS.icmpYes X19.here hx rfl (pc0 := 145) (pc' := 152) rfl (hb hby at_145) rfl (feq hc145_26).2 (by decide) (by decide) ?_
        show Steps p.tables e below (T19.setTop (mkF m 152 #[.val (.int p1), .val (.int p2), .val (.int p3), .val (.int p4), .val (.int p5), .val (.int (own_v0 p1)), .val (.int (own_v1 p1)), .val (.int (own_v2 p1)), .val (.int (own_c p2)), .val (.int (own_c p3)), .val (.int (own_c p4)), .val (.int (own_u p5)), .val (.ref b5), .val (.ref b13), .val (.int (own_g (own_v0 p1) (own_u p5) (0 : Int32))), .val (.int (own_g (own_v1 p1) (own_u p5) (1 : Int32))), .unset, .unset, .unset, .unset] [(.int (own_v2 p1))])) _
        refine XS.iconst X19.here hx rfl (hb hby at_152) ?_
        show Steps p.tables e below (T19.setTop (mkF m 153 #[.val (.int p1), .val (.int p2), .val (.int p3), .val (.int p4), .val (.int p5), .val (.int (own_v0 p1)), .val (.int (own_v1 p1)), .val (.int (own_v2 p1)), .val (.int (own_c p2)), .val (.int (own_c p3)), .val (.int (own_c p4)), .val (.int (own_u p5)), .val (.ref b5), .val (.ref b13), .val (.int (own_g (own_v0 p1) (own_u p5) (0 : Int32))), .val (.int (own_g (own_v1 p1) (own_u p5) (1 : Int32))), .unset, .unset, .unset, .unset] [(.int (0 : Int32)), (.int (own_v2 p1))])) _
        refine XS.iadd X19.here hx rfl (hb hby at_153) rfl ?_
        show Steps p.tables e below (T19.setTop (mkF m 154 #[.val (.int p1), .val (.int p2), .val (.int p3), .val (.int p4), .val (.int p5), .val (.int (own_v0 p1)), .val (.int (own_v1 p1)), .val (.int (own_v2 p1)), .val (.int (own_c p2)), .val (.int (own_c p3)), .val (.int (own_c p4)), .val (.int (own_u p5)), .val (.ref b5), .val (.ref b13), .val (.int (own_g (own_v0 p1) (own_u p5) (0 : Int32))), .val (.int (own_g (own_v1 p1) (own_u p5) (1 : Int32))), .unset, .unset, .unset, .unset] [(.int ((own_v2 p1) + (0 : Int32)))])) _
        refine XS.istore X19.here hx rfl (hb hby at_154) rfl (l' := #[.val (.int p1), .val (.int p2), .val (.int p3), .val (.int p4), .val (.int p5), .val (.int (own_v0 p1)), .val (.int (own_v1 p1)), .val (.int (own_v2 p1)), .val (.int (own_c p2)), .val (.int (own_c p3)), .val (.int (own_c p4)), .val (.int (own_u p5)), .val (.ref b5), .val (.ref b13), .val (.int (own_g (own_v0 p1) (own_u p5) (0 : Int32))), .val (.int (own_g (own_v1 p1) (own_u p5) (1 : Int32))), .val (.int ((own_v2 p1) + (0 : Int32))), .unset, .unset, .unset]) rfl ?_
        show Steps p.tables e below (T19.setTop (mkF m 156 #[.val (.int p1), .val (.int p2), .val (.int p3), .val (.int p4), .val (.int p5), .val (.int (own_v0 p1)), .val (.int (own_v1 p1)), .val (.int (own_v2 p1)), .val (.int (own_c p2)), .val (.int (own_c p3)), .val (.int (own_c p4)), .val (.int (own_u p5)), .val (.ref b5), .val (.ref b13), .val (.int (own_g (own_v0 p1) (own_u p5) (0 : Int32))), .val (.int (own_g (own_v1 p1) (own_u p5) (1 : Int32))), .val (.int ((own_v2 p1) + (0 : Int32))), .unset, .unset, .unset] [])) _
        refine castTop (congrArg (fun zz => (mkF m 156 #[.val (.int p1), .val (.int p2), .val (.int p3), .val (.int p4), .val (.int p5), .val (.int (own_v0 p1)), .val (.int (own_v1 p1)), .val (.int (own_v2 p1)), .val (.int (own_c p2)), .val (.int (own_c p3)), .val (.int (own_c p4)), .val (.int (own_u p5)), .val (.ref b5), .val (.ref b13), .val (.int (own_g (own_v0 p1) (own_u p5) (0 : Int32))), .val (.int (own_g (own_v1 p1) (own_u p5) (1 : Int32))), .val (.int zz), .unset, .unset, .unset] [])) (by simp [own_g, hc64_3, hc145_26] : ((own_v2 p1) + (0 : Int32)) = (own_g (own_v2 p1) (own_u p5) (2 : Int32)))) ?_
        exact kt
    have pr28 : ∀ t, Steps p.tables e below (T19.setTop (mkF m 168 #[.val (.int p1), .val (.int p2), .val (.int p3), .val (.int p4), .val (.int p5), .val (.int (own_v0 p1)), .val (.int (own_v1 p1)), .val (.int (own_v2 p1)), .val (.int (own_c p2)), .val (.int (own_c p3)), .val (.int (own_c p4)), .val (.int (own_u p5)), .val (.ref b5), .val (.ref b13), .val (.int (own_g (own_v0 p1) (own_u p5) (0 : Int32))), .val (.int (own_g (own_v1 p1) (own_u p5) (1 : Int32))), .val (.int (own_g (own_v2 p1) (own_u p5) (2 : Int32))), .unset, .unset, .unset] [(.int (own_c p4)), (.int (own_c p3)), (.int (own_c p2)), (.int (own_g (own_v2 p1) (own_u p5) (2 : Int32))), (.int (own_g (own_v1 p1) (own_u p5) (1 : Int32))), (.int (own_g (own_v0 p1) (own_u p5) (0 : Int32)))])) t → Steps p.tables e below (s₁.setTop (entryFrame m #[(.int p1), (.int p2), (.int p3), (.int p4), (.int p5)] maxLocals)) t := fun t kt => pr20 t (by
      refine st19 _ ?_
      show Steps p.tables e below (T19.setTop (mkF m 107 #[.val (.int p1), .val (.int p2), .val (.int p3), .val (.int p4), .val (.int p5), .val (.int (own_v0 p1)), .val (.int (own_v1 p1)), .val (.int (own_v2 p1)), .val (.int (own_c p2)), .val (.int (own_c p3)), .val (.int (own_c p4)), .val (.int (own_u p5)), .val (.ref b5), .unset, .unset, .unset, .unset, .unset, .unset, .unset] [(.ref b13)])) _
      refine XS.astore X19.here hx rfl (hb hby at_107) rfl rfl (l' := #[.val (.int p1), .val (.int p2), .val (.int p3), .val (.int p4), .val (.int p5), .val (.int (own_v0 p1)), .val (.int (own_v1 p1)), .val (.int (own_v2 p1)), .val (.int (own_c p2)), .val (.int (own_c p3)), .val (.int (own_c p4)), .val (.int (own_u p5)), .val (.ref b5), .val (.ref b13), .unset, .unset, .unset, .unset, .unset, .unset]) rfl ?_
      show Steps p.tables e below (T19.setTop (mkF m 109 #[.val (.int p1), .val (.int p2), .val (.int p3), .val (.int p4), .val (.int p5), .val (.int (own_v0 p1)), .val (.int (own_v1 p1)), .val (.int (own_v2 p1)), .val (.int (own_c p2)), .val (.int (own_c p3)), .val (.int (own_c p4)), .val (.int (own_u p5)), .val (.ref b5), .val (.ref b13), .unset, .unset, .unset, .unset, .unset, .unset] [])) _
      refine sg21 _ ?_
      show Steps p.tables e below (T19.setTop (mkF m 124 #[.val (.int p1), .val (.int p2), .val (.int p3), .val (.int p4), .val (.int p5), .val (.int (own_v0 p1)), .val (.int (own_v1 p1)), .val (.int (own_v2 p1)), .val (.int (own_c p2)), .val (.int (own_c p3)), .val (.int (own_c p4)), .val (.int (own_u p5)), .val (.ref b5), .val (.ref b13), .val (.int (own_g (own_v0 p1) (own_u p5) (0 : Int32))), .unset, .unset, .unset, .unset, .unset] [])) _
      refine sg23 _ ?_
      show Steps p.tables e below (T19.setTop (mkF m 140 #[.val (.int p1), .val (.int p2), .val (.int p3), .val (.int p4), .val (.int p5), .val (.int (own_v0 p1)), .val (.int (own_v1 p1)), .val (.int (own_v2 p1)), .val (.int (own_c p2)), .val (.int (own_c p3)), .val (.int (own_c p4)), .val (.int (own_u p5)), .val (.ref b5), .val (.ref b13), .val (.int (own_g (own_v0 p1) (own_u p5) (0 : Int32))), .val (.int (own_g (own_v1 p1) (own_u p5) (1 : Int32))), .unset, .unset, .unset, .unset] [])) _
      refine sg25 _ ?_
      show Steps p.tables e below (T19.setTop (mkF m 156 #[.val (.int p1), .val (.int p2), .val (.int p3), .val (.int p4), .val (.int p5), .val (.int (own_v0 p1)), .val (.int (own_v1 p1)), .val (.int (own_v2 p1)), .val (.int (own_c p2)), .val (.int (own_c p3)), .val (.int (own_c p4)), .val (.int (own_u p5)), .val (.ref b5), .val (.ref b13), .val (.int (own_g (own_v0 p1) (own_u p5) (0 : Int32))), .val (.int (own_g (own_v1 p1) (own_u p5) (1 : Int32))), .val (.int (own_g (own_v2 p1) (own_u p5) (2 : Int32))), .unset, .unset, .unset] [])) _
      refine XS.iload X19.here hx rfl (hb hby at_156) rfl ?_
      show Steps p.tables e below (T19.setTop (mkF m 158 #[.val (.int p1), .val (.int p2), .val (.int p3), .val (.int p4), .val (.int p5), .val (.int (own_v0 p1)), .val (.int (own_v1 p1)), .val (.int (own_v2 p1)), .val (.int (own_c p2)), .val (.int (own_c p3)), .val (.int (own_c p4)), .val (.int (own_u p5)), .val (.ref b5), .val (.ref b13), .val (.int (own_g (own_v0 p1) (own_u p5) (0 : Int32))), .val (.int (own_g (own_v1 p1) (own_u p5) (1 : Int32))), .val (.int (own_g (own_v2 p1) (own_u p5) (2 : Int32))), .unset, .unset, .unset] [(.int (own_g (own_v0 p1) (own_u p5) (0 : Int32)))])) _
      refine XS.iload X19.here hx rfl (hb hby at_158) rfl ?_
      show Steps p.tables e below (T19.setTop (mkF m 160 #[.val (.int p1), .val (.int p2), .val (.int p3), .val (.int p4), .val (.int p5), .val (.int (own_v0 p1)), .val (.int (own_v1 p1)), .val (.int (own_v2 p1)), .val (.int (own_c p2)), .val (.int (own_c p3)), .val (.int (own_c p4)), .val (.int (own_u p5)), .val (.ref b5), .val (.ref b13), .val (.int (own_g (own_v0 p1) (own_u p5) (0 : Int32))), .val (.int (own_g (own_v1 p1) (own_u p5) (1 : Int32))), .val (.int (own_g (own_v2 p1) (own_u p5) (2 : Int32))), .unset, .unset, .unset] [(.int (own_g (own_v1 p1) (own_u p5) (1 : Int32))), (.int (own_g (own_v0 p1) (own_u p5) (0 : Int32)))])) _
      refine XS.iload X19.here hx rfl (hb hby at_160) rfl ?_
      show Steps p.tables e below (T19.setTop (mkF m 162 #[.val (.int p1), .val (.int p2), .val (.int p3), .val (.int p4), .val (.int p5), .val (.int (own_v0 p1)), .val (.int (own_v1 p1)), .val (.int (own_v2 p1)), .val (.int (own_c p2)), .val (.int (own_c p3)), .val (.int (own_c p4)), .val (.int (own_u p5)), .val (.ref b5), .val (.ref b13), .val (.int (own_g (own_v0 p1) (own_u p5) (0 : Int32))), .val (.int (own_g (own_v1 p1) (own_u p5) (1 : Int32))), .val (.int (own_g (own_v2 p1) (own_u p5) (2 : Int32))), .unset, .unset, .unset] [(.int (own_g (own_v2 p1) (own_u p5) (2 : Int32))), (.int (own_g (own_v1 p1) (own_u p5) (1 : Int32))), (.int (own_g (own_v0 p1) (own_u p5) (0 : Int32)))])) _
      refine XS.iload X19.here hx rfl (hb hby at_162) rfl ?_
      show Steps p.tables e below (T19.setTop (mkF m 164 #[.val (.int p1), .val (.int p2), .val (.int p3), .val (.int p4), .val (.int p5), .val (.int (own_v0 p1)), .val (.int (own_v1 p1)), .val (.int (own_v2 p1)), .val (.int (own_c p2)), .val (.int (own_c p3)), .val (.int (own_c p4)), .val (.int (own_u p5)), .val (.ref b5), .val (.ref b13), .val (.int (own_g (own_v0 p1) (own_u p5) (0 : Int32))), .val (.int (own_g (own_v1 p1) (own_u p5) (1 : Int32))), .val (.int (own_g (own_v2 p1) (own_u p5) (2 : Int32))), .unset, .unset, .unset] [(.int (own_c p2)), (.int (own_g (own_v2 p1) (own_u p5) (2 : Int32))), (.int (own_g (own_v1 p1) (own_u p5) (1 : Int32))), (.int (own_g (own_v0 p1) (own_u p5) (0 : Int32)))])) _
      refine XS.iload X19.here hx rfl (hb hby at_164) rfl ?_
      show Steps p.tables e below (T19.setTop (mkF m 166 #[.val (.int p1), .val (.int p2), .val (.int p3), .val (.int p4), .val (.int p5), .val (.int (own_v0 p1)), .val (.int (own_v1 p1)), .val (.int (own_v2 p1)), .val (.int (own_c p2)), .val (.int (own_c p3)), .val (.int (own_c p4)), .val (.int (own_u p5)), .val (.ref b5), .val (.ref b13), .val (.int (own_g (own_v0 p1) (own_u p5) (0 : Int32))), .val (.int (own_g (own_v1 p1) (own_u p5) (1 : Int32))), .val (.int (own_g (own_v2 p1) (own_u p5) (2 : Int32))), .unset, .unset, .unset] [(.int (own_c p3)), (.int (own_c p2)), (.int (own_g (own_v2 p1) (own_u p5) (2 : Int32))), (.int (own_g (own_v1 p1) (own_u p5) (1 : Int32))), (.int (own_g (own_v0 p1) (own_u p5) (0 : Int32)))])) _
      refine XS.iload X19.here hx rfl (hb hby at_166) rfl ?_
      show Steps p.tables e below (T19.setTop (mkF m 168 #[.val (.int p1), .val (.int p2), .val (.int p3), .val (.int p4), .val (.int p5), .val (.int (own_v0 p1)), .val (.int (own_v1 p1)), .val (.int (own_v2 p1)), .val (.int (own_c p2)), .val (.int (own_c p3)), .val (.int (own_c p4)), .val (.int (own_u p5)), .val (.ref b5), .val (.ref b13), .val (.int (own_g (own_v0 p1) (own_u p5) (0 : Int32))), .val (.int (own_g (own_v1 p1) (own_u p5) (1 : Int32))), .val (.int (own_g (own_v2 p1) (own_u p5) (2 : Int32))), .unset, .unset, .unset] [(.int (own_c p4)), (.int (own_c p3)), (.int (own_c p2)), (.int (own_g (own_v2 p1) (own_u p5) (2 : Int32))), (.int (own_g (own_v1 p1) (own_u p5) (1 : Int32))), (.int (own_g (own_v0 p1) (own_u p5) (0 : Int32)))])) _
      exact kt)
    obtain ⟨_, _, ⟨T27, L27, k27, n27⟩, -, X27, ⟨Lc27, hQ27, l27, y27, z27⟩, st27⟩ := Jvm.LawKit.callS X19 hx (y := (⟨"com/example/term_unifier/termunifier/service/DiophantineBasisMayGrowPinLaw", "keeps", "(IIIIII)Z"⟩ : MethodName)) hown (mvT hZ (hw _ (List.mem_of_getElem? (i := 1) rfl))) (mvT hZ (hw _ (List.mem_of_getElem? (i := 2) rfl))) (mvT hZ (hw _ (List.mem_of_getElem? (i := 3) rfl))) (mvT hZ (hw _ (List.mem_of_getElem? (i := 4) rfl))) (by decide) (backOf (W := 0) (rm_kp l Z a0 hw [] (own_g (own_v0 p1) (own_u p5) (0 : Int32)) (own_g (own_v1 p1) (own_u p5) (1 : Int32)) (own_g (own_v2 p1) (own_u p5) (2 : Int32)) (own_c p2) (own_c p3) (own_c p4) h19 n0 Z19 ) hZ (hw _ (List.mem_of_getElem? (i := 4) rfl)) (hw _ (List.mem_of_getElem? (i := 3) rfl)) (by decide) (by decide)) (g := (mkF m 168 #[.val (.int p1), .val (.int p2), .val (.int p3), .val (.int p4), .val (.int p5), .val (.int (own_v0 p1)), .val (.int (own_v1 p1)), .val (.int (own_v2 p1)), .val (.int (own_c p2)), .val (.int (own_c p3)), .val (.int (own_c p4)), .val (.int (own_u p5)), .val (.ref b5), .val (.ref b13), .val (.int (own_g (own_v0 p1) (own_u p5) (0 : Int32))), .val (.int (own_g (own_v1 p1) (own_u p5) (1 : Int32))), .val (.int (own_g (own_v2 p1) (own_u p5) (2 : Int32))), .unset, .unset, .unset] [(.int (own_c p4)), (.int (own_c p3)), (.int (own_c p2)), (.int (own_g (own_v2 p1) (own_u p5) (2 : Int32))), (.int (own_g (own_v1 p1) (own_u p5) (1 : Int32))), (.int (own_g (own_v0 p1) (own_u p5) (0 : Int32)))])) rfl (by rw [hml]; rfl) (argsL := [(.int (own_g (own_v0 p1) (own_u p5) (0 : Int32))), (.int (own_g (own_v1 p1) (own_u p5) (1 : Int32))), (.int (own_g (own_v2 p1) (own_u p5) (2 : Int32))), (.int (own_c p2)), (.int (own_c p3)), (.int (own_c p4))]) (rest := []) (lenOf pd_law_0 rfl) rfl (by show 2 * 0 + _ ≤ _; exact Nat.le_of_eq rfl) (hb hby at_168) (fun _ _ => ⟨rfl, e19, (by decide : 2 + 0 ≤ _), (by decide : 6 + 0 ≤ _)⟩)
    dsimp only [Pt.U, Pt.locs, Pt.cells, Pt.slots] at X27 l27 y27 z27 st27 hQ27
    subst l27 y27 z27
    obtain ⟨rfl, N27q, e27⟩ := hQ27
    have N27 := Fr.app N19 N27q
    have pr30 : ∀ t, Steps p.tables e below (T27.setTop (mkF m 179 #[.val (.int p1), .val (.int p2), .val (.int p3), .val (.int p4), .val (.int p5), .val (.int (own_v0 p1)), .val (.int (own_v1 p1)), .val (.int (own_v2 p1)), .val (.int (own_c p2)), .val (.int (own_c p3)), .val (.int (own_c p4)), .val (.int (own_u p5)), .val (.ref b5), .val (.ref b13), .val (.int (own_g (own_v0 p1) (own_u p5) (0 : Int32))), .val (.int (own_g (own_v1 p1) (own_u p5) (1 : Int32))), .val (.int (own_g (own_v2 p1) (own_u p5) (2 : Int32))), .val (.int (own_b (own_kp (own_g (own_v0 p1) (own_u p5) (0 : Int32)) (own_g (own_v1 p1) (own_u p5) (1 : Int32)) (own_g (own_v2 p1) (own_u p5) (2 : Int32)) (own_c p2) (own_c p3) (own_c p4)))), .unset, .unset] [(.ref b13), (.int (own_u p5)), (.ref b5)])) t → Steps p.tables e below (s₁.setTop (entryFrame m #[(.int p1), (.int p2), (.int p3), (.int p4), (.int p5)] maxLocals)) t := fun t kt => pr28 t (by
      refine st27 _ ?_
      show Steps p.tables e below (T27.setTop (mkF m 171 #[.val (.int p1), .val (.int p2), .val (.int p3), .val (.int p4), .val (.int p5), .val (.int (own_v0 p1)), .val (.int (own_v1 p1)), .val (.int (own_v2 p1)), .val (.int (own_c p2)), .val (.int (own_c p3)), .val (.int (own_c p4)), .val (.int (own_u p5)), .val (.ref b5), .val (.ref b13), .val (.int (own_g (own_v0 p1) (own_u p5) (0 : Int32))), .val (.int (own_g (own_v1 p1) (own_u p5) (1 : Int32))), .val (.int (own_g (own_v2 p1) (own_u p5) (2 : Int32))), .unset, .unset, .unset] [(.int (own_b (own_kp (own_g (own_v0 p1) (own_u p5) (0 : Int32)) (own_g (own_v1 p1) (own_u p5) (1 : Int32)) (own_g (own_v2 p1) (own_u p5) (2 : Int32)) (own_c p2) (own_c p3) (own_c p4))))])) _
      refine XS.istore X27.here hx rfl (hb hby at_171) rfl (l' := #[.val (.int p1), .val (.int p2), .val (.int p3), .val (.int p4), .val (.int p5), .val (.int (own_v0 p1)), .val (.int (own_v1 p1)), .val (.int (own_v2 p1)), .val (.int (own_c p2)), .val (.int (own_c p3)), .val (.int (own_c p4)), .val (.int (own_u p5)), .val (.ref b5), .val (.ref b13), .val (.int (own_g (own_v0 p1) (own_u p5) (0 : Int32))), .val (.int (own_g (own_v1 p1) (own_u p5) (1 : Int32))), .val (.int (own_g (own_v2 p1) (own_u p5) (2 : Int32))), .val (.int (own_b (own_kp (own_g (own_v0 p1) (own_u p5) (0 : Int32)) (own_g (own_v1 p1) (own_u p5) (1 : Int32)) (own_g (own_v2 p1) (own_u p5) (2 : Int32)) (own_c p2) (own_c p3) (own_c p4)))), .unset, .unset]) rfl ?_
      show Steps p.tables e below (T27.setTop (mkF m 173 #[.val (.int p1), .val (.int p2), .val (.int p3), .val (.int p4), .val (.int p5), .val (.int (own_v0 p1)), .val (.int (own_v1 p1)), .val (.int (own_v2 p1)), .val (.int (own_c p2)), .val (.int (own_c p3)), .val (.int (own_c p4)), .val (.int (own_u p5)), .val (.ref b5), .val (.ref b13), .val (.int (own_g (own_v0 p1) (own_u p5) (0 : Int32))), .val (.int (own_g (own_v1 p1) (own_u p5) (1 : Int32))), .val (.int (own_g (own_v2 p1) (own_u p5) (2 : Int32))), .val (.int (own_b (own_kp (own_g (own_v0 p1) (own_u p5) (0 : Int32)) (own_g (own_v1 p1) (own_u p5) (1 : Int32)) (own_g (own_v2 p1) (own_u p5) (2 : Int32)) (own_c p2) (own_c p3) (own_c p4)))), .unset, .unset] [])) _
      refine XS.aload X27.here hx rfl (hb hby at_173) rfl rfl ?_
      show Steps p.tables e below (T27.setTop (mkF m 175 #[.val (.int p1), .val (.int p2), .val (.int p3), .val (.int p4), .val (.int p5), .val (.int (own_v0 p1)), .val (.int (own_v1 p1)), .val (.int (own_v2 p1)), .val (.int (own_c p2)), .val (.int (own_c p3)), .val (.int (own_c p4)), .val (.int (own_u p5)), .val (.ref b5), .val (.ref b13), .val (.int (own_g (own_v0 p1) (own_u p5) (0 : Int32))), .val (.int (own_g (own_v1 p1) (own_u p5) (1 : Int32))), .val (.int (own_g (own_v2 p1) (own_u p5) (2 : Int32))), .val (.int (own_b (own_kp (own_g (own_v0 p1) (own_u p5) (0 : Int32)) (own_g (own_v1 p1) (own_u p5) (1 : Int32)) (own_g (own_v2 p1) (own_u p5) (2 : Int32)) (own_c p2) (own_c p3) (own_c p4)))), .unset, .unset] [(.ref b5)])) _
      refine XS.iload X27.here hx rfl (hb hby at_175) rfl ?_
      show Steps p.tables e below (T27.setTop (mkF m 177 #[.val (.int p1), .val (.int p2), .val (.int p3), .val (.int p4), .val (.int p5), .val (.int (own_v0 p1)), .val (.int (own_v1 p1)), .val (.int (own_v2 p1)), .val (.int (own_c p2)), .val (.int (own_c p3)), .val (.int (own_c p4)), .val (.int (own_u p5)), .val (.ref b5), .val (.ref b13), .val (.int (own_g (own_v0 p1) (own_u p5) (0 : Int32))), .val (.int (own_g (own_v1 p1) (own_u p5) (1 : Int32))), .val (.int (own_g (own_v2 p1) (own_u p5) (2 : Int32))), .val (.int (own_b (own_kp (own_g (own_v0 p1) (own_u p5) (0 : Int32)) (own_g (own_v1 p1) (own_u p5) (1 : Int32)) (own_g (own_v2 p1) (own_u p5) (2 : Int32)) (own_c p2) (own_c p3) (own_c p4)))), .unset, .unset] [(.int (own_u p5)), (.ref b5)])) _
      refine XS.aload X27.here hx rfl (hb hby at_177) rfl rfl ?_
      show Steps p.tables e below (T27.setTop (mkF m 179 #[.val (.int p1), .val (.int p2), .val (.int p3), .val (.int p4), .val (.int p5), .val (.int (own_v0 p1)), .val (.int (own_v1 p1)), .val (.int (own_v2 p1)), .val (.int (own_c p2)), .val (.int (own_c p3)), .val (.int (own_c p4)), .val (.int (own_u p5)), .val (.ref b5), .val (.ref b13), .val (.int (own_g (own_v0 p1) (own_u p5) (0 : Int32))), .val (.int (own_g (own_v1 p1) (own_u p5) (1 : Int32))), .val (.int (own_g (own_v2 p1) (own_u p5) (2 : Int32))), .val (.int (own_b (own_kp (own_g (own_v0 p1) (own_u p5) (0 : Int32)) (own_g (own_v1 p1) (own_u p5) (1 : Int32)) (own_g (own_v2 p1) (own_u p5) (2 : Int32)) (own_c p2) (own_c p3) (own_c p4)))), .unset, .unset] [(.ref b13), (.int (own_u p5)), (.ref b5)])) _
      exact kt)
    obtain ⟨_, _, ⟨T29, L29, k29, n29⟩, -, X29, ⟨Lc29, hQ29, l29, y29, z29⟩, st29⟩ := Jvm.LawKit.callS X27 hx (y := (⟨"com/example/term_unifier/termunifier/service/DiophantineBasis", "mayGrow", "([II[I)Z"⟩ : MethodName)) hown (mvT hZ (hw _ (List.mem_of_getElem? (i := 12) rfl))) (mvT hZ (hw _ (List.mem_of_getElem? (i := 13) rfl))) (mvT hZ (hw _ (List.mem_of_getElem? (i := 14) rfl))) (mvT hZ (hw _ (List.mem_of_getElem? (i := 15) rfl))) (by decide) (backOf (W := 0) (rm_mg l Z a0 hw [] b5 (own_u p5) b13 k5 k13 (own_v0 p1) (own_v1 p1) (own_v2 p1) (own_c p2) (own_c p3) (own_c p4) h19 n0 Z19 V19_b5 V19_b13 (own_ui p5)) hZ (hw _ (List.mem_of_getElem? (i := 15) rfl)) (hw _ (List.mem_of_getElem? (i := 14) rfl)) (by decide) (by decide)) (g := (mkF m 179 #[.val (.int p1), .val (.int p2), .val (.int p3), .val (.int p4), .val (.int p5), .val (.int (own_v0 p1)), .val (.int (own_v1 p1)), .val (.int (own_v2 p1)), .val (.int (own_c p2)), .val (.int (own_c p3)), .val (.int (own_c p4)), .val (.int (own_u p5)), .val (.ref b5), .val (.ref b13), .val (.int (own_g (own_v0 p1) (own_u p5) (0 : Int32))), .val (.int (own_g (own_v1 p1) (own_u p5) (1 : Int32))), .val (.int (own_g (own_v2 p1) (own_u p5) (2 : Int32))), .val (.int (own_b (own_kp (own_g (own_v0 p1) (own_u p5) (0 : Int32)) (own_g (own_v1 p1) (own_u p5) (1 : Int32)) (own_g (own_v2 p1) (own_u p5) (2 : Int32)) (own_c p2) (own_c p3) (own_c p4)))), .unset, .unset] [(.ref b13), (.int (own_u p5)), (.ref b5)])) rfl (by rw [hml]; rfl) (argsL := [(.ref b5), (.int (own_u p5)), (.ref b13)]) (rest := []) (lenOf pd_law_1 rfl) rfl (by show 2 * 0 + _ ≤ _; exact Nat.le_of_eq rfl) (hb hby at_179) (fun _ _ => ⟨rfl, e27, (by decide : 2 + 0 ≤ _), (by decide : 6 + 0 ≤ _)⟩)
    dsimp only [Pt.U, Pt.locs, Pt.cells, Pt.slots] at X29 l29 y29 z29 st29 hQ29
    subst l29 y29 z29
    obtain ⟨rfl, N29q, e29⟩ := hQ29
    have N29 := Fr.app N27 N29q
    have pr31 : ∀ t, Steps p.tables e below (T29.setTop (mkF m 184 #[.val (.int p1), .val (.int p2), .val (.int p3), .val (.int p4), .val (.int p5), .val (.int (own_v0 p1)), .val (.int (own_v1 p1)), .val (.int (own_v2 p1)), .val (.int (own_c p2)), .val (.int (own_c p3)), .val (.int (own_c p4)), .val (.int (own_u p5)), .val (.ref b5), .val (.ref b13), .val (.int (own_g (own_v0 p1) (own_u p5) (0 : Int32))), .val (.int (own_g (own_v1 p1) (own_u p5) (1 : Int32))), .val (.int (own_g (own_v2 p1) (own_u p5) (2 : Int32))), .val (.int (own_b (own_kp (own_g (own_v0 p1) (own_u p5) (0 : Int32)) (own_g (own_v1 p1) (own_u p5) (1 : Int32)) (own_g (own_v2 p1) (own_u p5) (2 : Int32)) (own_c p2) (own_c p3) (own_c p4)))), .val (.int (own_b (own_mg (own_u p5) (own_v0 p1) (own_v1 p1) (own_v2 p1) (own_c p2) (own_c p3) (own_c p4)))), .unset] [])) t → Steps p.tables e below (s₁.setTop (entryFrame m #[(.int p1), (.int p2), (.int p3), (.int p4), (.int p5)] maxLocals)) t := fun t kt => pr30 t (by
      refine st29 _ ?_
      show Steps p.tables e below (T29.setTop (mkF m 182 #[.val (.int p1), .val (.int p2), .val (.int p3), .val (.int p4), .val (.int p5), .val (.int (own_v0 p1)), .val (.int (own_v1 p1)), .val (.int (own_v2 p1)), .val (.int (own_c p2)), .val (.int (own_c p3)), .val (.int (own_c p4)), .val (.int (own_u p5)), .val (.ref b5), .val (.ref b13), .val (.int (own_g (own_v0 p1) (own_u p5) (0 : Int32))), .val (.int (own_g (own_v1 p1) (own_u p5) (1 : Int32))), .val (.int (own_g (own_v2 p1) (own_u p5) (2 : Int32))), .val (.int (own_b (own_kp (own_g (own_v0 p1) (own_u p5) (0 : Int32)) (own_g (own_v1 p1) (own_u p5) (1 : Int32)) (own_g (own_v2 p1) (own_u p5) (2 : Int32)) (own_c p2) (own_c p3) (own_c p4)))), .unset, .unset] [(.int (own_b (own_mg (own_u p5) (own_v0 p1) (own_v1 p1) (own_v2 p1) (own_c p2) (own_c p3) (own_c p4))))])) _
      refine XS.istore X29.here hx rfl (hb hby at_182) rfl (l' := #[.val (.int p1), .val (.int p2), .val (.int p3), .val (.int p4), .val (.int p5), .val (.int (own_v0 p1)), .val (.int (own_v1 p1)), .val (.int (own_v2 p1)), .val (.int (own_c p2)), .val (.int (own_c p3)), .val (.int (own_c p4)), .val (.int (own_u p5)), .val (.ref b5), .val (.ref b13), .val (.int (own_g (own_v0 p1) (own_u p5) (0 : Int32))), .val (.int (own_g (own_v1 p1) (own_u p5) (1 : Int32))), .val (.int (own_g (own_v2 p1) (own_u p5) (2 : Int32))), .val (.int (own_b (own_kp (own_g (own_v0 p1) (own_u p5) (0 : Int32)) (own_g (own_v1 p1) (own_u p5) (1 : Int32)) (own_g (own_v2 p1) (own_u p5) (2 : Int32)) (own_c p2) (own_c p3) (own_c p4)))), .val (.int (own_b (own_mg (own_u p5) (own_v0 p1) (own_v1 p1) (own_v2 p1) (own_c p2) (own_c p3) (own_c p4)))), .unset]) rfl ?_
      show Steps p.tables e below (T29.setTop (mkF m 184 #[.val (.int p1), .val (.int p2), .val (.int p3), .val (.int p4), .val (.int p5), .val (.int (own_v0 p1)), .val (.int (own_v1 p1)), .val (.int (own_v2 p1)), .val (.int (own_c p2)), .val (.int (own_c p3)), .val (.int (own_c p4)), .val (.int (own_u p5)), .val (.ref b5), .val (.ref b13), .val (.int (own_g (own_v0 p1) (own_u p5) (0 : Int32))), .val (.int (own_g (own_v1 p1) (own_u p5) (1 : Int32))), .val (.int (own_g (own_v2 p1) (own_u p5) (2 : Int32))), .val (.int (own_b (own_kp (own_g (own_v0 p1) (own_u p5) (0 : Int32)) (own_g (own_v1 p1) (own_u p5) (1 : Int32)) (own_g (own_v2 p1) (own_u p5) (2 : Int32)) (own_c p2) (own_c p3) (own_c p4)))), .val (.int (own_b (own_mg (own_u p5) (own_v0 p1) (own_v1 p1) (own_v2 p1) (own_c p2) (own_c p3) (own_c p4)))), .unset] [])) _
      exact kt)
    obtain ⟨cy0, Ay0, qy0, Sy0, My0, Hy0, Gy0⟩ := V19_b5
    obtain ⟨cy1, Ay1, qy1, Sy1, My1, Hy1, Gy1⟩ := V19_b13
    obtain ⟨fs, hr, hrun, hended, hW, hsame⟩ := X29.leave (v := some (.int (nar .boolean (1 : Int32)))) (fun h => by rw [Bd.returns] at h; cases h)
    refine ⟨_, _, pr31 _ ?_, hrun, hended, _, _, rfl, ?_, ⟨_, rfl⟩, hW, hsame.mono (by decide) (by decide)⟩
    · show Steps p.tables e below (T29.setTop (mkF m 184 #[.val (.int p1), .val (.int p2), .val (.int p3), .val (.int p4), .val (.int p5), .val (.int (own_v0 p1)), .val (.int (own_v1 p1)), .val (.int (own_v2 p1)), .val (.int (own_c p2)), .val (.int (own_c p3)), .val (.int (own_c p4)), .val (.int (own_u p5)), .val (.ref b5), .val (.ref b13), .val (.int (own_g (own_v0 p1) (own_u p5) (0 : Int32))), .val (.int (own_g (own_v1 p1) (own_u p5) (1 : Int32))), .val (.int (own_g (own_v2 p1) (own_u p5) (2 : Int32))), .val (.int (own_b (own_kp (own_g (own_v0 p1) (own_u p5) (0 : Int32)) (own_g (own_v1 p1) (own_u p5) (1 : Int32)) (own_g (own_v2 p1) (own_u p5) (2 : Int32)) (own_c p2) (own_c p3) (own_c p4)))), .val (.int (own_b (own_mg (own_u p5) (own_v0 p1) (own_v1 p1) (own_v2 p1) (own_c p2) (own_c p3) (own_c p4)))), .unset] [])) _
      refine XS.aload X29.here hx rfl (hb hby at_184) rfl rfl ?_
      show Steps p.tables e below (T29.setTop (mkF m 186 #[.val (.int p1), .val (.int p2), .val (.int p3), .val (.int p4), .val (.int p5), .val (.int (own_v0 p1)), .val (.int (own_v1 p1)), .val (.int (own_v2 p1)), .val (.int (own_c p2)), .val (.int (own_c p3)), .val (.int (own_c p4)), .val (.int (own_u p5)), .val (.ref b5), .val (.ref b13), .val (.int (own_g (own_v0 p1) (own_u p5) (0 : Int32))), .val (.int (own_g (own_v1 p1) (own_u p5) (1 : Int32))), .val (.int (own_g (own_v2 p1) (own_u p5) (2 : Int32))), .val (.int (own_b (own_kp (own_g (own_v0 p1) (own_u p5) (0 : Int32)) (own_g (own_v1 p1) (own_u p5) (1 : Int32)) (own_g (own_v2 p1) (own_u p5) (2 : Int32)) (own_c p2) (own_c p3) (own_c p4)))), .val (.int (own_b (own_mg (own_u p5) (own_v0 p1) (own_v1 p1) (own_v2 p1) (own_c p2) (own_c p3) (own_c p4)))), .unset] [(.ref b5)])) _
      refine XS.iconst X29.here hx rfl (hb hby at_186) ?_
      show Steps p.tables e below (T29.setTop (mkF m 187 #[.val (.int p1), .val (.int p2), .val (.int p3), .val (.int p4), .val (.int p5), .val (.int (own_v0 p1)), .val (.int (own_v1 p1)), .val (.int (own_v2 p1)), .val (.int (own_c p2)), .val (.int (own_c p3)), .val (.int (own_c p4)), .val (.int (own_u p5)), .val (.ref b5), .val (.ref b13), .val (.int (own_g (own_v0 p1) (own_u p5) (0 : Int32))), .val (.int (own_g (own_v1 p1) (own_u p5) (1 : Int32))), .val (.int (own_g (own_v2 p1) (own_u p5) (2 : Int32))), .val (.int (own_b (own_kp (own_g (own_v0 p1) (own_u p5) (0 : Int32)) (own_g (own_v1 p1) (own_u p5) (1 : Int32)) (own_g (own_v2 p1) (own_u p5) (2 : Int32)) (own_c p2) (own_c p3) (own_c p4)))), .val (.int (own_b (own_mg (own_u p5) (own_v0 p1) (own_v1 p1) (own_v2 p1) (own_c p2) (own_c p3) (own_c p4)))), .unset] [(.int (0 : Int32)), (.ref b5)])) _
      refine X29.iaload hx (j := (0 : Int32)) (v := (.int (own_v0 p1))) (by rw [e29]; exact Ay0.1) (State.isArrayOf_alike hZ.alike Ay0.2.1) Ay0.2.2 (own_ld Sy0 Hy0 (p := (0 : Int32)) (by decide)).1 (own_ld Sy0 Hy0 (p := (0 : Int32)) (by decide)).2 (g := (mkF m 187 #[.val (.int p1), .val (.int p2), .val (.int p3), .val (.int p4), .val (.int p5), .val (.int (own_v0 p1)), .val (.int (own_v1 p1)), .val (.int (own_v2 p1)), .val (.int (own_c p2)), .val (.int (own_c p3)), .val (.int (own_c p4)), .val (.int (own_u p5)), .val (.ref b5), .val (.ref b13), .val (.int (own_g (own_v0 p1) (own_u p5) (0 : Int32))), .val (.int (own_g (own_v1 p1) (own_u p5) (1 : Int32))), .val (.int (own_g (own_v2 p1) (own_u p5) (2 : Int32))), .val (.int (own_b (own_kp (own_g (own_v0 p1) (own_u p5) (0 : Int32)) (own_g (own_v1 p1) (own_u p5) (1 : Int32)) (own_g (own_v2 p1) (own_u p5) (2 : Int32)) (own_c p2) (own_c p3) (own_c p4)))), .val (.int (own_b (own_mg (own_u p5) (own_v0 p1) (own_v1 p1) (own_v2 p1) (own_c p2) (own_c p3) (own_c p4)))), .unset] [(.int (0 : Int32)), (.ref b5)])) rfl rfl (hb hby at_187) _ ?_
      show Steps p.tables e below (T29.setTop (mkF m 188 #[.val (.int p1), .val (.int p2), .val (.int p3), .val (.int p4), .val (.int p5), .val (.int (own_v0 p1)), .val (.int (own_v1 p1)), .val (.int (own_v2 p1)), .val (.int (own_c p2)), .val (.int (own_c p3)), .val (.int (own_c p4)), .val (.int (own_u p5)), .val (.ref b5), .val (.ref b13), .val (.int (own_g (own_v0 p1) (own_u p5) (0 : Int32))), .val (.int (own_g (own_v1 p1) (own_u p5) (1 : Int32))), .val (.int (own_g (own_v2 p1) (own_u p5) (2 : Int32))), .val (.int (own_b (own_kp (own_g (own_v0 p1) (own_u p5) (0 : Int32)) (own_g (own_v1 p1) (own_u p5) (1 : Int32)) (own_g (own_v2 p1) (own_u p5) (2 : Int32)) (own_c p2) (own_c p3) (own_c p4)))), .val (.int (own_b (own_mg (own_u p5) (own_v0 p1) (own_v1 p1) (own_v2 p1) (own_c p2) (own_c p3) (own_c p4)))), .unset] [(.int (own_v0 p1))])) _
      refine XS.iload X29.here hx rfl (hb hby at_188) rfl ?_
      show Steps p.tables e below (T29.setTop (mkF m 190 #[.val (.int p1), .val (.int p2), .val (.int p3), .val (.int p4), .val (.int p5), .val (.int (own_v0 p1)), .val (.int (own_v1 p1)), .val (.int (own_v2 p1)), .val (.int (own_c p2)), .val (.int (own_c p3)), .val (.int (own_c p4)), .val (.int (own_u p5)), .val (.ref b5), .val (.ref b13), .val (.int (own_g (own_v0 p1) (own_u p5) (0 : Int32))), .val (.int (own_g (own_v1 p1) (own_u p5) (1 : Int32))), .val (.int (own_g (own_v2 p1) (own_u p5) (2 : Int32))), .val (.int (own_b (own_kp (own_g (own_v0 p1) (own_u p5) (0 : Int32)) (own_g (own_v1 p1) (own_u p5) (1 : Int32)) (own_g (own_v2 p1) (own_u p5) (2 : Int32)) (own_c p2) (own_c p3) (own_c p4)))), .val (.int (own_b (own_mg (own_u p5) (own_v0 p1) (own_v1 p1) (own_v2 p1) (own_c p2) (own_c p3) (own_c p4)))), .unset] [(.int (own_v0 p1)), (.int (own_v0 p1))])) _
      refine XS.icmpNo X29.here hx rfl (hb hby at_190) rfl (teq (rfl : (own_v0 p1) = (own_v0 p1))).2 ?_
      show Steps p.tables e below (T29.setTop (mkF m 193 #[.val (.int p1), .val (.int p2), .val (.int p3), .val (.int p4), .val (.int p5), .val (.int (own_v0 p1)), .val (.int (own_v1 p1)), .val (.int (own_v2 p1)), .val (.int (own_c p2)), .val (.int (own_c p3)), .val (.int (own_c p4)), .val (.int (own_u p5)), .val (.ref b5), .val (.ref b13), .val (.int (own_g (own_v0 p1) (own_u p5) (0 : Int32))), .val (.int (own_g (own_v1 p1) (own_u p5) (1 : Int32))), .val (.int (own_g (own_v2 p1) (own_u p5) (2 : Int32))), .val (.int (own_b (own_kp (own_g (own_v0 p1) (own_u p5) (0 : Int32)) (own_g (own_v1 p1) (own_u p5) (1 : Int32)) (own_g (own_v2 p1) (own_u p5) (2 : Int32)) (own_c p2) (own_c p3) (own_c p4)))), .val (.int (own_b (own_mg (own_u p5) (own_v0 p1) (own_v1 p1) (own_v2 p1) (own_c p2) (own_c p3) (own_c p4)))), .unset] [])) _
      refine XS.aload X29.here hx rfl (hb hby at_193) rfl rfl ?_
      show Steps p.tables e below (T29.setTop (mkF m 195 #[.val (.int p1), .val (.int p2), .val (.int p3), .val (.int p4), .val (.int p5), .val (.int (own_v0 p1)), .val (.int (own_v1 p1)), .val (.int (own_v2 p1)), .val (.int (own_c p2)), .val (.int (own_c p3)), .val (.int (own_c p4)), .val (.int (own_u p5)), .val (.ref b5), .val (.ref b13), .val (.int (own_g (own_v0 p1) (own_u p5) (0 : Int32))), .val (.int (own_g (own_v1 p1) (own_u p5) (1 : Int32))), .val (.int (own_g (own_v2 p1) (own_u p5) (2 : Int32))), .val (.int (own_b (own_kp (own_g (own_v0 p1) (own_u p5) (0 : Int32)) (own_g (own_v1 p1) (own_u p5) (1 : Int32)) (own_g (own_v2 p1) (own_u p5) (2 : Int32)) (own_c p2) (own_c p3) (own_c p4)))), .val (.int (own_b (own_mg (own_u p5) (own_v0 p1) (own_v1 p1) (own_v2 p1) (own_c p2) (own_c p3) (own_c p4)))), .unset] [(.ref b5)])) _
      refine XS.iconst X29.here hx rfl (hb hby at_195) ?_
      show Steps p.tables e below (T29.setTop (mkF m 196 #[.val (.int p1), .val (.int p2), .val (.int p3), .val (.int p4), .val (.int p5), .val (.int (own_v0 p1)), .val (.int (own_v1 p1)), .val (.int (own_v2 p1)), .val (.int (own_c p2)), .val (.int (own_c p3)), .val (.int (own_c p4)), .val (.int (own_u p5)), .val (.ref b5), .val (.ref b13), .val (.int (own_g (own_v0 p1) (own_u p5) (0 : Int32))), .val (.int (own_g (own_v1 p1) (own_u p5) (1 : Int32))), .val (.int (own_g (own_v2 p1) (own_u p5) (2 : Int32))), .val (.int (own_b (own_kp (own_g (own_v0 p1) (own_u p5) (0 : Int32)) (own_g (own_v1 p1) (own_u p5) (1 : Int32)) (own_g (own_v2 p1) (own_u p5) (2 : Int32)) (own_c p2) (own_c p3) (own_c p4)))), .val (.int (own_b (own_mg (own_u p5) (own_v0 p1) (own_v1 p1) (own_v2 p1) (own_c p2) (own_c p3) (own_c p4)))), .unset] [(.int (1 : Int32)), (.ref b5)])) _
      refine X29.iaload hx (j := (1 : Int32)) (v := (.int (own_v1 p1))) (by rw [e29]; exact Ay0.1) (State.isArrayOf_alike hZ.alike Ay0.2.1) Ay0.2.2 (own_ld Sy0 Hy0 (p := (1 : Int32)) (by decide)).1 (own_ld Sy0 Hy0 (p := (1 : Int32)) (by decide)).2 (g := (mkF m 196 #[.val (.int p1), .val (.int p2), .val (.int p3), .val (.int p4), .val (.int p5), .val (.int (own_v0 p1)), .val (.int (own_v1 p1)), .val (.int (own_v2 p1)), .val (.int (own_c p2)), .val (.int (own_c p3)), .val (.int (own_c p4)), .val (.int (own_u p5)), .val (.ref b5), .val (.ref b13), .val (.int (own_g (own_v0 p1) (own_u p5) (0 : Int32))), .val (.int (own_g (own_v1 p1) (own_u p5) (1 : Int32))), .val (.int (own_g (own_v2 p1) (own_u p5) (2 : Int32))), .val (.int (own_b (own_kp (own_g (own_v0 p1) (own_u p5) (0 : Int32)) (own_g (own_v1 p1) (own_u p5) (1 : Int32)) (own_g (own_v2 p1) (own_u p5) (2 : Int32)) (own_c p2) (own_c p3) (own_c p4)))), .val (.int (own_b (own_mg (own_u p5) (own_v0 p1) (own_v1 p1) (own_v2 p1) (own_c p2) (own_c p3) (own_c p4)))), .unset] [(.int (1 : Int32)), (.ref b5)])) rfl rfl (hb hby at_196) _ ?_
      show Steps p.tables e below (T29.setTop (mkF m 197 #[.val (.int p1), .val (.int p2), .val (.int p3), .val (.int p4), .val (.int p5), .val (.int (own_v0 p1)), .val (.int (own_v1 p1)), .val (.int (own_v2 p1)), .val (.int (own_c p2)), .val (.int (own_c p3)), .val (.int (own_c p4)), .val (.int (own_u p5)), .val (.ref b5), .val (.ref b13), .val (.int (own_g (own_v0 p1) (own_u p5) (0 : Int32))), .val (.int (own_g (own_v1 p1) (own_u p5) (1 : Int32))), .val (.int (own_g (own_v2 p1) (own_u p5) (2 : Int32))), .val (.int (own_b (own_kp (own_g (own_v0 p1) (own_u p5) (0 : Int32)) (own_g (own_v1 p1) (own_u p5) (1 : Int32)) (own_g (own_v2 p1) (own_u p5) (2 : Int32)) (own_c p2) (own_c p3) (own_c p4)))), .val (.int (own_b (own_mg (own_u p5) (own_v0 p1) (own_v1 p1) (own_v2 p1) (own_c p2) (own_c p3) (own_c p4)))), .unset] [(.int (own_v1 p1))])) _
      refine XS.iload X29.here hx rfl (hb hby at_197) rfl ?_
      show Steps p.tables e below (T29.setTop (mkF m 199 #[.val (.int p1), .val (.int p2), .val (.int p3), .val (.int p4), .val (.int p5), .val (.int (own_v0 p1)), .val (.int (own_v1 p1)), .val (.int (own_v2 p1)), .val (.int (own_c p2)), .val (.int (own_c p3)), .val (.int (own_c p4)), .val (.int (own_u p5)), .val (.ref b5), .val (.ref b13), .val (.int (own_g (own_v0 p1) (own_u p5) (0 : Int32))), .val (.int (own_g (own_v1 p1) (own_u p5) (1 : Int32))), .val (.int (own_g (own_v2 p1) (own_u p5) (2 : Int32))), .val (.int (own_b (own_kp (own_g (own_v0 p1) (own_u p5) (0 : Int32)) (own_g (own_v1 p1) (own_u p5) (1 : Int32)) (own_g (own_v2 p1) (own_u p5) (2 : Int32)) (own_c p2) (own_c p3) (own_c p4)))), .val (.int (own_b (own_mg (own_u p5) (own_v0 p1) (own_v1 p1) (own_v2 p1) (own_c p2) (own_c p3) (own_c p4)))), .unset] [(.int (own_v1 p1)), (.int (own_v1 p1))])) _
      refine XS.icmpNo X29.here hx rfl (hb hby at_199) rfl (teq (rfl : (own_v1 p1) = (own_v1 p1))).2 ?_
      show Steps p.tables e below (T29.setTop (mkF m 202 #[.val (.int p1), .val (.int p2), .val (.int p3), .val (.int p4), .val (.int p5), .val (.int (own_v0 p1)), .val (.int (own_v1 p1)), .val (.int (own_v2 p1)), .val (.int (own_c p2)), .val (.int (own_c p3)), .val (.int (own_c p4)), .val (.int (own_u p5)), .val (.ref b5), .val (.ref b13), .val (.int (own_g (own_v0 p1) (own_u p5) (0 : Int32))), .val (.int (own_g (own_v1 p1) (own_u p5) (1 : Int32))), .val (.int (own_g (own_v2 p1) (own_u p5) (2 : Int32))), .val (.int (own_b (own_kp (own_g (own_v0 p1) (own_u p5) (0 : Int32)) (own_g (own_v1 p1) (own_u p5) (1 : Int32)) (own_g (own_v2 p1) (own_u p5) (2 : Int32)) (own_c p2) (own_c p3) (own_c p4)))), .val (.int (own_b (own_mg (own_u p5) (own_v0 p1) (own_v1 p1) (own_v2 p1) (own_c p2) (own_c p3) (own_c p4)))), .unset] [])) _
      refine XS.aload X29.here hx rfl (hb hby at_202) rfl rfl ?_
      show Steps p.tables e below (T29.setTop (mkF m 204 #[.val (.int p1), .val (.int p2), .val (.int p3), .val (.int p4), .val (.int p5), .val (.int (own_v0 p1)), .val (.int (own_v1 p1)), .val (.int (own_v2 p1)), .val (.int (own_c p2)), .val (.int (own_c p3)), .val (.int (own_c p4)), .val (.int (own_u p5)), .val (.ref b5), .val (.ref b13), .val (.int (own_g (own_v0 p1) (own_u p5) (0 : Int32))), .val (.int (own_g (own_v1 p1) (own_u p5) (1 : Int32))), .val (.int (own_g (own_v2 p1) (own_u p5) (2 : Int32))), .val (.int (own_b (own_kp (own_g (own_v0 p1) (own_u p5) (0 : Int32)) (own_g (own_v1 p1) (own_u p5) (1 : Int32)) (own_g (own_v2 p1) (own_u p5) (2 : Int32)) (own_c p2) (own_c p3) (own_c p4)))), .val (.int (own_b (own_mg (own_u p5) (own_v0 p1) (own_v1 p1) (own_v2 p1) (own_c p2) (own_c p3) (own_c p4)))), .unset] [(.ref b5)])) _
      refine XS.iconst X29.here hx rfl (hb hby at_204) ?_
      show Steps p.tables e below (T29.setTop (mkF m 205 #[.val (.int p1), .val (.int p2), .val (.int p3), .val (.int p4), .val (.int p5), .val (.int (own_v0 p1)), .val (.int (own_v1 p1)), .val (.int (own_v2 p1)), .val (.int (own_c p2)), .val (.int (own_c p3)), .val (.int (own_c p4)), .val (.int (own_u p5)), .val (.ref b5), .val (.ref b13), .val (.int (own_g (own_v0 p1) (own_u p5) (0 : Int32))), .val (.int (own_g (own_v1 p1) (own_u p5) (1 : Int32))), .val (.int (own_g (own_v2 p1) (own_u p5) (2 : Int32))), .val (.int (own_b (own_kp (own_g (own_v0 p1) (own_u p5) (0 : Int32)) (own_g (own_v1 p1) (own_u p5) (1 : Int32)) (own_g (own_v2 p1) (own_u p5) (2 : Int32)) (own_c p2) (own_c p3) (own_c p4)))), .val (.int (own_b (own_mg (own_u p5) (own_v0 p1) (own_v1 p1) (own_v2 p1) (own_c p2) (own_c p3) (own_c p4)))), .unset] [(.int (2 : Int32)), (.ref b5)])) _
      refine X29.iaload hx (j := (2 : Int32)) (v := (.int (own_v2 p1))) (by rw [e29]; exact Ay0.1) (State.isArrayOf_alike hZ.alike Ay0.2.1) Ay0.2.2 (own_ld Sy0 Hy0 (p := (2 : Int32)) (by decide)).1 (own_ld Sy0 Hy0 (p := (2 : Int32)) (by decide)).2 (g := (mkF m 205 #[.val (.int p1), .val (.int p2), .val (.int p3), .val (.int p4), .val (.int p5), .val (.int (own_v0 p1)), .val (.int (own_v1 p1)), .val (.int (own_v2 p1)), .val (.int (own_c p2)), .val (.int (own_c p3)), .val (.int (own_c p4)), .val (.int (own_u p5)), .val (.ref b5), .val (.ref b13), .val (.int (own_g (own_v0 p1) (own_u p5) (0 : Int32))), .val (.int (own_g (own_v1 p1) (own_u p5) (1 : Int32))), .val (.int (own_g (own_v2 p1) (own_u p5) (2 : Int32))), .val (.int (own_b (own_kp (own_g (own_v0 p1) (own_u p5) (0 : Int32)) (own_g (own_v1 p1) (own_u p5) (1 : Int32)) (own_g (own_v2 p1) (own_u p5) (2 : Int32)) (own_c p2) (own_c p3) (own_c p4)))), .val (.int (own_b (own_mg (own_u p5) (own_v0 p1) (own_v1 p1) (own_v2 p1) (own_c p2) (own_c p3) (own_c p4)))), .unset] [(.int (2 : Int32)), (.ref b5)])) rfl rfl (hb hby at_205) _ ?_
      show Steps p.tables e below (T29.setTop (mkF m 206 #[.val (.int p1), .val (.int p2), .val (.int p3), .val (.int p4), .val (.int p5), .val (.int (own_v0 p1)), .val (.int (own_v1 p1)), .val (.int (own_v2 p1)), .val (.int (own_c p2)), .val (.int (own_c p3)), .val (.int (own_c p4)), .val (.int (own_u p5)), .val (.ref b5), .val (.ref b13), .val (.int (own_g (own_v0 p1) (own_u p5) (0 : Int32))), .val (.int (own_g (own_v1 p1) (own_u p5) (1 : Int32))), .val (.int (own_g (own_v2 p1) (own_u p5) (2 : Int32))), .val (.int (own_b (own_kp (own_g (own_v0 p1) (own_u p5) (0 : Int32)) (own_g (own_v1 p1) (own_u p5) (1 : Int32)) (own_g (own_v2 p1) (own_u p5) (2 : Int32)) (own_c p2) (own_c p3) (own_c p4)))), .val (.int (own_b (own_mg (own_u p5) (own_v0 p1) (own_v1 p1) (own_v2 p1) (own_c p2) (own_c p3) (own_c p4)))), .unset] [(.int (own_v2 p1))])) _
      refine XS.iload X29.here hx rfl (hb hby at_206) rfl ?_
      show Steps p.tables e below (T29.setTop (mkF m 208 #[.val (.int p1), .val (.int p2), .val (.int p3), .val (.int p4), .val (.int p5), .val (.int (own_v0 p1)), .val (.int (own_v1 p1)), .val (.int (own_v2 p1)), .val (.int (own_c p2)), .val (.int (own_c p3)), .val (.int (own_c p4)), .val (.int (own_u p5)), .val (.ref b5), .val (.ref b13), .val (.int (own_g (own_v0 p1) (own_u p5) (0 : Int32))), .val (.int (own_g (own_v1 p1) (own_u p5) (1 : Int32))), .val (.int (own_g (own_v2 p1) (own_u p5) (2 : Int32))), .val (.int (own_b (own_kp (own_g (own_v0 p1) (own_u p5) (0 : Int32)) (own_g (own_v1 p1) (own_u p5) (1 : Int32)) (own_g (own_v2 p1) (own_u p5) (2 : Int32)) (own_c p2) (own_c p3) (own_c p4)))), .val (.int (own_b (own_mg (own_u p5) (own_v0 p1) (own_v1 p1) (own_v2 p1) (own_c p2) (own_c p3) (own_c p4)))), .unset] [(.int (own_v2 p1)), (.int (own_v2 p1))])) _
      refine XS.icmpNo X29.here hx rfl (hb hby at_208) rfl (teq (rfl : (own_v2 p1) = (own_v2 p1))).2 ?_
      show Steps p.tables e below (T29.setTop (mkF m 211 #[.val (.int p1), .val (.int p2), .val (.int p3), .val (.int p4), .val (.int p5), .val (.int (own_v0 p1)), .val (.int (own_v1 p1)), .val (.int (own_v2 p1)), .val (.int (own_c p2)), .val (.int (own_c p3)), .val (.int (own_c p4)), .val (.int (own_u p5)), .val (.ref b5), .val (.ref b13), .val (.int (own_g (own_v0 p1) (own_u p5) (0 : Int32))), .val (.int (own_g (own_v1 p1) (own_u p5) (1 : Int32))), .val (.int (own_g (own_v2 p1) (own_u p5) (2 : Int32))), .val (.int (own_b (own_kp (own_g (own_v0 p1) (own_u p5) (0 : Int32)) (own_g (own_v1 p1) (own_u p5) (1 : Int32)) (own_g (own_v2 p1) (own_u p5) (2 : Int32)) (own_c p2) (own_c p3) (own_c p4)))), .val (.int (own_b (own_mg (own_u p5) (own_v0 p1) (own_v1 p1) (own_v2 p1) (own_c p2) (own_c p3) (own_c p4)))), .unset] [])) _
      refine XS.aload X29.here hx rfl (hb hby at_211) rfl rfl ?_
      show Steps p.tables e below (T29.setTop (mkF m 213 #[.val (.int p1), .val (.int p2), .val (.int p3), .val (.int p4), .val (.int p5), .val (.int (own_v0 p1)), .val (.int (own_v1 p1)), .val (.int (own_v2 p1)), .val (.int (own_c p2)), .val (.int (own_c p3)), .val (.int (own_c p4)), .val (.int (own_u p5)), .val (.ref b5), .val (.ref b13), .val (.int (own_g (own_v0 p1) (own_u p5) (0 : Int32))), .val (.int (own_g (own_v1 p1) (own_u p5) (1 : Int32))), .val (.int (own_g (own_v2 p1) (own_u p5) (2 : Int32))), .val (.int (own_b (own_kp (own_g (own_v0 p1) (own_u p5) (0 : Int32)) (own_g (own_v1 p1) (own_u p5) (1 : Int32)) (own_g (own_v2 p1) (own_u p5) (2 : Int32)) (own_c p2) (own_c p3) (own_c p4)))), .val (.int (own_b (own_mg (own_u p5) (own_v0 p1) (own_v1 p1) (own_v2 p1) (own_c p2) (own_c p3) (own_c p4)))), .unset] [(.ref b13)])) _
      refine XS.iconst X29.here hx rfl (hb hby at_213) ?_
      show Steps p.tables e below (T29.setTop (mkF m 214 #[.val (.int p1), .val (.int p2), .val (.int p3), .val (.int p4), .val (.int p5), .val (.int (own_v0 p1)), .val (.int (own_v1 p1)), .val (.int (own_v2 p1)), .val (.int (own_c p2)), .val (.int (own_c p3)), .val (.int (own_c p4)), .val (.int (own_u p5)), .val (.ref b5), .val (.ref b13), .val (.int (own_g (own_v0 p1) (own_u p5) (0 : Int32))), .val (.int (own_g (own_v1 p1) (own_u p5) (1 : Int32))), .val (.int (own_g (own_v2 p1) (own_u p5) (2 : Int32))), .val (.int (own_b (own_kp (own_g (own_v0 p1) (own_u p5) (0 : Int32)) (own_g (own_v1 p1) (own_u p5) (1 : Int32)) (own_g (own_v2 p1) (own_u p5) (2 : Int32)) (own_c p2) (own_c p3) (own_c p4)))), .val (.int (own_b (own_mg (own_u p5) (own_v0 p1) (own_v1 p1) (own_v2 p1) (own_c p2) (own_c p3) (own_c p4)))), .unset] [(.int (0 : Int32)), (.ref b13)])) _
      refine X29.iaload hx (j := (0 : Int32)) (v := (.int (own_c p2))) (by rw [e29]; exact Ay1.1) (State.isArrayOf_alike hZ.alike Ay1.2.1) Ay1.2.2 (own_ld Sy1 Hy1 (p := (0 : Int32)) (by decide)).1 (own_ld Sy1 Hy1 (p := (0 : Int32)) (by decide)).2 (g := (mkF m 214 #[.val (.int p1), .val (.int p2), .val (.int p3), .val (.int p4), .val (.int p5), .val (.int (own_v0 p1)), .val (.int (own_v1 p1)), .val (.int (own_v2 p1)), .val (.int (own_c p2)), .val (.int (own_c p3)), .val (.int (own_c p4)), .val (.int (own_u p5)), .val (.ref b5), .val (.ref b13), .val (.int (own_g (own_v0 p1) (own_u p5) (0 : Int32))), .val (.int (own_g (own_v1 p1) (own_u p5) (1 : Int32))), .val (.int (own_g (own_v2 p1) (own_u p5) (2 : Int32))), .val (.int (own_b (own_kp (own_g (own_v0 p1) (own_u p5) (0 : Int32)) (own_g (own_v1 p1) (own_u p5) (1 : Int32)) (own_g (own_v2 p1) (own_u p5) (2 : Int32)) (own_c p2) (own_c p3) (own_c p4)))), .val (.int (own_b (own_mg (own_u p5) (own_v0 p1) (own_v1 p1) (own_v2 p1) (own_c p2) (own_c p3) (own_c p4)))), .unset] [(.int (0 : Int32)), (.ref b13)])) rfl rfl (hb hby at_214) _ ?_
      show Steps p.tables e below (T29.setTop (mkF m 215 #[.val (.int p1), .val (.int p2), .val (.int p3), .val (.int p4), .val (.int p5), .val (.int (own_v0 p1)), .val (.int (own_v1 p1)), .val (.int (own_v2 p1)), .val (.int (own_c p2)), .val (.int (own_c p3)), .val (.int (own_c p4)), .val (.int (own_u p5)), .val (.ref b5), .val (.ref b13), .val (.int (own_g (own_v0 p1) (own_u p5) (0 : Int32))), .val (.int (own_g (own_v1 p1) (own_u p5) (1 : Int32))), .val (.int (own_g (own_v2 p1) (own_u p5) (2 : Int32))), .val (.int (own_b (own_kp (own_g (own_v0 p1) (own_u p5) (0 : Int32)) (own_g (own_v1 p1) (own_u p5) (1 : Int32)) (own_g (own_v2 p1) (own_u p5) (2 : Int32)) (own_c p2) (own_c p3) (own_c p4)))), .val (.int (own_b (own_mg (own_u p5) (own_v0 p1) (own_v1 p1) (own_v2 p1) (own_c p2) (own_c p3) (own_c p4)))), .unset] [(.int (own_c p2))])) _
      refine XS.iload X29.here hx rfl (hb hby at_215) rfl ?_
      show Steps p.tables e below (T29.setTop (mkF m 217 #[.val (.int p1), .val (.int p2), .val (.int p3), .val (.int p4), .val (.int p5), .val (.int (own_v0 p1)), .val (.int (own_v1 p1)), .val (.int (own_v2 p1)), .val (.int (own_c p2)), .val (.int (own_c p3)), .val (.int (own_c p4)), .val (.int (own_u p5)), .val (.ref b5), .val (.ref b13), .val (.int (own_g (own_v0 p1) (own_u p5) (0 : Int32))), .val (.int (own_g (own_v1 p1) (own_u p5) (1 : Int32))), .val (.int (own_g (own_v2 p1) (own_u p5) (2 : Int32))), .val (.int (own_b (own_kp (own_g (own_v0 p1) (own_u p5) (0 : Int32)) (own_g (own_v1 p1) (own_u p5) (1 : Int32)) (own_g (own_v2 p1) (own_u p5) (2 : Int32)) (own_c p2) (own_c p3) (own_c p4)))), .val (.int (own_b (own_mg (own_u p5) (own_v0 p1) (own_v1 p1) (own_v2 p1) (own_c p2) (own_c p3) (own_c p4)))), .unset] [(.int (own_c p2)), (.int (own_c p2))])) _
      refine XS.icmpNo X29.here hx rfl (hb hby at_217) rfl (teq (rfl : (own_c p2) = (own_c p2))).2 ?_
      show Steps p.tables e below (T29.setTop (mkF m 220 #[.val (.int p1), .val (.int p2), .val (.int p3), .val (.int p4), .val (.int p5), .val (.int (own_v0 p1)), .val (.int (own_v1 p1)), .val (.int (own_v2 p1)), .val (.int (own_c p2)), .val (.int (own_c p3)), .val (.int (own_c p4)), .val (.int (own_u p5)), .val (.ref b5), .val (.ref b13), .val (.int (own_g (own_v0 p1) (own_u p5) (0 : Int32))), .val (.int (own_g (own_v1 p1) (own_u p5) (1 : Int32))), .val (.int (own_g (own_v2 p1) (own_u p5) (2 : Int32))), .val (.int (own_b (own_kp (own_g (own_v0 p1) (own_u p5) (0 : Int32)) (own_g (own_v1 p1) (own_u p5) (1 : Int32)) (own_g (own_v2 p1) (own_u p5) (2 : Int32)) (own_c p2) (own_c p3) (own_c p4)))), .val (.int (own_b (own_mg (own_u p5) (own_v0 p1) (own_v1 p1) (own_v2 p1) (own_c p2) (own_c p3) (own_c p4)))), .unset] [])) _
      refine XS.aload X29.here hx rfl (hb hby at_220) rfl rfl ?_
      show Steps p.tables e below (T29.setTop (mkF m 222 #[.val (.int p1), .val (.int p2), .val (.int p3), .val (.int p4), .val (.int p5), .val (.int (own_v0 p1)), .val (.int (own_v1 p1)), .val (.int (own_v2 p1)), .val (.int (own_c p2)), .val (.int (own_c p3)), .val (.int (own_c p4)), .val (.int (own_u p5)), .val (.ref b5), .val (.ref b13), .val (.int (own_g (own_v0 p1) (own_u p5) (0 : Int32))), .val (.int (own_g (own_v1 p1) (own_u p5) (1 : Int32))), .val (.int (own_g (own_v2 p1) (own_u p5) (2 : Int32))), .val (.int (own_b (own_kp (own_g (own_v0 p1) (own_u p5) (0 : Int32)) (own_g (own_v1 p1) (own_u p5) (1 : Int32)) (own_g (own_v2 p1) (own_u p5) (2 : Int32)) (own_c p2) (own_c p3) (own_c p4)))), .val (.int (own_b (own_mg (own_u p5) (own_v0 p1) (own_v1 p1) (own_v2 p1) (own_c p2) (own_c p3) (own_c p4)))), .unset] [(.ref b13)])) _
      refine XS.iconst X29.here hx rfl (hb hby at_222) ?_
      show Steps p.tables e below (T29.setTop (mkF m 223 #[.val (.int p1), .val (.int p2), .val (.int p3), .val (.int p4), .val (.int p5), .val (.int (own_v0 p1)), .val (.int (own_v1 p1)), .val (.int (own_v2 p1)), .val (.int (own_c p2)), .val (.int (own_c p3)), .val (.int (own_c p4)), .val (.int (own_u p5)), .val (.ref b5), .val (.ref b13), .val (.int (own_g (own_v0 p1) (own_u p5) (0 : Int32))), .val (.int (own_g (own_v1 p1) (own_u p5) (1 : Int32))), .val (.int (own_g (own_v2 p1) (own_u p5) (2 : Int32))), .val (.int (own_b (own_kp (own_g (own_v0 p1) (own_u p5) (0 : Int32)) (own_g (own_v1 p1) (own_u p5) (1 : Int32)) (own_g (own_v2 p1) (own_u p5) (2 : Int32)) (own_c p2) (own_c p3) (own_c p4)))), .val (.int (own_b (own_mg (own_u p5) (own_v0 p1) (own_v1 p1) (own_v2 p1) (own_c p2) (own_c p3) (own_c p4)))), .unset] [(.int (1 : Int32)), (.ref b13)])) _
      refine X29.iaload hx (j := (1 : Int32)) (v := (.int (own_c p3))) (by rw [e29]; exact Ay1.1) (State.isArrayOf_alike hZ.alike Ay1.2.1) Ay1.2.2 (own_ld Sy1 Hy1 (p := (1 : Int32)) (by decide)).1 (own_ld Sy1 Hy1 (p := (1 : Int32)) (by decide)).2 (g := (mkF m 223 #[.val (.int p1), .val (.int p2), .val (.int p3), .val (.int p4), .val (.int p5), .val (.int (own_v0 p1)), .val (.int (own_v1 p1)), .val (.int (own_v2 p1)), .val (.int (own_c p2)), .val (.int (own_c p3)), .val (.int (own_c p4)), .val (.int (own_u p5)), .val (.ref b5), .val (.ref b13), .val (.int (own_g (own_v0 p1) (own_u p5) (0 : Int32))), .val (.int (own_g (own_v1 p1) (own_u p5) (1 : Int32))), .val (.int (own_g (own_v2 p1) (own_u p5) (2 : Int32))), .val (.int (own_b (own_kp (own_g (own_v0 p1) (own_u p5) (0 : Int32)) (own_g (own_v1 p1) (own_u p5) (1 : Int32)) (own_g (own_v2 p1) (own_u p5) (2 : Int32)) (own_c p2) (own_c p3) (own_c p4)))), .val (.int (own_b (own_mg (own_u p5) (own_v0 p1) (own_v1 p1) (own_v2 p1) (own_c p2) (own_c p3) (own_c p4)))), .unset] [(.int (1 : Int32)), (.ref b13)])) rfl rfl (hb hby at_223) _ ?_
      show Steps p.tables e below (T29.setTop (mkF m 224 #[.val (.int p1), .val (.int p2), .val (.int p3), .val (.int p4), .val (.int p5), .val (.int (own_v0 p1)), .val (.int (own_v1 p1)), .val (.int (own_v2 p1)), .val (.int (own_c p2)), .val (.int (own_c p3)), .val (.int (own_c p4)), .val (.int (own_u p5)), .val (.ref b5), .val (.ref b13), .val (.int (own_g (own_v0 p1) (own_u p5) (0 : Int32))), .val (.int (own_g (own_v1 p1) (own_u p5) (1 : Int32))), .val (.int (own_g (own_v2 p1) (own_u p5) (2 : Int32))), .val (.int (own_b (own_kp (own_g (own_v0 p1) (own_u p5) (0 : Int32)) (own_g (own_v1 p1) (own_u p5) (1 : Int32)) (own_g (own_v2 p1) (own_u p5) (2 : Int32)) (own_c p2) (own_c p3) (own_c p4)))), .val (.int (own_b (own_mg (own_u p5) (own_v0 p1) (own_v1 p1) (own_v2 p1) (own_c p2) (own_c p3) (own_c p4)))), .unset] [(.int (own_c p3))])) _
      refine XS.iload X29.here hx rfl (hb hby at_224) rfl ?_
      show Steps p.tables e below (T29.setTop (mkF m 226 #[.val (.int p1), .val (.int p2), .val (.int p3), .val (.int p4), .val (.int p5), .val (.int (own_v0 p1)), .val (.int (own_v1 p1)), .val (.int (own_v2 p1)), .val (.int (own_c p2)), .val (.int (own_c p3)), .val (.int (own_c p4)), .val (.int (own_u p5)), .val (.ref b5), .val (.ref b13), .val (.int (own_g (own_v0 p1) (own_u p5) (0 : Int32))), .val (.int (own_g (own_v1 p1) (own_u p5) (1 : Int32))), .val (.int (own_g (own_v2 p1) (own_u p5) (2 : Int32))), .val (.int (own_b (own_kp (own_g (own_v0 p1) (own_u p5) (0 : Int32)) (own_g (own_v1 p1) (own_u p5) (1 : Int32)) (own_g (own_v2 p1) (own_u p5) (2 : Int32)) (own_c p2) (own_c p3) (own_c p4)))), .val (.int (own_b (own_mg (own_u p5) (own_v0 p1) (own_v1 p1) (own_v2 p1) (own_c p2) (own_c p3) (own_c p4)))), .unset] [(.int (own_c p3)), (.int (own_c p3))])) _
      refine XS.icmpNo X29.here hx rfl (hb hby at_226) rfl (teq (rfl : (own_c p3) = (own_c p3))).2 ?_
      show Steps p.tables e below (T29.setTop (mkF m 229 #[.val (.int p1), .val (.int p2), .val (.int p3), .val (.int p4), .val (.int p5), .val (.int (own_v0 p1)), .val (.int (own_v1 p1)), .val (.int (own_v2 p1)), .val (.int (own_c p2)), .val (.int (own_c p3)), .val (.int (own_c p4)), .val (.int (own_u p5)), .val (.ref b5), .val (.ref b13), .val (.int (own_g (own_v0 p1) (own_u p5) (0 : Int32))), .val (.int (own_g (own_v1 p1) (own_u p5) (1 : Int32))), .val (.int (own_g (own_v2 p1) (own_u p5) (2 : Int32))), .val (.int (own_b (own_kp (own_g (own_v0 p1) (own_u p5) (0 : Int32)) (own_g (own_v1 p1) (own_u p5) (1 : Int32)) (own_g (own_v2 p1) (own_u p5) (2 : Int32)) (own_c p2) (own_c p3) (own_c p4)))), .val (.int (own_b (own_mg (own_u p5) (own_v0 p1) (own_v1 p1) (own_v2 p1) (own_c p2) (own_c p3) (own_c p4)))), .unset] [])) _
      refine XS.aload X29.here hx rfl (hb hby at_229) rfl rfl ?_
      show Steps p.tables e below (T29.setTop (mkF m 231 #[.val (.int p1), .val (.int p2), .val (.int p3), .val (.int p4), .val (.int p5), .val (.int (own_v0 p1)), .val (.int (own_v1 p1)), .val (.int (own_v2 p1)), .val (.int (own_c p2)), .val (.int (own_c p3)), .val (.int (own_c p4)), .val (.int (own_u p5)), .val (.ref b5), .val (.ref b13), .val (.int (own_g (own_v0 p1) (own_u p5) (0 : Int32))), .val (.int (own_g (own_v1 p1) (own_u p5) (1 : Int32))), .val (.int (own_g (own_v2 p1) (own_u p5) (2 : Int32))), .val (.int (own_b (own_kp (own_g (own_v0 p1) (own_u p5) (0 : Int32)) (own_g (own_v1 p1) (own_u p5) (1 : Int32)) (own_g (own_v2 p1) (own_u p5) (2 : Int32)) (own_c p2) (own_c p3) (own_c p4)))), .val (.int (own_b (own_mg (own_u p5) (own_v0 p1) (own_v1 p1) (own_v2 p1) (own_c p2) (own_c p3) (own_c p4)))), .unset] [(.ref b13)])) _
      refine XS.iconst X29.here hx rfl (hb hby at_231) ?_
      show Steps p.tables e below (T29.setTop (mkF m 232 #[.val (.int p1), .val (.int p2), .val (.int p3), .val (.int p4), .val (.int p5), .val (.int (own_v0 p1)), .val (.int (own_v1 p1)), .val (.int (own_v2 p1)), .val (.int (own_c p2)), .val (.int (own_c p3)), .val (.int (own_c p4)), .val (.int (own_u p5)), .val (.ref b5), .val (.ref b13), .val (.int (own_g (own_v0 p1) (own_u p5) (0 : Int32))), .val (.int (own_g (own_v1 p1) (own_u p5) (1 : Int32))), .val (.int (own_g (own_v2 p1) (own_u p5) (2 : Int32))), .val (.int (own_b (own_kp (own_g (own_v0 p1) (own_u p5) (0 : Int32)) (own_g (own_v1 p1) (own_u p5) (1 : Int32)) (own_g (own_v2 p1) (own_u p5) (2 : Int32)) (own_c p2) (own_c p3) (own_c p4)))), .val (.int (own_b (own_mg (own_u p5) (own_v0 p1) (own_v1 p1) (own_v2 p1) (own_c p2) (own_c p3) (own_c p4)))), .unset] [(.int (2 : Int32)), (.ref b13)])) _
      refine X29.iaload hx (j := (2 : Int32)) (v := (.int (own_c p4))) (by rw [e29]; exact Ay1.1) (State.isArrayOf_alike hZ.alike Ay1.2.1) Ay1.2.2 (own_ld Sy1 Hy1 (p := (2 : Int32)) (by decide)).1 (own_ld Sy1 Hy1 (p := (2 : Int32)) (by decide)).2 (g := (mkF m 232 #[.val (.int p1), .val (.int p2), .val (.int p3), .val (.int p4), .val (.int p5), .val (.int (own_v0 p1)), .val (.int (own_v1 p1)), .val (.int (own_v2 p1)), .val (.int (own_c p2)), .val (.int (own_c p3)), .val (.int (own_c p4)), .val (.int (own_u p5)), .val (.ref b5), .val (.ref b13), .val (.int (own_g (own_v0 p1) (own_u p5) (0 : Int32))), .val (.int (own_g (own_v1 p1) (own_u p5) (1 : Int32))), .val (.int (own_g (own_v2 p1) (own_u p5) (2 : Int32))), .val (.int (own_b (own_kp (own_g (own_v0 p1) (own_u p5) (0 : Int32)) (own_g (own_v1 p1) (own_u p5) (1 : Int32)) (own_g (own_v2 p1) (own_u p5) (2 : Int32)) (own_c p2) (own_c p3) (own_c p4)))), .val (.int (own_b (own_mg (own_u p5) (own_v0 p1) (own_v1 p1) (own_v2 p1) (own_c p2) (own_c p3) (own_c p4)))), .unset] [(.int (2 : Int32)), (.ref b13)])) rfl rfl (hb hby at_232) _ ?_
      show Steps p.tables e below (T29.setTop (mkF m 233 #[.val (.int p1), .val (.int p2), .val (.int p3), .val (.int p4), .val (.int p5), .val (.int (own_v0 p1)), .val (.int (own_v1 p1)), .val (.int (own_v2 p1)), .val (.int (own_c p2)), .val (.int (own_c p3)), .val (.int (own_c p4)), .val (.int (own_u p5)), .val (.ref b5), .val (.ref b13), .val (.int (own_g (own_v0 p1) (own_u p5) (0 : Int32))), .val (.int (own_g (own_v1 p1) (own_u p5) (1 : Int32))), .val (.int (own_g (own_v2 p1) (own_u p5) (2 : Int32))), .val (.int (own_b (own_kp (own_g (own_v0 p1) (own_u p5) (0 : Int32)) (own_g (own_v1 p1) (own_u p5) (1 : Int32)) (own_g (own_v2 p1) (own_u p5) (2 : Int32)) (own_c p2) (own_c p3) (own_c p4)))), .val (.int (own_b (own_mg (own_u p5) (own_v0 p1) (own_v1 p1) (own_v2 p1) (own_c p2) (own_c p3) (own_c p4)))), .unset] [(.int (own_c p4))])) _
      refine XS.iload X29.here hx rfl (hb hby at_233) rfl ?_
      show Steps p.tables e below (T29.setTop (mkF m 235 #[.val (.int p1), .val (.int p2), .val (.int p3), .val (.int p4), .val (.int p5), .val (.int (own_v0 p1)), .val (.int (own_v1 p1)), .val (.int (own_v2 p1)), .val (.int (own_c p2)), .val (.int (own_c p3)), .val (.int (own_c p4)), .val (.int (own_u p5)), .val (.ref b5), .val (.ref b13), .val (.int (own_g (own_v0 p1) (own_u p5) (0 : Int32))), .val (.int (own_g (own_v1 p1) (own_u p5) (1 : Int32))), .val (.int (own_g (own_v2 p1) (own_u p5) (2 : Int32))), .val (.int (own_b (own_kp (own_g (own_v0 p1) (own_u p5) (0 : Int32)) (own_g (own_v1 p1) (own_u p5) (1 : Int32)) (own_g (own_v2 p1) (own_u p5) (2 : Int32)) (own_c p2) (own_c p3) (own_c p4)))), .val (.int (own_b (own_mg (own_u p5) (own_v0 p1) (own_v1 p1) (own_v2 p1) (own_c p2) (own_c p3) (own_c p4)))), .unset] [(.int (own_c p4)), (.int (own_c p4))])) _
      refine XS.icmpNo X29.here hx rfl (hb hby at_235) rfl (teq (rfl : (own_c p4) = (own_c p4))).2 ?_
      show Steps p.tables e below (T29.setTop (mkF m 238 #[.val (.int p1), .val (.int p2), .val (.int p3), .val (.int p4), .val (.int p5), .val (.int (own_v0 p1)), .val (.int (own_v1 p1)), .val (.int (own_v2 p1)), .val (.int (own_c p2)), .val (.int (own_c p3)), .val (.int (own_c p4)), .val (.int (own_u p5)), .val (.ref b5), .val (.ref b13), .val (.int (own_g (own_v0 p1) (own_u p5) (0 : Int32))), .val (.int (own_g (own_v1 p1) (own_u p5) (1 : Int32))), .val (.int (own_g (own_v2 p1) (own_u p5) (2 : Int32))), .val (.int (own_b (own_kp (own_g (own_v0 p1) (own_u p5) (0 : Int32)) (own_g (own_v1 p1) (own_u p5) (1 : Int32)) (own_g (own_v2 p1) (own_u p5) (2 : Int32)) (own_c p2) (own_c p3) (own_c p4)))), .val (.int (own_b (own_mg (own_u p5) (own_v0 p1) (own_v1 p1) (own_v2 p1) (own_c p2) (own_c p3) (own_c p4)))), .unset] [])) _
      refine XS.iconst X29.here hx rfl (hb hby at_238) ?_
      show Steps p.tables e below (T29.setTop (mkF m 239 #[.val (.int p1), .val (.int p2), .val (.int p3), .val (.int p4), .val (.int p5), .val (.int (own_v0 p1)), .val (.int (own_v1 p1)), .val (.int (own_v2 p1)), .val (.int (own_c p2)), .val (.int (own_c p3)), .val (.int (own_c p4)), .val (.int (own_u p5)), .val (.ref b5), .val (.ref b13), .val (.int (own_g (own_v0 p1) (own_u p5) (0 : Int32))), .val (.int (own_g (own_v1 p1) (own_u p5) (1 : Int32))), .val (.int (own_g (own_v2 p1) (own_u p5) (2 : Int32))), .val (.int (own_b (own_kp (own_g (own_v0 p1) (own_u p5) (0 : Int32)) (own_g (own_v1 p1) (own_u p5) (1 : Int32)) (own_g (own_v2 p1) (own_u p5) (2 : Int32)) (own_c p2) (own_c p3) (own_c p4)))), .val (.int (own_b (own_mg (own_u p5) (own_v0 p1) (own_v1 p1) (own_v2 p1) (own_c p2) (own_c p3) (own_c p4)))), .unset] [(.int (1 : Int32))])) _
      refine XS.goto X29.here hx rfl (pc0 := 239) (pc' := 243) rfl (hb hby at_239) (by decide) (by decide) ?_
      show Steps p.tables e below (T29.setTop (mkF m 243 #[.val (.int p1), .val (.int p2), .val (.int p3), .val (.int p4), .val (.int p5), .val (.int (own_v0 p1)), .val (.int (own_v1 p1)), .val (.int (own_v2 p1)), .val (.int (own_c p2)), .val (.int (own_c p3)), .val (.int (own_c p4)), .val (.int (own_u p5)), .val (.ref b5), .val (.ref b13), .val (.int (own_g (own_v0 p1) (own_u p5) (0 : Int32))), .val (.int (own_g (own_v1 p1) (own_u p5) (1 : Int32))), .val (.int (own_g (own_v2 p1) (own_u p5) (2 : Int32))), .val (.int (own_b (own_kp (own_g (own_v0 p1) (own_u p5) (0 : Int32)) (own_g (own_v1 p1) (own_u p5) (1 : Int32)) (own_g (own_v2 p1) (own_u p5) (2 : Int32)) (own_c p2) (own_c p3) (own_c p4)))), .val (.int (own_b (own_mg (own_u p5) (own_v0 p1) (own_v1 p1) (own_v2 p1) (own_c p2) (own_c p3) (own_c p4)))), .unset] [(.int (1 : Int32))])) _
      refine XS.istore X29.here hx rfl (hb hby at_243) rfl (l' := #[.val (.int p1), .val (.int p2), .val (.int p3), .val (.int p4), .val (.int p5), .val (.int (own_v0 p1)), .val (.int (own_v1 p1)), .val (.int (own_v2 p1)), .val (.int (own_c p2)), .val (.int (own_c p3)), .val (.int (own_c p4)), .val (.int (own_u p5)), .val (.ref b5), .val (.ref b13), .val (.int (own_g (own_v0 p1) (own_u p5) (0 : Int32))), .val (.int (own_g (own_v1 p1) (own_u p5) (1 : Int32))), .val (.int (own_g (own_v2 p1) (own_u p5) (2 : Int32))), .val (.int (own_b (own_kp (own_g (own_v0 p1) (own_u p5) (0 : Int32)) (own_g (own_v1 p1) (own_u p5) (1 : Int32)) (own_g (own_v2 p1) (own_u p5) (2 : Int32)) (own_c p2) (own_c p3) (own_c p4)))), .val (.int (own_b (own_mg (own_u p5) (own_v0 p1) (own_v1 p1) (own_v2 p1) (own_c p2) (own_c p3) (own_c p4)))), .val (.int (1 : Int32))]) rfl ?_
      show Steps p.tables e below (T29.setTop (mkF m 245 #[.val (.int p1), .val (.int p2), .val (.int p3), .val (.int p4), .val (.int p5), .val (.int (own_v0 p1)), .val (.int (own_v1 p1)), .val (.int (own_v2 p1)), .val (.int (own_c p2)), .val (.int (own_c p3)), .val (.int (own_c p4)), .val (.int (own_u p5)), .val (.ref b5), .val (.ref b13), .val (.int (own_g (own_v0 p1) (own_u p5) (0 : Int32))), .val (.int (own_g (own_v1 p1) (own_u p5) (1 : Int32))), .val (.int (own_g (own_v2 p1) (own_u p5) (2 : Int32))), .val (.int (own_b (own_kp (own_g (own_v0 p1) (own_u p5) (0 : Int32)) (own_g (own_v1 p1) (own_u p5) (1 : Int32)) (own_g (own_v2 p1) (own_u p5) (2 : Int32)) (own_c p2) (own_c p3) (own_c p4)))), .val (.int (own_b (own_mg (own_u p5) (own_v0 p1) (own_v1 p1) (own_v2 p1) (own_c p2) (own_c p3) (own_c p4)))), .val (.int (1 : Int32))] [])) _
      refine XS.iload X29.here hx rfl (hb hby at_245) rfl ?_
      show Steps p.tables e below (T29.setTop (mkF m 247 #[.val (.int p1), .val (.int p2), .val (.int p3), .val (.int p4), .val (.int p5), .val (.int (own_v0 p1)), .val (.int (own_v1 p1)), .val (.int (own_v2 p1)), .val (.int (own_c p2)), .val (.int (own_c p3)), .val (.int (own_c p4)), .val (.int (own_u p5)), .val (.ref b5), .val (.ref b13), .val (.int (own_g (own_v0 p1) (own_u p5) (0 : Int32))), .val (.int (own_g (own_v1 p1) (own_u p5) (1 : Int32))), .val (.int (own_g (own_v2 p1) (own_u p5) (2 : Int32))), .val (.int (own_b (own_kp (own_g (own_v0 p1) (own_u p5) (0 : Int32)) (own_g (own_v1 p1) (own_u p5) (1 : Int32)) (own_g (own_v2 p1) (own_u p5) (2 : Int32)) (own_c p2) (own_c p3) (own_c p4)))), .val (.int (own_b (own_mg (own_u p5) (own_v0 p1) (own_v1 p1) (own_v2 p1) (own_c p2) (own_c p3) (own_c p4)))), .val (.int (1 : Int32))] [(.int (own_b (own_mg (own_u p5) (own_v0 p1) (own_v1 p1) (own_v2 p1) (own_c p2) (own_c p3) (own_c p4))))])) _
      refine XS.iload X29.here hx rfl (hb hby at_247) rfl ?_
      show Steps p.tables e below (T29.setTop (mkF m 249 #[.val (.int p1), .val (.int p2), .val (.int p3), .val (.int p4), .val (.int p5), .val (.int (own_v0 p1)), .val (.int (own_v1 p1)), .val (.int (own_v2 p1)), .val (.int (own_c p2)), .val (.int (own_c p3)), .val (.int (own_c p4)), .val (.int (own_u p5)), .val (.ref b5), .val (.ref b13), .val (.int (own_g (own_v0 p1) (own_u p5) (0 : Int32))), .val (.int (own_g (own_v1 p1) (own_u p5) (1 : Int32))), .val (.int (own_g (own_v2 p1) (own_u p5) (2 : Int32))), .val (.int (own_b (own_kp (own_g (own_v0 p1) (own_u p5) (0 : Int32)) (own_g (own_v1 p1) (own_u p5) (1 : Int32)) (own_g (own_v2 p1) (own_u p5) (2 : Int32)) (own_c p2) (own_c p3) (own_c p4)))), .val (.int (own_b (own_mg (own_u p5) (own_v0 p1) (own_v1 p1) (own_v2 p1) (own_c p2) (own_c p3) (own_c p4)))), .val (.int (1 : Int32))] [(.int (own_b (own_kp (own_g (own_v0 p1) (own_u p5) (0 : Int32)) (own_g (own_v1 p1) (own_u p5) (1 : Int32)) (own_g (own_v2 p1) (own_u p5) (2 : Int32)) (own_c p2) (own_c p3) (own_c p4)))), (.int (own_b (own_mg (own_u p5) (own_v0 p1) (own_v1 p1) (own_v2 p1) (own_c p2) (own_c p3) (own_c p4))))])) _
      refine XS.icmpNo X29.here hx rfl (hb hby at_249) rfl (teq (own_grow p1 p2 p3 p4 p5 hc64_3 : (own_b (own_mg (own_u p5) (own_v0 p1) (own_v1 p1) (own_v2 p1) (own_c p2) (own_c p3) (own_c p4))) = (own_b (own_kp (own_g (own_v0 p1) (own_u p5) (0 : Int32)) (own_g (own_v1 p1) (own_u p5) (1 : Int32)) (own_g (own_v2 p1) (own_u p5) (2 : Int32)) (own_c p2) (own_c p3) (own_c p4))))).2 ?_
      show Steps p.tables e below (T29.setTop (mkF m 252 #[.val (.int p1), .val (.int p2), .val (.int p3), .val (.int p4), .val (.int p5), .val (.int (own_v0 p1)), .val (.int (own_v1 p1)), .val (.int (own_v2 p1)), .val (.int (own_c p2)), .val (.int (own_c p3)), .val (.int (own_c p4)), .val (.int (own_u p5)), .val (.ref b5), .val (.ref b13), .val (.int (own_g (own_v0 p1) (own_u p5) (0 : Int32))), .val (.int (own_g (own_v1 p1) (own_u p5) (1 : Int32))), .val (.int (own_g (own_v2 p1) (own_u p5) (2 : Int32))), .val (.int (own_b (own_kp (own_g (own_v0 p1) (own_u p5) (0 : Int32)) (own_g (own_v1 p1) (own_u p5) (1 : Int32)) (own_g (own_v2 p1) (own_u p5) (2 : Int32)) (own_c p2) (own_c p3) (own_c p4)))), .val (.int (own_b (own_mg (own_u p5) (own_v0 p1) (own_v1 p1) (own_v2 p1) (own_c p2) (own_c p3) (own_c p4)))), .val (.int (1 : Int32))] [])) _
      refine XS.iload X29.here hx rfl (hb hby at_252) rfl ?_
      show Steps p.tables e below (T29.setTop (mkF m 254 #[.val (.int p1), .val (.int p2), .val (.int p3), .val (.int p4), .val (.int p5), .val (.int (own_v0 p1)), .val (.int (own_v1 p1)), .val (.int (own_v2 p1)), .val (.int (own_c p2)), .val (.int (own_c p3)), .val (.int (own_c p4)), .val (.int (own_u p5)), .val (.ref b5), .val (.ref b13), .val (.int (own_g (own_v0 p1) (own_u p5) (0 : Int32))), .val (.int (own_g (own_v1 p1) (own_u p5) (1 : Int32))), .val (.int (own_g (own_v2 p1) (own_u p5) (2 : Int32))), .val (.int (own_b (own_kp (own_g (own_v0 p1) (own_u p5) (0 : Int32)) (own_g (own_v1 p1) (own_u p5) (1 : Int32)) (own_g (own_v2 p1) (own_u p5) (2 : Int32)) (own_c p2) (own_c p3) (own_c p4)))), .val (.int (own_b (own_mg (own_u p5) (own_v0 p1) (own_v1 p1) (own_v2 p1) (own_c p2) (own_c p3) (own_c p4)))), .val (.int (1 : Int32))] [(.int (1 : Int32))])) _
      refine XS.ifNo X29.here hx rfl (hb hby at_254) rfl ((if0 _ _).trans (feq (by decide : ¬ ((1 : Int32) = (0 : Int32)))).1) ?_
      show Steps p.tables e below (T29.setTop (mkF m 257 #[.val (.int p1), .val (.int p2), .val (.int p3), .val (.int p4), .val (.int p5), .val (.int (own_v0 p1)), .val (.int (own_v1 p1)), .val (.int (own_v2 p1)), .val (.int (own_c p2)), .val (.int (own_c p3)), .val (.int (own_c p4)), .val (.int (own_u p5)), .val (.ref b5), .val (.ref b13), .val (.int (own_g (own_v0 p1) (own_u p5) (0 : Int32))), .val (.int (own_g (own_v1 p1) (own_u p5) (1 : Int32))), .val (.int (own_g (own_v2 p1) (own_u p5) (2 : Int32))), .val (.int (own_b (own_kp (own_g (own_v0 p1) (own_u p5) (0 : Int32)) (own_g (own_v1 p1) (own_u p5) (1 : Int32)) (own_g (own_v2 p1) (own_u p5) (2 : Int32)) (own_c p2) (own_c p3) (own_c p4)))), .val (.int (own_b (own_mg (own_u p5) (own_v0 p1) (own_v1 p1) (own_v2 p1) (own_c p2) (own_c p3) (own_c p4)))), .val (.int (1 : Int32))] [])) _
      refine XS.iconst X29.here hx rfl (hb hby at_257) ?_
      show Steps p.tables e below (T29.setTop (mkF m 258 #[.val (.int p1), .val (.int p2), .val (.int p3), .val (.int p4), .val (.int p5), .val (.int (own_v0 p1)), .val (.int (own_v1 p1)), .val (.int (own_v2 p1)), .val (.int (own_c p2)), .val (.int (own_c p3)), .val (.int (own_c p4)), .val (.int (own_u p5)), .val (.ref b5), .val (.ref b13), .val (.int (own_g (own_v0 p1) (own_u p5) (0 : Int32))), .val (.int (own_g (own_v1 p1) (own_u p5) (1 : Int32))), .val (.int (own_g (own_v2 p1) (own_u p5) (2 : Int32))), .val (.int (own_b (own_kp (own_g (own_v0 p1) (own_u p5) (0 : Int32)) (own_g (own_v1 p1) (own_u p5) (1 : Int32)) (own_g (own_v2 p1) (own_u p5) (2 : Int32)) (own_c p2) (own_c p3) (own_c p4)))), .val (.int (own_b (own_mg (own_u p5) (own_v0 p1) (own_v1 p1) (own_v2 p1) (own_c p2) (own_c p3) (own_c p4)))), .val (.int (1 : Int32))] [(.int (1 : Int32))])) _
      refine XS.goto X29.here hx rfl (pc0 := 258) (pc' := 262) rfl (hb hby at_258) (by decide) (by decide) ?_
      show Steps p.tables e below (T29.setTop (mkF m 262 #[.val (.int p1), .val (.int p2), .val (.int p3), .val (.int p4), .val (.int p5), .val (.int (own_v0 p1)), .val (.int (own_v1 p1)), .val (.int (own_v2 p1)), .val (.int (own_c p2)), .val (.int (own_c p3)), .val (.int (own_c p4)), .val (.int (own_u p5)), .val (.ref b5), .val (.ref b13), .val (.int (own_g (own_v0 p1) (own_u p5) (0 : Int32))), .val (.int (own_g (own_v1 p1) (own_u p5) (1 : Int32))), .val (.int (own_g (own_v2 p1) (own_u p5) (2 : Int32))), .val (.int (own_b (own_kp (own_g (own_v0 p1) (own_u p5) (0 : Int32)) (own_g (own_v1 p1) (own_u p5) (1 : Int32)) (own_g (own_v2 p1) (own_u p5) (2 : Int32)) (own_c p2) (own_c p3) (own_c p4)))), .val (.int (own_b (own_mg (own_u p5) (own_v0 p1) (own_v1 p1) (own_v2 p1) (own_c p2) (own_c p3) (own_c p4)))), .val (.int (1 : Int32))] [(.int (1 : Int32))])) _
      exact retN X29 hx (t := .boolean) Bd.returns (by simp) (hb hby at_262) hr
    · show Q_law Z p1 p2 p3 p4 p5 h0 n0 _ T29.heap _
      rw [e29]
      exact ⟨(congrArg (fun zz => some (Value.int zz)) (by rfl : nar .boolean (1 : Int32) = (1 : Int32))), N29⟩
  · obtain ⟨fs, hr, hrun, hended, hW, hsame⟩ := X1.leave (v := some (.int (nar .boolean (1 : Int32)))) (fun h => by rw [Bd.returns] at h; cases h)
    refine ⟨_, _, pr4 _ ?_, hrun, hended, _, _, rfl, ?_, ⟨_, rfl⟩, hW, hsame.mono (by decide) (by decide)⟩
    · show Steps p.tables e below (T1.setTop (mkF m 64 #[.val (.int p1), .val (.int p2), .val (.int p3), .val (.int p4), .val (.int p5), .val (.int (own_v0 p1)), .val (.int (own_v1 p1)), .val (.int (own_v2 p1)), .val (.int (own_c p2)), .val (.int (own_c p3)), .val (.int (own_c p4)), .val (.int (own_u p5)), .unset, .unset, .unset, .unset, .unset, .unset, .unset, .unset] [(.int (own_b (own_kp (own_v0 p1) (own_v1 p1) (own_v2 p1) (own_c p2) (own_c p3) (own_c p4))))])) _
      refine XS.ifNo X1.here hx rfl (hb hby at_64) rfl ((if0 _ _).trans (teq (own_b0 hc64_3)).2) ?_
      show Steps p.tables e below (T1.setTop (mkF m 67 #[.val (.int p1), .val (.int p2), .val (.int p3), .val (.int p4), .val (.int p5), .val (.int (own_v0 p1)), .val (.int (own_v1 p1)), .val (.int (own_v2 p1)), .val (.int (own_c p2)), .val (.int (own_c p3)), .val (.int (own_c p4)), .val (.int (own_u p5)), .unset, .unset, .unset, .unset, .unset, .unset, .unset, .unset] [])) _
      refine XS.iconst X1.here hx rfl (hb hby at_67) ?_
      show Steps p.tables e below (T1.setTop (mkF m 68 #[.val (.int p1), .val (.int p2), .val (.int p3), .val (.int p4), .val (.int p5), .val (.int (own_v0 p1)), .val (.int (own_v1 p1)), .val (.int (own_v2 p1)), .val (.int (own_c p2)), .val (.int (own_c p3)), .val (.int (own_c p4)), .val (.int (own_u p5)), .unset, .unset, .unset, .unset, .unset, .unset, .unset, .unset] [(.int (1 : Int32))])) _
      exact retN X1 hx (t := .boolean) Bd.returns (by simp) (hb hby at_68) hr
    · show Q_law Z p1 p2 p3 p4 p5 h0 n0 _ T1.heap _
      rw [e1]
      exact ⟨(congrArg (fun zz => some (Value.int zz)) (by rfl : nar .boolean (1 : Int32) = (1 : Int32))), N1⟩
set_option maxRecDepth 65536 in
set_option maxHeartbeats 40000000 in
theorem comes_1 {Post : Tables → Env → Array Value → State → Outcome → State → Prop} (hpost : ∀ tb e args s v u, (limb_1_1.after args s (.returned v) u = true ∧ limb_1_2.after args s (.returned v) u = true ∧ True) → FrameEnd s (.returned v) u (Jvm.fieldLocs frame_1_writes args s ++ Jvm.arrayLocs frame_1_arrays args s ++ Jvm.staticLocs frame_1_statics s) 16 128 → Post tb e args s (.returned v) u) :
    ArmFor flags0 classFile x code maxLocals ret World_1 tables_1 room_1 Calls_1 rest_1 Pre_1 Post := by
  intro l hfl _ _ p e ha hc hk s m args below hf hA hF happ hP
  obtain ⟨hcalls, hrest, hpre⟩ := hP
  obtain ⟨-, -, -, hnamed, -, -, -, hat⟩ := (Spec.applies_iff hf).mp happ
  obtain ⟨hg, hn⟩ := and_e (Cond.before_iff.mp (show (Jvm.Cond.and given_1 narrow_1).before args s = true from hpre))
  obtain ⟨hcount, hg1⟩ := and_e hg
  obtain ⟨ga0, hg2⟩ := and_e hg1
  obtain ⟨ga1, hg3⟩ := and_e hg2
  obtain ⟨ga2, hg4⟩ := and_e hg3
  obtain ⟨ga3, hg5⟩ := and_e hg4
  obtain ⟨w0, w1, w2, w3, w4, rfl⟩ : ∃ w0 w1 w2 w3 w4 : Value, args = #[w0, w1, w2, w3, w4] := by
    have hs : args.size = 5 := by simpa [Cond.value, given_1] using hcount
    obtain ⟨L⟩ := args
    match L, hs with
    | [w0, w1, w2, w3, w4], _ => exact ⟨w0, w1, w2, w3, w4, rfl⟩
  have hw := fun d (hd : d ∈ tables_1) => atoms_spec (ws := Jvm.Cond.code x code maxLocals ret :: tables_1) hat d (List.mem_cons_of_mem _ hd)
  obtain ⟨i0, ei0⟩ := is_v ga0
  obtain rfl : w0 = (.int i0) := Option.some.inj ei0
  obtain ⟨i1, ei1⟩ := is_v ga1
  obtain rfl : w1 = (.int i1) := Option.some.inj ei1
  obtain ⟨i2, ei2⟩ := is_v ga2
  obtain rfl : w2 = (.int i2) := Option.some.inj ei2
  obtain ⟨i3, ei3⟩ := is_v ga3
  obtain rfl : w3 = (.int i3) := Option.some.inj ei3
  obtain ⟨i4, ei4⟩ := is_v hg5
  obtain rfl : w4 = (.int i4) := Option.some.inj ei4
  obtain ⟨n, o, h1, h2, h3, _, L, rfl, ⟨rfl, N⟩, hq⟩ := rm_law l s _ hw tables_1 i0 i1 i2 i3 i4 s.heap s.heap.size (Nat.le_refl _)  p e ha hc hk s m _ below hf ((Spec.applies_iff_loose hf).mp happ).1 ⟨rfl, State.Warmed39.refl s, rfl⟩ trivial
  refine ⟨n, _, h1, h2, h3, hpost _ _ _ _ _ _ ⟨Cond.after_iff.mpr rfl, Cond.after_iff.mpr (eq_i res_at (Term.int_eval (1)) rfl), trivial⟩ ⟨hq.1, hq.2.1, (hq.2.2.sift fun y hy => Or.inr (N y hy)).mono (by decide) (by decide)⟩⟩
theorem main_1_1 : Claimed_1_1 := comes_1 fun _ _ _ _ _ _ h hF => ⟨h.1, hF⟩
theorem main_1_2 : Claimed_1_2 := comes_1 fun _ _ _ _ _ _ h hF => ⟨h.2.1, hF⟩
end Jvm.Pilot.@@N@@
namespace Jvm.Pilot.@@N@@
open Jvm Jvm.ClassFile Sem Op Lib Jvm.Free Jvm.Stand Jvm.Pilot.@@N@@.Jvm.D
/-! MADE BY PROGRAM (witnessworld.py) out of the Statement's table words and the real class files: 9 classes; the members and pool entries that the words name. The judged class is class 1, her method 1. -/
namespace start1
open Jvm.ClassFile
def u (s : String) : CpInfo := .utf8 (stringToUtf16 s)
/-- a pool by its gaps: so many unusable entries, then the entry; so many at the end -/
def gap : Nat → List CpInfo → List CpInfo
  | 0, r => r
  | n + 1, r => .unusable :: gap n r
def poolList (es : List (Nat × CpInfo)) (last : Nat) : List CpInfo := es.foldr (fun e r => gap e.1 (e.2 :: r)) (gap last [])
def pool (es : List (Nat × CpInfo)) (last : Nat) : Array CpInfo := ⟨poolList es last⟩
def fileOf (pool : Array CpInfo) (this : Nat) (attrs : Array Attribute := #[]) (ms : Array MethodInfo := #[]) (fl : Nat := 33) (sup : Nat := 0) (ifs : Array Nat := #[]) (fds : Array FieldInfo := #[]) : ClassFile where
  minorVersion := 0
  majorVersion := 65
  constantPool := pool
  accessFlags := fl
  thisClass := this
  superClass := sup
  interfaces := ifs
  fields := fds
  methods := ms
  attributes := attrs
def plain (name : String) (sup : Option ClassId) : Class where
  name := name
  kind := .ordinary
  loader := none
  accessFlags := 33
  super := sup
  interfaces := #[]
  cf := none
  fields := #[]
  methods := #[]
  instanceTypes := #[]
  staticTypes := #[]
  resolved := #[]
  callSites := []
  init := .initialized
  statics := none
  mirror := none

def pool0 : Array CpInfo := pool [(5, u "<init>"), (0, u "()V"), (1, .class_ 10), (1, u "java/lang/Object")] 113

def k0m0 : Method := { name := "<init>", desc := "()V", sig := { parameters := [], returnType := none }, accessFlags := 1, code := none }
/-- java/lang/Object -/
def k0 : Class := { plain "java/lang/Object" none with
  accessFlags := 33
  interfaces := #[]
  cf := some (fileOf pool0 8 #[] #[{ accessFlags := 1, nameIndex := 5, descriptorIndex := 6, attributes := #[] }] 33 0 #[] #[])
  fields := #[]
  methods := #[k0m0]
  instanceTypes := #[]
  staticTypes := #[]
  resolved := Array.replicate 124 none
  statics := none }

def pool1 : Array CpInfo := pool [(2, .class_ 4), (1, u "java/lang/Object"), (0, u "<init>"), (0, u "()V"), (0, .integer 2147483647), (0, .methodref 9 10), (0, .class_ 11), (0, .nameAndType 12 13), (0, u "com/example/term_unifier/termunifier/service/DiophantineBasisMayGrowPinLaw"), (0, u "keeps"), (0, u "(IIIIII)Z"), (0, .methodref 15 16), (0, .class_ 17), (0, .nameAndType 18 19), (0, u "com/example/term_unifier/termunifier/service/DiophantineBasis"), (0, u "mayGrow"), (0, u "([II[I)Z"), (0, .methodref 9 21), (0, .nameAndType 22 23), (0, u "bounded"), (0, u "(II)Z"), (0, .methodref 9 25), (0, .nameAndType 26 27), (0, u "agree"), (0, u "(IIII)Z"), (2, u "law"), (0, u "(IIIII)Z")] 5

def k1m0 : Method := { name := "<init>", desc := "()V", sig := { parameters := [], returnType := none }, accessFlags := 1, code := none }
def k1c1 : Code := { maxStack := 6, maxLocals := 20, code := code, exceptionTable := #[], attributes := #[] }
def k1m1 : Method := { name := "law", desc := "(IIIII)Z", sig := { parameters := [.int, .int, .int, .int, .int], returnType := some .boolean }, accessFlags := 9, code := some k1c1 }
def k1c2 : Code := { maxStack := 4, maxLocals := 6, code := method_3_code, exceptionTable := #[], attributes := #[] }
def k1m2 : Method := { name := "keeps", desc := "(IIIIII)Z", sig := { parameters := [.int, .int, .int, .int, .int, .int], returnType := some .boolean }, accessFlags := 10, code := some k1c2 }
def k1c3 : Code := { maxStack := 2, maxLocals := 2, code := method_4_code, exceptionTable := #[], attributes := #[] }
def k1m3 : Method := { name := "bounded", desc := "(II)Z", sig := { parameters := [.int, .int], returnType := some .boolean }, accessFlags := 10, code := some k1c3 }
def k1c4 : Code := { maxStack := 2, maxLocals := 4, code := method_5_code, exceptionTable := #[], attributes := #[] }
def k1m4 : Method := { name := "agree", desc := "(IIII)Z", sig := { parameters := [.int, .int, .int, .int], returnType := some .boolean }, accessFlags := 10, code := some k1c4 }
/-- com/example/term_unifier/termunifier/service/DiophantineBasisMayGrowPinLaw -/
def k1 : Class := { plain "com/example/term_unifier/termunifier/service/DiophantineBasisMayGrowPinLaw" (some 0) with
  accessFlags := 49
  interfaces := #[]
  cf := some (fileOf pool1 9 #[] #[{ accessFlags := 1, nameIndex := 5, descriptorIndex := 6, attributes := #[] }, { accessFlags := 9, nameIndex := 30, descriptorIndex := 31, attributes := #[] }, { accessFlags := 10, nameIndex := 12, descriptorIndex := 13, attributes := #[] }, { accessFlags := 10, nameIndex := 22, descriptorIndex := 23, attributes := #[] }, { accessFlags := 10, nameIndex := 26, descriptorIndex := 27, attributes := #[] }] 49 2 #[] #[])
  fields := #[]
  methods := #[k1m0, k1m1, k1m2, k1m3, k1m4]
  instanceTypes := #[]
  staticTypes := #[]
  resolved := Array.replicate 37 none
  statics := none }

def pool2 : Array CpInfo := pool [(2, .class_ 4), (1, u "java/lang/Object"), (0, u "<init>"), (0, u "()V"), (1, .class_ 10), (1, u "com/example/term_unifier/termunifier/service/DiophantineBasis"), (35, .class_ 47), (0, u "com/example/term_unifier/termunifier/service/DiophantineBasis$Balancing"), (3, .class_ 52), (0, u "com/example/term_unifier/termunifier/service/DiophantineBasis$Minimal"), (32, .class_ 86), (0, u "com/example/term_unifier/termunifier/service/DiophantineBasis$Candidate"), (42, u "mayGrow"), (0, u "([II[I)Z"), (9, .class_ 142), (1, u "com/example/term_unifier/termunifier/service/DiophantineBasis$Escapes"), (160, u "ANY_VALUE"), (0, u "I")] 67

def k2m0 : Method := { name := "<init>", desc := "()V", sig := { parameters := [], returnType := none }, accessFlags := 2, code := none }
def k2c1 : Code := { maxStack := 3, maxLocals := 5, code := prog_25_method_4_code, exceptionTable := #[], attributes := #[] }
def k2m1 : Method := { name := "mayGrow", desc := "([II[I)Z", sig := { parameters := [(.array .int), .int, (.array .int)], returnType := some .boolean }, accessFlags := 8, code := some k2c1 }
/-- com/example/term_unifier/termunifier/service/DiophantineBasis -/
def k2 : Class := { plain "com/example/term_unifier/termunifier/service/DiophantineBasis" (some 0) with
  accessFlags := 48
  interfaces := #[]
  cf := some (fileOf pool2 8 #[.nestMembers #[140, 46, 51, 85]] #[{ accessFlags := 2, nameIndex := 5, descriptorIndex := 6, attributes := #[] }, { accessFlags := 8, nameIndex := 129, descriptorIndex := 130, attributes := #[] }] 48 2 #[] #[{ accessFlags := 24, nameIndex := 303, descriptorIndex := 304, attributes := #[] }])
  fields := #[{ name := "ANY_VALUE", type := .int, accessFlags := 24, slot := 0, constantValue := 0 }]
  methods := #[k2m0, k2m1]
  instanceTypes := #[]
  staticTypes := #[.int]
  resolved := Array.replicate 372 none
  statics := none }

def pool3 : Array CpInfo := pool [(1, u "java/lang/Cloneable"), (0, .class_ 1), (0, u "java/lang/Object"), (0, .class_ 3)] 3

/-- java/lang/Cloneable -/
def k3 : Class := { plain "java/lang/Cloneable" (some 0) with
  accessFlags := 1537
  interfaces := #[]
  cf := some (fileOf pool3 2 #[] #[] 1537 4 #[] #[])
  fields := #[]
  methods := #[]
  instanceTypes := #[]
  staticTypes := #[]
  resolved := Array.replicate 8 none
  statics := none }

def pool4 : Array CpInfo := pool [(1, u "java/io/Serializable"), (0, .class_ 1), (0, u "java/lang/Object"), (0, .class_ 3)] 3

/-- java/io/Serializable -/
def k4 : Class := { plain "java/io/Serializable" (some 0) with
  accessFlags := 1537
  interfaces := #[]
  cf := some (fileOf pool4 2 #[] #[] 1537 4 #[] #[])
  fields := #[]
  methods := #[]
  instanceTypes := #[]
  staticTypes := #[]
  resolved := Array.replicate 8 none
  statics := none }

/-- the primitive byte -/
def k5 : Class := { plain "byte" none with kind := .primitive 'B', accessFlags := 0x411 }
/-- [B -/
def k6 : Class := { plain "[B" (some 0) with kind := .array 5 .byte, interfaces := #[3, 4], accessFlags := 1041 }

/-- the primitive int -/
def k7 : Class := { plain "int" none with kind := .primitive 'I', accessFlags := 0x411 }
/-- [I -/
def k8 : Class := { plain "[I" (some 0) with kind := .array 7 .int, interfaces := #[3, 4], accessFlags := 1041 }

def heap : Heap := #[]
def classes : Array Class := #[k0, k1, k2, k3, k4, k5, k6, k7, k8]
def interned : List (Array UInt16 × Addr) := []
def slotsUsed : Nat := 0
def theMethod : MethodId := ⟨1, 1⟩
def args0 : Array Value := #[.int 5, .int 1, .int 1, .int 0, .int 2]
def aboutOver (below : List Frame) : State where
  vm := { classes := classes, interned := interned.toArray }
  heap := heap
  slotsUsed := slotsUsed
  threads := #[{ frames := .invoking theMethod args0 :: below }]
def below0 : List Frame := [.native { method := ⟨0, 0⟩, args := #[] }]
def about1 : State := aboutOver below0
def p0 : Program := .bare "" "" ""
def e0 : Env := launch0.env 0 0 0
theorem w_frames : about1.frames = Frame.invoking theMethod args0 :: below0 := rfl
set_option maxRecDepth 65536 in
theorem w_args : argsFit about1.vm theMethod args0 = true := by decide +kernel
set_option maxRecDepth 65536 in
theorem w_heap : heapFits about1 = true := by decide +kernel
set_option maxRecDepth 65536 in
theorem w_runnable : about1.curStatus? = some .runnable := by decide +kernel
set_option maxRecDepth 65536 in
theorem w_alone : about1.alone = true := by decide +kernel
set_option maxRecDepth 65536 in
theorem w_named : about1.methodNamed? x = some theMethod := by decide +kernel
set_option maxRecDepth 65536 in
theorem w_hears : about1.hears theMethod below0 = true := by decide +kernel
set_option maxRecDepth 65536 in
theorem w_ripe : about1.ripe theMethod args0 below0 = true := by decide +kernel
theorem w_running : about1.status = .running := rfl
set_option maxRecDepth 65536 in
theorem w_room : about1.hasRoom e0.platform room_1 = true :=
  launch0.hasRoom_least _ room_1 (by decide +kernel) (by decide +kernel) (by decide +kernel) (by decide +kernel) (by decide +kernel) (by decide +kernel)
theorem allAtoms_all (ts : List Jvm.Cond) (a : Array Jvm.Value) (st : Jvm.State) : (allAtoms ts).before a st = ts.all (fun c => c.before a st) := by
  induction ts with
  | nil => rfl
  | cons c t ih =>
    show (Jvm.Cond.and c (allAtoms t)).before a st = _
    rw [Jvm.Cond.before_and, ih, List.all_cons]
def words1 : List Jvm.Cond := Jvm.Cond.code x code maxLocals ret :: tables_1
/-- a 'code' word, met by the world's own term for the bytes: nothing is compared byte by byte -/
theorem code_word {y : MethodName} {bytes : ByteArray} {mx : Nat} {rt : Option FieldType} {a : Array Value} {s : State} {m : MethodId} {meth : Method} {c : Code} (h1 : s.methodNamed? y = some m) (h2 : s.vm.method? m = some meth) (h3 : meth.code = some c) (h4 : c.code = bytes)
    (h5 : (c.maxLocals == mx && c.exceptionTable.isEmpty && decide (c.maxStack ≤ mostOperands) && decide (meth.sig.returnType = rt) && !meth.locks && decide (parseMethodDescriptor y.desc = some meth.sig)) = true) : (Jvm.Cond.code y bytes mx rt).before a s = true := by
  simp only [Bool.and_eq_true, beq_iff_eq, Bool.not_eq_true', decide_eq_true_eq] at h5
  obtain ⟨⟨⟨⟨⟨g1, g2⟩, g3⟩, g4⟩, g5⟩, g6⟩ := h5
  simp [Cond.before, Cond.holds, Cond.value, h1, h2, h3, h4, g1, g2, g3, g4, g5, g6]
def isCode : Jvm.Cond → Bool
  | .code _ _ _ _ => true
  | _ => false
theorem all_split {L : List Jvm.Cond} {P : Jvm.Cond → Bool} (h1 : L.all (fun c => isCode c || P c) = true) (h2 : ∀ c ∈ L.filter isCode, P c = true) : L.all P = true := by
  refine List.all_eq_true.mpr fun c hc => ?_
  have h := List.all_eq_true.mp h1 c hc
  rcases Bool.eq_false_or_eq_true (isCode c) with hi | hi
  · exact h2 c (List.mem_filter.mpr ⟨hc, hi⟩)
  · simpa [hi] using h
set_option maxRecDepth 65536 in
theorem w_c0 : (Jvm.Cond.code x code maxLocals ret).before args0 about1 = true := code_word (m := ⟨1, 1⟩) (meth := k1m1) (c := k1c1) (by decide +kernel) rfl rfl rfl (by decide +kernel)
set_option maxRecDepth 65536 in
theorem w_c1 : (Jvm.Cond.code ({ cls := "com/example/term_unifier/termunifier/service/DiophantineBasisMayGrowPinLaw", name := "keeps", desc := "(IIIIII)Z" } : Jvm.MethodName) method_3_code (6 : Nat) (Option.some Jvm.ClassFile.FieldType.boolean)).before args0 about1 = true := code_word (m := ⟨1, 2⟩) (meth := k1m2) (c := k1c2) (by decide +kernel) rfl rfl rfl (by decide +kernel)
set_option maxRecDepth 65536 in
theorem w_c2 : (Jvm.Cond.code ({ cls := "com/example/term_unifier/termunifier/service/DiophantineBasisMayGrowPinLaw", name := "bounded", desc := "(II)Z" } : Jvm.MethodName) method_4_code (2 : Nat) (Option.some Jvm.ClassFile.FieldType.boolean)).before args0 about1 = true := code_word (m := ⟨1, 3⟩) (meth := k1m3) (c := k1c3) (by decide +kernel) rfl rfl rfl (by decide +kernel)
set_option maxRecDepth 65536 in
theorem w_c3 : (Jvm.Cond.code ({ cls := "com/example/term_unifier/termunifier/service/DiophantineBasisMayGrowPinLaw", name := "agree", desc := "(IIII)Z" } : Jvm.MethodName) method_5_code (4 : Nat) (Option.some Jvm.ClassFile.FieldType.boolean)).before args0 about1 = true := code_word (m := ⟨1, 4⟩) (meth := k1m4) (c := k1c4) (by decide +kernel) rfl rfl rfl (by decide +kernel)
set_option maxRecDepth 65536 in
theorem w_c4 : (Jvm.Cond.code ({ cls := "com/example/term_unifier/termunifier/service/DiophantineBasis", name := "mayGrow", desc := "([II[I)Z" } : Jvm.MethodName) prog_25_method_4_code (5 : Nat) (Option.some Jvm.ClassFile.FieldType.boolean)).before args0 about1 = true := code_word (m := ⟨2, 1⟩) (meth := k2m1) (c := k2c1) (by decide +kernel) rfl rfl rfl (by decide +kernel)
def codes1 : List Jvm.Cond := [Jvm.Cond.code x code maxLocals ret, Jvm.Cond.code ({ cls := "com/example/term_unifier/termunifier/service/DiophantineBasisMayGrowPinLaw", name := "keeps", desc := "(IIIIII)Z" } : Jvm.MethodName) method_3_code (6 : Nat) (Option.some Jvm.ClassFile.FieldType.boolean), Jvm.Cond.code ({ cls := "com/example/term_unifier/termunifier/service/DiophantineBasisMayGrowPinLaw", name := "bounded", desc := "(II)Z" } : Jvm.MethodName) method_4_code (2 : Nat) (Option.some Jvm.ClassFile.FieldType.boolean), Jvm.Cond.code ({ cls := "com/example/term_unifier/termunifier/service/DiophantineBasisMayGrowPinLaw", name := "agree", desc := "(IIII)Z" } : Jvm.MethodName) method_5_code (4 : Nat) (Option.some Jvm.ClassFile.FieldType.boolean), Jvm.Cond.code ({ cls := "com/example/term_unifier/termunifier/service/DiophantineBasis", name := "mayGrow", desc := "([II[I)Z" } : Jvm.MethodName) prog_25_method_4_code (5 : Nat) (Option.some Jvm.ClassFile.FieldType.boolean)]
set_option maxRecDepth 65536 in
theorem codes_eq : words1.filter isCode = codes1 := rfl
theorem w_codes : ∀ c ∈ words1.filter isCode, c.before args0 about1 = true := by
  rw [codes_eq]
  intro c hc
  simp only [codes1, List.mem_cons, List.not_mem_nil, or_false] at hc
  rcases hc with rfl | rfl | rfl | rfl | rfl
  · exact w_c0
  · exact w_c1
  · exact w_c2
  · exact w_c3
  · exact w_c4
set_option maxRecDepth 65536 in
theorem w_t1 : words1.all (fun c => isCode c || c.before args0 about1) = true := by decide +kernel
theorem w_tables : (allAtoms (Jvm.Cond.code x code maxLocals ret :: tables_1)).before args0 about1 = true := by
  rw [allAtoms_all]
  show words1.all (fun c => c.before args0 about1) = true
  refine all_split ?_ w_codes
  rw [w_t1]
set_option maxRecDepth 65536 in
theorem w_case : (Jvm.Cond.and given_1 narrow_1).before args0 about1 = true := by decide +kernel
theorem w_applies : (headSpec (Jvm.Cond.code x code maxLocals ret :: tables_1) room_1).applies x e0.platform about1 = true :=
  (Spec.applies_iff w_frames).mpr ⟨w_running, w_runnable, w_alone, w_named, w_hears, w_ripe, w_room, w_tables⟩
theorem atStart : AtStart classFile x code maxLocals ret World_1 tables_1 room_1 Calls_1 rest_1 Pre_1 launch0 p0 e0 about1 theMethod args0 below0 :=
  ⟨lists_1, trivial, launch0.admits_env _ _ _, launch0.least_env, fairChoices_fair.cas, fairChoices_fair.clock, w_frames, w_args, w_heap, w_applies, trivial, trivial, w_case⟩
end start1
theorem witness_1 : WitnessClaimed_1 := ⟨start1.p0, start1.e0, start1.about1, start1.theMethod, start1.args0, start1.below0, start1.atStart⟩
end Jvm.Pilot.@@N@@
