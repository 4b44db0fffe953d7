import JvmDerived
import JvmDerived.Pilot.@@N@@Statement
import JvmDerived.Pilot.@@N@@Code
set_option linter.unusedVariables false
set_option linter.unusedSimpArgs false
namespace Jvm.RoadKit
open Sem ClassFile Op Lib Jvm.Stand Jvm.Free Jvm.LawKit
section New
variable {p : Program} {l : Launch} {e : Env} {R : Room} {s : State} {m : MethodId} {args : Array Value} {below : List Frame} {meth : Method} {c : Code} {T : State} {locs : List Loc} {cells slots : Nat}
theorem retI (X : Stand p l e R s m args below meth c T locs cells slots) (hx : p.tables.exec = Jvm.exec) {pc : Nat} {Ls : Array Slot} {z : Int32} {rest : List Value} (hret : meth.sig.returnType = some .int) (hd : decode c.code pc = .ok (.ireturn, 1)) {fs : List Frame}
    (hl : ∀ (f : JFrame) (acts : List Action), f.method = m → f.locked = none → f.entered = [] → (doReturn e (T.setTop f) acts (some (.int z))).1 = T.setFrames fs) : Steps p.tables e below (T.setTop (mkF m pc Ls (.int z :: rest))) (T.setFrames fs) := by
  have hm' : T.vm.method? m = some meth := X.method'
  have hn : narrow .int (.int z) = .int z := rfl
  show Steps p.tables e below (T.setTop { method := m, pc := pc, locals := Ls, stack := _ :: rest, locked := none }) _
  jvm_step X.here [X.here.top, hx, hd, hm', hret, hn]
  first | (intro acts; rw [hl _ acts rfl rfl rfl]) | rw [hl _ _ rfl rfl rfl]
  exact Steps.refl _
end New
end Jvm.RoadKit
namespace Jvm.Pilot.@@N@@
open Jvm Jvm.ClassFile Sem Op Lib Jvm.Free Jvm.Stand Jvm.LawKit Jvm.RoadKit Bundle Jvm.Pilot.@@N@@.Jvm.D
def own_b (b : Bool) : Int32 := if b = true then 1 else 0
theorem own_b0 {b : Bool} (h : ¬ (b = true)) : own_b b = 0 := if_neg h
theorem own_b1 {b : Bool} (h : b = true) : ¬ own_b b = 0 := by subst h; decide
theorem own_nb (b : Bool) : nar .boolean (own_b b) = own_b b := by cases b <;> decide
theorem own_bm {n : Int} (h1 : -2147483648 ≤ n) (h2 : n < 2147483648) : n.bmod (2 ^ 32) = n := by
  rw [Int.bmod_def]; omega
theorem own_m31 (x : Int32) : 0 ≤ (x &&& (2147483647 : Int32)).toInt ∧ (x &&& (2147483647 : Int32)).toInt < 2147483648 := by
  have h : (x &&& (2147483647 : Int32)).toInt = (((x.toBitVec &&& 2147483647#32).toNat : Nat) : Int) := by
    show (x &&& (2147483647 : Int32)).toBitVec.toInt = _
    rw [Int32.toBitVec_and]
    show (x.toBitVec &&& 2147483647#32).toInt = _
    apply BitVec.toInt_eq_toNat_of_lt
    have := Nat.and_le_right (n := x.toBitVec.toNat) (m := 2147483647)
    rw [BitVec.toNat_and]
    show 2 * (x.toBitVec.toNat &&& 2147483647) < _
    omega
  rw [h, BitVec.toNat_and]
  have := Nat.and_le_right (n := x.toBitVec.toNat) (m := 2147483647)
  show (0:Int) ≤ ((x.toBitVec.toNat &&& 2147483647 : Nat) : Int) ∧ _
  constructor
  · omega
  · show ((x.toBitVec.toNat &&& 2147483647 : Nat) : Int) < 2147483648
    omega
theorem own_rem {a k : Int32} (h0 : 0 ≤ a.toInt) (hk : 0 < k.toInt) : (a - (a / k) * k).toInt = a.toInt % k.toInt := by
  have e1 : (a / k).toInt = a.toInt / k.toInt := by
    rw [Int32.toInt_div, Int.tdiv_eq_ediv_of_nonneg h0]
    have := Int.ediv_nonneg h0 (Int.le_of_lt hk)
    have := Int.ediv_le_self k.toInt h0
    have := a.toInt_lt
    exact own_bm (by omega) (by omega)
  have h1 := Int.emod_add_mul_ediv a.toInt k.toInt
  have h2 := Int.emod_nonneg a.toInt (Int.ne_of_gt hk)
  have h3 := Int.emod_lt_of_pos a.toInt hk
  have h4 := a.toInt_lt
  have h6 := k.toInt_lt
  have h7 := Int.mul_nonneg (Int.le_of_lt hk) (Int.ediv_nonneg h0 (Int.le_of_lt hk))
  have h5 : (a / k * k).toInt = a.toInt - a.toInt % k.toInt := by
    rw [Int32.toInt_mul, e1, Int.mul_comm]
    rw [own_bm (by omega) (by omega)]; omega
  rw [Int32.toInt_sub, h5, own_bm (by omega) (by omega)]; omega
def own_abs (x : Int32) : Int32 := if x < 0 then -x else x
def own_labs (x : Int64) : Int64 := if x < 0 then -x else x
theorem own_i2l (a : Int32) : a.toInt64.toInt = a.toInt := Int32.toInt_toInt64 a
theorem own_bm64 {n : Int} (h1 : -9223372036854775808 ≤ n) (h2 : n < 9223372036854775808) : n.bmod (2 ^ 64) = n := by
  rw [Int.bmod_def]; omega
def own_kb (a b t : Int32) : Bool := decide (t < own_abs (a - b))
def own_ex (a b t : Int32) : Bool := !decide (own_labs (a.toInt64 - b.toInt64) < (1 : Int64) + t.toInt64)
theorem own_keep {a b t : Int32} (ha : 0 ≤ a.toInt) (hb : 0 ≤ b.toInt) (ht : 0 ≤ t.toInt) : own_kb a b t = own_ex a b t := by
  unfold own_kb own_ex
  have a1 := a.toInt_lt
  have b1 := b.toInt_lt
  have t1 := t.toInt_lt
  have z32 : (0 : Int32).toInt = 0 := by decide
  have z64 : (0 : Int64).toInt = 0 := by decide
  have o64 : (1 : Int64).toInt = 1 := by decide
  have e1 : (a - b).toInt = a.toInt - b.toInt := by rw [Int32.toInt_sub, own_bm (by omega) (by omega)]
  have e2 : (a.toInt64 - b.toInt64).toInt = a.toInt - b.toInt := by rw [Int64.toInt_sub, own_i2l, own_i2l, own_bm64 (by omega) (by omega)]
  have e3 : ((1 : Int64) + t.toInt64).toInt = 1 + t.toInt := by rw [Int64.toInt_add, own_i2l, o64, own_bm64 (by omega) (by omega)]
  have e4 : (own_abs (a - b)).toInt = (a.toInt - b.toInt).natAbs := by
    unfold own_abs
    split
    · rename_i h; rw [Int32.lt_iff_toInt_lt, z32, e1] at h
      rw [Int32.toInt_neg, e1, own_bm (by omega) (by omega)]; omega
    · rename_i h; rw [Int32.lt_iff_toInt_lt, z32, e1] at h
      rw [e1]; omega
  have e5 : (own_labs (a.toInt64 - b.toInt64)).toInt = (a.toInt - b.toInt).natAbs := by
    unfold own_labs
    split
    · rename_i h; rw [Int64.lt_iff_toInt_lt, z64, e2] at h
      rw [Int64.toInt_neg, e2, own_bm64 (by omega) (by omega)]; omega
    · rename_i h; rw [Int64.lt_iff_toInt_lt, z64, e2] at h
      rw [e2]; omega
  rw [Bool.eq_iff_iff]
  simp only [decide_eq_true_eq, Bool.not_eq_true', decide_eq_false_iff_not, Int32.lt_iff_toInt_lt, Int64.lt_iff_toInt_lt, e3, e4, e5]
  omega
def own_m (x : Int32) : Int32 := (x &&& (2147483647 : Int32))
theorem own_law (x y z : Int32) : own_b (own_kb (own_m x) (own_m y) (own_m z)) = own_b (own_ex (own_m x) (own_m y) (own_m z)) := congrArg own_b (own_keep (own_m31 x).1 (own_m31 y).1 (own_m31 z).1)
theorem d_abs_0 : decode jdk_29_method_59_code 0 = .ok (.iload_n 0, 1) := by decide +kernel
theorem d_abs_1 : decode jdk_29_method_59_code 1 = .ok (.ifCond .ge 8, 3) := by decide +kernel
theorem d_abs_4 : decode jdk_29_method_59_code 4 = .ok (.iload_n 0, 1) := by decide +kernel
theorem d_abs_5 : decode jdk_29_method_59_code 5 = .ok (.ineg, 1) := by decide +kernel
theorem d_abs_6 : decode jdk_29_method_59_code 6 = .ok (.goto 4, 3) := by decide +kernel
theorem d_abs_9 : decode jdk_29_method_59_code 9 = .ok (.iload_n 0, 1) := by decide +kernel
theorem d_abs_10 : decode jdk_29_method_59_code 10 = .ok (.ireturn, 1) := by decide +kernel
theorem ef_abs (m : MethodId) (p1 : Int32) : entryFrame m #[(.int p1)] 1 = mkF m 0 #[.val (.int p1)] [] := by first | (simp [entryFrame, mkF, argsToLocals, Value.category]; done) | rfl
def Q_abs (Z : State) (p1 : Int32) (h0 : Heap) (n0 : Nat) (v : Option Value) (h : Heap) (L : List Loc) : Prop := v = some (.int (own_abs p1)) ∧ Fr n0 L ∧ h = h0
set_option maxRecDepth 65536 in
set_option maxHeartbeats 40000000 in
theorem rm_abs (l : Launch) (Z : State) (a0 : Array Value) (hw : ∀ d ∈ tables_1, d.before a0 Z = true) (ws : List Jvm.Cond) (p1 : Int32) (h0 : Heap) (n0 : Nat) (Z0 : n0 ≤ h0.size) :
    MetFree l (⟨"java/lang/Math", "abs", "(I)I"⟩ : MethodName) (head1 (Jvm.Cond.code (⟨"java/lang/Math", "abs", "(I)I"⟩ : MethodName) jdk_29_method_59_code 1 (some .int) :: ws) ({ frames := 0, cells := 0, slots := 0, locals := 0 } : Room)) (fun a U => a = #[(.int p1)] ∧ Z.Warmed39 U.vm ∧ U.heap = h0) (fun _ _ _ _ _ => True) (fun _ U o U' => ∃ v L, o = .returned v ∧ Q_abs Z p1 h0 n0 v U'.heap L ∧ FrameEnd U o U' L ({ frames := 0, cells := 0, slots := 0, locals := 0 } : Room).cells ({ frames := 0, cells := 0, slots := 0, locals := 0 } : Room).slots) := by
  refine MetFree.of_bodySF (Jvm.Free.JP.mathPlain rfl (by decide +kernel)) hisR ?_
  intro p e s m args below meth c s₁ Bd hml0 hP hK
  obtain ⟨rfl, hZ, hh⟩ := hP
  have hx := Bd.exec
  have hby := Bd.bytes
  have hml : c.maxLocals = 1 := hml0
  have hown : s.vm.findClass "java/lang/Math" = some m.cls := findClass_of_methodNamed Bd.named
  have hnm := (name_of_methodNamed Bd.named Bd.method).1
  have X0 : Stand p l e ({ frames := 0, cells := 0, slots := 0, locals := 0 } : Room) s m #[(.int p1)] below meth c s₁ [] 0 0 := Stand.of_body Bd
  have e0 : s₁.heap = h0 := by rw [← hh, Bd.state]; rfl
  have N0 := Fr.nil n0
  have pre0 : ∀ t, Steps p.tables e below (s₁.setTop (mkF m 0 #[.val (.int p1)] [])) t → Steps p.tables e below (s₁.setTop (entryFrame m #[(.int p1)] 1)) t := fun t k => castTop (ef_abs m p1) k
  have pr2 : ∀ t, Steps p.tables e below (s₁.setTop (mkF m 1 #[.val (.int p1)] [(.int p1)])) t → Steps p.tables e below (s₁.setTop (entryFrame m #[(.int p1)] 1)) t := fun t kt => pre0 t (by
    show Steps p.tables e below (s₁.setTop (mkF m 0 #[.val (.int p1)] [])) _
    refine XS.iloadN X0.here hx rfl (hb hby d_abs_0) rfl ?_
    exact kt)
  by_cases hc1_1 : p1 < (0 : Int32)
  · obtain ⟨fs, hr, hrun, hended, hW, hsame⟩ := X0.leave (v := some (.int (-p1))) (fun h => by rw [Bd.returns] at h; cases h)
    refine ⟨_, _, pr2 _ ?_, hrun, hended, _, _, rfl, ?_, ⟨_, rfl⟩, hW, hsame.mono (by decide) (by decide)⟩
    · show Steps p.tables e below (s₁.setTop (mkF m 1 #[.val (.int p1)] [(.int p1)])) _
      refine XS.ifNo X0.here hx rfl (hb hby d_abs_1) rfl ((if0 _ _).trans (tlt hc1_1).2.1) ?_
      show Steps p.tables e below (s₁.setTop (mkF m 4 #[.val (.int p1)] [])) _
      refine XS.iloadN X0.here hx rfl (hb hby d_abs_4) rfl ?_
      show Steps p.tables e below (s₁.setTop (mkF m 5 #[.val (.int p1)] [(.int p1)])) _
      refine XS.ineg X0.here hx rfl (hb hby d_abs_5) rfl ?_
      show Steps p.tables e below (s₁.setTop (mkF m 6 #[.val (.int p1)] [(.int (-p1))])) _
      refine XS.goto X0.here hx rfl (pc0 := 6) (pc' := 10) rfl (hb hby d_abs_6) (by decide) (by decide) ?_
      show Steps p.tables e below (s₁.setTop (mkF m 10 #[.val (.int p1)] [(.int (-p1))])) _
      exact retI X0 hx Bd.returns (hb hby d_abs_10) hr
    · show Q_abs Z p1 h0 n0 _ s₁.heap _
      rw [e0]
      exact ⟨(congrArg (fun zz => some (Value.int zz)) (by simp [own_abs, hc1_1] : (-p1) = (own_abs p1))), N0, rfl⟩
  · obtain ⟨fs, hr, hrun, hended, hW, hsame⟩ := X0.leave (v := some (.int p1)) (fun h => by rw [Bd.returns] at h; cases h)
    refine ⟨_, _, pr2 _ ?_, hrun, hended, _, _, rfl, ?_, ⟨_, rfl⟩, hW, hsame.mono (by decide) (by decide)⟩
    · show Steps p.tables e below (s₁.setTop (mkF m 1 #[.val (.int p1)] [(.int p1)])) _
      refine XS.ifYes X0.here hx rfl (pc0 := 1) (pc' := 9) rfl (hb hby d_abs_1) rfl ((if0 _ _).trans (flt hc1_1).2.1) (by decide) (by decide) ?_
      show Steps p.tables e below (s₁.setTop (mkF m 9 #[.val (.int p1)] [])) _
      refine XS.iloadN X0.here hx rfl (hb hby d_abs_9) rfl ?_
      show Steps p.tables e below (s₁.setTop (mkF m 10 #[.val (.int p1)] [(.int p1)])) _
      exact retI X0 hx Bd.returns (hb hby d_abs_10) hr
    · show Q_abs Z p1 h0 n0 _ s₁.heap _
      rw [e0]
      exact ⟨(congrArg (fun zz => some (Value.int zz)) (by simp [own_abs, hc1_1] : p1 = (own_abs p1))), N0, rfl⟩
theorem d_kb_0 : decode prog_21_method_11_code 0 = .ok (.iload_n 0, 1) := by decide +kernel
theorem d_kb_1 : decode prog_21_method_11_code 1 = .ok (.iload_n 1, 1) := by decide +kernel
theorem d_kb_2 : decode prog_21_method_11_code 2 = .ok (.isub, 1) := by decide +kernel
theorem d_kb_3 : decode prog_21_method_11_code 3 = .ok (.invokestatic 87, 3) := by decide +kernel
theorem d_kb_6 : decode prog_21_method_11_code 6 = .ok (.iload_n 2, 1) := by decide +kernel
theorem d_kb_7 : decode prog_21_method_11_code 7 = .ok (.if_icmp .le 7, 3) := by decide +kernel
theorem d_kb_10 : decode prog_21_method_11_code 10 = .ok (.iconst 1, 1) := by decide +kernel
theorem d_kb_11 : decode prog_21_method_11_code 11 = .ok (.goto 4, 3) := by decide +kernel
theorem d_kb_14 : decode prog_21_method_11_code 14 = .ok (.iconst 0, 1) := by decide +kernel
theorem d_kb_15 : decode prog_21_method_11_code 15 = .ok (.ireturn, 1) := by decide +kernel
theorem pn_kb : plainName "convene/Setting" = true := by first | (simp [plainName, overriddenIn]; done) | decide +kernel
theorem pd_kb_0 : parseMethodDescriptor "(I)I" = some ⟨[.int], some .int⟩ := by decide +kernel
theorem ef_kb (m : MethodId) (p1 : Int32) (p2 : Int32) (p3 : Int32) : entryFrame m #[(.int p1), (.int p2), (.int p3)] 3 = mkF m 0 #[.val (.int p1), .val (.int p2), .val (.int p3)] [] := by first | (simp [entryFrame, mkF, argsToLocals, Value.category]; done) | rfl
def Q_kb (Z : State) (p1 : Int32) (p2 : Int32) (p3 : Int32) (h0 : Heap) (n0 : Nat) (v : Option Value) (h : Heap) (L : List Loc) : Prop := v = some (.int (own_b (own_kb p1 p2 p3))) ∧ Fr n0 L ∧ h = h0
set_option maxRecDepth 65536 in
set_option maxHeartbeats 40000000 in
theorem rm_kb (l : Launch) (Z : State) (a0 : Array Value) (hw : ∀ d ∈ tables_1, d.before a0 Z = true) (ws : List Jvm.Cond) (p1 : Int32) (p2 : Int32) (p3 : Int32) (h0 : Heap) (n0 : Nat) (Z0 : n0 ≤ h0.size) :
    MetFree l (⟨"convene/Setting", "keepBoth", "(III)Z"⟩ : MethodName) (head1 (Jvm.Cond.code (⟨"convene/Setting", "keepBoth", "(III)Z"⟩ : MethodName) prog_21_method_11_code 3 (some .boolean) :: ws) ({ frames := 1, cells := 0, slots := 0, locals := 12 } : Room)) (fun a U => a = #[(.int p1), (.int p2), (.int p3)] ∧ Z.Warmed39 U.vm ∧ U.heap = h0) (fun _ _ _ _ _ => True) (fun _ U o U' => ∃ v L, o = .returned v ∧ Q_kb Z p1 p2 p3 h0 n0 v U'.heap L ∧ FrameEnd U o U' L ({ frames := 1, cells := 0, slots := 0, locals := 12 } : Room).cells ({ frames := 1, cells := 0, slots := 0, locals := 12 } : Room).slots) := by
  refine MetFree.of_bodySF (plainFor_of_name pn_kb) hisR ?_
  intro p e s m args below meth c s₁ Bd hml0 hP hK
  obtain ⟨rfl, hZ, hh⟩ := hP
  have hx := Bd.exec
  have hby := Bd.bytes
  have hml : c.maxLocals = 3 := hml0
  have hown : s.vm.findClass "convene/Setting" = some m.cls := findClass_of_methodNamed Bd.named
  have hnm := (name_of_methodNamed Bd.named Bd.method).1
  have X0 : Stand p l e ({ frames := 1, cells := 0, slots := 0, locals := 12 } : Room) s m #[(.int p1), (.int p2), (.int p3)] below meth c s₁ [] 0 0 := Stand.of_body Bd
  have e0 : s₁.heap = h0 := by rw [← hh, Bd.state]; rfl
  have N0 := Fr.nil n0
  have pre0 : ∀ t, Steps p.tables e below (s₁.setTop (mkF m 0 #[.val (.int p1), .val (.int p2), .val (.int p3)] [])) t → Steps p.tables e below (s₁.setTop (entryFrame m #[(.int p1), (.int p2), (.int p3)] 3)) t := fun t k => castTop (ef_kb m p1 p2 p3) k
  have pr2 : ∀ t, Steps p.tables e below (s₁.setTop (mkF m 3 #[.val (.int p1), .val (.int p2), .val (.int p3)] [(.int (p1 - p2))])) t → Steps p.tables e below (s₁.setTop (entryFrame m #[(.int p1), (.int p2), (.int p3)] 3)) t := fun t kt => pre0 t (by
    show Steps p.tables e below (s₁.setTop (mkF m 0 #[.val (.int p1), .val (.int p2), .val (.int p3)] [])) _
    refine XS.iloadN X0.here hx rfl (hb hby d_kb_0) rfl ?_
    show Steps p.tables e below (s₁.setTop (mkF m 1 #[.val (.int p1), .val (.int p2), .val (.int p3)] [(.int p1)])) _
    refine XS.iloadN X0.here hx rfl (hb hby d_kb_1) rfl ?_
    show Steps p.tables e below (s₁.setTop (mkF m 2 #[.val (.int p1), .val (.int p2), .val (.int p3)] [(.int p2), (.int p1)])) _
    refine XS.isub X0.here hx rfl (hb hby d_kb_2) rfl ?_
    show Steps p.tables e below (s₁.setTop (mkF m 3 #[.val (.int p1), .val (.int p2), .val (.int p3)] [(.int (p1 - p2))])) _
    exact kt)
  obtain ⟨_, _, ⟨T1, L1, k1, n1⟩, -, X1, ⟨Lc1, hQ1, l1, y1, z1⟩, st1⟩ := Jvm.LawKit.callS X0 hx (y := (⟨"java/lang/Math", "abs", "(I)I"⟩ : MethodName)) hown (mvT hZ (hw _ (List.mem_of_getElem? (i := 5) rfl))) (mvT hZ (hw _ (List.mem_of_getElem? (i := 6) rfl))) (mvT hZ (hw _ (List.mem_of_getElem? (i := 7) rfl))) (mvT hZ (hw _ (List.mem_of_getElem? (i := 8) rfl))) (by decide) (backOf (W := 0) (rm_abs l Z a0 hw [] (p1 - p2) h0 n0 Z0 ) hZ (hw _ (List.mem_of_getElem? (i := 8) rfl)) (hw _ (List.mem_of_getElem? (i := 7) rfl)) (by decide) (by decide)) (g := (mkF m 3 #[.val (.int p1), .val (.int p2), .val (.int p3)] [(.int (p1 - p2))])) rfl (by rw [hml]; rfl) (argsL := [(.int (p1 - p2))]) (rest := []) (lenOf pd_kb_0 rfl) rfl (by show 2 * 0 + _ ≤ _; exact Nat.le_of_eq rfl) (hb hby d_kb_3) (fun _ _ => ⟨rfl, e0, (by decide : 0 + 0 ≤ _), (by decide : 0 + 0 ≤ _)⟩)
  dsimp only [Pt.U, Pt.locs, Pt.cells, Pt.slots] at X1 l1 y1 z1 st1 hQ1
  subst l1 y1 z1
  obtain ⟨rfl, N1q, e1⟩ := hQ1
  have N1 := Fr.app N0 N1q
  have pr4 : ∀ t, Steps p.tables e below (T1.setTop (mkF m 7 #[.val (.int p1), .val (.int p2), .val (.int p3)] [(.int p3), (.int (own_abs (p1 - p2)))])) t → Steps p.tables e below (s₁.setTop (entryFrame m #[(.int p1), (.int p2), (.int p3)] 3)) t := fun t kt => pr2 t (by
    refine st1 _ ?_
    show Steps p.tables e below (T1.setTop (mkF m 6 #[.val (.int p1), .val (.int p2), .val (.int p3)] [(.int (own_abs (p1 - p2)))])) _
    refine XS.iloadN X1.here hx rfl (hb hby d_kb_6) rfl ?_
    exact kt)
  by_cases hc7_3 : p3 < (own_abs (p1 - p2))
  · obtain ⟨fs, hr, hrun, hended, hW, hsame⟩ := X1.leave (v := some (.int (nar .boolean (1 : Int32)))) (fun h => by rw [Bd.returns] at h; cases h)
    refine ⟨_, _, pr4 _ ?_, hrun, hended, _, _, rfl, ?_, ⟨_, rfl⟩, hW, hsame.mono (by decide) (by decide)⟩
    · show Steps p.tables e below (T1.setTop (mkF m 7 #[.val (.int p1), .val (.int p2), .val (.int p3)] [(.int p3), (.int (own_abs (p1 - p2)))])) _
      refine XS.icmpNo X1.here hx rfl (hb hby d_kb_7) rfl (tlt hc7_3).2.2.2 ?_
      show Steps p.tables e below (T1.setTop (mkF m 10 #[.val (.int p1), .val (.int p2), .val (.int p3)] [])) _
      refine XS.iconst X1.here hx rfl (hb hby d_kb_10) ?_
      show Steps p.tables e below (T1.setTop (mkF m 11 #[.val (.int p1), .val (.int p2), .val (.int p3)] [(.int (1 : Int32))])) _
      refine XS.goto X1.here hx rfl (pc0 := 11) (pc' := 15) rfl (hb hby d_kb_11) (by decide) (by decide) ?_
      show Steps p.tables e below (T1.setTop (mkF m 15 #[.val (.int p1), .val (.int p2), .val (.int p3)] [(.int (1 : Int32))])) _
      exact retN X1 hx (t := .boolean) Bd.returns (by simp) (hb hby d_kb_15) hr
    · show Q_kb Z p1 p2 p3 h0 n0 _ T1.heap _
      rw [e1]
      exact ⟨(congrArg (fun zz => some (Value.int zz)) (by rw [show own_kb p1 p2 p3 = true from by simp [own_kb, hc7_3]]; rfl : nar .boolean (1 : Int32) = (own_b (own_kb p1 p2 p3)))), N1, rfl⟩
  · obtain ⟨fs, hr, hrun, hended, hW, hsame⟩ := X1.leave (v := some (.int (nar .boolean (0 : Int32)))) (fun h => by rw [Bd.returns] at h; cases h)
    refine ⟨_, _, pr4 _ ?_, hrun, hended, _, _, rfl, ?_, ⟨_, rfl⟩, hW, hsame.mono (by decide) (by decide)⟩
    · show Steps p.tables e below (T1.setTop (mkF m 7 #[.val (.int p1), .val (.int p2), .val (.int p3)] [(.int p3), (.int (own_abs (p1 - p2)))])) _
      refine XS.icmpYes X1.here hx rfl (pc0 := 7) (pc' := 14) rfl (hb hby d_kb_7) rfl (flt hc7_3).2.2.2 (by decide) (by decide) ?_
      show Steps p.tables e below (T1.setTop (mkF m 14 #[.val (.int p1), .val (.int p2), .val (.int p3)] [])) _
      refine XS.iconst X1.here hx rfl (hb hby d_kb_14) ?_
      show Steps p.tables e below (T1.setTop (mkF m 15 #[.val (.int p1), .val (.int p2), .val (.int p3)] [(.int (0 : Int32))])) _
      exact retN X1 hx (t := .boolean) Bd.returns (by simp) (hb hby d_kb_15) hr
    · show Q_kb Z p1 p2 p3 h0 n0 _ T1.heap _
      rw [e1]
      exact ⟨(congrArg (fun zz => some (Value.int zz)) (by rw [show own_kb p1 p2 p3 = false from by simp [own_kb, hc7_3]]; rfl : nar .boolean (0 : Int32) = (own_b (own_kb p1 p2 p3)))), N1, rfl⟩
theorem pn_law : plainName "convene/SettingKeepBothPinLaw" = true := by first | (simp [plainName, overriddenIn]; done) | decide +kernel
theorem pd_law_0 : parseMethodDescriptor "(III)Z" = some ⟨[.int, .int, .int], some .boolean⟩ := by decide +kernel
theorem ef_law (m : MethodId) (p1 : Int32) (p2 : Int32) (p3 : Int32) : entryFrame m #[(.int p1), (.int p2), (.int p3)] maxLocals = mkF m 0 #[.val (.int p1), .val (.int p2), .val (.int p3), .unset, .unset, .unset, .unset, .unset, .unset] [] := by first | (simp [entryFrame, mkF, argsToLocals, Value.category, maxLocals]; done) | rfl
def Q_law (Z : State) (p1 : Int32) (p2 : Int32) (p3 : Int32) (h0 : Heap) (n0 : Nat) (v : Option Value) (h : Heap) (L : List Loc) : Prop := v = some (.int (1 : Int32)) ∧ Fr n0 L
set_option maxRecDepth 65536 in
set_option maxHeartbeats 40000000 in
theorem rm_law (l : Launch) (Z : State) (a0 : Array Value) (hw : ∀ d ∈ tables_1, d.before a0 Z = true) (ws : List Jvm.Cond) (p1 : Int32) (p2 : Int32) (p3 : Int32) (h0 : Heap) (n0 : Nat) (Z0 : n0 ≤ h0.size) :
    MetFree l x (head1 (Jvm.Cond.code x code maxLocals ret :: ws) room_1) (fun a U => a = #[(.int p1), (.int p2), (.int p3)] ∧ Z.Warmed39 U.vm ∧ U.heap = h0) (fun _ _ _ _ _ => True) (fun _ U o U' => ∃ v L, o = .returned v ∧ Q_law Z p1 p2 p3 h0 n0 v U'.heap L ∧ FrameEnd U o U' L room_1.cells room_1.slots) := by
  refine MetFree.of_bodySF (plainFor_of_name pn_law) hisR ?_
  intro p e s m args below meth c s₁ Bd hml0 hP hK
  obtain ⟨rfl, hZ, hh⟩ := hP
  have hx := Bd.exec
  have hby := Bd.bytes
  have hml : c.maxLocals = 9 := hml0
  have hown : s.vm.findClass "convene/SettingKeepBothPinLaw" = some m.cls := findClass_of_methodNamed Bd.named
  have hnm := (name_of_methodNamed Bd.named Bd.method).1
  have X0 : Stand p l e room_1 s m #[(.int p1), (.int p2), (.int p3)] below meth c s₁ [] 0 0 := Stand.of_body Bd
  have e0 : s₁.heap = h0 := by rw [← hh, Bd.state]; rfl
  have N0 := Fr.nil n0
  have pre0 : ∀ t, Steps p.tables e below (s₁.setTop (mkF m 0 #[.val (.int p1), .val (.int p2), .val (.int p3), .unset, .unset, .unset, .unset, .unset, .unset] [])) t → Steps p.tables e below (s₁.setTop (entryFrame m #[(.int p1), (.int p2), (.int p3)] maxLocals)) t := fun t k => castTop (ef_law m p1 p2 p3) k
  have sg1 : ∀ t, Steps p.tables e below (s₁.setTop (mkF m 37 #[.val (.int p1), .val (.int p2), .val (.int p3), .val (.int (own_m p1)), .val (.int (own_m p2)), .val (.int (own_m p3)), .val (.long (own_labs ((own_m p1).toInt64 - (own_m p2).toInt64))), .second, .unset] [])) t → Steps p.tables e below (s₁.setTop (mkF m 25 #[.val (.int p1), .val (.int p2), .val (.int p3), .val (.int (own_m p1)), .val (.int (own_m p2)), .val (.int (own_m p3)), .val (.long (((own_m p1).toInt64) - ((own_m p2).toInt64))), .second, .unset] [])) t := by
    intro t kt
    show Steps p.tables e below (s₁.setTop (mkF m 25 #[.val (.int p1), .val (.int p2), .val (.int p3), .val (.int (own_m p1)), .val (.int (own_m p2)), .val (.int (own_m p3)), .val (.long (((own_m p1).toInt64) - ((own_m p2).toInt64))), .second, .unset] [])) _
    refine XS.lload X0.here hx rfl (hb hby at_25) rfl ?_
    show Steps p.tables e below (s₁.setTop (mkF m 27 #[.val (.int p1), .val (.int p2), .val (.int p3), .val (.int (own_m p1)), .val (.int (own_m p2)), .val (.int (own_m p3)), .val (.long (((own_m p1).toInt64) - ((own_m p2).toInt64))), .second, .unset] [(.long (((own_m p1).toInt64) - ((own_m p2).toInt64)))])) _
    refine XS.lconst X0.here hx rfl (hb hby at_27) ?_
    show Steps p.tables e below (s₁.setTop (mkF m 28 #[.val (.int p1), .val (.int p2), .val (.int p3), .val (.int (own_m p1)), .val (.int (own_m p2)), .val (.int (own_m p3)), .val (.long (((own_m p1).toInt64) - ((own_m p2).toInt64))), .second, .unset] [(.long (0 : Int64)), (.long (((own_m p1).toInt64) - ((own_m p2).toInt64)))])) _
    refine XS.lcmp X0.here hx rfl (hb hby at_28) rfl ?_
    by_cases hc29_2 : (((own_m p1).toInt64) - ((own_m p2).toInt64)) < (0 : Int64)
    · show Steps p.tables e below (s₁.setTop (mkF m 29 #[.val (.int p1), .val (.int p2), .val (.int p3), .val (.int (own_m p1)), .val (.int (own_m p2)), .val (.int (own_m p3)), .val (.long (((own_m p1).toInt64) - ((own_m p2).toInt64))), .second, .unset] [(.int (lcmpW (((own_m p1).toInt64) - ((own_m p2).toInt64)) (0 : Int64)))])) _
      refine XS.ifNo X0.here hx rfl (hb hby at_29) rfl ((if0 _ _).trans (tlt ((lw_lt _ _).mpr hc29_2)).2.1) ?_
      show Steps p.tables e below (s₁.setTop (mkF m 32 #[.val (.int p1), .val (.int p2), .val (.int p3), .val (.int (own_m p1)), .val (.int (own_m p2)), .val (.int (own_m p3)), .val (.long (((own_m p1).toInt64) - ((own_m p2).toInt64))), .second, .unset] [])) _
      refine XS.lload X0.here hx rfl (hb hby at_32) rfl ?_
      show Steps p.tables e below (s₁.setTop (mkF m 34 #[.val (.int p1), .val (.int p2), .val (.int p3), .val (.int (own_m p1)), .val (.int (own_m p2)), .val (.int (own_m p3)), .val (.long (((own_m p1).toInt64) - ((own_m p2).toInt64))), .second, .unset] [(.long (((own_m p1).toInt64) - ((own_m p2).toInt64)))])) _
      refine XS.lneg X0.here hx rfl (hb hby at_34) rfl ?_
      show Steps p.tables e below (s₁.setTop (mkF m 35 #[.val (.int p1), .val (.int p2), .val (.int p3), .val (.int (own_m p1)), .val (.int (own_m p2)), .val (.int (own_m p3)), .val (.long (((own_m p1).toInt64) - ((own_m p2).toInt64))), .second, .unset] [(.long (-(((own_m p1).toInt64) - ((own_m p2).toInt64))))])) _
      refine XS.lstore X0.here hx rfl (hb hby at_35) rfl (l' := #[.val (.int p1), .val (.int p2), .val (.int p3), .val (.int (own_m p1)), .val (.int (own_m p2)), .val (.int (own_m p3)), .val (.long (-(((own_m p1).toInt64) - ((own_m p2).toInt64)))), .second, .unset]) rfl ?_
      show Steps p.tables e below (s₁.setTop (mkF m 37 #[.val (.int p1), .val (.int p2), .val (.int p3), .val (.int (own_m p1)), .val (.int (own_m p2)), .val (.int (own_m p3)), .val (.long (-(((own_m p1).toInt64) - ((own_m p2).toInt64)))), .second, .unset] [])) _
      refine castTop (congrArg (fun zz => (mkF m 37 #[.val (.int p1), .val (.int p2), .val (.int p3), .val (.int (own_m p1)), .val (.int (own_m p2)), .val (.int (own_m p3)), .val (.long zz), .second, .unset] [])) (by simp [own_labs, hc29_2] : (-(((own_m p1).toInt64) - ((own_m p2).toInt64))) = (own_labs ((own_m p1).toInt64 - (own_m p2).toInt64)))) ?_
      exact kt
    · show Steps p.tables e below (s₁.setTop (mkF m 29 #[.val (.int p1), .val (.int p2), .val (.int p3), .val (.int (own_m p1)), .val (.int (own_m p2)), .val (.int (own_m p3)), .val (.long (((own_m p1).toInt64) - ((own_m p2).toInt64))), .second, .unset] [(.int (lcmpW (((own_m p1).toInt64) - ((own_m p2).toInt64)) (0 : Int64)))])) _
      refine XS.ifYes X0.here hx rfl (pc0 := 29) (pc' := 37) rfl (hb hby at_29) rfl ((if0 _ _).trans (flt (fun q => hc29_2 ((lw_lt _ _).mp q))).2.1) (by decide) (by decide) ?_
      show Steps p.tables e below (s₁.setTop (mkF m 37 #[.val (.int p1), .val (.int p2), .val (.int p3), .val (.int (own_m p1)), .val (.int (own_m p2)), .val (.int (own_m p3)), .val (.long (((own_m p1).toInt64) - ((own_m p2).toInt64))), .second, .unset] [])) _
      refine castTop (congrArg (fun zz => (mkF m 37 #[.val (.int p1), .val (.int p2), .val (.int p3), .val (.int (own_m p1)), .val (.int (own_m p2)), .val (.int (own_m p3)), .val (.long zz), .second, .unset] [])) (by simp [own_labs, hc29_2] : (((own_m p1).toInt64) - ((own_m p2).toInt64)) = (own_labs ((own_m p1).toInt64 - (own_m p2).toInt64)))) ?_
      exact kt
  have sg3 : ∀ t, Steps p.tables e below (s₁.setTop (mkF m 53 #[.val (.int p1), .val (.int p2), .val (.int p3), .val (.int (own_m p1)), .val (.int (own_m p2)), .val (.int (own_m p3)), .val (.long (own_labs ((own_m p1).toInt64 - (own_m p2).toInt64))), .second, .unset] [(.int (own_b (own_ex (own_m p1) (own_m p2) (own_m p3))))])) t → Steps p.tables e below (s₁.setTop (mkF m 37 #[.val (.int p1), .val (.int p2), .val (.int p3), .val (.int (own_m p1)), .val (.int (own_m p2)), .val (.int (own_m p3)), .val (.long (own_labs ((own_m p1).toInt64 - (own_m p2).toInt64))), .second, .unset] [])) t := by
    intro t kt
    show Steps p.tables e below (s₁.setTop (mkF m 37 #[.val (.int p1), .val (.int p2), .val (.int p3), .val (.int (own_m p1)), .val (.int (own_m p2)), .val (.int (own_m p3)), .val (.long (own_labs ((own_m p1).toInt64 - (own_m p2).toInt64))), .second, .unset] [])) _
    refine XS.lload X0.here hx rfl (hb hby at_37) rfl ?_
    show Steps p.tables e below (s₁.setTop (mkF m 39 #[.val (.int p1), .val (.int p2), .val (.int p3), .val (.int (own_m p1)), .val (.int (own_m p2)), .val (.int (own_m p3)), .val (.long (own_labs ((own_m p1).toInt64 - (own_m p2).toInt64))), .second, .unset] [(.long (own_labs ((own_m p1).toInt64 - (own_m p2).toInt64)))])) _
    refine XS.lconst X0.here hx rfl (hb hby at_39) ?_
    show Steps p.tables e below (s₁.setTop (mkF m 40 #[.val (.int p1), .val (.int p2), .val (.int p3), .val (.int (own_m p1)), .val (.int (own_m p2)), .val (.int (own_m p3)), .val (.long (own_labs ((own_m p1).toInt64 - (own_m p2).toInt64))), .second, .unset] [(.long (1 : Int64)), (.long (own_labs ((own_m p1).toInt64 - (own_m p2).toInt64)))])) _
    refine XS.iload X0.here hx rfl (hb hby at_40) rfl ?_
    show Steps p.tables e below (s₁.setTop (mkF m 42 #[.val (.int p1), .val (.int p2), .val (.int p3), .val (.int (own_m p1)), .val (.int (own_m p2)), .val (.int (own_m p3)), .val (.long (own_labs ((own_m p1).toInt64 - (own_m p2).toInt64))), .second, .unset] [(.int (own_m p3)), (.long (1 : Int64)), (.long (own_labs ((own_m p1).toInt64 - (own_m p2).toInt64)))])) _
    refine XS.i2l X0.here hx rfl (hb hby at_42) rfl ?_
    show Steps p.tables e below (s₁.setTop (mkF m 43 #[.val (.int p1), .val (.int p2), .val (.int p3), .val (.int (own_m p1)), .val (.int (own_m p2)), .val (.int (own_m p3)), .val (.long (own_labs ((own_m p1).toInt64 - (own_m p2).toInt64))), .second, .unset] [(.long ((own_m p3).toInt64)), (.long (1 : Int64)), (.long (own_labs ((own_m p1).toInt64 - (own_m p2).toInt64)))])) _
    refine XS.ladd X0.here hx rfl (hb hby at_43) rfl ?_
    show Steps p.tables e below (s₁.setTop (mkF m 44 #[.val (.int p1), .val (.int p2), .val (.int p3), .val (.int (own_m p1)), .val (.int (own_m p2)), .val (.int (own_m p3)), .val (.long (own_labs ((own_m p1).toInt64 - (own_m p2).toInt64))), .second, .unset] [(.long ((1 : Int64) + ((own_m p3).toInt64))), (.long (own_labs ((own_m p1).toInt64 - (own_m p2).toInt64)))])) _
    refine XS.lcmp X0.here hx rfl (hb hby at_44) rfl ?_
    by_cases hc45_4 : (own_labs ((own_m p1).toInt64 - (own_m p2).toInt64)) < ((1 : Int64) + ((own_m p3).toInt64))
    · show Steps p.tables e below (s₁.setTop (mkF m 45 #[.val (.int p1), .val (.int p2), .val (.int p3), .val (.int (own_m p1)), .val (.int (own_m p2)), .val (.int (own_m p3)), .val (.long (own_labs ((own_m p1).toInt64 - (own_m p2).toInt64))), .second, .unset] [(.int (lcmpW (own_labs ((own_m p1).toInt64 - (own_m p2).toInt64)) ((1 : Int64) + ((own_m p3).toInt64))))])) _
      refine XS.ifYes X0.here hx rfl (pc0 := 45) (pc' := 52) rfl (hb hby at_45) rfl ((if0 _ _).trans (tlt ((lw_lt _ _).mpr hc45_4)).1) (by decide) (by decide) ?_
      show Steps p.tables e below (s₁.setTop (mkF m 52 #[.val (.int p1), .val (.int p2), .val (.int p3), .val (.int (own_m p1)), .val (.int (own_m p2)), .val (.int (own_m p3)), .val (.long (own_labs ((own_m p1).toInt64 - (own_m p2).toInt64))), .second, .unset] [])) _
      refine XS.iconst X0.here hx rfl (hb hby at_52) ?_
      show Steps p.tables e below (s₁.setTop (mkF m 53 #[.val (.int p1), .val (.int p2), .val (.int p3), .val (.int (own_m p1)), .val (.int (own_m p2)), .val (.int (own_m p3)), .val (.long (own_labs ((own_m p1).toInt64 - (own_m p2).toInt64))), .second, .unset] [(.int (0 : Int32))])) _
      refine castTop (congrArg (fun zz => (mkF m 53 #[.val (.int p1), .val (.int p2), .val (.int p3), .val (.int (own_m p1)), .val (.int (own_m p2)), .val (.int (own_m p3)), .val (.long (own_labs ((own_m p1).toInt64 - (own_m p2).toInt64))), .second, .unset] [(.int zz)])) (by rw [show own_ex (own_m p1) (own_m p2) (own_m p3) = false from by simp only [own_ex, hc45_4, decide_true, decide_false, Bool.not_true, Bool.not_false]]; rfl : (0 : Int32) = (own_b (own_ex (own_m p1) (own_m p2) (own_m p3))))) ?_
      exact kt
    · show Steps p.tables e below (s₁.setTop (mkF m 45 #[.val (.int p1), .val (.int p2), .val (.int p3), .val (.int (own_m p1)), .val (.int (own_m p2)), .val (.int (own_m p3)), .val (.long (own_labs ((own_m p1).toInt64 - (own_m p2).toInt64))), .second, .unset] [(.int (lcmpW (own_labs ((own_m p1).toInt64 - (own_m p2).toInt64)) ((1 : Int64) + ((own_m p3).toInt64))))])) _
      refine XS.ifNo X0.here hx rfl (hb hby at_45) rfl ((if0 _ _).trans (flt (fun q => hc45_4 ((lw_lt _ _).mp q))).1) ?_
      show Steps p.tables e below (s₁.setTop (mkF m 48 #[.val (.int p1), .val (.int p2), .val (.int p3), .val (.int (own_m p1)), .val (.int (own_m p2)), .val (.int (own_m p3)), .val (.long (own_labs ((own_m p1).toInt64 - (own_m p2).toInt64))), .second, .unset] [])) _
      refine XS.iconst X0.here hx rfl (hb hby at_48) ?_
      show Steps p.tables e below (s₁.setTop (mkF m 49 #[.val (.int p1), .val (.int p2), .val (.int p3), .val (.int (own_m p1)), .val (.int (own_m p2)), .val (.int (own_m p3)), .val (.long (own_labs ((own_m p1).toInt64 - (own_m p2).toInt64))), .second, .unset] [(.int (1 : Int32))])) _
      refine XS.goto X0.here hx rfl (pc0 := 49) (pc' := 53) rfl (hb hby at_49) (by decide) (by decide) ?_
      show Steps p.tables e below (s₁.setTop (mkF m 53 #[.val (.int p1), .val (.int p2), .val (.int p3), .val (.int (own_m p1)), .val (.int (own_m p2)), .val (.int (own_m p3)), .val (.long (own_labs ((own_m p1).toInt64 - (own_m p2).toInt64))), .second, .unset] [(.int (1 : Int32))])) _
      refine castTop (congrArg (fun zz => (mkF m 53 #[.val (.int p1), .val (.int p2), .val (.int p3), .val (.int (own_m p1)), .val (.int (own_m p2)), .val (.int (own_m p3)), .val (.long (own_labs ((own_m p1).toInt64 - (own_m p2).toInt64))), .second, .unset] [(.int zz)])) (by rw [show own_ex (own_m p1) (own_m p2) (own_m p3) = true from by simp only [own_ex, hc45_4, decide_true, decide_false, Bool.not_true, Bool.not_false]]; rfl : (1 : Int32) = (own_b (own_ex (own_m p1) (own_m p2) (own_m p3))))) ?_
      exact kt
  have pr6 : ∀ t, Steps p.tables e below (s₁.setTop (mkF m 60 #[.val (.int p1), .val (.int p2), .val (.int p3), .val (.int (own_m p1)), .val (.int (own_m p2)), .val (.int (own_m p3)), .val (.long (own_labs ((own_m p1).toInt64 - (own_m p2).toInt64))), .second, .val (.int (own_b (own_ex (own_m p1) (own_m p2) (own_m p3))))] [(.int (own_m p3)), (.int (own_m p2)), (.int (own_m p1))])) t → Steps p.tables e below (s₁.setTop (entryFrame m #[(.int p1), (.int p2), (.int p3)] maxLocals)) t := fun t kt => pre0 t (by
    show Steps p.tables e below (s₁.setTop (mkF m 0 #[.val (.int p1), .val (.int p2), .val (.int p3), .unset, .unset, .unset, .unset, .unset, .unset] [])) _
    refine XS.iloadN X0.here hx rfl (hb hby at_0) rfl ?_
    show Steps p.tables e below (s₁.setTop (mkF m 1 #[.val (.int p1), .val (.int p2), .val (.int p3), .unset, .unset, .unset, .unset, .unset, .unset] [(.int p1)])) _
    refine X0.ldcInt hx hown (mvT hZ (hw _ (List.mem_of_getElem? (i := 0) rfl))) (g := (mkF m 1 #[.val (.int p1), .val (.int p2), .val (.int p3), .unset, .unset, .unset, .unset, .unset, .unset] [(.int p1)])) rfl (hb hby at_1) _ ?_
    show Steps p.tables e below (s₁.setTop (mkF m 3 #[.val (.int p1), .val (.int p2), .val (.int p3), .unset, .unset, .unset, .unset, .unset, .unset] [(.int (2147483647 : Int32)), (.int p1)])) _
    refine XS.iand X0.here hx rfl (hb hby at_3) rfl ?_
    show Steps p.tables e below (s₁.setTop (mkF m 4 #[.val (.int p1), .val (.int p2), .val (.int p3), .unset, .unset, .unset, .unset, .unset, .unset] [(.int (p1 &&& (2147483647 : Int32)))])) _
    refine XS.istoreN X0.here hx rfl (hb hby at_4) rfl (l' := #[.val (.int p1), .val (.int p2), .val (.int p3), .val (.int (own_m p1)), .unset, .unset, .unset, .unset, .unset]) rfl ?_
    show Steps p.tables e below (s₁.setTop (mkF m 5 #[.val (.int p1), .val (.int p2), .val (.int p3), .val (.int (own_m p1)), .unset, .unset, .unset, .unset, .unset] [])) _
    refine XS.iloadN X0.here hx rfl (hb hby at_5) rfl ?_
    show Steps p.tables e below (s₁.setTop (mkF m 6 #[.val (.int p1), .val (.int p2), .val (.int p3), .val (.int (own_m p1)), .unset, .unset, .unset, .unset, .unset] [(.int p2)])) _
    refine X0.ldcInt hx hown (mvT hZ (hw _ (List.mem_of_getElem? (i := 0) rfl))) (g := (mkF m 6 #[.val (.int p1), .val (.int p2), .val (.int p3), .val (.int (own_m p1)), .unset, .unset, .unset, .unset, .unset] [(.int p2)])) rfl (hb hby at_6) _ ?_
    show Steps p.tables e below (s₁.setTop (mkF m 8 #[.val (.int p1), .val (.int p2), .val (.int p3), .val (.int (own_m p1)), .unset, .unset, .unset, .unset, .unset] [(.int (2147483647 : Int32)), (.int p2)])) _
    refine XS.iand X0.here hx rfl (hb hby at_8) rfl ?_
    show Steps p.tables e below (s₁.setTop (mkF m 9 #[.val (.int p1), .val (.int p2), .val (.int p3), .val (.int (own_m p1)), .unset, .unset, .unset, .unset, .unset] [(.int (p2 &&& (2147483647 : Int32)))])) _
    refine XS.istore X0.here hx rfl (hb hby at_9) rfl (l' := #[.val (.int p1), .val (.int p2), .val (.int p3), .val (.int (own_m p1)), .val (.int (own_m p2)), .unset, .unset, .unset, .unset]) rfl ?_
    show Steps p.tables e below (s₁.setTop (mkF m 11 #[.val (.int p1), .val (.int p2), .val (.int p3), .val (.int (own_m p1)), .val (.int (own_m p2)), .unset, .unset, .unset, .unset] [])) _
    refine XS.iloadN X0.here hx rfl (hb hby at_11) rfl ?_
    show Steps p.tables e below (s₁.setTop (mkF m 12 #[.val (.int p1), .val (.int p2), .val (.int p3), .val (.int (own_m p1)), .val (.int (own_m p2)), .unset, .unset, .unset, .unset] [(.int p3)])) _
    refine X0.ldcInt hx hown (mvT hZ (hw _ (List.mem_of_getElem? (i := 0) rfl))) (g := (mkF m 12 #[.val (.int p1), .val (.int p2), .val (.int p3), .val (.int (own_m p1)), .val (.int (own_m p2)), .unset, .unset, .unset, .unset] [(.int p3)])) rfl (hb hby at_12) _ ?_
    show Steps p.tables e below (s₁.setTop (mkF m 14 #[.val (.int p1), .val (.int p2), .val (.int p3), .val (.int (own_m p1)), .val (.int (own_m p2)), .unset, .unset, .unset, .unset] [(.int (2147483647 : Int32)), (.int p3)])) _
    refine XS.iand X0.here hx rfl (hb hby at_14) rfl ?_
    show Steps p.tables e below (s₁.setTop (mkF m 15 #[.val (.int p1), .val (.int p2), .val (.int p3), .val (.int (own_m p1)), .val (.int (own_m p2)), .unset, .unset, .unset, .unset] [(.int (p3 &&& (2147483647 : Int32)))])) _
    refine XS.istore X0.here hx rfl (hb hby at_15) rfl (l' := #[.val (.int p1), .val (.int p2), .val (.int p3), .val (.int (own_m p1)), .val (.int (own_m p2)), .val (.int (own_m p3)), .unset, .unset, .unset]) rfl ?_
    show Steps p.tables e below (s₁.setTop (mkF m 17 #[.val (.int p1), .val (.int p2), .val (.int p3), .val (.int (own_m p1)), .val (.int (own_m p2)), .val (.int (own_m p3)), .unset, .unset, .unset] [])) _
    refine XS.iloadN X0.here hx rfl (hb hby at_17) rfl ?_
    show Steps p.tables e below (s₁.setTop (mkF m 18 #[.val (.int p1), .val (.int p2), .val (.int p3), .val (.int (own_m p1)), .val (.int (own_m p2)), .val (.int (own_m p3)), .unset, .unset, .unset] [(.int (own_m p1))])) _
    refine XS.i2l X0.here hx rfl (hb hby at_18) rfl ?_
    show Steps p.tables e below (s₁.setTop (mkF m 19 #[.val (.int p1), .val (.int p2), .val (.int p3), .val (.int (own_m p1)), .val (.int (own_m p2)), .val (.int (own_m p3)), .unset, .unset, .unset] [(.long ((own_m p1).toInt64))])) _
    refine XS.iload X0.here hx rfl (hb hby at_19) rfl ?_
    show Steps p.tables e below (s₁.setTop (mkF m 21 #[.val (.int p1), .val (.int p2), .val (.int p3), .val (.int (own_m p1)), .val (.int (own_m p2)), .val (.int (own_m p3)), .unset, .unset, .unset] [(.int (own_m p2)), (.long ((own_m p1).toInt64))])) _
    refine XS.i2l X0.here hx rfl (hb hby at_21) rfl ?_
    show Steps p.tables e below (s₁.setTop (mkF m 22 #[.val (.int p1), .val (.int p2), .val (.int p3), .val (.int (own_m p1)), .val (.int (own_m p2)), .val (.int (own_m p3)), .unset, .unset, .unset] [(.long ((own_m p2).toInt64)), (.long ((own_m p1).toInt64))])) _
    refine XS.lsub X0.here hx rfl (hb hby at_22) rfl ?_
    show Steps p.tables e below (s₁.setTop (mkF m 23 #[.val (.int p1), .val (.int p2), .val (.int p3), .val (.int (own_m p1)), .val (.int (own_m p2)), .val (.int (own_m p3)), .unset, .unset, .unset] [(.long (((own_m p1).toInt64) - ((own_m p2).toInt64)))])) _
    refine XS.lstore X0.here hx rfl (hb hby at_23) rfl (l' := #[.val (.int p1), .val (.int p2), .val (.int p3), .val (.int (own_m p1)), .val (.int (own_m p2)), .val (.int (own_m p3)), .val (.long (((own_m p1).toInt64) - ((own_m p2).toInt64))), .second, .unset]) rfl ?_
    show Steps p.tables e below (s₁.setTop (mkF m 25 #[.val (.int p1), .val (.int p2), .val (.int p3), .val (.int (own_m p1)), .val (.int (own_m p2)), .val (.int (own_m p3)), .val (.long (((own_m p1).toInt64) - ((own_m p2).toInt64))), .second, .unset] [])) _
    refine sg1 _ ?_
    show Steps p.tables e below (s₁.setTop (mkF m 37 #[.val (.int p1), .val (.int p2), .val (.int p3), .val (.int (own_m p1)), .val (.int (own_m p2)), .val (.int (own_m p3)), .val (.long (own_labs ((own_m p1).toInt64 - (own_m p2).toInt64))), .second, .unset] [])) _
    refine sg3 _ ?_
    show Steps p.tables e below (s₁.setTop (mkF m 53 #[.val (.int p1), .val (.int p2), .val (.int p3), .val (.int (own_m p1)), .val (.int (own_m p2)), .val (.int (own_m p3)), .val (.long (own_labs ((own_m p1).toInt64 - (own_m p2).toInt64))), .second, .unset] [(.int (own_b (own_ex (own_m p1) (own_m p2) (own_m p3))))])) _
    refine XS.istore X0.here hx rfl (hb hby at_53) rfl (l' := #[.val (.int p1), .val (.int p2), .val (.int p3), .val (.int (own_m p1)), .val (.int (own_m p2)), .val (.int (own_m p3)), .val (.long (own_labs ((own_m p1).toInt64 - (own_m p2).toInt64))), .second, .val (.int (own_b (own_ex (own_m p1) (own_m p2) (own_m p3))))]) rfl ?_
    show Steps p.tables e below (s₁.setTop (mkF m 55 #[.val (.int p1), .val (.int p2), .val (.int p3), .val (.int (own_m p1)), .val (.int (own_m p2)), .val (.int (own_m p3)), .val (.long (own_labs ((own_m p1).toInt64 - (own_m p2).toInt64))), .second, .val (.int (own_b (own_ex (own_m p1) (own_m p2) (own_m p3))))] [])) _
    refine XS.iloadN X0.here hx rfl (hb hby at_55) rfl ?_
    show Steps p.tables e below (s₁.setTop (mkF m 56 #[.val (.int p1), .val (.int p2), .val (.int p3), .val (.int (own_m p1)), .val (.int (own_m p2)), .val (.int (own_m p3)), .val (.long (own_labs ((own_m p1).toInt64 - (own_m p2).toInt64))), .second, .val (.int (own_b (own_ex (own_m p1) (own_m p2) (own_m p3))))] [(.int (own_m p1))])) _
    refine XS.iload X0.here hx rfl (hb hby at_56) rfl ?_
    show Steps p.tables e below (s₁.setTop (mkF m 58 #[.val (.int p1), .val (.int p2), .val (.int p3), .val (.int (own_m p1)), .val (.int (own_m p2)), .val (.int (own_m p3)), .val (.long (own_labs ((own_m p1).toInt64 - (own_m p2).toInt64))), .second, .val (.int (own_b (own_ex (own_m p1) (own_m p2) (own_m p3))))] [(.int (own_m p2)), (.int (own_m p1))])) _
    refine XS.iload X0.here hx rfl (hb hby at_58) rfl ?_
    show Steps p.tables e below (s₁.setTop (mkF m 60 #[.val (.int p1), .val (.int p2), .val (.int p3), .val (.int (own_m p1)), .val (.int (own_m p2)), .val (.int (own_m p3)), .val (.long (own_labs ((own_m p1).toInt64 - (own_m p2).toInt64))), .second, .val (.int (own_b (own_ex (own_m p1) (own_m p2) (own_m p3))))] [(.int (own_m p3)), (.int (own_m p2)), (.int (own_m p1))])) _
    exact kt)
  obtain ⟨_, _, ⟨T5, L5, k5, n5⟩, -, X5, ⟨Lc5, hQ5, l5, y5, z5⟩, st5⟩ := Jvm.LawKit.callS X0 hx (y := (⟨"convene/Setting", "keepBoth", "(III)Z"⟩ : MethodName)) hown (mvT hZ (hw _ (List.mem_of_getElem? (i := 1) rfl))) (mvT hZ (hw _ (List.mem_of_getElem? (i := 2) rfl))) (mvT hZ (hw _ (List.mem_of_getElem? (i := 3) rfl))) (mvT hZ (hw _ (List.mem_of_getElem? (i := 4) rfl))) (by decide) (backOf (W := 0) (rm_kb l Z a0 hw [] (own_m p1) (own_m p2) (own_m p3) h0 n0 Z0 ) hZ (hw _ (List.mem_of_getElem? (i := 4) rfl)) (hw _ (List.mem_of_getElem? (i := 3) rfl)) (by decide) (by decide)) (g := (mkF m 60 #[.val (.int p1), .val (.int p2), .val (.int p3), .val (.int (own_m p1)), .val (.int (own_m p2)), .val (.int (own_m p3)), .val (.long (own_labs ((own_m p1).toInt64 - (own_m p2).toInt64))), .second, .val (.int (own_b (own_ex (own_m p1) (own_m p2) (own_m p3))))] [(.int (own_m p3)), (.int (own_m p2)), (.int (own_m p1))])) rfl (by rw [hml]; rfl) (argsL := [(.int (own_m p1)), (.int (own_m p2)), (.int (own_m p3))]) (rest := []) (lenOf pd_law_0 rfl) rfl (by show 2 * 0 + _ ≤ _; exact Nat.le_of_eq rfl) (hb hby at_60) (fun _ _ => ⟨rfl, e0, (by decide : 0 + 0 ≤ _), (by decide : 0 + 0 ≤ _)⟩)
  dsimp only [Pt.U, Pt.locs, Pt.cells, Pt.slots] at X5 l5 y5 z5 st5 hQ5
  subst l5 y5 z5
  obtain ⟨rfl, N5q, e5⟩ := hQ5
  have N5 := Fr.app N0 N5q
  obtain ⟨fs, hr, hrun, hended, hW, hsame⟩ := X5.leave (v := some (.int (nar .boolean (1 : Int32)))) (fun h => by rw [Bd.returns] at h; cases h)
  refine ⟨_, _, pr6 _ ?_, hrun, hended, _, _, rfl, ?_, ⟨_, rfl⟩, hW, hsame.mono (by decide) (by decide)⟩
  · refine st5 _ ?_
    show Steps p.tables e below (T5.setTop (mkF m 63 #[.val (.int p1), .val (.int p2), .val (.int p3), .val (.int (own_m p1)), .val (.int (own_m p2)), .val (.int (own_m p3)), .val (.long (own_labs ((own_m p1).toInt64 - (own_m p2).toInt64))), .second, .val (.int (own_b (own_ex (own_m p1) (own_m p2) (own_m p3))))] [(.int (own_b (own_kb (own_m p1) (own_m p2) (own_m p3))))])) _
    refine XS.iload X5.here hx rfl (hb hby at_63) rfl ?_
    show Steps p.tables e below (T5.setTop (mkF m 65 #[.val (.int p1), .val (.int p2), .val (.int p3), .val (.int (own_m p1)), .val (.int (own_m p2)), .val (.int (own_m p3)), .val (.long (own_labs ((own_m p1).toInt64 - (own_m p2).toInt64))), .second, .val (.int (own_b (own_ex (own_m p1) (own_m p2) (own_m p3))))] [(.int (own_b (own_ex (own_m p1) (own_m p2) (own_m p3)))), (.int (own_b (own_kb (own_m p1) (own_m p2) (own_m p3))))])) _
    refine XS.icmpNo X5.here hx rfl (hb hby at_65) rfl (teq (own_law p1 p2 p3 : (own_b (own_kb (own_m p1) (own_m p2) (own_m p3))) = (own_b (own_ex (own_m p1) (own_m p2) (own_m p3))))).2 ?_
    show Steps p.tables e below (T5.setTop (mkF m 68 #[.val (.int p1), .val (.int p2), .val (.int p3), .val (.int (own_m p1)), .val (.int (own_m p2)), .val (.int (own_m p3)), .val (.long (own_labs ((own_m p1).toInt64 - (own_m p2).toInt64))), .second, .val (.int (own_b (own_ex (own_m p1) (own_m p2) (own_m p3))))] [])) _
    refine XS.iconst X5.here hx rfl (hb hby at_68) ?_
    show Steps p.tables e below (T5.setTop (mkF m 69 #[.val (.int p1), .val (.int p2), .val (.int p3), .val (.int (own_m p1)), .val (.int (own_m p2)), .val (.int (own_m p3)), .val (.long (own_labs ((own_m p1).toInt64 - (own_m p2).toInt64))), .second, .val (.int (own_b (own_ex (own_m p1) (own_m p2) (own_m p3))))] [(.int (1 : Int32))])) _
    refine XS.goto X5.here hx rfl (pc0 := 69) (pc' := 73) rfl (hb hby at_69) (by decide) (by decide) ?_
    show Steps p.tables e below (T5.setTop (mkF m 73 #[.val (.int p1), .val (.int p2), .val (.int p3), .val (.int (own_m p1)), .val (.int (own_m p2)), .val (.int (own_m p3)), .val (.long (own_labs ((own_m p1).toInt64 - (own_m p2).toInt64))), .second, .val (.int (own_b (own_ex (own_m p1) (own_m p2) (own_m p3))))] [(.int (1 : Int32))])) _
    exact retN X5 hx (t := .boolean) Bd.returns (by simp) (hb hby at_73) hr
  · show Q_law Z p1 p2 p3 h0 n0 _ T5.heap _
    rw [e5]
    exact ⟨(congrArg (fun zz => some (Value.int zz)) (by rfl : nar .boolean (1 : Int32) = (1 : Int32))), N5⟩
set_option maxRecDepth 65536 in
set_option maxHeartbeats 40000000 in
theorem comes_1 {Post : Tables → Env → Array Value → State → Outcome → State → Prop} (hpost : ∀ tb e args s v u, (limb_1_1.after args s (.returned v) u = true ∧ limb_1_2.after args s (.returned v) u = true ∧ True) → FrameEnd s (.returned v) u (Jvm.fieldLocs frame_1_writes args s ++ Jvm.arrayLocs frame_1_arrays args s ++ Jvm.staticLocs frame_1_statics s) 0 0 → Post tb e args s (.returned v) u) :
    ArmFor flags0 classFile x code maxLocals ret World_1 tables_1 room_1 Calls_1 rest_1 Pre_1 Post := by
  intro l hfl _ _ p e ha hc hk s m args below hf hA hF happ hP
  obtain ⟨hcalls, hrest, hpre⟩ := hP
  obtain ⟨-, -, -, hnamed, -, -, -, hat⟩ := (Spec.applies_iff hf).mp happ
  obtain ⟨hg, hn⟩ := and_e (Cond.before_iff.mp (show (Jvm.Cond.and given_1 narrow_1).before args s = true from hpre))
  obtain ⟨hcount, hg1⟩ := and_e hg
  obtain ⟨ga0, hg2⟩ := and_e hg1
  obtain ⟨ga1, hg3⟩ := and_e hg2
  obtain ⟨w0, w1, w2, rfl⟩ : ∃ w0 w1 w2 : Value, args = #[w0, w1, w2] := by
    have hs : args.size = 3 := by simpa [Cond.value, given_1] using hcount
    obtain ⟨L⟩ := args
    match L, hs with
    | [w0, w1, w2], _ => exact ⟨w0, w1, w2, rfl⟩
  have hw := fun d (hd : d ∈ tables_1) => atoms_spec (ws := Jvm.Cond.code x code maxLocals ret :: tables_1) hat d (List.mem_cons_of_mem _ hd)
  obtain ⟨i0, ei0⟩ := is_v ga0
  obtain rfl : w0 = (.int i0) := Option.some.inj ei0
  obtain ⟨i1, ei1⟩ := is_v ga1
  obtain rfl : w1 = (.int i1) := Option.some.inj ei1
  obtain ⟨i2, ei2⟩ := is_v hg3
  obtain rfl : w2 = (.int i2) := Option.some.inj ei2
  obtain ⟨n, o, h1, h2, h3, _, L, rfl, ⟨rfl, N⟩, hq⟩ := rm_law l s _ hw tables_1 i0 i1 i2 s.heap s.heap.size (Nat.le_refl _)  p e ha hc hk s m _ below hf ((Spec.applies_iff_loose hf).mp happ).1 ⟨rfl, State.Warmed39.refl s, rfl⟩ trivial
  refine ⟨n, _, h1, h2, h3, hpost _ _ _ _ _ _ ⟨Cond.after_iff.mpr rfl, Cond.after_iff.mpr (eq_i res_at (Term.int_eval (1)) rfl), trivial⟩ ⟨hq.1, hq.2.1, (hq.2.2.sift fun y hy => Or.inr (N y hy)).mono (by decide) (by decide)⟩⟩
theorem main_1_1 : Claimed_1_1 := comes_1 fun _ _ _ _ _ _ h hF => ⟨h.1, hF⟩
theorem main_1_2 : Claimed_1_2 := comes_1 fun _ _ _ _ _ _ h hF => ⟨h.2.1, hF⟩
end Jvm.Pilot.@@N@@
namespace Jvm.Pilot.@@N@@
open Jvm Jvm.ClassFile Sem Op Lib Jvm.Free Jvm.Stand Jvm.Pilot.@@N@@.Jvm.D
/-! MADE BY PROGRAM (witnessworld.py) out of the Statement's table words and the real class files: 8 classes; the members and pool entries that the words name. The judged class is class 1, her method 1. -/
namespace start1
open Jvm.ClassFile
def u (s : String) : CpInfo := .utf8 (stringToUtf16 s)
/-- a pool by its gaps: so many unusable entries, then the entry; so many at the end -/
def gap : Nat → List CpInfo → List CpInfo
  | 0, r => r
  | n + 1, r => .unusable :: gap n r
def poolList (es : List (Nat × CpInfo)) (last : Nat) : List CpInfo := es.foldr (fun e r => gap e.1 (e.2 :: r)) (gap last [])
def pool (es : List (Nat × CpInfo)) (last : Nat) : Array CpInfo := ⟨poolList es last⟩
def fileOf (pool : Array CpInfo) (this : Nat) (attrs : Array Attribute := #[]) (ms : Array MethodInfo := #[]) (fl : Nat := 33) (sup : Nat := 0) (ifs : Array Nat := #[]) (fds : Array FieldInfo := #[]) : ClassFile where
  minorVersion := 0
  majorVersion := 65
  constantPool := pool
  accessFlags := fl
  thisClass := this
  superClass := sup
  interfaces := ifs
  fields := fds
  methods := ms
  attributes := attrs
def plain (name : String) (sup : Option ClassId) : Class where
  name := name
  kind := .ordinary
  loader := none
  accessFlags := 33
  super := sup
  interfaces := #[]
  cf := none
  fields := #[]
  methods := #[]
  instanceTypes := #[]
  staticTypes := #[]
  resolved := #[]
  callSites := []
  init := .initialized
  statics := none
  mirror := none

def pool0 : Array CpInfo := pool [(5, u "<init>"), (0, u "()V"), (1, .class_ 10), (1, u "java/lang/Object")] 113

def k0m0 : Method := { name := "<init>", desc := "()V", sig := { parameters := [], returnType := none }, accessFlags := 1, code := none }
/-- java/lang/Object -/
def k0 : Class := { plain "java/lang/Object" none with
  accessFlags := 33
  interfaces := #[]
  cf := some (fileOf pool0 8 #[] #[{ accessFlags := 1, nameIndex := 5, descriptorIndex := 6, attributes := #[] }] 33 0 #[] #[])
  fields := #[]
  methods := #[k0m0]
  instanceTypes := #[]
  staticTypes := #[]
  resolved := Array.replicate 124 none
  statics := none }

def pool1 : Array CpInfo := pool [(2, .class_ 4), (1, u "java/lang/Object"), (0, u "<init>"), (0, u "()V"), (0, .integer 2147483647), (0, .methodref 9 10), (0, .class_ 11), (0, .nameAndType 12 13), (0, u "convene/Setting"), (0, u "keepBoth"), (0, u "(III)Z"), (0, .class_ 15), (0, u "convene/SettingKeepBothPinLaw"), (2, u "law")] 3

def k1m0 : Method := { name := "<init>", desc := "()V", sig := { parameters := [], returnType := none }, accessFlags := 1, code := none }
def k1c1 : Code := { maxStack := 6, maxLocals := 9, code := code, exceptionTable := #[], attributes := #[] }
def k1m1 : Method := { name := "law", desc := "(III)Z", sig := { parameters := [.int, .int, .int], returnType := some .boolean }, accessFlags := 9, code := some k1c1 }
/-- convene/SettingKeepBothPinLaw -/
def k1 : Class := { plain "convene/SettingKeepBothPinLaw" (some 0) with
  accessFlags := 49
  interfaces := #[]
  cf := some (fileOf pool1 14 #[] #[{ accessFlags := 1, nameIndex := 5, descriptorIndex := 6, attributes := #[] }, { accessFlags := 9, nameIndex := 18, descriptorIndex := 13, attributes := #[] }] 49 2 #[] #[])
  fields := #[]
  methods := #[k1m0, k1m1]
  instanceTypes := #[]
  staticTypes := #[]
  resolved := Array.replicate 22 none
  statics := none }

def pool2 : Array CpInfo := pool [(2, .class_ 4), (1, u "java/lang/Object"), (9, .class_ 16), (1, u "convene/Setting"), (0, u "days"), (0, u "Ljava/util/List;"), (2, u "firstHour"), (0, u "I"), (2, u "lastHour"), (2, u "places"), (4, u "travel"), (0, u "[[I"), (13, u "perDay"), (4, u "firstDayClashes"), (0, u "[Ljava/util/BitSet;"), (30, u "keepBoth"), (0, u "(III)Z"), (0, .methodref 88 89), (0, .class_ 90), (0, .nameAndType 91 92), (0, u "java/lang/Math"), (0, u "abs"), (0, u "(I)I"), (107, u "LAST_HOUR_OF_DAY")] 62

def k2c0 : Code := { maxStack := 2, maxLocals := 3, code := prog_21_method_11_code, exceptionTable := #[], attributes := #[] }
def k2m0 : Method := { name := "keepBoth", desc := "(III)Z", sig := { parameters := [.int, .int, .int], returnType := some .boolean }, accessFlags := 8, code := some k2c0 }
/-- convene/Setting -/
def k2 : Class := { plain "convene/Setting" (some 0) with
  accessFlags := 48
  interfaces := #[]
  cf := some (fileOf pool2 14 #[] #[{ accessFlags := 8, nameIndex := 85, descriptorIndex := 86, attributes := #[] }] 48 2 #[] #[{ accessFlags := 24, nameIndex := 200, descriptorIndex := 22, attributes := #[] }, { accessFlags := 18, nameIndex := 17, descriptorIndex := 18, attributes := #[] }, { accessFlags := 18, nameIndex := 21, descriptorIndex := 22, attributes := #[] }, { accessFlags := 18, nameIndex := 25, descriptorIndex := 22, attributes := #[] }, { accessFlags := 18, nameIndex := 28, descriptorIndex := 18, attributes := #[] }, { accessFlags := 18, nameIndex := 33, descriptorIndex := 34, attributes := #[] }, { accessFlags := 18, nameIndex := 48, descriptorIndex := 22, attributes := #[] }, { accessFlags := 18, nameIndex := 53, descriptorIndex := 54, attributes := #[] }])
  fields := #[{ name := "LAST_HOUR_OF_DAY", type := .int, accessFlags := 24, slot := 0, constantValue := 0 }, { name := "days", type := (.object "java/util/List"), accessFlags := 18, slot := 0, constantValue := 0 }, { name := "firstHour", type := .int, accessFlags := 18, slot := 1, constantValue := 0 }, { name := "lastHour", type := .int, accessFlags := 18, slot := 2, constantValue := 0 }, { name := "places", type := (.object "java/util/List"), accessFlags := 18, slot := 3, constantValue := 0 }, { name := "travel", type := (.array (.array .int)), accessFlags := 18, slot := 4, constantValue := 0 }, { name := "perDay", type := .int, accessFlags := 18, slot := 5, constantValue := 0 }, { name := "firstDayClashes", type := (.array (.object "java/util/BitSet")), accessFlags := 18, slot := 6, constantValue := 0 }]
  methods := #[k2m0]
  instanceTypes := #[(.object "java/util/List"), .int, .int, (.object "java/util/List"), (.array (.array .int)), .int, (.array (.object "java/util/BitSet"))]
  staticTypes := #[.int]
  resolved := Array.replicate 263 none
  statics := none }

def pool3 : Array CpInfo := pool [(1, .class_ 2), (0, u "java/lang/Math"), (1, .class_ 6), (1, u "java/lang/Object"), (0, u "<init>"), (0, u "()V"), (89, .class_ 100), (1, u "java/lang/Math$RandomNumberGeneratorHolder"), (23, u "abs"), (34, u "(I)I"), (12, u "negativeZeroFloatBits"), (0, u "J"), (2, u "negativeZeroDoubleBits"), (68, u "$assertionsDisabled"), (0, u "Z"), (91, u "twoToTheDoubleScaleDown"), (0, u "D"), (4, u "twoToTheDoubleScaleUp"), (9, u "E"), (3, u "PI"), (2, u "TAU"), (2, u "DEGREES_TO_RADIANS"), (0, u "RADIANS_TO_DEGREES")] 94

def k3m0 : Method := { name := "<init>", desc := "()V", sig := { parameters := [], returnType := none }, accessFlags := 2, code := none }
def k3c1 : Code := { maxStack := 1, maxLocals := 1, code := jdk_29_method_59_code, exceptionTable := #[], attributes := #[] }
def k3m1 : Method := { name := "abs", desc := "(I)I", sig := { parameters := [.int], returnType := some .int }, accessFlags := 9, code := some k3c1 }
/-- java/lang/Math -/
def k3 : Class := { plain "java/lang/Math" (some 0) with
  accessFlags := 49
  interfaces := #[]
  cf := some (fileOf pool3 1 #[.nestMembers #[98]] #[{ accessFlags := 2, nameIndex := 7, descriptorIndex := 8, attributes := #[] }, { accessFlags := 9, nameIndex := 124, descriptorIndex := 159, attributes := #[] }] 49 4 #[] #[{ accessFlags := 25, nameIndex := 354, descriptorIndex := 339, attributes := #[] }, { accessFlags := 25, nameIndex := 358, descriptorIndex := 339, attributes := #[] }, { accessFlags := 25, nameIndex := 361, descriptorIndex := 339, attributes := #[] }, { accessFlags := 26, nameIndex := 364, descriptorIndex := 339, attributes := #[] }, { accessFlags := 26, nameIndex := 365, descriptorIndex := 339, attributes := #[] }, { accessFlags := 26, nameIndex := 172, descriptorIndex := 173, attributes := #[] }, { accessFlags := 26, nameIndex := 176, descriptorIndex := 173, attributes := #[] }, { accessFlags := 8, nameIndex := 344, descriptorIndex := 339, attributes := #[] }, { accessFlags := 8, nameIndex := 338, descriptorIndex := 339, attributes := #[] }, { accessFlags := 4120, nameIndex := 245, descriptorIndex := 246, attributes := #[] }])
  fields := #[{ name := "E", type := .double, accessFlags := 25, slot := 0, constantValue := 0 }, { name := "PI", type := .double, accessFlags := 25, slot := 1, constantValue := 0 }, { name := "TAU", type := .double, accessFlags := 25, slot := 2, constantValue := 0 }, { name := "DEGREES_TO_RADIANS", type := .double, accessFlags := 26, slot := 3, constantValue := 0 }, { name := "RADIANS_TO_DEGREES", type := .double, accessFlags := 26, slot := 4, constantValue := 0 }, { name := "negativeZeroFloatBits", type := .long, accessFlags := 26, slot := 5, constantValue := 0 }, { name := "negativeZeroDoubleBits", type := .long, accessFlags := 26, slot := 6, constantValue := 0 }, { name := "twoToTheDoubleScaleUp", type := .double, accessFlags := 8, slot := 7, constantValue := 0 }, { name := "twoToTheDoubleScaleDown", type := .double, accessFlags := 8, slot := 8, constantValue := 0 }, { name := "$assertionsDisabled", type := .boolean, accessFlags := 4120, slot := 9, constantValue := 0 }]
  methods := #[k3m0, k3m1]
  instanceTypes := #[]
  staticTypes := #[.double, .double, .double, .double, .double, .long, .long, .double, .double, .boolean]
  resolved := Array.replicate 460 none
  statics := none }

def pool4 : Array CpInfo := pool [(1, u "java/lang/Cloneable"), (0, .class_ 1), (0, u "java/lang/Object"), (0, .class_ 3)] 3

/-- java/lang/Cloneable -/
def k4 : Class := { plain "java/lang/Cloneable" (some 0) with
  accessFlags := 1537
  interfaces := #[]
  cf := some (fileOf pool4 2 #[] #[] 1537 4 #[] #[])
  fields := #[]
  methods := #[]
  instanceTypes := #[]
  staticTypes := #[]
  resolved := Array.replicate 8 none
  statics := none }

def pool5 : Array CpInfo := pool [(1, u "java/io/Serializable"), (0, .class_ 1), (0, u "java/lang/Object"), (0, .class_ 3)] 3

/-- java/io/Serializable -/
def k5 : Class := { plain "java/io/Serializable" (some 0) with
  accessFlags := 1537
  interfaces := #[]
  cf := some (fileOf pool5 2 #[] #[] 1537 4 #[] #[])
  fields := #[]
  methods := #[]
  instanceTypes := #[]
  staticTypes := #[]
  resolved := Array.replicate 8 none
  statics := none }

/-- the primitive byte -/
def k6 : Class := { plain "byte" none with kind := .primitive 'B', accessFlags := 0x411 }
/-- [B -/
def k7 : Class := { plain "[B" (some 0) with kind := .array 6 .byte, interfaces := #[4, 5], accessFlags := 1041 }

def heap : Heap := #[]
def classes : Array Class := #[k0, k1, k2, k3, k4, k5, k6, k7]
def interned : List (Array UInt16 × Addr) := []
def slotsUsed : Nat := 0
def theMethod : MethodId := ⟨1, 1⟩
def args0 : Array Value := #[.int 9, .int 4, .int 3]
def aboutOver (below : List Frame) : State where
  vm := { classes := classes, interned := interned.toArray }
  heap := heap
  slotsUsed := slotsUsed
  threads := #[{ frames := .invoking theMethod args0 :: below }]
def below0 : List Frame := [.native { method := ⟨0, 0⟩, args := #[] }]
def about1 : State := aboutOver below0
def p0 : Program := .bare "" "" ""
def e0 : Env := launch0.env 0 0 0
theorem w_frames : about1.frames = Frame.invoking theMethod args0 :: below0 := rfl
set_option maxRecDepth 65536 in
theorem w_args : argsFit about1.vm theMethod args0 = true := by decide +kernel
set_option maxRecDepth 65536 in
theorem w_heap : heapFits about1 = true := by decide +kernel
set_option maxRecDepth 65536 in
theorem w_runnable : about1.curStatus? = some .runnable := by decide +kernel
set_option maxRecDepth 65536 in
theorem w_alone : about1.alone = true := by decide +kernel
set_option maxRecDepth 65536 in
theorem w_named : about1.methodNamed? x = some theMethod := by decide +kernel
set_option maxRecDepth 65536 in
theorem w_hears : about1.hears theMethod below0 = true := by decide +kernel
set_option maxRecDepth 65536 in
theorem w_ripe : about1.ripe theMethod args0 below0 = true := by decide +kernel
theorem w_running : about1.status = .running := rfl
set_option maxRecDepth 65536 in
theorem w_room : about1.hasRoom e0.platform room_1 = true :=
  launch0.hasRoom_least _ room_1 (by decide +kernel) (by decide +kernel) (by decide +kernel) (by decide +kernel) (by decide +kernel) (by decide +kernel)
theorem allAtoms_all (ts : List Jvm.Cond) (a : Array Jvm.Value) (st : Jvm.State) : (allAtoms ts).before a st = ts.all (fun c => c.before a st) := by
  induction ts with
  | nil => rfl
  | cons c t ih =>
    show (Jvm.Cond.and c (allAtoms t)).before a st = _
    rw [Jvm.Cond.before_and, ih, List.all_cons]
def words1 : List Jvm.Cond := Jvm.Cond.code x code maxLocals ret :: tables_1
/-- a 'code' word, met by the world's own term for the bytes: nothing is compared byte by byte -/
theorem code_word {y : MethodName} {bytes : ByteArray} {mx : Nat} {rt : Option FieldType} {a : Array Value} {s : State} {m : MethodId} {meth : Method} {c : Code} (h1 : s.methodNamed? y = some m) (h2 : s.vm.method? m = some meth) (h3 : meth.code = some c) (h4 : c.code = bytes)
    (h5 : (c.maxLocals == mx && c.exceptionTable.isEmpty && decide (c.maxStack ≤ mostOperands) && decide (meth.sig.returnType = rt) && !meth.locks && decide (parseMethodDescriptor y.desc = some meth.sig)) = true) : (Jvm.Cond.code y bytes mx rt).before a s = true := by
  simp only [Bool.and_eq_true, beq_iff_eq, Bool.not_eq_true', decide_eq_true_eq] at h5
  obtain ⟨⟨⟨⟨⟨g1, g2⟩, g3⟩, g4⟩, g5⟩, g6⟩ := h5
  simp [Cond.before, Cond.holds, Cond.value, h1, h2, h3, h4, g1, g2, g3, g4, g5, g6]
def isCode : Jvm.Cond → Bool
  | .code _ _ _ _ => true
  | _ => false
theorem all_split {L : List Jvm.Cond} {P : Jvm.Cond → Bool} (h1 : L.all (fun c => isCode c || P c) = true) (h2 : ∀ c ∈ L.filter isCode, P c = true) : L.all P = true := by
  refine List.all_eq_true.mpr fun c hc => ?_
  have h := List.all_eq_true.mp h1 c hc
  rcases Bool.eq_false_or_eq_true (isCode c) with hi | hi
  · exact h2 c (List.mem_filter.mpr ⟨hc, hi⟩)
  · simpa [hi] using h
set_option maxRecDepth 65536 in
theorem w_c0 : (Jvm.Cond.code x code maxLocals ret).before args0 about1 = true := code_word (m := ⟨1, 1⟩) (meth := k1m1) (c := k1c1) (by decide +kernel) rfl rfl rfl (by decide +kernel)
set_option maxRecDepth 65536 in
theorem w_c1 : (Jvm.Cond.code ({ cls := "convene/Setting", name := "keepBoth", desc := "(III)Z" } : Jvm.MethodName) prog_21_method_11_code (3 : Nat) (Option.some Jvm.ClassFile.FieldType.boolean)).before args0 about1 = true := code_word (m := ⟨2, 0⟩) (meth := k2m0) (c := k2c0) (by decide +kernel) rfl rfl rfl (by decide +kernel)
set_option maxRecDepth 65536 in
theorem w_c2 : (Jvm.Cond.code ({ cls := "java/lang/Math", name := "abs", desc := "(I)I" } : Jvm.MethodName) jdk_29_method_59_code (1 : Nat) (Option.some Jvm.ClassFile.FieldType.int)).before args0 about1 = true := code_word (m := ⟨3, 1⟩) (meth := k3m1) (c := k3c1) (by decide +kernel) rfl rfl rfl (by decide +kernel)
def codes1 : List Jvm.Cond := [Jvm.Cond.code x code maxLocals ret, Jvm.Cond.code ({ cls := "convene/Setting", name := "keepBoth", desc := "(III)Z" } : Jvm.MethodName) prog_21_method_11_code (3 : Nat) (Option.some Jvm.ClassFile.FieldType.boolean), Jvm.Cond.code ({ cls := "java/lang/Math", name := "abs", desc := "(I)I" } : Jvm.MethodName) jdk_29_method_59_code (1 : Nat) (Option.some Jvm.ClassFile.FieldType.int)]
set_option maxRecDepth 65536 in
theorem codes_eq : words1.filter isCode = codes1 := rfl
theorem w_codes : ∀ c ∈ words1.filter isCode, c.before args0 about1 = true := by
  rw [codes_eq]
  intro c hc
  simp only [codes1, List.mem_cons, List.not_mem_nil, or_false] at hc
  rcases hc with rfl | rfl | rfl
  · exact w_c0
  · exact w_c1
  · exact w_c2
set_option maxRecDepth 65536 in
theorem w_t1 : words1.all (fun c => isCode c || c.before args0 about1) = true := by decide +kernel
theorem w_tables : (allAtoms (Jvm.Cond.code x code maxLocals ret :: tables_1)).before args0 about1 = true := by
  rw [allAtoms_all]
  show words1.all (fun c => c.before args0 about1) = true
  refine all_split ?_ w_codes
  rw [w_t1]
set_option maxRecDepth 65536 in
theorem w_case : (Jvm.Cond.and given_1 narrow_1).before args0 about1 = true := by decide +kernel
theorem w_applies : (headSpec (Jvm.Cond.code x code maxLocals ret :: tables_1) room_1).applies x e0.platform about1 = true :=
  (Spec.applies_iff w_frames).mpr ⟨w_running, w_runnable, w_alone, w_named, w_hears, w_ripe, w_room, w_tables⟩
theorem atStart : AtStart classFile x code maxLocals ret World_1 tables_1 room_1 Calls_1 rest_1 Pre_1 launch0 p0 e0 about1 theMethod args0 below0 :=
  ⟨lists_1, trivial, launch0.admits_env _ _ _, launch0.least_env, fairChoices_fair.cas, fairChoices_fair.clock, w_frames, w_args, w_heap, w_applies, trivial, trivial, w_case⟩
end start1
theorem witness_1 : WitnessClaimed_1 := ⟨start1.p0, start1.e0, start1.about1, start1.theMethod, start1.args0, start1.below0, start1.atStart⟩
end Jvm.Pilot.@@N@@
