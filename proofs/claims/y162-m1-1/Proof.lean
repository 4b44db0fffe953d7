import JvmDerived
import JvmDerived.Pilot.@@N@@Statement
import JvmDerived.Pilot.@@N@@Code
set_option linter.unusedVariables false
set_option linter.unusedSimpArgs false
namespace Jvm.RoadKit
open Sem ClassFile Op Lib Jvm.Stand Jvm.Free Jvm.LawKit
section New
variable {p : Program} {l : Launch} {e : Env} {R : Room} {s : State} {m : MethodId} {args : Array Value} {below : List Frame} {meth : Method} {c : Code} {T : State} {locs : List Loc} {cells slots : Nat}
theorem retI (X : Stand p l e R s m args below meth c T locs cells slots) (hx : p.tables.exec = Jvm.exec) {pc : Nat} {Ls : Array Slot} {z : Int32} {rest : List Value} (hret : meth.sig.returnType = some .int) (hd : decode c.code pc = .ok (.ireturn, 1)) {fs : List Frame}
    (hl : ∀ (f : JFrame) (acts : List Action), f.method = m → f.locked = none → f.entered = [] → (doReturn e (T.setTop f) acts (some (.int z))).1 = T.setFrames fs) : Steps p.tables e below (T.setTop (mkF m pc Ls (.int z :: rest))) (T.setFrames fs) := by
  have hm' : T.vm.method? m = some meth := X.method'
  have hn : narrow .int (.int z) = .int z := rfl
  show Steps p.tables e below (T.setTop { method := m, pc := pc, locals := Ls, stack := _ :: rest, locked := none }) _
  jvm_step X.here [X.here.top, hx, hd, hm', hret, hn]
  first | (intro acts; rw [hl _ acts rfl rfl rfl]) | rw [hl _ _ rfl rfl rfl]
  exact Steps.refl _
end New
end Jvm.RoadKit
namespace Jvm.Pilot.@@N@@
open Jvm Jvm.ClassFile Sem Op Lib Jvm.Free Jvm.Stand Jvm.LawKit Jvm.RoadKit Bundle Jvm.Pilot.@@N@@.Jvm.D
def own_b (b : Bool) : Int32 := if b = true then 1 else 0
theorem own_b0 {b : Bool} (h : ¬ (b = true)) : own_b b = 0 := if_neg h
theorem own_b1 {b : Bool} (h : b = true) : ¬ own_b b = 0 := by subst h; decide
theorem own_nb (b : Bool) : nar .boolean (own_b b) = own_b b := by cases b <;> decide
def own_find (b : Int32) : Int32 := if (33 : Int32) = b then (0 : Int32) else if (35 : Int32) = b then (1 : Int32) else if (36 : Int32) = b then (2 : Int32) else if (37 : Int32) = b then (3 : Int32) else if (38 : Int32) = b then (4 : Int32) else if (39 : Int32) = b then (5 : Int32) else if (42 : Int32) = b then (6 : Int32) else if (43 : Int32) = b then (7 : Int32) else if (45 : Int32) = b then (8 : Int32) else if (46 : Int32) = b then (9 : Int32) else if (94 : Int32) = b then (10 : Int32) else if (95 : Int32) = b then (11 : Int32) else if (96 : Int32) = b then (12 : Int32) else if (124 : Int32) = b then (13 : Int32) else if (126 : Int32) = b then (14 : Int32) else (-1 : Int32)
def own_ce (c : Int32) : Bool := !decide (c < (0 : Int32)) && !decide ((255 : Int32) < c)
def own_ix (c : Int32) : Int32 := if own_ce c = true then own_find (c.toInt8.toInt32) else (-1 : Int32)
def own_rg (c a b : Int32) : Bool := !decide (c < a) && !decide (b < c)
def own_tch (c : Int32) : Bool := own_rg c (97 : Int32) (122 : Int32) || own_rg c (65 : Int32) (90 : Int32) || own_rg c (48 : Int32) (57 : Int32) || !decide (own_ix c < (0 : Int32))
def own_del (c : Int32) : Bool := decide (c = (34 : Int32)) || decide (c = (40 : Int32)) || decide (c = (41 : Int32)) || decide (c = (44 : Int32)) || decide (c = (47 : Int32)) || decide (c = (58 : Int32)) || decide (c = (59 : Int32)) || decide (c = (60 : Int32)) || decide (c = (61 : Int32)) || decide (c = (62 : Int32)) || decide (c = (63 : Int32)) || decide (c = (64 : Int32)) || decide (c = (91 : Int32)) || decide (c = (92 : Int32)) || decide (c = (93 : Int32)) || decide (c = (123 : Int32)) || decide (c = (125 : Int32))
def own_exp (c : Int32) : Bool := own_rg c (33 : Int32) (126 : Int32) && !own_del c
set_option maxRecDepth 65536 in
theorem own_small : ∀ k : Nat, k < 256 → own_tch (Int32.ofNat k) = own_exp (Int32.ofNat k) := by decide +kernel
theorem own_all (c : Int32) : own_tch c = own_exp c := by
  by_cases h : 0 ≤ c.toInt ∧ c.toInt < 256
  · obtain ⟨m, hm⟩ := Int.eq_ofNat_of_zero_le h.1
    have e : c = Int32.ofNat m := by
      apply Int32.toInt_inj.mp
      rw [hm, Int32.toInt_ofNat_of_lt (by omega)]
    rw [e]; exact own_small m (by omega)
  · have z0 : (0 : Int32).toInt = 0 := by decide
    have q : ∀ a b : Int32, 0 ≤ a.toInt → b.toInt < 256 → own_rg c a b = false := by
      intro a b ha hb
      simp only [own_rg, Bool.and_eq_false_iff, Bool.not_eq_false', decide_eq_true_eq, Int32.lt_iff_toInt_lt]
      omega
    have qe : own_ce c = false := by
      simp only [own_ce, Bool.and_eq_false_iff, Bool.not_eq_false', decide_eq_true_eq, Int32.lt_iff_toInt_lt, z0, show (255 : Int32).toInt = 255 by decide]
      omega
    simp [own_tch, own_exp, own_ix, qe, q 97 122 (by decide) (by decide), q 65 90 (by decide) (by decide), q 48 57 (by decide) (by decide), q 33 126 (by decide) (by decide)]
theorem own_n0 : (0 : Int32).toInt = 0 := by decide
theorem own_n48 : (48 : Int32).toInt = 48 := by decide
theorem own_n57 : (57 : Int32).toInt = 57 := by decide
theorem own_n65 : (65 : Int32).toInt = 65 := by decide
theorem own_n90 : (90 : Int32).toInt = 90 := by decide
theorem own_n97 : (97 : Int32).toInt = 97 := by decide
theorem own_n122 : (122 : Int32).toInt = 122 := by decide
theorem own_tci (c : Int32) : own_tch c = true ↔ ((¬ c.toInt < 97 ∧ ¬ 122 < c.toInt) ∨ (¬ c.toInt < 65 ∧ ¬ 90 < c.toInt) ∨ (¬ c.toInt < 48 ∧ ¬ 57 < c.toInt) ∨ ¬ (own_ix c).toInt < 0) := by
  simp only [own_tch, own_rg, Bool.or_eq_true, Bool.and_eq_true, Bool.not_eq_true', decide_eq_false_iff_not, Int32.lt_iff_toInt_lt, own_n0, own_n48, own_n57, own_n65, own_n90, own_n97, own_n122, or_assoc]
theorem own_tct {c : Int32} (h : ((¬ c.toInt < 97 ∧ ¬ 122 < c.toInt) ∨ (¬ c.toInt < 65 ∧ ¬ 90 < c.toInt) ∨ (¬ c.toInt < 48 ∧ ¬ 57 < c.toInt) ∨ ¬ (own_ix c).toInt < 0)) : own_tch c = true := (own_tci c).mpr h
theorem own_tcf {c : Int32} (h : ¬ ((¬ c.toInt < 97 ∧ ¬ 122 < c.toInt) ∨ (¬ c.toInt < 65 ∧ ¬ 90 < c.toInt) ∨ (¬ c.toInt < 48 ∧ ¬ 57 < c.toInt) ∨ ¬ (own_ix c).toInt < 0)) : own_tch c = false := by
  cases q : own_tch c
  · rfl
  · exact absurd ((own_tci c).mp q) h
def own_cc (x s : Int32) : Int32 := if (s &&& (3 : Int32)) = (0 : Int32) then x else if (s &&& (3 : Int32)) = (1 : Int32) then (x &&& (127 : Int32)) else if (s &&& (3 : Int32)) = (2 : Int32) then ((x &&& (127 : Int32)) ||| (s &&& (-65536 : Int32))) else (x &&& (65535 : Int32))
theorem own_law (c : Int32) : own_b (own_tch c) = own_b (own_exp c) := congrArg own_b (own_all c)
theorem own_up {a b c : Int32} (q : a < b) (h : b < c) : ¬ c < a ∧ a < c := by
  rw [Int32.lt_iff_toInt_lt] at *
  rw [Int32.lt_iff_toInt_lt]; omega
theorem own_IB {Z : State} {vm : Vm} (e : vm.interned = Z.vm.interned) : IB Z vm [] := ⟨#[], by rw [e]; simp, fun q hq => by simp at hq⟩
theorem own_backS {l : Launch} {R : Room} {p : Program} {e : Env} {below : List Frame} {s : State} {args : Array Value} {Z : State} {a0 : Array Value} {h : Heap} {y : MethodName} {bytes : ByteArray} {maxL : Nat} {ret : Option FieldType} {rm : Room} {len W : Nat} {as' : Array Value} {Q : Option Value → Heap → List Loc → Prop}
    (hM : MetFree l y (head1 [Jvm.Cond.code y bytes maxL ret] rm) (fun a U => a = as' ∧ Z.Warmed39 U.vm ∧ U.heap = h ∧ U.vm.interned = Z.vm.interned) (fun _ _ _ _ _ => True) (fun _ U o U' => ∃ v L, o = .returned v ∧ Q v U'.heap L ∧ ReturnedEndW U o U' L rm.cells rm.slots))
    (hZ : Z.Warmed39 s.vm) (wc : (Jvm.Cond.code y bytes maxL ret).before a0 Z = true) (wz : (Jvm.Cond.initialized y.cls).before a0 Z = true) (hf : rm.frames + 1 ≤ R.frames) (hl : W + (maxL + 11) + rm.locals ≤ R.locals) :
    BackS l R p e below s args y len W (fun A a => a = as' ∧ A.U.heap = h ∧ A.cells + rm.cells ≤ R.cells ∧ A.slots + rm.slots ≤ R.slots ∧ A.U.vm.interned = Z.vm.interned)
      (fun A _ v B => ∃ L, Q v B.U.heap L ∧ B.locs = A.locs ++ L ∧ B.cells = A.cells + rm.cells ∧ B.slots = A.slots + rm.slots) := by
  refine BackS.of_freeW (bytes := bytes) (maxL := maxL) (ret := ret) (E := fun _ _ o t L k n => k = rm.cells ∧ n = rm.slots ∧ ∃ v, o = .returned v ∧ Q v t.heap L) hM hf hl ?_ ?_ (fun _ _ _ _ _ _ _ _ _ => trivial) ?_ ?_
  · intro m meth c A a Y hp
    have hU : Z.Warmed39 A.U.vm := wtrans hZ Y.warmed
    refine ⟨?_, mv hU wc, mv hU wz, hp.2.2.1, hp.2.2.2.1⟩
    show (Jvm.Cond.and _ .tt).before a A.U = true
    rw [Cond.before_and, mv hU wc]; rfl
  · intro m meth c A a g mk Y hp
    exact ⟨hp.1, wtrans hZ Y.warmed, hp.2.1, hp.2.2.2.2⟩
  · intro a first o t hq
    obtain ⟨v, L, h1, h2, h3⟩ := hq
    exact ⟨L, _, _, h3, rfl, rfl, v, h1, h2⟩
  · intro m meth c A a g mk v t L k n Y hp _ _ hE
    obtain ⟨e1, e2, v', e3, e4⟩ := hE
    cases e3; subst e1 e2; exact ⟨L, e4, rfl, rfl, rfl⟩
theorem d_isl_0 : decode jdk_42_method_154_code 0 = .ok (.getstatic 38, 3) := by decide +kernel
theorem d_isl_3 : decode jdk_42_method_154_code 3 = .ok (.ifCond .eq 14, 3) := by decide +kernel
theorem d_isl_6 : decode jdk_42_method_154_code 6 = .ok (.aload_n 0, 1) := by decide +kernel
theorem d_isl_7 : decode jdk_42_method_154_code 7 = .ok (.getfield 15, 3) := by decide +kernel
theorem d_isl_10 : decode jdk_42_method_154_code 10 = .ok (.ifCond .ne 7, 3) := by decide +kernel
theorem d_isl_13 : decode jdk_42_method_154_code 13 = .ok (.iconst 1, 1) := by decide +kernel
theorem d_isl_14 : decode jdk_42_method_154_code 14 = .ok (.goto 4, 3) := by decide +kernel
theorem d_isl_18 : decode jdk_42_method_154_code 18 = .ok (.ireturn, 1) := by decide +kernel
theorem pn_isl : plainName "java/lang/String" = true := by first | (simp [plainName, overriddenIn]; done) | decide +kernel
theorem ef_isl (m : MethodId) (a1 : Addr) : entryFrame m #[(.ref a1)] 1 = mkF m 0 #[.val (.ref a1)] [] := by first | (simp [entryFrame, mkF, argsToLocals, Value.category]; done) | rfl
def Q_isl (Z : State) (a1 : Addr) (w1 : Int32) (h0 : Heap) (n0 : Nat) (v : Option Value) (h : Heap) (L : List Loc) : Prop := v = some (.int (1 : Int32)) ∧ Fr n0 L ∧ h = h0
set_option maxRecDepth 65536 in
set_option maxHeartbeats 40000000 in
theorem rm_isl (l : Launch) (Z : State) (a0 : Array Value) (hw : ∀ d ∈ tables_1, d.before a0 Z = true) (ws : List Jvm.Cond) (a1 : Addr) (w1 : Int32) (h0 : Heap) (n0 : Nat) (Z0 : n0 ≤ h0.size) (S1 : Sta Z h0 "java/lang/String" "COMPACT_STRINGS" "Z" (.int w1)) (nz : ¬ w1 = (0 : Int32)) (Fc : Fld Z h0 a1 "java/lang/String" "coder" "B" (.int (0 : Int32))) :
    MetFree l (⟨"java/lang/String", "isLatin1", "()Z"⟩ : MethodName) (head1 (Jvm.Cond.code (⟨"java/lang/String", "isLatin1", "()Z"⟩ : MethodName) jdk_42_method_154_code 1 (some .boolean) :: ws) ({ frames := 0, cells := 0, slots := 0, locals := 0 } : Room)) (fun a U => a = #[(.ref a1)] ∧ Z.Warmed39 U.vm ∧ U.heap = h0) (fun _ _ _ _ _ => True) (fun _ U o U' => ∃ v L, o = .returned v ∧ Q_isl Z a1 w1 h0 n0 v U'.heap L ∧ FrameEnd U o U' L ({ frames := 0, cells := 0, slots := 0, locals := 0 } : Room).cells ({ frames := 0, cells := 0, slots := 0, locals := 0 } : Room).slots) := by
  refine MetFree.of_bodySF (plainFor_of_name pn_isl) hisR ?_
  intro p e s m args below meth c s₁ Bd hml0 hP hK
  obtain ⟨rfl, hZ, hh⟩ := hP
  have hx := Bd.exec
  have hby := Bd.bytes
  have hml : c.maxLocals = 1 := hml0
  have hown : s.vm.findClass "java/lang/String" = some m.cls := findClass_of_methodNamed Bd.named
  have hnm := (name_of_methodNamed Bd.named Bd.method).1
  have X0 : Stand p l e ({ frames := 0, cells := 0, slots := 0, locals := 0 } : Room) s m #[(.ref a1)] below meth c s₁ [] 0 0 := Stand.of_body Bd
  have e0 : s₁.heap = h0 := by rw [← hh, Bd.state]; rfl
  have N0 := Fr.nil n0
  have pre0 : ∀ t, Steps p.tables e below (s₁.setTop (mkF m 0 #[.val (.ref a1)] [])) t → Steps p.tables e below (s₁.setTop (entryFrame m #[(.ref a1)] 1)) t := fun t k => castTop (ef_isl m a1) k
  have pr2 : ∀ t, Steps p.tables e below (s₁.setTop (mkF m 0 #[.val (.ref a1)] [])) t → Steps p.tables e below (s₁.setTop (entryFrame m #[(.ref a1)] 1)) t := fun t kt => pre0 t (by
    show Steps p.tables e below (s₁.setTop (mkF m 0 #[.val (.ref a1)] [])) _
    exact kt)
  obtain ⟨T1, X1, e1, st1⟩ := getS2 X0 hx hZ hown (host := "") (Or.inl (hw _ (List.mem_of_getElem? (i := 28) rfl))) Via.refl e0 S1 (g := (mkF m 0 #[.val (.ref a1)] [])) rfl (hb hby d_isl_0)
  have pr4 : ∀ t, Steps p.tables e below (T1.setTop (mkF m 7 #[.val (.ref a1)] [(.ref a1)])) t → Steps p.tables e below (s₁.setTop (entryFrame m #[(.ref a1)] 1)) t := fun t kt => pr2 t (by
    refine st1 _ ?_
    show Steps p.tables e below (T1.setTop (mkF m 3 #[.val (.ref a1)] [(.int w1)])) _
    refine XS.ifNo X1.here hx rfl (hb hby d_isl_3) rfl ((if0 _ _).trans (feq (nz : ¬ (w1 = (0 : Int32)))).1) ?_
    show Steps p.tables e below (T1.setTop (mkF m 6 #[.val (.ref a1)] [])) _
    refine XS.aloadN X1.here hx rfl (hb hby d_isl_6) rfl rfl ?_
    show Steps p.tables e below (T1.setTop (mkF m 7 #[.val (.ref a1)] [(.ref a1)])) _
    exact kt)
  obtain ⟨T3, X3, e3, st3⟩ := getF X1 hx hZ hown (host := "") (Or.inl (hw _ (List.mem_of_getElem? (i := 29) rfl))) Via.refl e1 Fc (g := (mkF m 7 #[.val (.ref a1)] [(.ref a1)])) rfl rfl (hb hby d_isl_7)
  obtain ⟨fs, hr, hrun, hended, hW, hsame⟩ := X3.leave (v := some (.int (nar .boolean (1 : Int32)))) (fun h => by rw [Bd.returns] at h; cases h)
  refine ⟨_, _, pr4 _ ?_, hrun, hended, _, _, rfl, ?_, ⟨_, rfl⟩, hW, hsame.mono (by decide) (by decide)⟩
  · refine st3 _ ?_
    show Steps p.tables e below (T3.setTop (mkF m 10 #[.val (.ref a1)] [(.int (0 : Int32))])) _
    refine XS.ifNo X3.here hx rfl (hb hby d_isl_10) rfl ((if0 _ _).trans (teq (by decide : (0 : Int32) = (0 : Int32))).2) ?_
    show Steps p.tables e below (T3.setTop (mkF m 13 #[.val (.ref a1)] [])) _
    refine XS.iconst X3.here hx rfl (hb hby d_isl_13) ?_
    show Steps p.tables e below (T3.setTop (mkF m 14 #[.val (.ref a1)] [(.int (1 : Int32))])) _
    refine XS.goto X3.here hx rfl (pc0 := 14) (pc' := 18) rfl (hb hby d_isl_14) (by decide) (by decide) ?_
    show Steps p.tables e below (T3.setTop (mkF m 18 #[.val (.ref a1)] [(.int (1 : Int32))])) _
    exact retN X3 hx (t := .boolean) Bd.returns (by simp) (hb hby d_isl_18) hr
  · show Q_isl Z a1 w1 h0 n0 _ T3.heap _
    rw [e3]
    exact ⟨(congrArg (fun zz => some (Value.int zz)) (by rfl : nar .boolean (1 : Int32) = (1 : Int32))), N0, rfl⟩
theorem d_cod_0 : decode jdk_42_method_152_code 0 = .ok (.getstatic 38, 3) := by decide +kernel
theorem d_cod_3 : decode jdk_42_method_152_code 3 = .ok (.ifCond .eq 10, 3) := by decide +kernel
theorem d_cod_6 : decode jdk_42_method_152_code 6 = .ok (.aload_n 0, 1) := by decide +kernel
theorem d_cod_7 : decode jdk_42_method_152_code 7 = .ok (.getfield 15, 3) := by decide +kernel
theorem d_cod_10 : decode jdk_42_method_152_code 10 = .ok (.goto 4, 3) := by decide +kernel
theorem d_cod_14 : decode jdk_42_method_152_code 14 = .ok (.ireturn, 1) := by decide +kernel
theorem pn_cod : plainName "java/lang/String" = true := by first | (simp [plainName, overriddenIn]; done) | decide +kernel
theorem ef_cod (m : MethodId) (a1 : Addr) : entryFrame m #[(.ref a1)] 1 = mkF m 0 #[.val (.ref a1)] [] := by first | (simp [entryFrame, mkF, argsToLocals, Value.category]; done) | rfl
def Q_cod (Z : State) (a1 : Addr) (w1 : Int32) (h0 : Heap) (n0 : Nat) (v : Option Value) (h : Heap) (L : List Loc) : Prop := v = some (.int (0 : Int32)) ∧ Fr n0 L ∧ h = h0
set_option maxRecDepth 65536 in
set_option maxHeartbeats 40000000 in
theorem rm_cod (l : Launch) (Z : State) (a0 : Array Value) (hw : ∀ d ∈ tables_1, d.before a0 Z = true) (ws : List Jvm.Cond) (a1 : Addr) (w1 : Int32) (h0 : Heap) (n0 : Nat) (Z0 : n0 ≤ h0.size) (S1 : Sta Z h0 "java/lang/String" "COMPACT_STRINGS" "Z" (.int w1)) (nz : ¬ w1 = (0 : Int32)) (Fc : Fld Z h0 a1 "java/lang/String" "coder" "B" (.int (0 : Int32))) :
    MetFree l (⟨"java/lang/String", "coder", "()B"⟩ : MethodName) (head1 (Jvm.Cond.code (⟨"java/lang/String", "coder", "()B"⟩ : MethodName) jdk_42_method_152_code 1 (some .byte) :: ws) ({ frames := 0, cells := 0, slots := 0, locals := 0 } : Room)) (fun a U => a = #[(.ref a1)] ∧ Z.Warmed39 U.vm ∧ U.heap = h0) (fun _ _ _ _ _ => True) (fun _ U o U' => ∃ v L, o = .returned v ∧ Q_cod Z a1 w1 h0 n0 v U'.heap L ∧ FrameEnd U o U' L ({ frames := 0, cells := 0, slots := 0, locals := 0 } : Room).cells ({ frames := 0, cells := 0, slots := 0, locals := 0 } : Room).slots) := by
  refine MetFree.of_bodySF (plainFor_of_name pn_cod) hisR ?_
  intro p e s m args below meth c s₁ Bd hml0 hP hK
  obtain ⟨rfl, hZ, hh⟩ := hP
  have hx := Bd.exec
  have hby := Bd.bytes
  have hml : c.maxLocals = 1 := hml0
  have hown : s.vm.findClass "java/lang/String" = some m.cls := findClass_of_methodNamed Bd.named
  have hnm := (name_of_methodNamed Bd.named Bd.method).1
  have X0 : Stand p l e ({ frames := 0, cells := 0, slots := 0, locals := 0 } : Room) s m #[(.ref a1)] below meth c s₁ [] 0 0 := Stand.of_body Bd
  have e0 : s₁.heap = h0 := by rw [← hh, Bd.state]; rfl
  have N0 := Fr.nil n0
  have pre0 : ∀ t, Steps p.tables e below (s₁.setTop (mkF m 0 #[.val (.ref a1)] [])) t → Steps p.tables e below (s₁.setTop (entryFrame m #[(.ref a1)] 1)) t := fun t k => castTop (ef_cod m a1) k
  have pr2 : ∀ t, Steps p.tables e below (s₁.setTop (mkF m 0 #[.val (.ref a1)] [])) t → Steps p.tables e below (s₁.setTop (entryFrame m #[(.ref a1)] 1)) t := fun t kt => pre0 t (by
    show Steps p.tables e below (s₁.setTop (mkF m 0 #[.val (.ref a1)] [])) _
    exact kt)
  obtain ⟨T1, X1, e1, st1⟩ := getS2 X0 hx hZ hown (host := "") (Or.inl (hw _ (List.mem_of_getElem? (i := 28) rfl))) Via.refl e0 S1 (g := (mkF m 0 #[.val (.ref a1)] [])) rfl (hb hby d_cod_0)
  have pr4 : ∀ t, Steps p.tables e below (T1.setTop (mkF m 7 #[.val (.ref a1)] [(.ref a1)])) t → Steps p.tables e below (s₁.setTop (entryFrame m #[(.ref a1)] 1)) t := fun t kt => pr2 t (by
    refine st1 _ ?_
    show Steps p.tables e below (T1.setTop (mkF m 3 #[.val (.ref a1)] [(.int w1)])) _
    refine XS.ifNo X1.here hx rfl (hb hby d_cod_3) rfl ((if0 _ _).trans (feq (nz : ¬ (w1 = (0 : Int32)))).1) ?_
    show Steps p.tables e below (T1.setTop (mkF m 6 #[.val (.ref a1)] [])) _
    refine XS.aloadN X1.here hx rfl (hb hby d_cod_6) rfl rfl ?_
    show Steps p.tables e below (T1.setTop (mkF m 7 #[.val (.ref a1)] [(.ref a1)])) _
    exact kt)
  obtain ⟨T3, X3, e3, st3⟩ := getF X1 hx hZ hown (host := "") (Or.inl (hw _ (List.mem_of_getElem? (i := 29) rfl))) Via.refl e1 Fc (g := (mkF m 7 #[.val (.ref a1)] [(.ref a1)])) rfl rfl (hb hby d_cod_7)
  obtain ⟨fs, hr, hrun, hended, hW, hsame⟩ := X3.leave (v := some (.int (nar .byte (0 : Int32)))) (fun h => by rw [Bd.returns] at h; cases h)
  refine ⟨_, _, pr4 _ ?_, hrun, hended, _, _, rfl, ?_, ⟨_, rfl⟩, hW, hsame.mono (by decide) (by decide)⟩
  · refine st3 _ ?_
    show Steps p.tables e below (T3.setTop (mkF m 10 #[.val (.ref a1)] [(.int (0 : Int32))])) _
    refine XS.goto X3.here hx rfl (pc0 := 10) (pc' := 14) rfl (hb hby d_cod_10) (by decide) (by decide) ?_
    show Steps p.tables e below (T3.setTop (mkF m 14 #[.val (.ref a1)] [(.int (0 : Int32))])) _
    exact retN X3 hx (t := .byte) Bd.returns (by simp) (hb hby d_cod_14) hr
  · show Q_cod Z a1 w1 h0 n0 _ T3.heap _
    rw [e3]
    exact ⟨(congrArg (fun zz => some (Value.int zz)) (by rfl : nar .byte (0 : Int32) = (0 : Int32))), N0, rfl⟩
theorem d_len_0 : decode jdk_42_method_54_code 0 = .ok (.aload_n 0, 1) := by decide +kernel
theorem d_len_1 : decode jdk_42_method_54_code 1 = .ok (.getfield 9, 3) := by decide +kernel
theorem d_len_4 : decode jdk_42_method_54_code 4 = .ok (.arraylength, 1) := by decide +kernel
theorem d_len_5 : decode jdk_42_method_54_code 5 = .ok (.aload_n 0, 1) := by decide +kernel
theorem d_len_6 : decode jdk_42_method_54_code 6 = .ok (.invokevirtual 335, 3) := by decide +kernel
theorem d_len_9 : decode jdk_42_method_54_code 9 = .ok (.ishr, 1) := by decide +kernel
theorem d_len_10 : decode jdk_42_method_54_code 10 = .ok (.ireturn, 1) := by decide +kernel
theorem pn_len : plainName "java/lang/String" = true := by first | (simp [plainName, overriddenIn]; done) | decide +kernel
theorem pd_len_0 : parseMethodDescriptor "()B" = some ⟨[], some .byte⟩ := by decide +kernel
theorem ef_len (m : MethodId) (a1 : Addr) : entryFrame m #[(.ref a1)] 1 = mkF m 0 #[.val (.ref a1)] [] := by first | (simp [entryFrame, mkF, argsToLocals, Value.category]; done) | rfl
def Q_len (Z : State) (a1 : Addr) (b1 : Addr) (k1 : ClassId) (w1 : Int32) (h0 : Heap) (n0 : Nat) (v : Option Value) (h : Heap) (L : List Loc) : Prop := v = some (.int (15 : Int32)) ∧ Fr n0 L ∧ h = h0
set_option maxRecDepth 65536 in
set_option maxHeartbeats 40000000 in
theorem rm_len (l : Launch) (Z : State) (a0 : Array Value) (hw : ∀ d ∈ tables_1, d.before a0 Z = true) (ws : List Jvm.Cond) (a1 : Addr) (b1 : Addr) (k1 : ClassId) (w1 : Int32) (h0 : Heap) (n0 : Nat) (Z0 : n0 ≤ h0.size) (E1 : Exa Z h0 a1 "java/lang/String") (Fc : Fld Z h0 a1 "java/lang/String" "coder" "B" (.int (0 : Int32))) (Fv : Fld Z h0 a1 "java/lang/String" "value" "[B" (.ref b1)) (V1 : Arv Z h0 b1 k1 .byte (15 : Int32) [(.int (33 : Int32)), (.int (35 : Int32)), (.int (36 : Int32)), (.int (37 : Int32)), (.int (38 : Int32)), (.int (39 : Int32)), (.int (42 : Int32)), (.int (43 : Int32)), (.int (45 : Int32)), (.int (46 : Int32)), (.int (94 : Int32)), (.int (95 : Int32)), (.int (96 : Int32)), (.int (124 : Int32)), (.int (126 : Int32))] (.int (0 : Int32))) (S1 : Sta Z h0 "java/lang/String" "COMPACT_STRINGS" "Z" (.int w1)) (nz : ¬ w1 = (0 : Int32)) :
    MetFree l (⟨"java/lang/String", "length", "()I"⟩ : MethodName) (head1 (Jvm.Cond.code (⟨"java/lang/String", "length", "()I"⟩ : MethodName) jdk_42_method_54_code 1 (some .int) :: ws) ({ frames := 1, cells := 0, slots := 0, locals := 13 } : Room)) (fun a U => a = #[(.ref a1)] ∧ Z.Warmed39 U.vm ∧ U.heap = h0) (fun _ _ _ _ _ => True) (fun _ U o U' => ∃ v L, o = .returned v ∧ Q_len Z a1 b1 k1 w1 h0 n0 v U'.heap L ∧ FrameEnd U o U' L ({ frames := 1, cells := 0, slots := 0, locals := 13 } : Room).cells ({ frames := 1, cells := 0, slots := 0, locals := 13 } : Room).slots) := by
  refine MetFree.of_bodySF (plainFor_of_name pn_len) hisR ?_
  intro p e s m args below meth c s₁ Bd hml0 hP hK
  obtain ⟨rfl, hZ, hh⟩ := hP
  have hx := Bd.exec
  have hby := Bd.bytes
  have hml : c.maxLocals = 1 := hml0
  have hown : s.vm.findClass "java/lang/String" = some m.cls := findClass_of_methodNamed Bd.named
  have hnm := (name_of_methodNamed Bd.named Bd.method).1
  have X0 : Stand p l e ({ frames := 1, cells := 0, slots := 0, locals := 13 } : Room) s m #[(.ref a1)] below meth c s₁ [] 0 0 := Stand.of_body Bd
  have e0 : s₁.heap = h0 := by rw [← hh, Bd.state]; rfl
  have N0 := Fr.nil n0
  have pre0 : ∀ t, Steps p.tables e below (s₁.setTop (mkF m 0 #[.val (.ref a1)] [])) t → Steps p.tables e below (s₁.setTop (entryFrame m #[(.ref a1)] 1)) t := fun t k => castTop (ef_len m a1) k
  obtain ⟨cl1, Ar1, q1, Sz1, M1, H1, G1⟩ := V1
  have pr2 : ∀ t, Steps p.tables e below (s₁.setTop (mkF m 1 #[.val (.ref a1)] [(.ref a1)])) t → Steps p.tables e below (s₁.setTop (entryFrame m #[(.ref a1)] 1)) t := fun t kt => pre0 t (by
    show Steps p.tables e below (s₁.setTop (mkF m 0 #[.val (.ref a1)] [])) _
    refine XS.aloadN X0.here hx rfl (hb hby d_len_0) rfl rfl ?_
    show Steps p.tables e below (s₁.setTop (mkF m 1 #[.val (.ref a1)] [(.ref a1)])) _
    exact kt)
  obtain ⟨T1, X1, e1, st1⟩ := getF X0 hx hZ hown (host := "") (Or.inl (hw _ (List.mem_of_getElem? (i := 30) rfl))) Via.refl e0 Fv (g := (mkF m 1 #[.val (.ref a1)] [(.ref a1)])) rfl rfl (hb hby d_len_1)
  have pr4 : ∀ t, Steps p.tables e below (T1.setTop (mkF m 6 #[.val (.ref a1)] [(.ref a1), (.int (15 : Int32))])) t → Steps p.tables e below (s₁.setTop (entryFrame m #[(.ref a1)] 1)) t := fun t kt => pr2 t (by
    refine st1 _ ?_
    show Steps p.tables e below (T1.setTop (mkF m 4 #[.val (.ref a1)] [(.ref b1)])) _
    refine X1.arraylength hx (by rw [e1]; exact Ar1.1) (State.isArrayOf_alike hZ.alike Ar1.2.1) (g := (mkF m 4 #[.val (.ref a1)] [(.ref b1)])) rfl rfl (hb hby d_len_4) _ ?_
    rw [len_of Sz1 M1]
    show Steps p.tables e below (T1.setTop (mkF m 5 #[.val (.ref a1)] [(.int (15 : Int32))])) _
    refine XS.aloadN X1.here hx rfl (hb hby d_len_5) rfl rfl ?_
    show Steps p.tables e below (T1.setTop (mkF m 6 #[.val (.ref a1)] [(.ref a1), (.int (15 : Int32))])) _
    exact kt)
  obtain ⟨cq3, kq3, q3a, q3b, q3c⟩ := isOf hZ e1 E1
  obtain ⟨_, _, ⟨T3, L3, k3, n3⟩, -, X3, ⟨Lc3, hQ3, l3, y3, z3⟩, st3⟩ := X1.virtualBack hx (y := (⟨"java/lang/String", "coder", "()B"⟩ : MethodName)) (z := (⟨"java/lang/String", "coder", "()B"⟩ : MethodName)) hown (mvT hZ (hw _ (List.mem_of_getElem? (i := 36) rfl))) (mvT hZ (hw _ (List.mem_of_getElem? (i := 37) rfl))) (notFace_of_selects (args := #[]) (mvT hZ (hw _ (List.mem_of_getElem? (i := 39) rfl)))) (mvT hZ (hw _ (List.mem_of_getElem? (i := 39) rfl))) (mvT hZ (hw _ (List.mem_of_getElem? (i := 38) rfl))) (by decide) (backOf (W := 1) (rm_cod l Z a0 hw [] a1 w1 h0 n0 Z0 S1 nz Fc) hZ (hw _ (List.mem_of_getElem? (i := 40) rfl)) (hw _ (List.mem_of_getElem? (i := 6) rfl)) (by decide) (by decide)) q3a q3c (g := (mkF m 6 #[.val (.ref a1)] [(.ref a1), (.int (15 : Int32))])) rfl (by rw [hml]; rfl) (Steps.refl _) (argsL := []) (rest := [(.int (15 : Int32))]) (lenOf pd_len_0 rfl) rfl (by show 2 * 0 + _ ≤ _; exact Nat.le_of_eq rfl) (hb hby d_len_6) (fun _ _ => ⟨rfl, e1, (by decide : 0 + 0 ≤ _), (by decide : 0 + 0 ≤ _)⟩)
  dsimp only [Pt.U, Pt.locs, Pt.cells, Pt.slots] at X3 l3 y3 z3 st3 hQ3
  subst l3 y3 z3
  obtain ⟨rfl, N3q, e3⟩ := hQ3
  have N3 := Fr.app N0 N3q
  obtain ⟨fs, hr, hrun, hended, hW, hsame⟩ := X3.leave (v := some (.int ((15 : Int32) >>> ((0 : Int32) &&& 31)))) (fun h => by rw [Bd.returns] at h; cases h)
  refine ⟨_, _, pr4 _ ?_, hrun, hended, _, _, rfl, ?_, ⟨_, rfl⟩, hW, hsame.mono (by decide) (by decide)⟩
  · refine st3.trans ?_
    show Steps p.tables e below (T3.setTop (mkF m 9 #[.val (.ref a1)] [(.int (0 : Int32)), (.int (15 : Int32))])) _
    refine XS.ishr X3.here hx rfl (hb hby d_len_9) rfl ?_
    show Steps p.tables e below (T3.setTop (mkF m 10 #[.val (.ref a1)] [(.int ((15 : Int32) >>> ((0 : Int32) &&& 31)))])) _
    exact retI X3 hx Bd.returns (hb hby d_len_10) hr
  · show Q_len Z a1 b1 k1 w1 h0 n0 _ T3.heap _
    rw [e3]
    exact ⟨(congrArg (fun zz => some (Value.int zz)) (by decide : ((15 : Int32) >>> ((0 : Int32) &&& 31)) = (15 : Int32))), N3, rfl⟩
theorem d_ce_0 : decode jdk_43_method_4_code 0 = .ok (.iload_n 0, 1) := by decide +kernel
theorem d_ce_1 : decode jdk_43_method_4_code 1 = .ok (.ifCond .lt 14, 3) := by decide +kernel
theorem d_ce_4 : decode jdk_43_method_4_code 4 = .ok (.iload_n 0, 1) := by decide +kernel
theorem d_ce_5 : decode jdk_43_method_4_code 5 = .ok (.sipush 255, 3) := by decide +kernel
theorem d_ce_8 : decode jdk_43_method_4_code 8 = .ok (.if_icmp .gt 7, 3) := by decide +kernel
theorem d_ce_11 : decode jdk_43_method_4_code 11 = .ok (.iconst 1, 1) := by decide +kernel
theorem d_ce_12 : decode jdk_43_method_4_code 12 = .ok (.goto 4, 3) := by decide +kernel
theorem d_ce_15 : decode jdk_43_method_4_code 15 = .ok (.iconst 0, 1) := by decide +kernel
theorem d_ce_16 : decode jdk_43_method_4_code 16 = .ok (.ireturn, 1) := by decide +kernel
theorem pn_ce : plainName "java/lang/StringLatin1" = true := by first | (simp [plainName, overriddenIn]; done) | decide +kernel
theorem ef_ce (m : MethodId) (p1 : Int32) : entryFrame m #[(.int p1)] 1 = mkF m 0 #[.val (.int p1)] [] := by first | (simp [entryFrame, mkF, argsToLocals, Value.category]; done) | rfl
def Q_ce (Z : State) (p1 : Int32) (h0 : Heap) (n0 : Nat) (v : Option Value) (h : Heap) (L : List Loc) : Prop := v = some (.int (own_b (own_ce p1))) ∧ Fr n0 L ∧ h = h0
set_option maxRecDepth 65536 in
set_option maxHeartbeats 40000000 in
theorem rm_ce (l : Launch) (Z : State) (a0 : Array Value) (hw : ∀ d ∈ tables_1, d.before a0 Z = true) (ws : List Jvm.Cond) (p1 : Int32) (h0 : Heap) (n0 : Nat) (Z0 : n0 ≤ h0.size) :
    MetFree l (⟨"java/lang/StringLatin1", "canEncode", "(I)Z"⟩ : MethodName) (head1 (Jvm.Cond.code (⟨"java/lang/StringLatin1", "canEncode", "(I)Z"⟩ : MethodName) jdk_43_method_4_code 1 (some .boolean) :: ws) ({ frames := 0, cells := 0, slots := 0, locals := 0 } : Room)) (fun a U => a = #[(.int p1)] ∧ Z.Warmed39 U.vm ∧ U.heap = h0) (fun _ _ _ _ _ => True) (fun _ U o U' => ∃ v L, o = .returned v ∧ Q_ce Z p1 h0 n0 v U'.heap L ∧ FrameEnd U o U' L ({ frames := 0, cells := 0, slots := 0, locals := 0 } : Room).cells ({ frames := 0, cells := 0, slots := 0, locals := 0 } : Room).slots) := by
  refine MetFree.of_bodySF (plainFor_of_name pn_ce) hisR ?_
  intro p e s m args below meth c s₁ Bd hml0 hP hK
  obtain ⟨rfl, hZ, hh⟩ := hP
  have hx := Bd.exec
  have hby := Bd.bytes
  have hml : c.maxLocals = 1 := hml0
  have hown : s.vm.findClass "java/lang/StringLatin1" = some m.cls := findClass_of_methodNamed Bd.named
  have hnm := (name_of_methodNamed Bd.named Bd.method).1
  have X0 : Stand p l e ({ frames := 0, cells := 0, slots := 0, locals := 0 } : Room) s m #[(.int p1)] below meth c s₁ [] 0 0 := Stand.of_body Bd
  have e0 : s₁.heap = h0 := by rw [← hh, Bd.state]; rfl
  have N0 := Fr.nil n0
  have pre0 : ∀ t, Steps p.tables e below (s₁.setTop (mkF m 0 #[.val (.int p1)] [])) t → Steps p.tables e below (s₁.setTop (entryFrame m #[(.int p1)] 1)) t := fun t k => castTop (ef_ce m p1) k
  have pr2 : ∀ t, Steps p.tables e below (s₁.setTop (mkF m 1 #[.val (.int p1)] [(.int p1)])) t → Steps p.tables e below (s₁.setTop (entryFrame m #[(.int p1)] 1)) t := fun t kt => pre0 t (by
    show Steps p.tables e below (s₁.setTop (mkF m 0 #[.val (.int p1)] [])) _
    refine XS.iloadN X0.here hx rfl (hb hby d_ce_0) rfl ?_
    exact kt)
  by_cases hc1_1 : p1 < (0 : Int32)
  · obtain ⟨fs, hr, hrun, hended, hW, hsame⟩ := X0.leave (v := some (.int (nar .boolean (0 : Int32)))) (fun h => by rw [Bd.returns] at h; cases h)
    refine ⟨_, _, pr2 _ ?_, hrun, hended, _, _, rfl, ?_, ⟨_, rfl⟩, hW, hsame.mono (by decide) (by decide)⟩
    · show Steps p.tables e below (s₁.setTop (mkF m 1 #[.val (.int p1)] [(.int p1)])) _
      refine XS.ifYes X0.here hx rfl (pc0 := 1) (pc' := 15) rfl (hb hby d_ce_1) rfl ((if0 _ _).trans (tlt hc1_1).1) (by decide) (by decide) ?_
      show Steps p.tables e below (s₁.setTop (mkF m 15 #[.val (.int p1)] [])) _
      refine XS.iconst X0.here hx rfl (hb hby d_ce_15) ?_
      show Steps p.tables e below (s₁.setTop (mkF m 16 #[.val (.int p1)] [(.int (0 : Int32))])) _
      exact retN X0 hx (t := .boolean) Bd.returns (by simp) (hb hby d_ce_16) hr
    · show Q_ce Z p1 h0 n0 _ s₁.heap _
      rw [e0]
      exact ⟨(congrArg (fun zz => some (Value.int zz)) (by rw [show own_ce p1 = false from by simp [own_ce, hc1_1]]; rfl : nar .boolean (0 : Int32) = (own_b (own_ce p1)))), N0, rfl⟩
  · have pr4 : ∀ t, Steps p.tables e below (s₁.setTop (mkF m 8 #[.val (.int p1)] [(.int (255 : Int32)), (.int p1)])) t → Steps p.tables e below (s₁.setTop (entryFrame m #[(.int p1)] 1)) t := fun t kt => pr2 t (by
      show Steps p.tables e below (s₁.setTop (mkF m 1 #[.val (.int p1)] [(.int p1)])) _
      refine XS.ifNo X0.here hx rfl (hb hby d_ce_1) rfl ((if0 _ _).trans (flt hc1_1).1) ?_
      show Steps p.tables e below (s₁.setTop (mkF m 4 #[.val (.int p1)] [])) _
      refine XS.iloadN X0.here hx rfl (hb hby d_ce_4) rfl ?_
      show Steps p.tables e below (s₁.setTop (mkF m 5 #[.val (.int p1)] [(.int p1)])) _
      refine XS.sipush X0.here hx rfl (hb hby d_ce_5) ?_
      exact kt)
    by_cases hc8_3 : (255 : Int32) < p1
    · obtain ⟨fs, hr, hrun, hended, hW, hsame⟩ := X0.leave (v := some (.int (nar .boolean (0 : Int32)))) (fun h => by rw [Bd.returns] at h; cases h)
      refine ⟨_, _, pr4 _ ?_, hrun, hended, _, _, rfl, ?_, ⟨_, rfl⟩, hW, hsame.mono (by decide) (by decide)⟩
      · show Steps p.tables e below (s₁.setTop (mkF m 8 #[.val (.int p1)] [(.int (255 : Int32)), (.int p1)])) _
        refine XS.icmpYes X0.here hx rfl (pc0 := 8) (pc' := 15) rfl (hb hby d_ce_8) rfl (tlt hc8_3).2.2.1 (by decide) (by decide) ?_
        show Steps p.tables e below (s₁.setTop (mkF m 15 #[.val (.int p1)] [])) _
        refine XS.iconst X0.here hx rfl (hb hby d_ce_15) ?_
        show Steps p.tables e below (s₁.setTop (mkF m 16 #[.val (.int p1)] [(.int (0 : Int32))])) _
        exact retN X0 hx (t := .boolean) Bd.returns (by simp) (hb hby d_ce_16) hr
      · show Q_ce Z p1 h0 n0 _ s₁.heap _
        rw [e0]
        exact ⟨(congrArg (fun zz => some (Value.int zz)) (by rw [show own_ce p1 = false from by simp [own_ce, hc1_1, hc8_3]]; rfl : nar .boolean (0 : Int32) = (own_b (own_ce p1)))), N0, rfl⟩
    · obtain ⟨fs, hr, hrun, hended, hW, hsame⟩ := X0.leave (v := some (.int (nar .boolean (1 : Int32)))) (fun h => by rw [Bd.returns] at h; cases h)
      refine ⟨_, _, pr4 _ ?_, hrun, hended, _, _, rfl, ?_, ⟨_, rfl⟩, hW, hsame.mono (by decide) (by decide)⟩
      · show Steps p.tables e below (s₁.setTop (mkF m 8 #[.val (.int p1)] [(.int (255 : Int32)), (.int p1)])) _
        refine XS.icmpNo X0.here hx rfl (hb hby d_ce_8) rfl (flt hc8_3).2.2.1 ?_
        show Steps p.tables e below (s₁.setTop (mkF m 11 #[.val (.int p1)] [])) _
        refine XS.iconst X0.here hx rfl (hb hby d_ce_11) ?_
        show Steps p.tables e below (s₁.setTop (mkF m 12 #[.val (.int p1)] [(.int (1 : Int32))])) _
        refine XS.goto X0.here hx rfl (pc0 := 12) (pc' := 16) rfl (hb hby d_ce_12) (by decide) (by decide) ?_
        show Steps p.tables e below (s₁.setTop (mkF m 16 #[.val (.int p1)] [(.int (1 : Int32))])) _
        exact retN X0 hx (t := .boolean) Bd.returns (by simp) (hb hby d_ce_16) hr
      · show Q_ce Z p1 h0 n0 _ s₁.heap _
        rw [e0]
        exact ⟨(congrArg (fun zz => some (Value.int zz)) (by rw [show own_ce p1 = true from by simp [own_ce, hc1_1, hc8_3]]; rfl : nar .boolean (1 : Int32) = (own_b (own_ce p1)))), N0, rfl⟩
theorem d_mx_0 : decode jdk_29_method_65_code 0 = .ok (.iload_n 0, 1) := by decide +kernel
theorem d_mx_1 : decode jdk_29_method_65_code 1 = .ok (.iload_n 1, 1) := by decide +kernel
theorem d_mx_2 : decode jdk_29_method_65_code 2 = .ok (.if_icmp .lt 7, 3) := by decide +kernel
theorem d_mx_5 : decode jdk_29_method_65_code 5 = .ok (.iload_n 0, 1) := by decide +kernel
theorem d_mx_6 : decode jdk_29_method_65_code 6 = .ok (.goto 4, 3) := by decide +kernel
theorem d_mx_10 : decode jdk_29_method_65_code 10 = .ok (.ireturn, 1) := by decide +kernel
theorem ef_mx (m : MethodId) (p1 : Int32) (p2 : Int32) : entryFrame m #[(.int p1), (.int p2)] 2 = mkF m 0 #[.val (.int p1), .val (.int p2)] [] := by first | (simp [entryFrame, mkF, argsToLocals, Value.category]; done) | rfl
def Q_mx (Z : State) (p1 : Int32) (p2 : Int32) (h0 : Heap) (n0 : Nat) (v : Option Value) (h : Heap) (L : List Loc) : Prop := v = some (.int p1) ∧ Fr n0 L ∧ h = h0
set_option maxRecDepth 65536 in
set_option maxHeartbeats 40000000 in
theorem rm_mx (l : Launch) (Z : State) (a0 : Array Value) (hw : ∀ d ∈ tables_1, d.before a0 Z = true) (ws : List Jvm.Cond) (p1 : Int32) (p2 : Int32) (h0 : Heap) (n0 : Nat) (Z0 : n0 ≤ h0.size) (hq : ¬ p1 < p2) :
    MetFree l (⟨"java/lang/Math", "max", "(II)I"⟩ : MethodName) (head1 (Jvm.Cond.code (⟨"java/lang/Math", "max", "(II)I"⟩ : MethodName) jdk_29_method_65_code 2 (some .int) :: ws) ({ frames := 0, cells := 0, slots := 0, locals := 0 } : Room)) (fun a U => a = #[(.int p1), (.int p2)] ∧ Z.Warmed39 U.vm ∧ U.heap = h0) (fun _ _ _ _ _ => True) (fun _ U o U' => ∃ v L, o = .returned v ∧ Q_mx Z p1 p2 h0 n0 v U'.heap L ∧ FrameEnd U o U' L ({ frames := 0, cells := 0, slots := 0, locals := 0 } : Room).cells ({ frames := 0, cells := 0, slots := 0, locals := 0 } : Room).slots) := by
  refine MetFree.of_bodySF (Jvm.Free.JP.mathPlain rfl (by decide +kernel)) hisR ?_
  intro p e s m args below meth c s₁ Bd hml0 hP hK
  obtain ⟨rfl, hZ, hh⟩ := hP
  have hx := Bd.exec
  have hby := Bd.bytes
  have hml : c.maxLocals = 2 := hml0
  have hown : s.vm.findClass "java/lang/Math" = some m.cls := findClass_of_methodNamed Bd.named
  have hnm := (name_of_methodNamed Bd.named Bd.method).1
  have X0 : Stand p l e ({ frames := 0, cells := 0, slots := 0, locals := 0 } : Room) s m #[(.int p1), (.int p2)] below meth c s₁ [] 0 0 := Stand.of_body Bd
  have e0 : s₁.heap = h0 := by rw [← hh, Bd.state]; rfl
  have N0 := Fr.nil n0
  have pre0 : ∀ t, Steps p.tables e below (s₁.setTop (mkF m 0 #[.val (.int p1), .val (.int p2)] [])) t → Steps p.tables e below (s₁.setTop (entryFrame m #[(.int p1), (.int p2)] 2)) t := fun t k => castTop (ef_mx m p1 p2) k
  obtain ⟨fs, hr, hrun, hended, hW, hsame⟩ := X0.leave (v := some (.int p1)) (fun h => by rw [Bd.returns] at h; cases h)
  refine ⟨_, _, pre0 _ ?_, hrun, hended, _, _, rfl, ?_, ⟨_, rfl⟩, hW, hsame.mono (by decide) (by decide)⟩
  · show Steps p.tables e below (s₁.setTop (mkF m 0 #[.val (.int p1), .val (.int p2)] [])) _
    refine XS.iloadN X0.here hx rfl (hb hby d_mx_0) rfl ?_
    show Steps p.tables e below (s₁.setTop (mkF m 1 #[.val (.int p1), .val (.int p2)] [(.int p1)])) _
    refine XS.iloadN X0.here hx rfl (hb hby d_mx_1) rfl ?_
    show Steps p.tables e below (s₁.setTop (mkF m 2 #[.val (.int p1), .val (.int p2)] [(.int p2), (.int p1)])) _
    refine XS.icmpNo X0.here hx rfl (hb hby d_mx_2) rfl (flt (hq : ¬ (p1 < p2))).1 ?_
    show Steps p.tables e below (s₁.setTop (mkF m 5 #[.val (.int p1), .val (.int p2)] [])) _
    refine XS.iloadN X0.here hx rfl (hb hby d_mx_5) rfl ?_
    show Steps p.tables e below (s₁.setTop (mkF m 6 #[.val (.int p1), .val (.int p2)] [(.int p1)])) _
    refine XS.goto X0.here hx rfl (pc0 := 6) (pc' := 10) rfl (hb hby d_mx_6) (by decide) (by decide) ?_
    show Steps p.tables e below (s₁.setTop (mkF m 10 #[.val (.int p1), .val (.int p2)] [(.int p1)])) _
    exact retI X0 hx Bd.returns (hb hby d_mx_10) hr
  · show Q_mx Z p1 p2 h0 n0 _ s₁.heap _
    rw [e0]
    exact ⟨rfl, N0, rfl⟩
theorem d_mi_0 : decode jdk_29_method_69_code 0 = .ok (.iload_n 0, 1) := by decide +kernel
theorem d_mi_1 : decode jdk_29_method_69_code 1 = .ok (.iload_n 1, 1) := by decide +kernel
theorem d_mi_2 : decode jdk_29_method_69_code 2 = .ok (.if_icmp .gt 7, 3) := by decide +kernel
theorem d_mi_5 : decode jdk_29_method_69_code 5 = .ok (.iload_n 0, 1) := by decide +kernel
theorem d_mi_6 : decode jdk_29_method_69_code 6 = .ok (.goto 4, 3) := by decide +kernel
theorem d_mi_10 : decode jdk_29_method_69_code 10 = .ok (.ireturn, 1) := by decide +kernel
theorem ef_mi (m : MethodId) (p1 : Int32) (p2 : Int32) : entryFrame m #[(.int p1), (.int p2)] 2 = mkF m 0 #[.val (.int p1), .val (.int p2)] [] := by first | (simp [entryFrame, mkF, argsToLocals, Value.category]; done) | rfl
def Q_mi (Z : State) (p1 : Int32) (p2 : Int32) (h0 : Heap) (n0 : Nat) (v : Option Value) (h : Heap) (L : List Loc) : Prop := v = some (.int p1) ∧ Fr n0 L ∧ h = h0
set_option maxRecDepth 65536 in
set_option maxHeartbeats 40000000 in
theorem rm_mi (l : Launch) (Z : State) (a0 : Array Value) (hw : ∀ d ∈ tables_1, d.before a0 Z = true) (ws : List Jvm.Cond) (p1 : Int32) (p2 : Int32) (h0 : Heap) (n0 : Nat) (Z0 : n0 ≤ h0.size) (hq : ¬ p2 < p1) :
    MetFree l (⟨"java/lang/Math", "min", "(II)I"⟩ : MethodName) (head1 (Jvm.Cond.code (⟨"java/lang/Math", "min", "(II)I"⟩ : MethodName) jdk_29_method_69_code 2 (some .int) :: ws) ({ frames := 0, cells := 0, slots := 0, locals := 0 } : Room)) (fun a U => a = #[(.int p1), (.int p2)] ∧ Z.Warmed39 U.vm ∧ U.heap = h0) (fun _ _ _ _ _ => True) (fun _ U o U' => ∃ v L, o = .returned v ∧ Q_mi Z p1 p2 h0 n0 v U'.heap L ∧ FrameEnd U o U' L ({ frames := 0, cells := 0, slots := 0, locals := 0 } : Room).cells ({ frames := 0, cells := 0, slots := 0, locals := 0 } : Room).slots) := by
  refine MetFree.of_bodySF (Jvm.Free.JP.mathPlain rfl (by decide +kernel)) hisR ?_
  intro p e s m args below meth c s₁ Bd hml0 hP hK
  obtain ⟨rfl, hZ, hh⟩ := hP
  have hx := Bd.exec
  have hby := Bd.bytes
  have hml : c.maxLocals = 2 := hml0
  have hown : s.vm.findClass "java/lang/Math" = some m.cls := findClass_of_methodNamed Bd.named
  have hnm := (name_of_methodNamed Bd.named Bd.method).1
  have X0 : Stand p l e ({ frames := 0, cells := 0, slots := 0, locals := 0 } : Room) s m #[(.int p1), (.int p2)] below meth c s₁ [] 0 0 := Stand.of_body Bd
  have e0 : s₁.heap = h0 := by rw [← hh, Bd.state]; rfl
  have N0 := Fr.nil n0
  have pre0 : ∀ t, Steps p.tables e below (s₁.setTop (mkF m 0 #[.val (.int p1), .val (.int p2)] [])) t → Steps p.tables e below (s₁.setTop (entryFrame m #[(.int p1), (.int p2)] 2)) t := fun t k => castTop (ef_mi m p1 p2) k
  obtain ⟨fs, hr, hrun, hended, hW, hsame⟩ := X0.leave (v := some (.int p1)) (fun h => by rw [Bd.returns] at h; cases h)
  refine ⟨_, _, pre0 _ ?_, hrun, hended, _, _, rfl, ?_, ⟨_, rfl⟩, hW, hsame.mono (by decide) (by decide)⟩
  · show Steps p.tables e below (s₁.setTop (mkF m 0 #[.val (.int p1), .val (.int p2)] [])) _
    refine XS.iloadN X0.here hx rfl (hb hby d_mi_0) rfl ?_
    show Steps p.tables e below (s₁.setTop (mkF m 1 #[.val (.int p1), .val (.int p2)] [(.int p1)])) _
    refine XS.iloadN X0.here hx rfl (hb hby d_mi_1) rfl ?_
    show Steps p.tables e below (s₁.setTop (mkF m 2 #[.val (.int p1), .val (.int p2)] [(.int p2), (.int p1)])) _
    refine XS.icmpNo X0.here hx rfl (hb hby d_mi_2) rfl (flt (hq : ¬ (p2 < p1))).2.2.1 ?_
    show Steps p.tables e below (s₁.setTop (mkF m 5 #[.val (.int p1), .val (.int p2)] [])) _
    refine XS.iloadN X0.here hx rfl (hb hby d_mi_5) rfl ?_
    show Steps p.tables e below (s₁.setTop (mkF m 6 #[.val (.int p1), .val (.int p2)] [(.int p1)])) _
    refine XS.goto X0.here hx rfl (pc0 := 6) (pc' := 10) rfl (hb hby d_mi_6) (by decide) (by decide) ?_
    show Steps p.tables e below (s₁.setTop (mkF m 10 #[.val (.int p1), .val (.int p2)] [(.int p1)])) _
    exact retI X0 hx Bd.returns (hb hby d_mi_10) hr
  · show Q_mi Z p1 p2 h0 n0 _ s₁.heap _
    rw [e0]
    exact ⟨rfl, N0, rfl⟩
theorem d_ioc_0 : decode jdk_43_method_23_code 0 = .ok (.iload_n 1, 1) := by decide +kernel
theorem d_ioc_1 : decode jdk_43_method_23_code 1 = .ok (.i2b, 1) := by decide +kernel
theorem d_ioc_2 : decode jdk_43_method_23_code 2 = .ok (.istore 4, 2) := by decide +kernel
theorem d_ioc_4 : decode jdk_43_method_23_code 4 = .ok (.iload_n 2, 1) := by decide +kernel
theorem d_ioc_5 : decode jdk_43_method_23_code 5 = .ok (.istore 5, 2) := by decide +kernel
theorem d_ioc_7 : decode jdk_43_method_23_code 7 = .ok (.iload 5, 2) := by decide +kernel
theorem d_ioc_9 : decode jdk_43_method_23_code 9 = .ok (.iload_n 3, 1) := by decide +kernel
theorem d_ioc_10 : decode jdk_43_method_23_code 10 = .ok (.if_icmp .ge 21, 3) := by decide +kernel
theorem d_ioc_13 : decode jdk_43_method_23_code 13 = .ok (.aload_n 0, 1) := by decide +kernel
theorem d_ioc_14 : decode jdk_43_method_23_code 14 = .ok (.iload 5, 2) := by decide +kernel
theorem d_ioc_16 : decode jdk_43_method_23_code 16 = .ok (.baload, 1) := by decide +kernel
theorem d_ioc_17 : decode jdk_43_method_23_code 17 = .ok (.iload 4, 2) := by decide +kernel
theorem d_ioc_19 : decode jdk_43_method_23_code 19 = .ok (.if_icmp .ne 6, 3) := by decide +kernel
theorem d_ioc_22 : decode jdk_43_method_23_code 22 = .ok (.iload 5, 2) := by decide +kernel
theorem d_ioc_24 : decode jdk_43_method_23_code 24 = .ok (.ireturn, 1) := by decide +kernel
theorem d_ioc_25 : decode jdk_43_method_23_code 25 = .ok (.iinc 5 1, 3) := by decide +kernel
theorem d_ioc_28 : decode jdk_43_method_23_code 28 = .ok (.goto (-21), 3) := by decide +kernel
theorem d_ioc_31 : decode jdk_43_method_23_code 31 = .ok (.iconst (-1), 1) := by decide +kernel
theorem d_ioc_32 : decode jdk_43_method_23_code 32 = .ok (.ireturn, 1) := by decide +kernel
theorem pn_ioc : plainName "java/lang/StringLatin1" = true := by first | (simp [plainName, overriddenIn]; done) | decide +kernel
theorem ef_ioc (m : MethodId) (b1 : Addr) (p2 : Int32) (p3 : Int32) (p4 : Int32) : entryFrame m #[(.ref b1), (.int p2), (.int p3), (.int p4)] 6 = mkF m 0 #[.val (.ref b1), .val (.int p2), .val (.int p3), .val (.int p4), .unset, .unset] [] := by first | (simp [entryFrame, mkF, argsToLocals, Value.category]; done) | rfl
def Q_ioc (Z : State) (b1 : Addr) (p2 : Int32) (p3 : Int32) (p4 : Int32) (k1 : ClassId) (h0 : Heap) (n0 : Nat) (v : Option Value) (h : Heap) (L : List Loc) : Prop := v = some (.int (own_find (p2.toInt8.toInt32))) ∧ Fr n0 L ∧ h = h0
set_option maxRecDepth 65536 in
set_option maxHeartbeats 40000000 in
theorem rm_ioc (l : Launch) (Z : State) (a0 : Array Value) (hw : ∀ d ∈ tables_1, d.before a0 Z = true) (ws : List Jvm.Cond) (b1 : Addr) (p2 : Int32) (p3 : Int32) (p4 : Int32) (k1 : ClassId) (h0 : Heap) (n0 : Nat) (Z0 : n0 ≤ h0.size) (V1 : Arv Z h0 b1 k1 .byte (15 : Int32) [(.int (33 : Int32)), (.int (35 : Int32)), (.int (36 : Int32)), (.int (37 : Int32)), (.int (38 : Int32)), (.int (39 : Int32)), (.int (42 : Int32)), (.int (43 : Int32)), (.int (45 : Int32)), (.int (46 : Int32)), (.int (94 : Int32)), (.int (95 : Int32)), (.int (96 : Int32)), (.int (124 : Int32)), (.int (126 : Int32))] (.int (0 : Int32))) (h3 : p3 = (0 : Int32)) (h4 : p4 = (15 : Int32)) :
    MetFree l (⟨"java/lang/StringLatin1", "indexOfChar", "([BIII)I"⟩ : MethodName) (head1 (Jvm.Cond.code (⟨"java/lang/StringLatin1", "indexOfChar", "([BIII)I"⟩ : MethodName) jdk_43_method_23_code 6 (some .int) :: ws) ({ frames := 0, cells := 0, slots := 0, locals := 0 } : Room)) (fun a U => a = #[(.ref b1), (.int p2), (.int p3), (.int p4)] ∧ Z.Warmed39 U.vm ∧ U.heap = h0) (fun _ _ _ _ _ => True) (fun _ U o U' => ∃ v L, o = .returned v ∧ Q_ioc Z b1 p2 p3 p4 k1 h0 n0 v U'.heap L ∧ FrameEnd U o U' L ({ frames := 0, cells := 0, slots := 0, locals := 0 } : Room).cells ({ frames := 0, cells := 0, slots := 0, locals := 0 } : Room).slots) := by
  subst h3
  subst h4
  refine MetFree.of_bodySF (plainFor_of_name pn_ioc) hisR ?_
  intro p e s m args below meth c s₁ Bd hml0 hP hK
  obtain ⟨rfl, hZ, hh⟩ := hP
  have hx := Bd.exec
  have hby := Bd.bytes
  have hml : c.maxLocals = 6 := hml0
  have hown : s.vm.findClass "java/lang/StringLatin1" = some m.cls := findClass_of_methodNamed Bd.named
  have hnm := (name_of_methodNamed Bd.named Bd.method).1
  have X0 : Stand p l e ({ frames := 0, cells := 0, slots := 0, locals := 0 } : Room) s m #[(.ref b1), (.int p2), (.int (0 : Int32)), (.int (15 : Int32))] below meth c s₁ [] 0 0 := Stand.of_body Bd
  have e0 : s₁.heap = h0 := by rw [← hh, Bd.state]; rfl
  have N0 := Fr.nil n0
  have pre0 : ∀ t, Steps p.tables e below (s₁.setTop (mkF m 0 #[.val (.ref b1), .val (.int p2), .val (.int (0 : Int32)), .val (.int (15 : Int32)), .unset, .unset] [])) t → Steps p.tables e below (s₁.setTop (entryFrame m #[(.ref b1), (.int p2), (.int (0 : Int32)), (.int (15 : Int32))] 6)) t := fun t k => castTop (ef_ioc m b1 p2 (0 : Int32) (15 : Int32)) k
  obtain ⟨cl1, Ar1, q1, Sz1, M1, H1, G1⟩ := V1
  have pr2 : ∀ t, Steps p.tables e below (s₁.setTop (mkF m 19 #[.val (.ref b1), .val (.int p2), .val (.int (0 : Int32)), .val (.int (15 : Int32)), .val (.int (p2.toInt8.toInt32)), .val (.int (0 : Int32))] [(.int (p2.toInt8.toInt32)), (.int (33 : Int32))])) t → Steps p.tables e below (s₁.setTop (entryFrame m #[(.ref b1), (.int p2), (.int (0 : Int32)), (.int (15 : Int32))] 6)) t := fun t kt => pre0 t (by
    show Steps p.tables e below (s₁.setTop (mkF m 0 #[.val (.ref b1), .val (.int p2), .val (.int (0 : Int32)), .val (.int (15 : Int32)), .unset, .unset] [])) _
    refine XS.iloadN X0.here hx rfl (hb hby d_ioc_0) rfl ?_
    show Steps p.tables e below (s₁.setTop (mkF m 1 #[.val (.ref b1), .val (.int p2), .val (.int (0 : Int32)), .val (.int (15 : Int32)), .unset, .unset] [(.int p2)])) _
    refine XS.i2b X0.here hx rfl (hb hby d_ioc_1) rfl ?_
    show Steps p.tables e below (s₁.setTop (mkF m 2 #[.val (.ref b1), .val (.int p2), .val (.int (0 : Int32)), .val (.int (15 : Int32)), .unset, .unset] [(.int (p2.toInt8.toInt32))])) _
    refine XS.istore X0.here hx rfl (hb hby d_ioc_2) rfl (l' := #[.val (.ref b1), .val (.int p2), .val (.int (0 : Int32)), .val (.int (15 : Int32)), .val (.int (p2.toInt8.toInt32)), .unset]) rfl ?_
    show Steps p.tables e below (s₁.setTop (mkF m 4 #[.val (.ref b1), .val (.int p2), .val (.int (0 : Int32)), .val (.int (15 : Int32)), .val (.int (p2.toInt8.toInt32)), .unset] [])) _
    refine XS.iloadN X0.here hx rfl (hb hby d_ioc_4) rfl ?_
    show Steps p.tables e below (s₁.setTop (mkF m 5 #[.val (.ref b1), .val (.int p2), .val (.int (0 : Int32)), .val (.int (15 : Int32)), .val (.int (p2.toInt8.toInt32)), .unset] [(.int (0 : Int32))])) _
    refine XS.istore X0.here hx rfl (hb hby d_ioc_5) rfl (l' := #[.val (.ref b1), .val (.int p2), .val (.int (0 : Int32)), .val (.int (15 : Int32)), .val (.int (p2.toInt8.toInt32)), .val (.int (0 : Int32))]) rfl ?_
    show Steps p.tables e below (s₁.setTop (mkF m 7 #[.val (.ref b1), .val (.int p2), .val (.int (0 : Int32)), .val (.int (15 : Int32)), .val (.int (p2.toInt8.toInt32)), .val (.int (0 : Int32))] [])) _
    refine XS.iload X0.here hx rfl (hb hby d_ioc_7) rfl ?_
    show Steps p.tables e below (s₁.setTop (mkF m 9 #[.val (.ref b1), .val (.int p2), .val (.int (0 : Int32)), .val (.int (15 : Int32)), .val (.int (p2.toInt8.toInt32)), .val (.int (0 : Int32))] [(.int (0 : Int32))])) _
    refine XS.iloadN X0.here hx rfl (hb hby d_ioc_9) rfl ?_
    show Steps p.tables e below (s₁.setTop (mkF m 10 #[.val (.ref b1), .val (.int p2), .val (.int (0 : Int32)), .val (.int (15 : Int32)), .val (.int (p2.toInt8.toInt32)), .val (.int (0 : Int32))] [(.int (15 : Int32)), (.int (0 : Int32))])) _
    refine XS.icmpNo X0.here hx rfl (hb hby d_ioc_10) rfl (tlt (by decide : (0 : Int32) < (15 : Int32))).2.1 ?_
    show Steps p.tables e below (s₁.setTop (mkF m 13 #[.val (.ref b1), .val (.int p2), .val (.int (0 : Int32)), .val (.int (15 : Int32)), .val (.int (p2.toInt8.toInt32)), .val (.int (0 : Int32))] [])) _
    refine XS.aloadN X0.here hx rfl (hb hby d_ioc_13) rfl rfl ?_
    show Steps p.tables e below (s₁.setTop (mkF m 14 #[.val (.ref b1), .val (.int p2), .val (.int (0 : Int32)), .val (.int (15 : Int32)), .val (.int (p2.toInt8.toInt32)), .val (.int (0 : Int32))] [(.ref b1)])) _
    refine XS.iload X0.here hx rfl (hb hby d_ioc_14) rfl ?_
    show Steps p.tables e below (s₁.setTop (mkF m 16 #[.val (.ref b1), .val (.int p2), .val (.int (0 : Int32)), .val (.int (15 : Int32)), .val (.int (p2.toInt8.toInt32)), .val (.int (0 : Int32))] [(.int (0 : Int32)), (.ref b1)])) _
    refine X0.baloadBytes hx (j := (0 : Int32)) (v := (.int (33 : Int32))) (by rw [e0]; exact Ar1.1) (State.isArrayOf_alike hZ.alike Ar1.2.1) Ar1.2.2 (inb_of Sz1 (j := (0 : Int32)) ⟨by decide, by decide⟩) (H1 0 (by rw [Sz1]; decide)) (g := (mkF m 16 #[.val (.ref b1), .val (.int p2), .val (.int (0 : Int32)), .val (.int (15 : Int32)), .val (.int (p2.toInt8.toInt32)), .val (.int (0 : Int32))] [(.int (0 : Int32)), (.ref b1)])) rfl rfl (hb hby d_ioc_16) _ ?_
    show Steps p.tables e below (s₁.setTop (mkF m 17 #[.val (.ref b1), .val (.int p2), .val (.int (0 : Int32)), .val (.int (15 : Int32)), .val (.int (p2.toInt8.toInt32)), .val (.int (0 : Int32))] [(.int (33 : Int32))])) _
    refine XS.iload X0.here hx rfl (hb hby d_ioc_17) rfl ?_
    exact kt)
  by_cases hc19_1 : (33 : Int32) = (p2.toInt8.toInt32)
  · obtain ⟨fs, hr, hrun, hended, hW, hsame⟩ := X0.leave (v := some (.int (0 : Int32))) (fun h => by rw [Bd.returns] at h; cases h)
    refine ⟨_, _, pr2 _ ?_, hrun, hended, _, _, rfl, ?_, ⟨_, rfl⟩, hW, hsame.mono (by decide) (by decide)⟩
    · show Steps p.tables e below (s₁.setTop (mkF m 19 #[.val (.ref b1), .val (.int p2), .val (.int (0 : Int32)), .val (.int (15 : Int32)), .val (.int (p2.toInt8.toInt32)), .val (.int (0 : Int32))] [(.int (p2.toInt8.toInt32)), (.int (33 : Int32))])) _
      refine XS.icmpNo X0.here hx rfl (hb hby d_ioc_19) rfl (teq hc19_1).2 ?_
      show Steps p.tables e below (s₁.setTop (mkF m 22 #[.val (.ref b1), .val (.int p2), .val (.int (0 : Int32)), .val (.int (15 : Int32)), .val (.int (p2.toInt8.toInt32)), .val (.int (0 : Int32))] [])) _
      refine XS.iload X0.here hx rfl (hb hby d_ioc_22) rfl ?_
      show Steps p.tables e below (s₁.setTop (mkF m 24 #[.val (.ref b1), .val (.int p2), .val (.int (0 : Int32)), .val (.int (15 : Int32)), .val (.int (p2.toInt8.toInt32)), .val (.int (0 : Int32))] [(.int (0 : Int32))])) _
      exact retI X0 hx Bd.returns (hb hby d_ioc_24) hr
    · show Q_ioc Z b1 p2 (0 : Int32) (15 : Int32) k1 h0 n0 _ s₁.heap _
      rw [e0]
      exact ⟨(congrArg (fun zz => some (Value.int zz)) (by simp only [own_find, hc19_1, if_true, if_false] : (0 : Int32) = (own_find (p2.toInt8.toInt32)))), N0, rfl⟩
  · have pr4 : ∀ t, Steps p.tables e below (s₁.setTop (mkF m 19 #[.val (.ref b1), .val (.int p2), .val (.int (0 : Int32)), .val (.int (15 : Int32)), .val (.int (p2.toInt8.toInt32)), .val (.int (1 : Int32))] [(.int (p2.toInt8.toInt32)), (.int (35 : Int32))])) t → Steps p.tables e below (s₁.setTop (entryFrame m #[(.ref b1), (.int p2), (.int (0 : Int32)), (.int (15 : Int32))] 6)) t := fun t kt => pr2 t (by
      show Steps p.tables e below (s₁.setTop (mkF m 19 #[.val (.ref b1), .val (.int p2), .val (.int (0 : Int32)), .val (.int (15 : Int32)), .val (.int (p2.toInt8.toInt32)), .val (.int (0 : Int32))] [(.int (p2.toInt8.toInt32)), (.int (33 : Int32))])) _
      refine XS.icmpYes X0.here hx rfl (pc0 := 19) (pc' := 25) rfl (hb hby d_ioc_19) rfl (feq hc19_1).2 (by decide) (by decide) ?_
      show Steps p.tables e below (s₁.setTop (mkF m 25 #[.val (.ref b1), .val (.int p2), .val (.int (0 : Int32)), .val (.int (15 : Int32)), .val (.int (p2.toInt8.toInt32)), .val (.int (0 : Int32))] [])) _
      refine XS.iinc X0.here hx rfl (hb hby d_ioc_25) rfl (l' := #[.val (.ref b1), .val (.int p2), .val (.int (0 : Int32)), .val (.int (15 : Int32)), .val (.int (p2.toInt8.toInt32)), .val (.int (1 : Int32))]) rfl ?_
      show Steps p.tables e below (s₁.setTop (mkF m 28 #[.val (.ref b1), .val (.int p2), .val (.int (0 : Int32)), .val (.int (15 : Int32)), .val (.int (p2.toInt8.toInt32)), .val (.int (1 : Int32))] [])) _
      refine XS.goto X0.here hx rfl (pc0 := 28) (pc' := 7) rfl (hb hby d_ioc_28) (by decide) (by decide) ?_
      show Steps p.tables e below (s₁.setTop (mkF m 7 #[.val (.ref b1), .val (.int p2), .val (.int (0 : Int32)), .val (.int (15 : Int32)), .val (.int (p2.toInt8.toInt32)), .val (.int (1 : Int32))] [])) _
      refine XS.iload X0.here hx rfl (hb hby d_ioc_7) rfl ?_
      show Steps p.tables e below (s₁.setTop (mkF m 9 #[.val (.ref b1), .val (.int p2), .val (.int (0 : Int32)), .val (.int (15 : Int32)), .val (.int (p2.toInt8.toInt32)), .val (.int (1 : Int32))] [(.int (1 : Int32))])) _
      refine XS.iloadN X0.here hx rfl (hb hby d_ioc_9) rfl ?_
      show Steps p.tables e below (s₁.setTop (mkF m 10 #[.val (.ref b1), .val (.int p2), .val (.int (0 : Int32)), .val (.int (15 : Int32)), .val (.int (p2.toInt8.toInt32)), .val (.int (1 : Int32))] [(.int (15 : Int32)), (.int (1 : Int32))])) _
      refine XS.icmpNo X0.here hx rfl (hb hby d_ioc_10) rfl (tlt (by decide : (1 : Int32) < (15 : Int32))).2.1 ?_
      show Steps p.tables e below (s₁.setTop (mkF m 13 #[.val (.ref b1), .val (.int p2), .val (.int (0 : Int32)), .val (.int (15 : Int32)), .val (.int (p2.toInt8.toInt32)), .val (.int (1 : Int32))] [])) _
      refine XS.aloadN X0.here hx rfl (hb hby d_ioc_13) rfl rfl ?_
      show Steps p.tables e below (s₁.setTop (mkF m 14 #[.val (.ref b1), .val (.int p2), .val (.int (0 : Int32)), .val (.int (15 : Int32)), .val (.int (p2.toInt8.toInt32)), .val (.int (1 : Int32))] [(.ref b1)])) _
      refine XS.iload X0.here hx rfl (hb hby d_ioc_14) rfl ?_
      show Steps p.tables e below (s₁.setTop (mkF m 16 #[.val (.ref b1), .val (.int p2), .val (.int (0 : Int32)), .val (.int (15 : Int32)), .val (.int (p2.toInt8.toInt32)), .val (.int (1 : Int32))] [(.int (1 : Int32)), (.ref b1)])) _
      refine X0.baloadBytes hx (j := (1 : Int32)) (v := (.int (35 : Int32))) (by rw [e0]; exact Ar1.1) (State.isArrayOf_alike hZ.alike Ar1.2.1) Ar1.2.2 (inb_of Sz1 (j := (1 : Int32)) ⟨by decide, by decide⟩) (H1 1 (by rw [Sz1]; decide)) (g := (mkF m 16 #[.val (.ref b1), .val (.int p2), .val (.int (0 : Int32)), .val (.int (15 : Int32)), .val (.int (p2.toInt8.toInt32)), .val (.int (1 : Int32))] [(.int (1 : Int32)), (.ref b1)])) rfl rfl (hb hby d_ioc_16) _ ?_
      show Steps p.tables e below (s₁.setTop (mkF m 17 #[.val (.ref b1), .val (.int p2), .val (.int (0 : Int32)), .val (.int (15 : Int32)), .val (.int (p2.toInt8.toInt32)), .val (.int (1 : Int32))] [(.int (35 : Int32))])) _
      refine XS.iload X0.here hx rfl (hb hby d_ioc_17) rfl ?_
      exact kt)
    by_cases hc19_3 : (35 : Int32) = (p2.toInt8.toInt32)
    · obtain ⟨fs, hr, hrun, hended, hW, hsame⟩ := X0.leave (v := some (.int (1 : Int32))) (fun h => by rw [Bd.returns] at h; cases h)
      refine ⟨_, _, pr4 _ ?_, hrun, hended, _, _, rfl, ?_, ⟨_, rfl⟩, hW, hsame.mono (by decide) (by decide)⟩
      · show Steps p.tables e below (s₁.setTop (mkF m 19 #[.val (.ref b1), .val (.int p2), .val (.int (0 : Int32)), .val (.int (15 : Int32)), .val (.int (p2.toInt8.toInt32)), .val (.int (1 : Int32))] [(.int (p2.toInt8.toInt32)), (.int (35 : Int32))])) _
        refine XS.icmpNo X0.here hx rfl (hb hby d_ioc_19) rfl (teq hc19_3).2 ?_
        show Steps p.tables e below (s₁.setTop (mkF m 22 #[.val (.ref b1), .val (.int p2), .val (.int (0 : Int32)), .val (.int (15 : Int32)), .val (.int (p2.toInt8.toInt32)), .val (.int (1 : Int32))] [])) _
        refine XS.iload X0.here hx rfl (hb hby d_ioc_22) rfl ?_
        show Steps p.tables e below (s₁.setTop (mkF m 24 #[.val (.ref b1), .val (.int p2), .val (.int (0 : Int32)), .val (.int (15 : Int32)), .val (.int (p2.toInt8.toInt32)), .val (.int (1 : Int32))] [(.int (1 : Int32))])) _
        exact retI X0 hx Bd.returns (hb hby d_ioc_24) hr
      · show Q_ioc Z b1 p2 (0 : Int32) (15 : Int32) k1 h0 n0 _ s₁.heap _
        rw [e0]
        exact ⟨(congrArg (fun zz => some (Value.int zz)) (by simp only [own_find, hc19_1, hc19_3, if_true, if_false] : (1 : Int32) = (own_find (p2.toInt8.toInt32)))), N0, rfl⟩
    · have pr6 : ∀ t, Steps p.tables e below (s₁.setTop (mkF m 19 #[.val (.ref b1), .val (.int p2), .val (.int (0 : Int32)), .val (.int (15 : Int32)), .val (.int (p2.toInt8.toInt32)), .val (.int (2 : Int32))] [(.int (p2.toInt8.toInt32)), (.int (36 : Int32))])) t → Steps p.tables e below (s₁.setTop (entryFrame m #[(.ref b1), (.int p2), (.int (0 : Int32)), (.int (15 : Int32))] 6)) t := fun t kt => pr4 t (by
        show Steps p.tables e below (s₁.setTop (mkF m 19 #[.val (.ref b1), .val (.int p2), .val (.int (0 : Int32)), .val (.int (15 : Int32)), .val (.int (p2.toInt8.toInt32)), .val (.int (1 : Int32))] [(.int (p2.toInt8.toInt32)), (.int (35 : Int32))])) _
        refine XS.icmpYes X0.here hx rfl (pc0 := 19) (pc' := 25) rfl (hb hby d_ioc_19) rfl (feq hc19_3).2 (by decide) (by decide) ?_
        show Steps p.tables e below (s₁.setTop (mkF m 25 #[.val (.ref b1), .val (.int p2), .val (.int (0 : Int32)), .val (.int (15 : Int32)), .val (.int (p2.toInt8.toInt32)), .val (.int (1 : Int32))] [])) _
        refine XS.iinc X0.here hx rfl (hb hby d_ioc_25) rfl (l' := #[.val (.ref b1), .val (.int p2), .val (.int (0 : Int32)), .val (.int (15 : Int32)), .val (.int (p2.toInt8.toInt32)), .val (.int (2 : Int32))]) rfl ?_
        show Steps p.tables e below (s₁.setTop (mkF m 28 #[.val (.ref b1), .val (.int p2), .val (.int (0 : Int32)), .val (.int (15 : Int32)), .val (.int (p2.toInt8.toInt32)), .val (.int (2 : Int32))] [])) _
        refine XS.goto X0.here hx rfl (pc0 := 28) (pc' := 7) rfl (hb hby d_ioc_28) (by decide) (by decide) ?_
        show Steps p.tables e below (s₁.setTop (mkF m 7 #[.val (.ref b1), .val (.int p2), .val (.int (0 : Int32)), .val (.int (15 : Int32)), .val (.int (p2.toInt8.toInt32)), .val (.int (2 : Int32))] [])) _
        refine XS.iload X0.here hx rfl (hb hby d_ioc_7) rfl ?_
        show Steps p.tables e below (s₁.setTop (mkF m 9 #[.val (.ref b1), .val (.int p2), .val (.int (0 : Int32)), .val (.int (15 : Int32)), .val (.int (p2.toInt8.toInt32)), .val (.int (2 : Int32))] [(.int (2 : Int32))])) _
        refine XS.iloadN X0.here hx rfl (hb hby d_ioc_9) rfl ?_
        show Steps p.tables e below (s₁.setTop (mkF m 10 #[.val (.ref b1), .val (.int p2), .val (.int (0 : Int32)), .val (.int (15 : Int32)), .val (.int (p2.toInt8.toInt32)), .val (.int (2 : Int32))] [(.int (15 : Int32)), (.int (2 : Int32))])) _
        refine XS.icmpNo X0.here hx rfl (hb hby d_ioc_10) rfl (tlt (by decide : (2 : Int32) < (15 : Int32))).2.1 ?_
        show Steps p.tables e below (s₁.setTop (mkF m 13 #[.val (.ref b1), .val (.int p2), .val (.int (0 : Int32)), .val (.int (15 : Int32)), .val (.int (p2.toInt8.toInt32)), .val (.int (2 : Int32))] [])) _
        refine XS.aloadN X0.here hx rfl (hb hby d_ioc_13) rfl rfl ?_
        show Steps p.tables e below (s₁.setTop (mkF m 14 #[.val (.ref b1), .val (.int p2), .val (.int (0 : Int32)), .val (.int (15 : Int32)), .val (.int (p2.toInt8.toInt32)), .val (.int (2 : Int32))] [(.ref b1)])) _
        refine XS.iload X0.here hx rfl (hb hby d_ioc_14) rfl ?_
        show Steps p.tables e below (s₁.setTop (mkF m 16 #[.val (.ref b1), .val (.int p2), .val (.int (0 : Int32)), .val (.int (15 : Int32)), .val (.int (p2.toInt8.toInt32)), .val (.int (2 : Int32))] [(.int (2 : Int32)), (.ref b1)])) _
        refine X0.baloadBytes hx (j := (2 : Int32)) (v := (.int (36 : Int32))) (by rw [e0]; exact Ar1.1) (State.isArrayOf_alike hZ.alike Ar1.2.1) Ar1.2.2 (inb_of Sz1 (j := (2 : Int32)) ⟨by decide, by decide⟩) (H1 2 (by rw [Sz1]; decide)) (g := (mkF m 16 #[.val (.ref b1), .val (.int p2), .val (.int (0 : Int32)), .val (.int (15 : Int32)), .val (.int (p2.toInt8.toInt32)), .val (.int (2 : Int32))] [(.int (2 : Int32)), (.ref b1)])) rfl rfl (hb hby d_ioc_16) _ ?_
        show Steps p.tables e below (s₁.setTop (mkF m 17 #[.val (.ref b1), .val (.int p2), .val (.int (0 : Int32)), .val (.int (15 : Int32)), .val (.int (p2.toInt8.toInt32)), .val (.int (2 : Int32))] [(.int (36 : Int32))])) _
        refine XS.iload X0.here hx rfl (hb hby d_ioc_17) rfl ?_
        exact kt)
      by_cases hc19_5 : (36 : Int32) = (p2.toInt8.toInt32)
      · obtain ⟨fs, hr, hrun, hended, hW, hsame⟩ := X0.leave (v := some (.int (2 : Int32))) (fun h => by rw [Bd.returns] at h; cases h)
        refine ⟨_, _, pr6 _ ?_, hrun, hended, _, _, rfl, ?_, ⟨_, rfl⟩, hW, hsame.mono (by decide) (by decide)⟩
        · show Steps p.tables e below (s₁.setTop (mkF m 19 #[.val (.ref b1), .val (.int p2), .val (.int (0 : Int32)), .val (.int (15 : Int32)), .val (.int (p2.toInt8.toInt32)), .val (.int (2 : Int32))] [(.int (p2.toInt8.toInt32)), (.int (36 : Int32))])) _
          refine XS.icmpNo X0.here hx rfl (hb hby d_ioc_19) rfl (teq hc19_5).2 ?_
          show Steps p.tables e below (s₁.setTop (mkF m 22 #[.val (.ref b1), .val (.int p2), .val (.int (0 : Int32)), .val (.int (15 : Int32)), .val (.int (p2.toInt8.toInt32)), .val (.int (2 : Int32))] [])) _
          refine XS.iload X0.here hx rfl (hb hby d_ioc_22) rfl ?_
          show Steps p.tables e below (s₁.setTop (mkF m 24 #[.val (.ref b1), .val (.int p2), .val (.int (0 : Int32)), .val (.int (15 : Int32)), .val (.int (p2.toInt8.toInt32)), .val (.int (2 : Int32))] [(.int (2 : Int32))])) _
          exact retI X0 hx Bd.returns (hb hby d_ioc_24) hr
        · show Q_ioc Z b1 p2 (0 : Int32) (15 : Int32) k1 h0 n0 _ s₁.heap _
          rw [e0]
          exact ⟨(congrArg (fun zz => some (Value.int zz)) (by simp only [own_find, hc19_1, hc19_3, hc19_5, if_true, if_false] : (2 : Int32) = (own_find (p2.toInt8.toInt32)))), N0, rfl⟩
      · have pr8 : ∀ t, Steps p.tables e below (s₁.setTop (mkF m 19 #[.val (.ref b1), .val (.int p2), .val (.int (0 : Int32)), .val (.int (15 : Int32)), .val (.int (p2.toInt8.toInt32)), .val (.int (3 : Int32))] [(.int (p2.toInt8.toInt32)), (.int (37 : Int32))])) t → Steps p.tables e below (s₁.setTop (entryFrame m #[(.ref b1), (.int p2), (.int (0 : Int32)), (.int (15 : Int32))] 6)) t := fun t kt => pr6 t (by
          show Steps p.tables e below (s₁.setTop (mkF m 19 #[.val (.ref b1), .val (.int p2), .val (.int (0 : Int32)), .val (.int (15 : Int32)), .val (.int (p2.toInt8.toInt32)), .val (.int (2 : Int32))] [(.int (p2.toInt8.toInt32)), (.int (36 : Int32))])) _
          refine XS.icmpYes X0.here hx rfl (pc0 := 19) (pc' := 25) rfl (hb hby d_ioc_19) rfl (feq hc19_5).2 (by decide) (by decide) ?_
          show Steps p.tables e below (s₁.setTop (mkF m 25 #[.val (.ref b1), .val (.int p2), .val (.int (0 : Int32)), .val (.int (15 : Int32)), .val (.int (p2.toInt8.toInt32)), .val (.int (2 : Int32))] [])) _
          refine XS.iinc X0.here hx rfl (hb hby d_ioc_25) rfl (l' := #[.val (.ref b1), .val (.int p2), .val (.int (0 : Int32)), .val (.int (15 : Int32)), .val (.int (p2.toInt8.toInt32)), .val (.int (3 : Int32))]) rfl ?_
          show Steps p.tables e below (s₁.setTop (mkF m 28 #[.val (.ref b1), .val (.int p2), .val (.int (0 : Int32)), .val (.int (15 : Int32)), .val (.int (p2.toInt8.toInt32)), .val (.int (3 : Int32))] [])) _
          refine XS.goto X0.here hx rfl (pc0 := 28) (pc' := 7) rfl (hb hby d_ioc_28) (by decide) (by decide) ?_
          show Steps p.tables e below (s₁.setTop (mkF m 7 #[.val (.ref b1), .val (.int p2), .val (.int (0 : Int32)), .val (.int (15 : Int32)), .val (.int (p2.toInt8.toInt32)), .val (.int (3 : Int32))] [])) _
          refine XS.iload X0.here hx rfl (hb hby d_ioc_7) rfl ?_
          show Steps p.tables e below (s₁.setTop (mkF m 9 #[.val (.ref b1), .val (.int p2), .val (.int (0 : Int32)), .val (.int (15 : Int32)), .val (.int (p2.toInt8.toInt32)), .val (.int (3 : Int32))] [(.int (3 : Int32))])) _
          refine XS.iloadN X0.here hx rfl (hb hby d_ioc_9) rfl ?_
          show Steps p.tables e below (s₁.setTop (mkF m 10 #[.val (.ref b1), .val (.int p2), .val (.int (0 : Int32)), .val (.int (15 : Int32)), .val (.int (p2.toInt8.toInt32)), .val (.int (3 : Int32))] [(.int (15 : Int32)), (.int (3 : Int32))])) _
          refine XS.icmpNo X0.here hx rfl (hb hby d_ioc_10) rfl (tlt (by decide : (3 : Int32) < (15 : Int32))).2.1 ?_
          show Steps p.tables e below (s₁.setTop (mkF m 13 #[.val (.ref b1), .val (.int p2), .val (.int (0 : Int32)), .val (.int (15 : Int32)), .val (.int (p2.toInt8.toInt32)), .val (.int (3 : Int32))] [])) _
          refine XS.aloadN X0.here hx rfl (hb hby d_ioc_13) rfl rfl ?_
          show Steps p.tables e below (s₁.setTop (mkF m 14 #[.val (.ref b1), .val (.int p2), .val (.int (0 : Int32)), .val (.int (15 : Int32)), .val (.int (p2.toInt8.toInt32)), .val (.int (3 : Int32))] [(.ref b1)])) _
          refine XS.iload X0.here hx rfl (hb hby d_ioc_14) rfl ?_
          show Steps p.tables e below (s₁.setTop (mkF m 16 #[.val (.ref b1), .val (.int p2), .val (.int (0 : Int32)), .val (.int (15 : Int32)), .val (.int (p2.toInt8.toInt32)), .val (.int (3 : Int32))] [(.int (3 : Int32)), (.ref b1)])) _
          refine X0.baloadBytes hx (j := (3 : Int32)) (v := (.int (37 : Int32))) (by rw [e0]; exact Ar1.1) (State.isArrayOf_alike hZ.alike Ar1.2.1) Ar1.2.2 (inb_of Sz1 (j := (3 : Int32)) ⟨by decide, by decide⟩) (H1 3 (by rw [Sz1]; decide)) (g := (mkF m 16 #[.val (.ref b1), .val (.int p2), .val (.int (0 : Int32)), .val (.int (15 : Int32)), .val (.int (p2.toInt8.toInt32)), .val (.int (3 : Int32))] [(.int (3 : Int32)), (.ref b1)])) rfl rfl (hb hby d_ioc_16) _ ?_
          show Steps p.tables e below (s₁.setTop (mkF m 17 #[.val (.ref b1), .val (.int p2), .val (.int (0 : Int32)), .val (.int (15 : Int32)), .val (.int (p2.toInt8.toInt32)), .val (.int (3 : Int32))] [(.int (37 : Int32))])) _
          refine XS.iload X0.here hx rfl (hb hby d_ioc_17) rfl ?_
          exact kt)
        by_cases hc19_7 : (37 : Int32) = (p2.toInt8.toInt32)
        · obtain ⟨fs, hr, hrun, hended, hW, hsame⟩ := X0.leave (v := some (.int (3 : Int32))) (fun h => by rw [Bd.returns] at h; cases h)
          refine ⟨_, _, pr8 _ ?_, hrun, hended, _, _, rfl, ?_, ⟨_, rfl⟩, hW, hsame.mono (by decide) (by decide)⟩
          · show Steps p.tables e below (s₁.setTop (mkF m 19 #[.val (.ref b1), .val (.int p2), .val (.int (0 : Int32)), .val (.int (15 : Int32)), .val (.int (p2.toInt8.toInt32)), .val (.int (3 : Int32))] [(.int (p2.toInt8.toInt32)), (.int (37 : Int32))])) _
            refine XS.icmpNo X0.here hx rfl (hb hby d_ioc_19) rfl (teq hc19_7).2 ?_
            show Steps p.tables e below (s₁.setTop (mkF m 22 #[.val (.ref b1), .val (.int p2), .val (.int (0 : Int32)), .val (.int (15 : Int32)), .val (.int (p2.toInt8.toInt32)), .val (.int (3 : Int32))] [])) _
            refine XS.iload X0.here hx rfl (hb hby d_ioc_22) rfl ?_
            show Steps p.tables e below (s₁.setTop (mkF m 24 #[.val (.ref b1), .val (.int p2), .val (.int (0 : Int32)), .val (.int (15 : Int32)), .val (.int (p2.toInt8.toInt32)), .val (.int (3 : Int32))] [(.int (3 : Int32))])) _
            exact retI X0 hx Bd.returns (hb hby d_ioc_24) hr
          · show Q_ioc Z b1 p2 (0 : Int32) (15 : Int32) k1 h0 n0 _ s₁.heap _
            rw [e0]
            exact ⟨(congrArg (fun zz => some (Value.int zz)) (by simp only [own_find, hc19_1, hc19_3, hc19_5, hc19_7, if_true, if_false] : (3 : Int32) = (own_find (p2.toInt8.toInt32)))), N0, rfl⟩
        · have pr10 : ∀ t, Steps p.tables e below (s₁.setTop (mkF m 19 #[.val (.ref b1), .val (.int p2), .val (.int (0 : Int32)), .val (.int (15 : Int32)), .val (.int (p2.toInt8.toInt32)), .val (.int (4 : Int32))] [(.int (p2.toInt8.toInt32)), (.int (38 : Int32))])) t → Steps p.tables e below (s₁.setTop (entryFrame m #[(.ref b1), (.int p2), (.int (0 : Int32)), (.int (15 : Int32))] 6)) t := fun t kt => pr8 t (by
            show Steps p.tables e below (s₁.setTop (mkF m 19 #[.val (.ref b1), .val (.int p2), .val (.int (0 : Int32)), .val (.int (15 : Int32)), .val (.int (p2.toInt8.toInt32)), .val (.int (3 : Int32))] [(.int (p2.toInt8.toInt32)), (.int (37 : Int32))])) _
            refine XS.icmpYes X0.here hx rfl (pc0 := 19) (pc' := 25) rfl (hb hby d_ioc_19) rfl (feq hc19_7).2 (by decide) (by decide) ?_
            show Steps p.tables e below (s₁.setTop (mkF m 25 #[.val (.ref b1), .val (.int p2), .val (.int (0 : Int32)), .val (.int (15 : Int32)), .val (.int (p2.toInt8.toInt32)), .val (.int (3 : Int32))] [])) _
            refine XS.iinc X0.here hx rfl (hb hby d_ioc_25) rfl (l' := #[.val (.ref b1), .val (.int p2), .val (.int (0 : Int32)), .val (.int (15 : Int32)), .val (.int (p2.toInt8.toInt32)), .val (.int (4 : Int32))]) rfl ?_
            show Steps p.tables e below (s₁.setTop (mkF m 28 #[.val (.ref b1), .val (.int p2), .val (.int (0 : Int32)), .val (.int (15 : Int32)), .val (.int (p2.toInt8.toInt32)), .val (.int (4 : Int32))] [])) _
            refine XS.goto X0.here hx rfl (pc0 := 28) (pc' := 7) rfl (hb hby d_ioc_28) (by decide) (by decide) ?_
            show Steps p.tables e below (s₁.setTop (mkF m 7 #[.val (.ref b1), .val (.int p2), .val (.int (0 : Int32)), .val (.int (15 : Int32)), .val (.int (p2.toInt8.toInt32)), .val (.int (4 : Int32))] [])) _
            refine XS.iload X0.here hx rfl (hb hby d_ioc_7) rfl ?_
            show Steps p.tables e below (s₁.setTop (mkF m 9 #[.val (.ref b1), .val (.int p2), .val (.int (0 : Int32)), .val (.int (15 : Int32)), .val (.int (p2.toInt8.toInt32)), .val (.int (4 : Int32))] [(.int (4 : Int32))])) _
            refine XS.iloadN X0.here hx rfl (hb hby d_ioc_9) rfl ?_
            show Steps p.tables e below (s₁.setTop (mkF m 10 #[.val (.ref b1), .val (.int p2), .val (.int (0 : Int32)), .val (.int (15 : Int32)), .val (.int (p2.toInt8.toInt32)), .val (.int (4 : Int32))] [(.int (15 : Int32)), (.int (4 : Int32))])) _
            refine XS.icmpNo X0.here hx rfl (hb hby d_ioc_10) rfl (tlt (by decide : (4 : Int32) < (15 : Int32))).2.1 ?_
            show Steps p.tables e below (s₁.setTop (mkF m 13 #[.val (.ref b1), .val (.int p2), .val (.int (0 : Int32)), .val (.int (15 : Int32)), .val (.int (p2.toInt8.toInt32)), .val (.int (4 : Int32))] [])) _
            refine XS.aloadN X0.here hx rfl (hb hby d_ioc_13) rfl rfl ?_
            show Steps p.tables e below (s₁.setTop (mkF m 14 #[.val (.ref b1), .val (.int p2), .val (.int (0 : Int32)), .val (.int (15 : Int32)), .val (.int (p2.toInt8.toInt32)), .val (.int (4 : Int32))] [(.ref b1)])) _
            refine XS.iload X0.here hx rfl (hb hby d_ioc_14) rfl ?_
            show Steps p.tables e below (s₁.setTop (mkF m 16 #[.val (.ref b1), .val (.int p2), .val (.int (0 : Int32)), .val (.int (15 : Int32)), .val (.int (p2.toInt8.toInt32)), .val (.int (4 : Int32))] [(.int (4 : Int32)), (.ref b1)])) _
            refine X0.baloadBytes hx (j := (4 : Int32)) (v := (.int (38 : Int32))) (by rw [e0]; exact Ar1.1) (State.isArrayOf_alike hZ.alike Ar1.2.1) Ar1.2.2 (inb_of Sz1 (j := (4 : Int32)) ⟨by decide, by decide⟩) (H1 4 (by rw [Sz1]; decide)) (g := (mkF m 16 #[.val (.ref b1), .val (.int p2), .val (.int (0 : Int32)), .val (.int (15 : Int32)), .val (.int (p2.toInt8.toInt32)), .val (.int (4 : Int32))] [(.int (4 : Int32)), (.ref b1)])) rfl rfl (hb hby d_ioc_16) _ ?_
            show Steps p.tables e below (s₁.setTop (mkF m 17 #[.val (.ref b1), .val (.int p2), .val (.int (0 : Int32)), .val (.int (15 : Int32)), .val (.int (p2.toInt8.toInt32)), .val (.int (4 : Int32))] [(.int (38 : Int32))])) _
            refine XS.iload X0.here hx rfl (hb hby d_ioc_17) rfl ?_
            exact kt)
          by_cases hc19_9 : (38 : Int32) = (p2.toInt8.toInt32)
          · obtain ⟨fs, hr, hrun, hended, hW, hsame⟩ := X0.leave (v := some (.int (4 : Int32))) (fun h => by rw [Bd.returns] at h; cases h)
            refine ⟨_, _, pr10 _ ?_, hrun, hended, _, _, rfl, ?_, ⟨_, rfl⟩, hW, hsame.mono (by decide) (by decide)⟩
            · show Steps p.tables e below (s₁.setTop (mkF m 19 #[.val (.ref b1), .val (.int p2), .val (.int (0 : Int32)), .val (.int (15 : Int32)), .val (.int (p2.toInt8.toInt32)), .val (.int (4 : Int32))] [(.int (p2.toInt8.toInt32)), (.int (38 : Int32))])) _
              refine XS.icmpNo X0.here hx rfl (hb hby d_ioc_19) rfl (teq hc19_9).2 ?_
              show Steps p.tables e below (s₁.setTop (mkF m 22 #[.val (.ref b1), .val (.int p2), .val (.int (0 : Int32)), .val (.int (15 : Int32)), .val (.int (p2.toInt8.toInt32)), .val (.int (4 : Int32))] [])) _
              refine XS.iload X0.here hx rfl (hb hby d_ioc_22) rfl ?_
              show Steps p.tables e below (s₁.setTop (mkF m 24 #[.val (.ref b1), .val (.int p2), .val (.int (0 : Int32)), .val (.int (15 : Int32)), .val (.int (p2.toInt8.toInt32)), .val (.int (4 : Int32))] [(.int (4 : Int32))])) _
              exact retI X0 hx Bd.returns (hb hby d_ioc_24) hr
            · show Q_ioc Z b1 p2 (0 : Int32) (15 : Int32) k1 h0 n0 _ s₁.heap _
              rw [e0]
              exact ⟨(congrArg (fun zz => some (Value.int zz)) (by simp only [own_find, hc19_1, hc19_3, hc19_5, hc19_7, hc19_9, if_true, if_false] : (4 : Int32) = (own_find (p2.toInt8.toInt32)))), N0, rfl⟩
          · have pr12 : ∀ t, Steps p.tables e below (s₁.setTop (mkF m 19 #[.val (.ref b1), .val (.int p2), .val (.int (0 : Int32)), .val (.int (15 : Int32)), .val (.int (p2.toInt8.toInt32)), .val (.int (5 : Int32))] [(.int (p2.toInt8.toInt32)), (.int (39 : Int32))])) t → Steps p.tables e below (s₁.setTop (entryFrame m #[(.ref b1), (.int p2), (.int (0 : Int32)), (.int (15 : Int32))] 6)) t := fun t kt => pr10 t (by
              show Steps p.tables e below (s₁.setTop (mkF m 19 #[.val (.ref b1), .val (.int p2), .val (.int (0 : Int32)), .val (.int (15 : Int32)), .val (.int (p2.toInt8.toInt32)), .val (.int (4 : Int32))] [(.int (p2.toInt8.toInt32)), (.int (38 : Int32))])) _
              refine XS.icmpYes X0.here hx rfl (pc0 := 19) (pc' := 25) rfl (hb hby d_ioc_19) rfl (feq hc19_9).2 (by decide) (by decide) ?_
              show Steps p.tables e below (s₁.setTop (mkF m 25 #[.val (.ref b1), .val (.int p2), .val (.int (0 : Int32)), .val (.int (15 : Int32)), .val (.int (p2.toInt8.toInt32)), .val (.int (4 : Int32))] [])) _
              refine XS.iinc X0.here hx rfl (hb hby d_ioc_25) rfl (l' := #[.val (.ref b1), .val (.int p2), .val (.int (0 : Int32)), .val (.int (15 : Int32)), .val (.int (p2.toInt8.toInt32)), .val (.int (5 : Int32))]) rfl ?_
              show Steps p.tables e below (s₁.setTop (mkF m 28 #[.val (.ref b1), .val (.int p2), .val (.int (0 : Int32)), .val (.int (15 : Int32)), .val (.int (p2.toInt8.toInt32)), .val (.int (5 : Int32))] [])) _
              refine XS.goto X0.here hx rfl (pc0 := 28) (pc' := 7) rfl (hb hby d_ioc_28) (by decide) (by decide) ?_
              show Steps p.tables e below (s₁.setTop (mkF m 7 #[.val (.ref b1), .val (.int p2), .val (.int (0 : Int32)), .val (.int (15 : Int32)), .val (.int (p2.toInt8.toInt32)), .val (.int (5 : Int32))] [])) _
              refine XS.iload X0.here hx rfl (hb hby d_ioc_7) rfl ?_
              show Steps p.tables e below (s₁.setTop (mkF m 9 #[.val (.ref b1), .val (.int p2), .val (.int (0 : Int32)), .val (.int (15 : Int32)), .val (.int (p2.toInt8.toInt32)), .val (.int (5 : Int32))] [(.int (5 : Int32))])) _
              refine XS.iloadN X0.here hx rfl (hb hby d_ioc_9) rfl ?_
              show Steps p.tables e below (s₁.setTop (mkF m 10 #[.val (.ref b1), .val (.int p2), .val (.int (0 : Int32)), .val (.int (15 : Int32)), .val (.int (p2.toInt8.toInt32)), .val (.int (5 : Int32))] [(.int (15 : Int32)), (.int (5 : Int32))])) _
              refine XS.icmpNo X0.here hx rfl (hb hby d_ioc_10) rfl (tlt (by decide : (5 : Int32) < (15 : Int32))).2.1 ?_
              show Steps p.tables e below (s₁.setTop (mkF m 13 #[.val (.ref b1), .val (.int p2), .val (.int (0 : Int32)), .val (.int (15 : Int32)), .val (.int (p2.toInt8.toInt32)), .val (.int (5 : Int32))] [])) _
              refine XS.aloadN X0.here hx rfl (hb hby d_ioc_13) rfl rfl ?_
              show Steps p.tables e below (s₁.setTop (mkF m 14 #[.val (.ref b1), .val (.int p2), .val (.int (0 : Int32)), .val (.int (15 : Int32)), .val (.int (p2.toInt8.toInt32)), .val (.int (5 : Int32))] [(.ref b1)])) _
              refine XS.iload X0.here hx rfl (hb hby d_ioc_14) rfl ?_
              show Steps p.tables e below (s₁.setTop (mkF m 16 #[.val (.ref b1), .val (.int p2), .val (.int (0 : Int32)), .val (.int (15 : Int32)), .val (.int (p2.toInt8.toInt32)), .val (.int (5 : Int32))] [(.int (5 : Int32)), (.ref b1)])) _
              refine X0.baloadBytes hx (j := (5 : Int32)) (v := (.int (39 : Int32))) (by rw [e0]; exact Ar1.1) (State.isArrayOf_alike hZ.alike Ar1.2.1) Ar1.2.2 (inb_of Sz1 (j := (5 : Int32)) ⟨by decide, by decide⟩) (H1 5 (by rw [Sz1]; decide)) (g := (mkF m 16 #[.val (.ref b1), .val (.int p2), .val (.int (0 : Int32)), .val (.int (15 : Int32)), .val (.int (p2.toInt8.toInt32)), .val (.int (5 : Int32))] [(.int (5 : Int32)), (.ref b1)])) rfl rfl (hb hby d_ioc_16) _ ?_
              show Steps p.tables e below (s₁.setTop (mkF m 17 #[.val (.ref b1), .val (.int p2), .val (.int (0 : Int32)), .val (.int (15 : Int32)), .val (.int (p2.toInt8.toInt32)), .val (.int (5 : Int32))] [(.int (39 : Int32))])) _
              refine XS.iload X0.here hx rfl (hb hby d_ioc_17) rfl ?_
              exact kt)
            by_cases hc19_11 : (39 : Int32) = (p2.toInt8.toInt32)
            · obtain ⟨fs, hr, hrun, hended, hW, hsame⟩ := X0.leave (v := some (.int (5 : Int32))) (fun h => by rw [Bd.returns] at h; cases h)
              refine ⟨_, _, pr12 _ ?_, hrun, hended, _, _, rfl, ?_, ⟨_, rfl⟩, hW, hsame.mono (by decide) (by decide)⟩
              · show Steps p.tables e below (s₁.setTop (mkF m 19 #[.val (.ref b1), .val (.int p2), .val (.int (0 : Int32)), .val (.int (15 : Int32)), .val (.int (p2.toInt8.toInt32)), .val (.int (5 : Int32))] [(.int (p2.toInt8.toInt32)), (.int (39 : Int32))])) _
                refine XS.icmpNo X0.here hx rfl (hb hby d_ioc_19) rfl (teq hc19_11).2 ?_
                show Steps p.tables e below (s₁.setTop (mkF m 22 #[.val (.ref b1), .val (.int p2), .val (.int (0 : Int32)), .val (.int (15 : Int32)), .val (.int (p2.toInt8.toInt32)), .val (.int (5 : Int32))] [])) _
                refine XS.iload X0.here hx rfl (hb hby d_ioc_22) rfl ?_
                show Steps p.tables e below (s₁.setTop (mkF m 24 #[.val (.ref b1), .val (.int p2), .val (.int (0 : Int32)), .val (.int (15 : Int32)), .val (.int (p2.toInt8.toInt32)), .val (.int (5 : Int32))] [(.int (5 : Int32))])) _
                exact retI X0 hx Bd.returns (hb hby d_ioc_24) hr
              · show Q_ioc Z b1 p2 (0 : Int32) (15 : Int32) k1 h0 n0 _ s₁.heap _
                rw [e0]
                exact ⟨(congrArg (fun zz => some (Value.int zz)) (by simp only [own_find, hc19_1, hc19_3, hc19_5, hc19_7, hc19_9, hc19_11, if_true, if_false] : (5 : Int32) = (own_find (p2.toInt8.toInt32)))), N0, rfl⟩
            · have pr14 : ∀ t, Steps p.tables e below (s₁.setTop (mkF m 19 #[.val (.ref b1), .val (.int p2), .val (.int (0 : Int32)), .val (.int (15 : Int32)), .val (.int (p2.toInt8.toInt32)), .val (.int (6 : Int32))] [(.int (p2.toInt8.toInt32)), (.int (42 : Int32))])) t → Steps p.tables e below (s₁.setTop (entryFrame m #[(.ref b1), (.int p2), (.int (0 : Int32)), (.int (15 : Int32))] 6)) t := fun t kt => pr12 t (by
                show Steps p.tables e below (s₁.setTop (mkF m 19 #[.val (.ref b1), .val (.int p2), .val (.int (0 : Int32)), .val (.int (15 : Int32)), .val (.int (p2.toInt8.toInt32)), .val (.int (5 : Int32))] [(.int (p2.toInt8.toInt32)), (.int (39 : Int32))])) _
                refine XS.icmpYes X0.here hx rfl (pc0 := 19) (pc' := 25) rfl (hb hby d_ioc_19) rfl (feq hc19_11).2 (by decide) (by decide) ?_
                show Steps p.tables e below (s₁.setTop (mkF m 25 #[.val (.ref b1), .val (.int p2), .val (.int (0 : Int32)), .val (.int (15 : Int32)), .val (.int (p2.toInt8.toInt32)), .val (.int (5 : Int32))] [])) _
                refine XS.iinc X0.here hx rfl (hb hby d_ioc_25) rfl (l' := #[.val (.ref b1), .val (.int p2), .val (.int (0 : Int32)), .val (.int (15 : Int32)), .val (.int (p2.toInt8.toInt32)), .val (.int (6 : Int32))]) rfl ?_
                show Steps p.tables e below (s₁.setTop (mkF m 28 #[.val (.ref b1), .val (.int p2), .val (.int (0 : Int32)), .val (.int (15 : Int32)), .val (.int (p2.toInt8.toInt32)), .val (.int (6 : Int32))] [])) _
                refine XS.goto X0.here hx rfl (pc0 := 28) (pc' := 7) rfl (hb hby d_ioc_28) (by decide) (by decide) ?_
                show Steps p.tables e below (s₁.setTop (mkF m 7 #[.val (.ref b1), .val (.int p2), .val (.int (0 : Int32)), .val (.int (15 : Int32)), .val (.int (p2.toInt8.toInt32)), .val (.int (6 : Int32))] [])) _
                refine XS.iload X0.here hx rfl (hb hby d_ioc_7) rfl ?_
                show Steps p.tables e below (s₁.setTop (mkF m 9 #[.val (.ref b1), .val (.int p2), .val (.int (0 : Int32)), .val (.int (15 : Int32)), .val (.int (p2.toInt8.toInt32)), .val (.int (6 : Int32))] [(.int (6 : Int32))])) _
                refine XS.iloadN X0.here hx rfl (hb hby d_ioc_9) rfl ?_
                show Steps p.tables e below (s₁.setTop (mkF m 10 #[.val (.ref b1), .val (.int p2), .val (.int (0 : Int32)), .val (.int (15 : Int32)), .val (.int (p2.toInt8.toInt32)), .val (.int (6 : Int32))] [(.int (15 : Int32)), (.int (6 : Int32))])) _
                refine XS.icmpNo X0.here hx rfl (hb hby d_ioc_10) rfl (tlt (by decide : (6 : Int32) < (15 : Int32))).2.1 ?_
                show Steps p.tables e below (s₁.setTop (mkF m 13 #[.val (.ref b1), .val (.int p2), .val (.int (0 : Int32)), .val (.int (15 : Int32)), .val (.int (p2.toInt8.toInt32)), .val (.int (6 : Int32))] [])) _
                refine XS.aloadN X0.here hx rfl (hb hby d_ioc_13) rfl rfl ?_
                show Steps p.tables e below (s₁.setTop (mkF m 14 #[.val (.ref b1), .val (.int p2), .val (.int (0 : Int32)), .val (.int (15 : Int32)), .val (.int (p2.toInt8.toInt32)), .val (.int (6 : Int32))] [(.ref b1)])) _
                refine XS.iload X0.here hx rfl (hb hby d_ioc_14) rfl ?_
                show Steps p.tables e below (s₁.setTop (mkF m 16 #[.val (.ref b1), .val (.int p2), .val (.int (0 : Int32)), .val (.int (15 : Int32)), .val (.int (p2.toInt8.toInt32)), .val (.int (6 : Int32))] [(.int (6 : Int32)), (.ref b1)])) _
                refine X0.baloadBytes hx (j := (6 : Int32)) (v := (.int (42 : Int32))) (by rw [e0]; exact Ar1.1) (State.isArrayOf_alike hZ.alike Ar1.2.1) Ar1.2.2 (inb_of Sz1 (j := (6 : Int32)) ⟨by decide, by decide⟩) (H1 6 (by rw [Sz1]; decide)) (g := (mkF m 16 #[.val (.ref b1), .val (.int p2), .val (.int (0 : Int32)), .val (.int (15 : Int32)), .val (.int (p2.toInt8.toInt32)), .val (.int (6 : Int32))] [(.int (6 : Int32)), (.ref b1)])) rfl rfl (hb hby d_ioc_16) _ ?_
                show Steps p.tables e below (s₁.setTop (mkF m 17 #[.val (.ref b1), .val (.int p2), .val (.int (0 : Int32)), .val (.int (15 : Int32)), .val (.int (p2.toInt8.toInt32)), .val (.int (6 : Int32))] [(.int (42 : Int32))])) _
                refine XS.iload X0.here hx rfl (hb hby d_ioc_17) rfl ?_
                exact kt)
              by_cases hc19_13 : (42 : Int32) = (p2.toInt8.toInt32)
              · obtain ⟨fs, hr, hrun, hended, hW, hsame⟩ := X0.leave (v := some (.int (6 : Int32))) (fun h => by rw [Bd.returns] at h; cases h)
                refine ⟨_, _, pr14 _ ?_, hrun, hended, _, _, rfl, ?_, ⟨_, rfl⟩, hW, hsame.mono (by decide) (by decide)⟩
                · show Steps p.tables e below (s₁.setTop (mkF m 19 #[.val (.ref b1), .val (.int p2), .val (.int (0 : Int32)), .val (.int (15 : Int32)), .val (.int (p2.toInt8.toInt32)), .val (.int (6 : Int32))] [(.int (p2.toInt8.toInt32)), (.int (42 : Int32))])) _
                  refine XS.icmpNo X0.here hx rfl (hb hby d_ioc_19) rfl (teq hc19_13).2 ?_
                  show Steps p.tables e below (s₁.setTop (mkF m 22 #[.val (.ref b1), .val (.int p2), .val (.int (0 : Int32)), .val (.int (15 : Int32)), .val (.int (p2.toInt8.toInt32)), .val (.int (6 : Int32))] [])) _
                  refine XS.iload X0.here hx rfl (hb hby d_ioc_22) rfl ?_
                  show Steps p.tables e below (s₁.setTop (mkF m 24 #[.val (.ref b1), .val (.int p2), .val (.int (0 : Int32)), .val (.int (15 : Int32)), .val (.int (p2.toInt8.toInt32)), .val (.int (6 : Int32))] [(.int (6 : Int32))])) _
                  exact retI X0 hx Bd.returns (hb hby d_ioc_24) hr
                · show Q_ioc Z b1 p2 (0 : Int32) (15 : Int32) k1 h0 n0 _ s₁.heap _
                  rw [e0]
                  exact ⟨(congrArg (fun zz => some (Value.int zz)) (by simp only [own_find, hc19_1, hc19_3, hc19_5, hc19_7, hc19_9, hc19_11, hc19_13, if_true, if_false] : (6 : Int32) = (own_find (p2.toInt8.toInt32)))), N0, rfl⟩
              · have pr16 : ∀ t, Steps p.tables e below (s₁.setTop (mkF m 19 #[.val (.ref b1), .val (.int p2), .val (.int (0 : Int32)), .val (.int (15 : Int32)), .val (.int (p2.toInt8.toInt32)), .val (.int (7 : Int32))] [(.int (p2.toInt8.toInt32)), (.int (43 : Int32))])) t → Steps p.tables e below (s₁.setTop (entryFrame m #[(.ref b1), (.int p2), (.int (0 : Int32)), (.int (15 : Int32))] 6)) t := fun t kt => pr14 t (by
                  show Steps p.tables e below (s₁.setTop (mkF m 19 #[.val (.ref b1), .val (.int p2), .val (.int (0 : Int32)), .val (.int (15 : Int32)), .val (.int (p2.toInt8.toInt32)), .val (.int (6 : Int32))] [(.int (p2.toInt8.toInt32)), (.int (42 : Int32))])) _
                  refine XS.icmpYes X0.here hx rfl (pc0 := 19) (pc' := 25) rfl (hb hby d_ioc_19) rfl (feq hc19_13).2 (by decide) (by decide) ?_
                  show Steps p.tables e below (s₁.setTop (mkF m 25 #[.val (.ref b1), .val (.int p2), .val (.int (0 : Int32)), .val (.int (15 : Int32)), .val (.int (p2.toInt8.toInt32)), .val (.int (6 : Int32))] [])) _
                  refine XS.iinc X0.here hx rfl (hb hby d_ioc_25) rfl (l' := #[.val (.ref b1), .val (.int p2), .val (.int (0 : Int32)), .val (.int (15 : Int32)), .val (.int (p2.toInt8.toInt32)), .val (.int (7 : Int32))]) rfl ?_
                  show Steps p.tables e below (s₁.setTop (mkF m 28 #[.val (.ref b1), .val (.int p2), .val (.int (0 : Int32)), .val (.int (15 : Int32)), .val (.int (p2.toInt8.toInt32)), .val (.int (7 : Int32))] [])) _
                  refine XS.goto X0.here hx rfl (pc0 := 28) (pc' := 7) rfl (hb hby d_ioc_28) (by decide) (by decide) ?_
                  show Steps p.tables e below (s₁.setTop (mkF m 7 #[.val (.ref b1), .val (.int p2), .val (.int (0 : Int32)), .val (.int (15 : Int32)), .val (.int (p2.toInt8.toInt32)), .val (.int (7 : Int32))] [])) _
                  refine XS.iload X0.here hx rfl (hb hby d_ioc_7) rfl ?_
                  show Steps p.tables e below (s₁.setTop (mkF m 9 #[.val (.ref b1), .val (.int p2), .val (.int (0 : Int32)), .val (.int (15 : Int32)), .val (.int (p2.toInt8.toInt32)), .val (.int (7 : Int32))] [(.int (7 : Int32))])) _
                  refine XS.iloadN X0.here hx rfl (hb hby d_ioc_9) rfl ?_
                  show Steps p.tables e below (s₁.setTop (mkF m 10 #[.val (.ref b1), .val (.int p2), .val (.int (0 : Int32)), .val (.int (15 : Int32)), .val (.int (p2.toInt8.toInt32)), .val (.int (7 : Int32))] [(.int (15 : Int32)), (.int (7 : Int32))])) _
                  refine XS.icmpNo X0.here hx rfl (hb hby d_ioc_10) rfl (tlt (by decide : (7 : Int32) < (15 : Int32))).2.1 ?_
                  show Steps p.tables e below (s₁.setTop (mkF m 13 #[.val (.ref b1), .val (.int p2), .val (.int (0 : Int32)), .val (.int (15 : Int32)), .val (.int (p2.toInt8.toInt32)), .val (.int (7 : Int32))] [])) _
                  refine XS.aloadN X0.here hx rfl (hb hby d_ioc_13) rfl rfl ?_
                  show Steps p.tables e below (s₁.setTop (mkF m 14 #[.val (.ref b1), .val (.int p2), .val (.int (0 : Int32)), .val (.int (15 : Int32)), .val (.int (p2.toInt8.toInt32)), .val (.int (7 : Int32))] [(.ref b1)])) _
                  refine XS.iload X0.here hx rfl (hb hby d_ioc_14) rfl ?_
                  show Steps p.tables e below (s₁.setTop (mkF m 16 #[.val (.ref b1), .val (.int p2), .val (.int (0 : Int32)), .val (.int (15 : Int32)), .val (.int (p2.toInt8.toInt32)), .val (.int (7 : Int32))] [(.int (7 : Int32)), (.ref b1)])) _
                  refine X0.baloadBytes hx (j := (7 : Int32)) (v := (.int (43 : Int32))) (by rw [e0]; exact Ar1.1) (State.isArrayOf_alike hZ.alike Ar1.2.1) Ar1.2.2 (inb_of Sz1 (j := (7 : Int32)) ⟨by decide, by decide⟩) (H1 7 (by rw [Sz1]; decide)) (g := (mkF m 16 #[.val (.ref b1), .val (.int p2), .val (.int (0 : Int32)), .val (.int (15 : Int32)), .val (.int (p2.toInt8.toInt32)), .val (.int (7 : Int32))] [(.int (7 : Int32)), (.ref b1)])) rfl rfl (hb hby d_ioc_16) _ ?_
                  show Steps p.tables e below (s₁.setTop (mkF m 17 #[.val (.ref b1), .val (.int p2), .val (.int (0 : Int32)), .val (.int (15 : Int32)), .val (.int (p2.toInt8.toInt32)), .val (.int (7 : Int32))] [(.int (43 : Int32))])) _
                  refine XS.iload X0.here hx rfl (hb hby d_ioc_17) rfl ?_
                  exact kt)
                by_cases hc19_15 : (43 : Int32) = (p2.toInt8.toInt32)
                · obtain ⟨fs, hr, hrun, hended, hW, hsame⟩ := X0.leave (v := some (.int (7 : Int32))) (fun h => by rw [Bd.returns] at h; cases h)
                  refine ⟨_, _, pr16 _ ?_, hrun, hended, _, _, rfl, ?_, ⟨_, rfl⟩, hW, hsame.mono (by decide) (by decide)⟩
                  · show Steps p.tables e below (s₁.setTop (mkF m 19 #[.val (.ref b1), .val (.int p2), .val (.int (0 : Int32)), .val (.int (15 : Int32)), .val (.int (p2.toInt8.toInt32)), .val (.int (7 : Int32))] [(.int (p2.toInt8.toInt32)), (.int (43 : Int32))])) _
                    refine XS.icmpNo X0.here hx rfl (hb hby d_ioc_19) rfl (teq hc19_15).2 ?_
                    show Steps p.tables e below (s₁.setTop (mkF m 22 #[.val (.ref b1), .val (.int p2), .val (.int (0 : Int32)), .val (.int (15 : Int32)), .val (.int (p2.toInt8.toInt32)), .val (.int (7 : Int32))] [])) _
                    refine XS.iload X0.here hx rfl (hb hby d_ioc_22) rfl ?_
                    show Steps p.tables e below (s₁.setTop (mkF m 24 #[.val (.ref b1), .val (.int p2), .val (.int (0 : Int32)), .val (.int (15 : Int32)), .val (.int (p2.toInt8.toInt32)), .val (.int (7 : Int32))] [(.int (7 : Int32))])) _
                    exact retI X0 hx Bd.returns (hb hby d_ioc_24) hr
                  · show Q_ioc Z b1 p2 (0 : Int32) (15 : Int32) k1 h0 n0 _ s₁.heap _
                    rw [e0]
                    exact ⟨(congrArg (fun zz => some (Value.int zz)) (by simp only [own_find, hc19_1, hc19_3, hc19_5, hc19_7, hc19_9, hc19_11, hc19_13, hc19_15, if_true, if_false] : (7 : Int32) = (own_find (p2.toInt8.toInt32)))), N0, rfl⟩
                · have pr18 : ∀ t, Steps p.tables e below (s₁.setTop (mkF m 19 #[.val (.ref b1), .val (.int p2), .val (.int (0 : Int32)), .val (.int (15 : Int32)), .val (.int (p2.toInt8.toInt32)), .val (.int (8 : Int32))] [(.int (p2.toInt8.toInt32)), (.int (45 : Int32))])) t → Steps p.tables e below (s₁.setTop (entryFrame m #[(.ref b1), (.int p2), (.int (0 : Int32)), (.int (15 : Int32))] 6)) t := fun t kt => pr16 t (by
                    show Steps p.tables e below (s₁.setTop (mkF m 19 #[.val (.ref b1), .val (.int p2), .val (.int (0 : Int32)), .val (.int (15 : Int32)), .val (.int (p2.toInt8.toInt32)), .val (.int (7 : Int32))] [(.int (p2.toInt8.toInt32)), (.int (43 : Int32))])) _
                    refine XS.icmpYes X0.here hx rfl (pc0 := 19) (pc' := 25) rfl (hb hby d_ioc_19) rfl (feq hc19_15).2 (by decide) (by decide) ?_
                    show Steps p.tables e below (s₁.setTop (mkF m 25 #[.val (.ref b1), .val (.int p2), .val (.int (0 : Int32)), .val (.int (15 : Int32)), .val (.int (p2.toInt8.toInt32)), .val (.int (7 : Int32))] [])) _
                    refine XS.iinc X0.here hx rfl (hb hby d_ioc_25) rfl (l' := #[.val (.ref b1), .val (.int p2), .val (.int (0 : Int32)), .val (.int (15 : Int32)), .val (.int (p2.toInt8.toInt32)), .val (.int (8 : Int32))]) rfl ?_
                    show Steps p.tables e below (s₁.setTop (mkF m 28 #[.val (.ref b1), .val (.int p2), .val (.int (0 : Int32)), .val (.int (15 : Int32)), .val (.int (p2.toInt8.toInt32)), .val (.int (8 : Int32))] [])) _
                    refine XS.goto X0.here hx rfl (pc0 := 28) (pc' := 7) rfl (hb hby d_ioc_28) (by decide) (by decide) ?_
                    show Steps p.tables e below (s₁.setTop (mkF m 7 #[.val (.ref b1), .val (.int p2), .val (.int (0 : Int32)), .val (.int (15 : Int32)), .val (.int (p2.toInt8.toInt32)), .val (.int (8 : Int32))] [])) _
                    refine XS.iload X0.here hx rfl (hb hby d_ioc_7) rfl ?_
                    show Steps p.tables e below (s₁.setTop (mkF m 9 #[.val (.ref b1), .val (.int p2), .val (.int (0 : Int32)), .val (.int (15 : Int32)), .val (.int (p2.toInt8.toInt32)), .val (.int (8 : Int32))] [(.int (8 : Int32))])) _
                    refine XS.iloadN X0.here hx rfl (hb hby d_ioc_9) rfl ?_
                    show Steps p.tables e below (s₁.setTop (mkF m 10 #[.val (.ref b1), .val (.int p2), .val (.int (0 : Int32)), .val (.int (15 : Int32)), .val (.int (p2.toInt8.toInt32)), .val (.int (8 : Int32))] [(.int (15 : Int32)), (.int (8 : Int32))])) _
                    refine XS.icmpNo X0.here hx rfl (hb hby d_ioc_10) rfl (tlt (by decide : (8 : Int32) < (15 : Int32))).2.1 ?_
                    show Steps p.tables e below (s₁.setTop (mkF m 13 #[.val (.ref b1), .val (.int p2), .val (.int (0 : Int32)), .val (.int (15 : Int32)), .val (.int (p2.toInt8.toInt32)), .val (.int (8 : Int32))] [])) _
                    refine XS.aloadN X0.here hx rfl (hb hby d_ioc_13) rfl rfl ?_
                    show Steps p.tables e below (s₁.setTop (mkF m 14 #[.val (.ref b1), .val (.int p2), .val (.int (0 : Int32)), .val (.int (15 : Int32)), .val (.int (p2.toInt8.toInt32)), .val (.int (8 : Int32))] [(.ref b1)])) _
                    refine XS.iload X0.here hx rfl (hb hby d_ioc_14) rfl ?_
                    show Steps p.tables e below (s₁.setTop (mkF m 16 #[.val (.ref b1), .val (.int p2), .val (.int (0 : Int32)), .val (.int (15 : Int32)), .val (.int (p2.toInt8.toInt32)), .val (.int (8 : Int32))] [(.int (8 : Int32)), (.ref b1)])) _
                    refine X0.baloadBytes hx (j := (8 : Int32)) (v := (.int (45 : Int32))) (by rw [e0]; exact Ar1.1) (State.isArrayOf_alike hZ.alike Ar1.2.1) Ar1.2.2 (inb_of Sz1 (j := (8 : Int32)) ⟨by decide, by decide⟩) (H1 8 (by rw [Sz1]; decide)) (g := (mkF m 16 #[.val (.ref b1), .val (.int p2), .val (.int (0 : Int32)), .val (.int (15 : Int32)), .val (.int (p2.toInt8.toInt32)), .val (.int (8 : Int32))] [(.int (8 : Int32)), (.ref b1)])) rfl rfl (hb hby d_ioc_16) _ ?_
                    show Steps p.tables e below (s₁.setTop (mkF m 17 #[.val (.ref b1), .val (.int p2), .val (.int (0 : Int32)), .val (.int (15 : Int32)), .val (.int (p2.toInt8.toInt32)), .val (.int (8 : Int32))] [(.int (45 : Int32))])) _
                    refine XS.iload X0.here hx rfl (hb hby d_ioc_17) rfl ?_
                    exact kt)
                  by_cases hc19_17 : (45 : Int32) = (p2.toInt8.toInt32)
                  · obtain ⟨fs, hr, hrun, hended, hW, hsame⟩ := X0.leave (v := some (.int (8 : Int32))) (fun h => by rw [Bd.returns] at h; cases h)
                    refine ⟨_, _, pr18 _ ?_, hrun, hended, _, _, rfl, ?_, ⟨_, rfl⟩, hW, hsame.mono (by decide) (by decide)⟩
                    · show Steps p.tables e below (s₁.setTop (mkF m 19 #[.val (.ref b1), .val (.int p2), .val (.int (0 : Int32)), .val (.int (15 : Int32)), .val (.int (p2.toInt8.toInt32)), .val (.int (8 : Int32))] [(.int (p2.toInt8.toInt32)), (.int (45 : Int32))])) _
                      refine XS.icmpNo X0.here hx rfl (hb hby d_ioc_19) rfl (teq hc19_17).2 ?_
                      show Steps p.tables e below (s₁.setTop (mkF m 22 #[.val (.ref b1), .val (.int p2), .val (.int (0 : Int32)), .val (.int (15 : Int32)), .val (.int (p2.toInt8.toInt32)), .val (.int (8 : Int32))] [])) _
                      refine XS.iload X0.here hx rfl (hb hby d_ioc_22) rfl ?_
                      show Steps p.tables e below (s₁.setTop (mkF m 24 #[.val (.ref b1), .val (.int p2), .val (.int (0 : Int32)), .val (.int (15 : Int32)), .val (.int (p2.toInt8.toInt32)), .val (.int (8 : Int32))] [(.int (8 : Int32))])) _
                      exact retI X0 hx Bd.returns (hb hby d_ioc_24) hr
                    · show Q_ioc Z b1 p2 (0 : Int32) (15 : Int32) k1 h0 n0 _ s₁.heap _
                      rw [e0]
                      exact ⟨(congrArg (fun zz => some (Value.int zz)) (by simp only [own_find, hc19_1, hc19_3, hc19_5, hc19_7, hc19_9, hc19_11, hc19_13, hc19_15, hc19_17, if_true, if_false] : (8 : Int32) = (own_find (p2.toInt8.toInt32)))), N0, rfl⟩
                  · have pr20 : ∀ t, Steps p.tables e below (s₁.setTop (mkF m 19 #[.val (.ref b1), .val (.int p2), .val (.int (0 : Int32)), .val (.int (15 : Int32)), .val (.int (p2.toInt8.toInt32)), .val (.int (9 : Int32))] [(.int (p2.toInt8.toInt32)), (.int (46 : Int32))])) t → Steps p.tables e below (s₁.setTop (entryFrame m #[(.ref b1), (.int p2), (.int (0 : Int32)), (.int (15 : Int32))] 6)) t := fun t kt => pr18 t (by
                      show Steps p.tables e below (s₁.setTop (mkF m 19 #[.val (.ref b1), .val (.int p2), .val (.int (0 : Int32)), .val (.int (15 : Int32)), .val (.int (p2.toInt8.toInt32)), .val (.int (8 : Int32))] [(.int (p2.toInt8.toInt32)), (.int (45 : Int32))])) _
                      refine XS.icmpYes X0.here hx rfl (pc0 := 19) (pc' := 25) rfl (hb hby d_ioc_19) rfl (feq hc19_17).2 (by decide) (by decide) ?_
                      show Steps p.tables e below (s₁.setTop (mkF m 25 #[.val (.ref b1), .val (.int p2), .val (.int (0 : Int32)), .val (.int (15 : Int32)), .val (.int (p2.toInt8.toInt32)), .val (.int (8 : Int32))] [])) _
                      refine XS.iinc X0.here hx rfl (hb hby d_ioc_25) rfl (l' := #[.val (.ref b1), .val (.int p2), .val (.int (0 : Int32)), .val (.int (15 : Int32)), .val (.int (p2.toInt8.toInt32)), .val (.int (9 : Int32))]) rfl ?_
                      show Steps p.tables e below (s₁.setTop (mkF m 28 #[.val (.ref b1), .val (.int p2), .val (.int (0 : Int32)), .val (.int (15 : Int32)), .val (.int (p2.toInt8.toInt32)), .val (.int (9 : Int32))] [])) _
                      refine XS.goto X0.here hx rfl (pc0 := 28) (pc' := 7) rfl (hb hby d_ioc_28) (by decide) (by decide) ?_
                      show Steps p.tables e below (s₁.setTop (mkF m 7 #[.val (.ref b1), .val (.int p2), .val (.int (0 : Int32)), .val (.int (15 : Int32)), .val (.int (p2.toInt8.toInt32)), .val (.int (9 : Int32))] [])) _
                      refine XS.iload X0.here hx rfl (hb hby d_ioc_7) rfl ?_
                      show Steps p.tables e below (s₁.setTop (mkF m 9 #[.val (.ref b1), .val (.int p2), .val (.int (0 : Int32)), .val (.int (15 : Int32)), .val (.int (p2.toInt8.toInt32)), .val (.int (9 : Int32))] [(.int (9 : Int32))])) _
                      refine XS.iloadN X0.here hx rfl (hb hby d_ioc_9) rfl ?_
                      show Steps p.tables e below (s₁.setTop (mkF m 10 #[.val (.ref b1), .val (.int p2), .val (.int (0 : Int32)), .val (.int (15 : Int32)), .val (.int (p2.toInt8.toInt32)), .val (.int (9 : Int32))] [(.int (15 : Int32)), (.int (9 : Int32))])) _
                      refine XS.icmpNo X0.here hx rfl (hb hby d_ioc_10) rfl (tlt (by decide : (9 : Int32) < (15 : Int32))).2.1 ?_
                      show Steps p.tables e below (s₁.setTop (mkF m 13 #[.val (.ref b1), .val (.int p2), .val (.int (0 : Int32)), .val (.int (15 : Int32)), .val (.int (p2.toInt8.toInt32)), .val (.int (9 : Int32))] [])) _
                      refine XS.aloadN X0.here hx rfl (hb hby d_ioc_13) rfl rfl ?_
                      show Steps p.tables e below (s₁.setTop (mkF m 14 #[.val (.ref b1), .val (.int p2), .val (.int (0 : Int32)), .val (.int (15 : Int32)), .val (.int (p2.toInt8.toInt32)), .val (.int (9 : Int32))] [(.ref b1)])) _
                      refine XS.iload X0.here hx rfl (hb hby d_ioc_14) rfl ?_
                      show Steps p.tables e below (s₁.setTop (mkF m 16 #[.val (.ref b1), .val (.int p2), .val (.int (0 : Int32)), .val (.int (15 : Int32)), .val (.int (p2.toInt8.toInt32)), .val (.int (9 : Int32))] [(.int (9 : Int32)), (.ref b1)])) _
                      refine X0.baloadBytes hx (j := (9 : Int32)) (v := (.int (46 : Int32))) (by rw [e0]; exact Ar1.1) (State.isArrayOf_alike hZ.alike Ar1.2.1) Ar1.2.2 (inb_of Sz1 (j := (9 : Int32)) ⟨by decide, by decide⟩) (H1 9 (by rw [Sz1]; decide)) (g := (mkF m 16 #[.val (.ref b1), .val (.int p2), .val (.int (0 : Int32)), .val (.int (15 : Int32)), .val (.int (p2.toInt8.toInt32)), .val (.int (9 : Int32))] [(.int (9 : Int32)), (.ref b1)])) rfl rfl (hb hby d_ioc_16) _ ?_
                      show Steps p.tables e below (s₁.setTop (mkF m 17 #[.val (.ref b1), .val (.int p2), .val (.int (0 : Int32)), .val (.int (15 : Int32)), .val (.int (p2.toInt8.toInt32)), .val (.int (9 : Int32))] [(.int (46 : Int32))])) _
                      refine XS.iload X0.here hx rfl (hb hby d_ioc_17) rfl ?_
                      exact kt)
                    by_cases hc19_19 : (46 : Int32) = (p2.toInt8.toInt32)
                    · obtain ⟨fs, hr, hrun, hended, hW, hsame⟩ := X0.leave (v := some (.int (9 : Int32))) (fun h => by rw [Bd.returns] at h; cases h)
                      refine ⟨_, _, pr20 _ ?_, hrun, hended, _, _, rfl, ?_, ⟨_, rfl⟩, hW, hsame.mono (by decide) (by decide)⟩
                      · show Steps p.tables e below (s₁.setTop (mkF m 19 #[.val (.ref b1), .val (.int p2), .val (.int (0 : Int32)), .val (.int (15 : Int32)), .val (.int (p2.toInt8.toInt32)), .val (.int (9 : Int32))] [(.int (p2.toInt8.toInt32)), (.int (46 : Int32))])) _
                        refine XS.icmpNo X0.here hx rfl (hb hby d_ioc_19) rfl (teq hc19_19).2 ?_
                        show Steps p.tables e below (s₁.setTop (mkF m 22 #[.val (.ref b1), .val (.int p2), .val (.int (0 : Int32)), .val (.int (15 : Int32)), .val (.int (p2.toInt8.toInt32)), .val (.int (9 : Int32))] [])) _
                        refine XS.iload X0.here hx rfl (hb hby d_ioc_22) rfl ?_
                        show Steps p.tables e below (s₁.setTop (mkF m 24 #[.val (.ref b1), .val (.int p2), .val (.int (0 : Int32)), .val (.int (15 : Int32)), .val (.int (p2.toInt8.toInt32)), .val (.int (9 : Int32))] [(.int (9 : Int32))])) _
                        exact retI X0 hx Bd.returns (hb hby d_ioc_24) hr
                      · show Q_ioc Z b1 p2 (0 : Int32) (15 : Int32) k1 h0 n0 _ s₁.heap _
                        rw [e0]
                        exact ⟨(congrArg (fun zz => some (Value.int zz)) (by simp only [own_find, hc19_1, hc19_3, hc19_5, hc19_7, hc19_9, hc19_11, hc19_13, hc19_15, hc19_17, hc19_19, if_true, if_false] : (9 : Int32) = (own_find (p2.toInt8.toInt32)))), N0, rfl⟩
                    · have pr22 : ∀ t, Steps p.tables e below (s₁.setTop (mkF m 19 #[.val (.ref b1), .val (.int p2), .val (.int (0 : Int32)), .val (.int (15 : Int32)), .val (.int (p2.toInt8.toInt32)), .val (.int (10 : Int32))] [(.int (p2.toInt8.toInt32)), (.int (94 : Int32))])) t → Steps p.tables e below (s₁.setTop (entryFrame m #[(.ref b1), (.int p2), (.int (0 : Int32)), (.int (15 : Int32))] 6)) t := fun t kt => pr20 t (by
                        show Steps p.tables e below (s₁.setTop (mkF m 19 #[.val (.ref b1), .val (.int p2), .val (.int (0 : Int32)), .val (.int (15 : Int32)), .val (.int (p2.toInt8.toInt32)), .val (.int (9 : Int32))] [(.int (p2.toInt8.toInt32)), (.int (46 : Int32))])) _
                        refine XS.icmpYes X0.here hx rfl (pc0 := 19) (pc' := 25) rfl (hb hby d_ioc_19) rfl (feq hc19_19).2 (by decide) (by decide) ?_
                        show Steps p.tables e below (s₁.setTop (mkF m 25 #[.val (.ref b1), .val (.int p2), .val (.int (0 : Int32)), .val (.int (15 : Int32)), .val (.int (p2.toInt8.toInt32)), .val (.int (9 : Int32))] [])) _
                        refine XS.iinc X0.here hx rfl (hb hby d_ioc_25) rfl (l' := #[.val (.ref b1), .val (.int p2), .val (.int (0 : Int32)), .val (.int (15 : Int32)), .val (.int (p2.toInt8.toInt32)), .val (.int (10 : Int32))]) rfl ?_
                        show Steps p.tables e below (s₁.setTop (mkF m 28 #[.val (.ref b1), .val (.int p2), .val (.int (0 : Int32)), .val (.int (15 : Int32)), .val (.int (p2.toInt8.toInt32)), .val (.int (10 : Int32))] [])) _
                        refine XS.goto X0.here hx rfl (pc0 := 28) (pc' := 7) rfl (hb hby d_ioc_28) (by decide) (by decide) ?_
                        show Steps p.tables e below (s₁.setTop (mkF m 7 #[.val (.ref b1), .val (.int p2), .val (.int (0 : Int32)), .val (.int (15 : Int32)), .val (.int (p2.toInt8.toInt32)), .val (.int (10 : Int32))] [])) _
                        refine XS.iload X0.here hx rfl (hb hby d_ioc_7) rfl ?_
                        show Steps p.tables e below (s₁.setTop (mkF m 9 #[.val (.ref b1), .val (.int p2), .val (.int (0 : Int32)), .val (.int (15 : Int32)), .val (.int (p2.toInt8.toInt32)), .val (.int (10 : Int32))] [(.int (10 : Int32))])) _
                        refine XS.iloadN X0.here hx rfl (hb hby d_ioc_9) rfl ?_
                        show Steps p.tables e below (s₁.setTop (mkF m 10 #[.val (.ref b1), .val (.int p2), .val (.int (0 : Int32)), .val (.int (15 : Int32)), .val (.int (p2.toInt8.toInt32)), .val (.int (10 : Int32))] [(.int (15 : Int32)), (.int (10 : Int32))])) _
                        refine XS.icmpNo X0.here hx rfl (hb hby d_ioc_10) rfl (tlt (by decide : (10 : Int32) < (15 : Int32))).2.1 ?_
                        show Steps p.tables e below (s₁.setTop (mkF m 13 #[.val (.ref b1), .val (.int p2), .val (.int (0 : Int32)), .val (.int (15 : Int32)), .val (.int (p2.toInt8.toInt32)), .val (.int (10 : Int32))] [])) _
                        refine XS.aloadN X0.here hx rfl (hb hby d_ioc_13) rfl rfl ?_
                        show Steps p.tables e below (s₁.setTop (mkF m 14 #[.val (.ref b1), .val (.int p2), .val (.int (0 : Int32)), .val (.int (15 : Int32)), .val (.int (p2.toInt8.toInt32)), .val (.int (10 : Int32))] [(.ref b1)])) _
                        refine XS.iload X0.here hx rfl (hb hby d_ioc_14) rfl ?_
                        show Steps p.tables e below (s₁.setTop (mkF m 16 #[.val (.ref b1), .val (.int p2), .val (.int (0 : Int32)), .val (.int (15 : Int32)), .val (.int (p2.toInt8.toInt32)), .val (.int (10 : Int32))] [(.int (10 : Int32)), (.ref b1)])) _
                        refine X0.baloadBytes hx (j := (10 : Int32)) (v := (.int (94 : Int32))) (by rw [e0]; exact Ar1.1) (State.isArrayOf_alike hZ.alike Ar1.2.1) Ar1.2.2 (inb_of Sz1 (j := (10 : Int32)) ⟨by decide, by decide⟩) (H1 10 (by rw [Sz1]; decide)) (g := (mkF m 16 #[.val (.ref b1), .val (.int p2), .val (.int (0 : Int32)), .val (.int (15 : Int32)), .val (.int (p2.toInt8.toInt32)), .val (.int (10 : Int32))] [(.int (10 : Int32)), (.ref b1)])) rfl rfl (hb hby d_ioc_16) _ ?_
                        show Steps p.tables e below (s₁.setTop (mkF m 17 #[.val (.ref b1), .val (.int p2), .val (.int (0 : Int32)), .val (.int (15 : Int32)), .val (.int (p2.toInt8.toInt32)), .val (.int (10 : Int32))] [(.int (94 : Int32))])) _
                        refine XS.iload X0.here hx rfl (hb hby d_ioc_17) rfl ?_
                        exact kt)
                      by_cases hc19_21 : (94 : Int32) = (p2.toInt8.toInt32)
                      · obtain ⟨fs, hr, hrun, hended, hW, hsame⟩ := X0.leave (v := some (.int (10 : Int32))) (fun h => by rw [Bd.returns] at h; cases h)
                        refine ⟨_, _, pr22 _ ?_, hrun, hended, _, _, rfl, ?_, ⟨_, rfl⟩, hW, hsame.mono (by decide) (by decide)⟩
                        · show Steps p.tables e below (s₁.setTop (mkF m 19 #[.val (.ref b1), .val (.int p2), .val (.int (0 : Int32)), .val (.int (15 : Int32)), .val (.int (p2.toInt8.toInt32)), .val (.int (10 : Int32))] [(.int (p2.toInt8.toInt32)), (.int (94 : Int32))])) _
                          refine XS.icmpNo X0.here hx rfl (hb hby d_ioc_19) rfl (teq hc19_21).2 ?_
                          show Steps p.tables e below (s₁.setTop (mkF m 22 #[.val (.ref b1), .val (.int p2), .val (.int (0 : Int32)), .val (.int (15 : Int32)), .val (.int (p2.toInt8.toInt32)), .val (.int (10 : Int32))] [])) _
                          refine XS.iload X0.here hx rfl (hb hby d_ioc_22) rfl ?_
                          show Steps p.tables e below (s₁.setTop (mkF m 24 #[.val (.ref b1), .val (.int p2), .val (.int (0 : Int32)), .val (.int (15 : Int32)), .val (.int (p2.toInt8.toInt32)), .val (.int (10 : Int32))] [(.int (10 : Int32))])) _
                          exact retI X0 hx Bd.returns (hb hby d_ioc_24) hr
                        · show Q_ioc Z b1 p2 (0 : Int32) (15 : Int32) k1 h0 n0 _ s₁.heap _
                          rw [e0]
                          exact ⟨(congrArg (fun zz => some (Value.int zz)) (by simp only [own_find, hc19_1, hc19_3, hc19_5, hc19_7, hc19_9, hc19_11, hc19_13, hc19_15, hc19_17, hc19_19, hc19_21, if_true, if_false] : (10 : Int32) = (own_find (p2.toInt8.toInt32)))), N0, rfl⟩
                      · have pr24 : ∀ t, Steps p.tables e below (s₁.setTop (mkF m 19 #[.val (.ref b1), .val (.int p2), .val (.int (0 : Int32)), .val (.int (15 : Int32)), .val (.int (p2.toInt8.toInt32)), .val (.int (11 : Int32))] [(.int (p2.toInt8.toInt32)), (.int (95 : Int32))])) t → Steps p.tables e below (s₁.setTop (entryFrame m #[(.ref b1), (.int p2), (.int (0 : Int32)), (.int (15 : Int32))] 6)) t := fun t kt => pr22 t (by
                          show Steps p.tables e below (s₁.setTop (mkF m 19 #[.val (.ref b1), .val (.int p2), .val (.int (0 : Int32)), .val (.int (15 : Int32)), .val (.int (p2.toInt8.toInt32)), .val (.int (10 : Int32))] [(.int (p2.toInt8.toInt32)), (.int (94 : Int32))])) _
                          refine XS.icmpYes X0.here hx rfl (pc0 := 19) (pc' := 25) rfl (hb hby d_ioc_19) rfl (feq hc19_21).2 (by decide) (by decide) ?_
                          show Steps p.tables e below (s₁.setTop (mkF m 25 #[.val (.ref b1), .val (.int p2), .val (.int (0 : Int32)), .val (.int (15 : Int32)), .val (.int (p2.toInt8.toInt32)), .val (.int (10 : Int32))] [])) _
                          refine XS.iinc X0.here hx rfl (hb hby d_ioc_25) rfl (l' := #[.val (.ref b1), .val (.int p2), .val (.int (0 : Int32)), .val (.int (15 : Int32)), .val (.int (p2.toInt8.toInt32)), .val (.int (11 : Int32))]) rfl ?_
                          show Steps p.tables e below (s₁.setTop (mkF m 28 #[.val (.ref b1), .val (.int p2), .val (.int (0 : Int32)), .val (.int (15 : Int32)), .val (.int (p2.toInt8.toInt32)), .val (.int (11 : Int32))] [])) _
                          refine XS.goto X0.here hx rfl (pc0 := 28) (pc' := 7) rfl (hb hby d_ioc_28) (by decide) (by decide) ?_
                          show Steps p.tables e below (s₁.setTop (mkF m 7 #[.val (.ref b1), .val (.int p2), .val (.int (0 : Int32)), .val (.int (15 : Int32)), .val (.int (p2.toInt8.toInt32)), .val (.int (11 : Int32))] [])) _
                          refine XS.iload X0.here hx rfl (hb hby d_ioc_7) rfl ?_
                          show Steps p.tables e below (s₁.setTop (mkF m 9 #[.val (.ref b1), .val (.int p2), .val (.int (0 : Int32)), .val (.int (15 : Int32)), .val (.int (p2.toInt8.toInt32)), .val (.int (11 : Int32))] [(.int (11 : Int32))])) _
                          refine XS.iloadN X0.here hx rfl (hb hby d_ioc_9) rfl ?_
                          show Steps p.tables e below (s₁.setTop (mkF m 10 #[.val (.ref b1), .val (.int p2), .val (.int (0 : Int32)), .val (.int (15 : Int32)), .val (.int (p2.toInt8.toInt32)), .val (.int (11 : Int32))] [(.int (15 : Int32)), (.int (11 : Int32))])) _
                          refine XS.icmpNo X0.here hx rfl (hb hby d_ioc_10) rfl (tlt (by decide : (11 : Int32) < (15 : Int32))).2.1 ?_
                          show Steps p.tables e below (s₁.setTop (mkF m 13 #[.val (.ref b1), .val (.int p2), .val (.int (0 : Int32)), .val (.int (15 : Int32)), .val (.int (p2.toInt8.toInt32)), .val (.int (11 : Int32))] [])) _
                          refine XS.aloadN X0.here hx rfl (hb hby d_ioc_13) rfl rfl ?_
                          show Steps p.tables e below (s₁.setTop (mkF m 14 #[.val (.ref b1), .val (.int p2), .val (.int (0 : Int32)), .val (.int (15 : Int32)), .val (.int (p2.toInt8.toInt32)), .val (.int (11 : Int32))] [(.ref b1)])) _
                          refine XS.iload X0.here hx rfl (hb hby d_ioc_14) rfl ?_
                          show Steps p.tables e below (s₁.setTop (mkF m 16 #[.val (.ref b1), .val (.int p2), .val (.int (0 : Int32)), .val (.int (15 : Int32)), .val (.int (p2.toInt8.toInt32)), .val (.int (11 : Int32))] [(.int (11 : Int32)), (.ref b1)])) _
                          refine X0.baloadBytes hx (j := (11 : Int32)) (v := (.int (95 : Int32))) (by rw [e0]; exact Ar1.1) (State.isArrayOf_alike hZ.alike Ar1.2.1) Ar1.2.2 (inb_of Sz1 (j := (11 : Int32)) ⟨by decide, by decide⟩) (H1 11 (by rw [Sz1]; decide)) (g := (mkF m 16 #[.val (.ref b1), .val (.int p2), .val (.int (0 : Int32)), .val (.int (15 : Int32)), .val (.int (p2.toInt8.toInt32)), .val (.int (11 : Int32))] [(.int (11 : Int32)), (.ref b1)])) rfl rfl (hb hby d_ioc_16) _ ?_
                          show Steps p.tables e below (s₁.setTop (mkF m 17 #[.val (.ref b1), .val (.int p2), .val (.int (0 : Int32)), .val (.int (15 : Int32)), .val (.int (p2.toInt8.toInt32)), .val (.int (11 : Int32))] [(.int (95 : Int32))])) _
                          refine XS.iload X0.here hx rfl (hb hby d_ioc_17) rfl ?_
                          exact kt)
                        by_cases hc19_23 : (95 : Int32) = (p2.toInt8.toInt32)
                        · obtain ⟨fs, hr, hrun, hended, hW, hsame⟩ := X0.leave (v := some (.int (11 : Int32))) (fun h => by rw [Bd.returns] at h; cases h)
                          refine ⟨_, _, pr24 _ ?_, hrun, hended, _, _, rfl, ?_, ⟨_, rfl⟩, hW, hsame.mono (by decide) (by decide)⟩
                          · show Steps p.tables e below (s₁.setTop (mkF m 19 #[.val (.ref b1), .val (.int p2), .val (.int (0 : Int32)), .val (.int (15 : Int32)), .val (.int (p2.toInt8.toInt32)), .val (.int (11 : Int32))] [(.int (p2.toInt8.toInt32)), (.int (95 : Int32))])) _
                            refine XS.icmpNo X0.here hx rfl (hb hby d_ioc_19) rfl (teq hc19_23).2 ?_
                            show Steps p.tables e below (s₁.setTop (mkF m 22 #[.val (.ref b1), .val (.int p2), .val (.int (0 : Int32)), .val (.int (15 : Int32)), .val (.int (p2.toInt8.toInt32)), .val (.int (11 : Int32))] [])) _
                            refine XS.iload X0.here hx rfl (hb hby d_ioc_22) rfl ?_
                            show Steps p.tables e below (s₁.setTop (mkF m 24 #[.val (.ref b1), .val (.int p2), .val (.int (0 : Int32)), .val (.int (15 : Int32)), .val (.int (p2.toInt8.toInt32)), .val (.int (11 : Int32))] [(.int (11 : Int32))])) _
                            exact retI X0 hx Bd.returns (hb hby d_ioc_24) hr
                          · show Q_ioc Z b1 p2 (0 : Int32) (15 : Int32) k1 h0 n0 _ s₁.heap _
                            rw [e0]
                            exact ⟨(congrArg (fun zz => some (Value.int zz)) (by simp only [own_find, hc19_1, hc19_3, hc19_5, hc19_7, hc19_9, hc19_11, hc19_13, hc19_15, hc19_17, hc19_19, hc19_21, hc19_23, if_true, if_false] : (11 : Int32) = (own_find (p2.toInt8.toInt32)))), N0, rfl⟩
                        · have pr26 : ∀ t, Steps p.tables e below (s₁.setTop (mkF m 19 #[.val (.ref b1), .val (.int p2), .val (.int (0 : Int32)), .val (.int (15 : Int32)), .val (.int (p2.toInt8.toInt32)), .val (.int (12 : Int32))] [(.int (p2.toInt8.toInt32)), (.int (96 : Int32))])) t → Steps p.tables e below (s₁.setTop (entryFrame m #[(.ref b1), (.int p2), (.int (0 : Int32)), (.int (15 : Int32))] 6)) t := fun t kt => pr24 t (by
                            show Steps p.tables e below (s₁.setTop (mkF m 19 #[.val (.ref b1), .val (.int p2), .val (.int (0 : Int32)), .val (.int (15 : Int32)), .val (.int (p2.toInt8.toInt32)), .val (.int (11 : Int32))] [(.int (p2.toInt8.toInt32)), (.int (95 : Int32))])) _
                            refine XS.icmpYes X0.here hx rfl (pc0 := 19) (pc' := 25) rfl (hb hby d_ioc_19) rfl (feq hc19_23).2 (by decide) (by decide) ?_
                            show Steps p.tables e below (s₁.setTop (mkF m 25 #[.val (.ref b1), .val (.int p2), .val (.int (0 : Int32)), .val (.int (15 : Int32)), .val (.int (p2.toInt8.toInt32)), .val (.int (11 : Int32))] [])) _
                            refine XS.iinc X0.here hx rfl (hb hby d_ioc_25) rfl (l' := #[.val (.ref b1), .val (.int p2), .val (.int (0 : Int32)), .val (.int (15 : Int32)), .val (.int (p2.toInt8.toInt32)), .val (.int (12 : Int32))]) rfl ?_
                            show Steps p.tables e below (s₁.setTop (mkF m 28 #[.val (.ref b1), .val (.int p2), .val (.int (0 : Int32)), .val (.int (15 : Int32)), .val (.int (p2.toInt8.toInt32)), .val (.int (12 : Int32))] [])) _
                            refine XS.goto X0.here hx rfl (pc0 := 28) (pc' := 7) rfl (hb hby d_ioc_28) (by decide) (by decide) ?_
                            show Steps p.tables e below (s₁.setTop (mkF m 7 #[.val (.ref b1), .val (.int p2), .val (.int (0 : Int32)), .val (.int (15 : Int32)), .val (.int (p2.toInt8.toInt32)), .val (.int (12 : Int32))] [])) _
                            refine XS.iload X0.here hx rfl (hb hby d_ioc_7) rfl ?_
                            show Steps p.tables e below (s₁.setTop (mkF m 9 #[.val (.ref b1), .val (.int p2), .val (.int (0 : Int32)), .val (.int (15 : Int32)), .val (.int (p2.toInt8.toInt32)), .val (.int (12 : Int32))] [(.int (12 : Int32))])) _
                            refine XS.iloadN X0.here hx rfl (hb hby d_ioc_9) rfl ?_
                            show Steps p.tables e below (s₁.setTop (mkF m 10 #[.val (.ref b1), .val (.int p2), .val (.int (0 : Int32)), .val (.int (15 : Int32)), .val (.int (p2.toInt8.toInt32)), .val (.int (12 : Int32))] [(.int (15 : Int32)), (.int (12 : Int32))])) _
                            refine XS.icmpNo X0.here hx rfl (hb hby d_ioc_10) rfl (tlt (by decide : (12 : Int32) < (15 : Int32))).2.1 ?_
                            show Steps p.tables e below (s₁.setTop (mkF m 13 #[.val (.ref b1), .val (.int p2), .val (.int (0 : Int32)), .val (.int (15 : Int32)), .val (.int (p2.toInt8.toInt32)), .val (.int (12 : Int32))] [])) _
                            refine XS.aloadN X0.here hx rfl (hb hby d_ioc_13) rfl rfl ?_
                            show Steps p.tables e below (s₁.setTop (mkF m 14 #[.val (.ref b1), .val (.int p2), .val (.int (0 : Int32)), .val (.int (15 : Int32)), .val (.int (p2.toInt8.toInt32)), .val (.int (12 : Int32))] [(.ref b1)])) _
                            refine XS.iload X0.here hx rfl (hb hby d_ioc_14) rfl ?_
                            show Steps p.tables e below (s₁.setTop (mkF m 16 #[.val (.ref b1), .val (.int p2), .val (.int (0 : Int32)), .val (.int (15 : Int32)), .val (.int (p2.toInt8.toInt32)), .val (.int (12 : Int32))] [(.int (12 : Int32)), (.ref b1)])) _
                            refine X0.baloadBytes hx (j := (12 : Int32)) (v := (.int (96 : Int32))) (by rw [e0]; exact Ar1.1) (State.isArrayOf_alike hZ.alike Ar1.2.1) Ar1.2.2 (inb_of Sz1 (j := (12 : Int32)) ⟨by decide, by decide⟩) (H1 12 (by rw [Sz1]; decide)) (g := (mkF m 16 #[.val (.ref b1), .val (.int p2), .val (.int (0 : Int32)), .val (.int (15 : Int32)), .val (.int (p2.toInt8.toInt32)), .val (.int (12 : Int32))] [(.int (12 : Int32)), (.ref b1)])) rfl rfl (hb hby d_ioc_16) _ ?_
                            show Steps p.tables e below (s₁.setTop (mkF m 17 #[.val (.ref b1), .val (.int p2), .val (.int (0 : Int32)), .val (.int (15 : Int32)), .val (.int (p2.toInt8.toInt32)), .val (.int (12 : Int32))] [(.int (96 : Int32))])) _
                            refine XS.iload X0.here hx rfl (hb hby d_ioc_17) rfl ?_
                            exact kt)
                          by_cases hc19_25 : (96 : Int32) = (p2.toInt8.toInt32)
                          · obtain ⟨fs, hr, hrun, hended, hW, hsame⟩ := X0.leave (v := some (.int (12 : Int32))) (fun h => by rw [Bd.returns] at h; cases h)
                            refine ⟨_, _, pr26 _ ?_, hrun, hended, _, _, rfl, ?_, ⟨_, rfl⟩, hW, hsame.mono (by decide) (by decide)⟩
                            · show Steps p.tables e below (s₁.setTop (mkF m 19 #[.val (.ref b1), .val (.int p2), .val (.int (0 : Int32)), .val (.int (15 : Int32)), .val (.int (p2.toInt8.toInt32)), .val (.int (12 : Int32))] [(.int (p2.toInt8.toInt32)), (.int (96 : Int32))])) _
                              refine XS.icmpNo X0.here hx rfl (hb hby d_ioc_19) rfl (teq hc19_25).2 ?_
                              show Steps p.tables e below (s₁.setTop (mkF m 22 #[.val (.ref b1), .val (.int p2), .val (.int (0 : Int32)), .val (.int (15 : Int32)), .val (.int (p2.toInt8.toInt32)), .val (.int (12 : Int32))] [])) _
                              refine XS.iload X0.here hx rfl (hb hby d_ioc_22) rfl ?_
                              show Steps p.tables e below (s₁.setTop (mkF m 24 #[.val (.ref b1), .val (.int p2), .val (.int (0 : Int32)), .val (.int (15 : Int32)), .val (.int (p2.toInt8.toInt32)), .val (.int (12 : Int32))] [(.int (12 : Int32))])) _
                              exact retI X0 hx Bd.returns (hb hby d_ioc_24) hr
                            · show Q_ioc Z b1 p2 (0 : Int32) (15 : Int32) k1 h0 n0 _ s₁.heap _
                              rw [e0]
                              exact ⟨(congrArg (fun zz => some (Value.int zz)) (by simp only [own_find, hc19_1, hc19_3, hc19_5, hc19_7, hc19_9, hc19_11, hc19_13, hc19_15, hc19_17, hc19_19, hc19_21, hc19_23, hc19_25, if_true, if_false] : (12 : Int32) = (own_find (p2.toInt8.toInt32)))), N0, rfl⟩
                          · have pr28 : ∀ t, Steps p.tables e below (s₁.setTop (mkF m 19 #[.val (.ref b1), .val (.int p2), .val (.int (0 : Int32)), .val (.int (15 : Int32)), .val (.int (p2.toInt8.toInt32)), .val (.int (13 : Int32))] [(.int (p2.toInt8.toInt32)), (.int (124 : Int32))])) t → Steps p.tables e below (s₁.setTop (entryFrame m #[(.ref b1), (.int p2), (.int (0 : Int32)), (.int (15 : Int32))] 6)) t := fun t kt => pr26 t (by
                              show Steps p.tables e below (s₁.setTop (mkF m 19 #[.val (.ref b1), .val (.int p2), .val (.int (0 : Int32)), .val (.int (15 : Int32)), .val (.int (p2.toInt8.toInt32)), .val (.int (12 : Int32))] [(.int (p2.toInt8.toInt32)), (.int (96 : Int32))])) _
                              refine XS.icmpYes X0.here hx rfl (pc0 := 19) (pc' := 25) rfl (hb hby d_ioc_19) rfl (feq hc19_25).2 (by decide) (by decide) ?_
                              show Steps p.tables e below (s₁.setTop (mkF m 25 #[.val (.ref b1), .val (.int p2), .val (.int (0 : Int32)), .val (.int (15 : Int32)), .val (.int (p2.toInt8.toInt32)), .val (.int (12 : Int32))] [])) _
                              refine XS.iinc X0.here hx rfl (hb hby d_ioc_25) rfl (l' := #[.val (.ref b1), .val (.int p2), .val (.int (0 : Int32)), .val (.int (15 : Int32)), .val (.int (p2.toInt8.toInt32)), .val (.int (13 : Int32))]) rfl ?_
                              show Steps p.tables e below (s₁.setTop (mkF m 28 #[.val (.ref b1), .val (.int p2), .val (.int (0 : Int32)), .val (.int (15 : Int32)), .val (.int (p2.toInt8.toInt32)), .val (.int (13 : Int32))] [])) _
                              refine XS.goto X0.here hx rfl (pc0 := 28) (pc' := 7) rfl (hb hby d_ioc_28) (by decide) (by decide) ?_
                              show Steps p.tables e below (s₁.setTop (mkF m 7 #[.val (.ref b1), .val (.int p2), .val (.int (0 : Int32)), .val (.int (15 : Int32)), .val (.int (p2.toInt8.toInt32)), .val (.int (13 : Int32))] [])) _
                              refine XS.iload X0.here hx rfl (hb hby d_ioc_7) rfl ?_
                              show Steps p.tables e below (s₁.setTop (mkF m 9 #[.val (.ref b1), .val (.int p2), .val (.int (0 : Int32)), .val (.int (15 : Int32)), .val (.int (p2.toInt8.toInt32)), .val (.int (13 : Int32))] [(.int (13 : Int32))])) _
                              refine XS.iloadN X0.here hx rfl (hb hby d_ioc_9) rfl ?_
                              show Steps p.tables e below (s₁.setTop (mkF m 10 #[.val (.ref b1), .val (.int p2), .val (.int (0 : Int32)), .val (.int (15 : Int32)), .val (.int (p2.toInt8.toInt32)), .val (.int (13 : Int32))] [(.int (15 : Int32)), (.int (13 : Int32))])) _
                              refine XS.icmpNo X0.here hx rfl (hb hby d_ioc_10) rfl (tlt (by decide : (13 : Int32) < (15 : Int32))).2.1 ?_
                              show Steps p.tables e below (s₁.setTop (mkF m 13 #[.val (.ref b1), .val (.int p2), .val (.int (0 : Int32)), .val (.int (15 : Int32)), .val (.int (p2.toInt8.toInt32)), .val (.int (13 : Int32))] [])) _
                              refine XS.aloadN X0.here hx rfl (hb hby d_ioc_13) rfl rfl ?_
                              show Steps p.tables e below (s₁.setTop (mkF m 14 #[.val (.ref b1), .val (.int p2), .val (.int (0 : Int32)), .val (.int (15 : Int32)), .val (.int (p2.toInt8.toInt32)), .val (.int (13 : Int32))] [(.ref b1)])) _
                              refine XS.iload X0.here hx rfl (hb hby d_ioc_14) rfl ?_
                              show Steps p.tables e below (s₁.setTop (mkF m 16 #[.val (.ref b1), .val (.int p2), .val (.int (0 : Int32)), .val (.int (15 : Int32)), .val (.int (p2.toInt8.toInt32)), .val (.int (13 : Int32))] [(.int (13 : Int32)), (.ref b1)])) _
                              refine X0.baloadBytes hx (j := (13 : Int32)) (v := (.int (124 : Int32))) (by rw [e0]; exact Ar1.1) (State.isArrayOf_alike hZ.alike Ar1.2.1) Ar1.2.2 (inb_of Sz1 (j := (13 : Int32)) ⟨by decide, by decide⟩) (H1 13 (by rw [Sz1]; decide)) (g := (mkF m 16 #[.val (.ref b1), .val (.int p2), .val (.int (0 : Int32)), .val (.int (15 : Int32)), .val (.int (p2.toInt8.toInt32)), .val (.int (13 : Int32))] [(.int (13 : Int32)), (.ref b1)])) rfl rfl (hb hby d_ioc_16) _ ?_
                              show Steps p.tables e below (s₁.setTop (mkF m 17 #[.val (.ref b1), .val (.int p2), .val (.int (0 : Int32)), .val (.int (15 : Int32)), .val (.int (p2.toInt8.toInt32)), .val (.int (13 : Int32))] [(.int (124 : Int32))])) _
                              refine XS.iload X0.here hx rfl (hb hby d_ioc_17) rfl ?_
                              exact kt)
                            by_cases hc19_27 : (124 : Int32) = (p2.toInt8.toInt32)
                            · obtain ⟨fs, hr, hrun, hended, hW, hsame⟩ := X0.leave (v := some (.int (13 : Int32))) (fun h => by rw [Bd.returns] at h; cases h)
                              refine ⟨_, _, pr28 _ ?_, hrun, hended, _, _, rfl, ?_, ⟨_, rfl⟩, hW, hsame.mono (by decide) (by decide)⟩
                              · show Steps p.tables e below (s₁.setTop (mkF m 19 #[.val (.ref b1), .val (.int p2), .val (.int (0 : Int32)), .val (.int (15 : Int32)), .val (.int (p2.toInt8.toInt32)), .val (.int (13 : Int32))] [(.int (p2.toInt8.toInt32)), (.int (124 : Int32))])) _
                                refine XS.icmpNo X0.here hx rfl (hb hby d_ioc_19) rfl (teq hc19_27).2 ?_
                                show Steps p.tables e below (s₁.setTop (mkF m 22 #[.val (.ref b1), .val (.int p2), .val (.int (0 : Int32)), .val (.int (15 : Int32)), .val (.int (p2.toInt8.toInt32)), .val (.int (13 : Int32))] [])) _
                                refine XS.iload X0.here hx rfl (hb hby d_ioc_22) rfl ?_
                                show Steps p.tables e below (s₁.setTop (mkF m 24 #[.val (.ref b1), .val (.int p2), .val (.int (0 : Int32)), .val (.int (15 : Int32)), .val (.int (p2.toInt8.toInt32)), .val (.int (13 : Int32))] [(.int (13 : Int32))])) _
                                exact retI X0 hx Bd.returns (hb hby d_ioc_24) hr
                              · show Q_ioc Z b1 p2 (0 : Int32) (15 : Int32) k1 h0 n0 _ s₁.heap _
                                rw [e0]
                                exact ⟨(congrArg (fun zz => some (Value.int zz)) (by simp only [own_find, hc19_1, hc19_3, hc19_5, hc19_7, hc19_9, hc19_11, hc19_13, hc19_15, hc19_17, hc19_19, hc19_21, hc19_23, hc19_25, hc19_27, if_true, if_false] : (13 : Int32) = (own_find (p2.toInt8.toInt32)))), N0, rfl⟩
                            · have pr30 : ∀ t, Steps p.tables e below (s₁.setTop (mkF m 19 #[.val (.ref b1), .val (.int p2), .val (.int (0 : Int32)), .val (.int (15 : Int32)), .val (.int (p2.toInt8.toInt32)), .val (.int (14 : Int32))] [(.int (p2.toInt8.toInt32)), (.int (126 : Int32))])) t → Steps p.tables e below (s₁.setTop (entryFrame m #[(.ref b1), (.int p2), (.int (0 : Int32)), (.int (15 : Int32))] 6)) t := fun t kt => pr28 t (by
                                show Steps p.tables e below (s₁.setTop (mkF m 19 #[.val (.ref b1), .val (.int p2), .val (.int (0 : Int32)), .val (.int (15 : Int32)), .val (.int (p2.toInt8.toInt32)), .val (.int (13 : Int32))] [(.int (p2.toInt8.toInt32)), (.int (124 : Int32))])) _
                                refine XS.icmpYes X0.here hx rfl (pc0 := 19) (pc' := 25) rfl (hb hby d_ioc_19) rfl (feq hc19_27).2 (by decide) (by decide) ?_
                                show Steps p.tables e below (s₁.setTop (mkF m 25 #[.val (.ref b1), .val (.int p2), .val (.int (0 : Int32)), .val (.int (15 : Int32)), .val (.int (p2.toInt8.toInt32)), .val (.int (13 : Int32))] [])) _
                                refine XS.iinc X0.here hx rfl (hb hby d_ioc_25) rfl (l' := #[.val (.ref b1), .val (.int p2), .val (.int (0 : Int32)), .val (.int (15 : Int32)), .val (.int (p2.toInt8.toInt32)), .val (.int (14 : Int32))]) rfl ?_
                                show Steps p.tables e below (s₁.setTop (mkF m 28 #[.val (.ref b1), .val (.int p2), .val (.int (0 : Int32)), .val (.int (15 : Int32)), .val (.int (p2.toInt8.toInt32)), .val (.int (14 : Int32))] [])) _
                                refine XS.goto X0.here hx rfl (pc0 := 28) (pc' := 7) rfl (hb hby d_ioc_28) (by decide) (by decide) ?_
                                show Steps p.tables e below (s₁.setTop (mkF m 7 #[.val (.ref b1), .val (.int p2), .val (.int (0 : Int32)), .val (.int (15 : Int32)), .val (.int (p2.toInt8.toInt32)), .val (.int (14 : Int32))] [])) _
                                refine XS.iload X0.here hx rfl (hb hby d_ioc_7) rfl ?_
                                show Steps p.tables e below (s₁.setTop (mkF m 9 #[.val (.ref b1), .val (.int p2), .val (.int (0 : Int32)), .val (.int (15 : Int32)), .val (.int (p2.toInt8.toInt32)), .val (.int (14 : Int32))] [(.int (14 : Int32))])) _
                                refine XS.iloadN X0.here hx rfl (hb hby d_ioc_9) rfl ?_
                                show Steps p.tables e below (s₁.setTop (mkF m 10 #[.val (.ref b1), .val (.int p2), .val (.int (0 : Int32)), .val (.int (15 : Int32)), .val (.int (p2.toInt8.toInt32)), .val (.int (14 : Int32))] [(.int (15 : Int32)), (.int (14 : Int32))])) _
                                refine XS.icmpNo X0.here hx rfl (hb hby d_ioc_10) rfl (tlt (by decide : (14 : Int32) < (15 : Int32))).2.1 ?_
                                show Steps p.tables e below (s₁.setTop (mkF m 13 #[.val (.ref b1), .val (.int p2), .val (.int (0 : Int32)), .val (.int (15 : Int32)), .val (.int (p2.toInt8.toInt32)), .val (.int (14 : Int32))] [])) _
                                refine XS.aloadN X0.here hx rfl (hb hby d_ioc_13) rfl rfl ?_
                                show Steps p.tables e below (s₁.setTop (mkF m 14 #[.val (.ref b1), .val (.int p2), .val (.int (0 : Int32)), .val (.int (15 : Int32)), .val (.int (p2.toInt8.toInt32)), .val (.int (14 : Int32))] [(.ref b1)])) _
                                refine XS.iload X0.here hx rfl (hb hby d_ioc_14) rfl ?_
                                show Steps p.tables e below (s₁.setTop (mkF m 16 #[.val (.ref b1), .val (.int p2), .val (.int (0 : Int32)), .val (.int (15 : Int32)), .val (.int (p2.toInt8.toInt32)), .val (.int (14 : Int32))] [(.int (14 : Int32)), (.ref b1)])) _
                                refine X0.baloadBytes hx (j := (14 : Int32)) (v := (.int (126 : Int32))) (by rw [e0]; exact Ar1.1) (State.isArrayOf_alike hZ.alike Ar1.2.1) Ar1.2.2 (inb_of Sz1 (j := (14 : Int32)) ⟨by decide, by decide⟩) (H1 14 (by rw [Sz1]; decide)) (g := (mkF m 16 #[.val (.ref b1), .val (.int p2), .val (.int (0 : Int32)), .val (.int (15 : Int32)), .val (.int (p2.toInt8.toInt32)), .val (.int (14 : Int32))] [(.int (14 : Int32)), (.ref b1)])) rfl rfl (hb hby d_ioc_16) _ ?_
                                show Steps p.tables e below (s₁.setTop (mkF m 17 #[.val (.ref b1), .val (.int p2), .val (.int (0 : Int32)), .val (.int (15 : Int32)), .val (.int (p2.toInt8.toInt32)), .val (.int (14 : Int32))] [(.int (126 : Int32))])) _
                                refine XS.iload X0.here hx rfl (hb hby d_ioc_17) rfl ?_
                                exact kt)
                              by_cases hc19_29 : (126 : Int32) = (p2.toInt8.toInt32)
                              · obtain ⟨fs, hr, hrun, hended, hW, hsame⟩ := X0.leave (v := some (.int (14 : Int32))) (fun h => by rw [Bd.returns] at h; cases h)
                                refine ⟨_, _, pr30 _ ?_, hrun, hended, _, _, rfl, ?_, ⟨_, rfl⟩, hW, hsame.mono (by decide) (by decide)⟩
                                · show Steps p.tables e below (s₁.setTop (mkF m 19 #[.val (.ref b1), .val (.int p2), .val (.int (0 : Int32)), .val (.int (15 : Int32)), .val (.int (p2.toInt8.toInt32)), .val (.int (14 : Int32))] [(.int (p2.toInt8.toInt32)), (.int (126 : Int32))])) _
                                  refine XS.icmpNo X0.here hx rfl (hb hby d_ioc_19) rfl (teq hc19_29).2 ?_
                                  show Steps p.tables e below (s₁.setTop (mkF m 22 #[.val (.ref b1), .val (.int p2), .val (.int (0 : Int32)), .val (.int (15 : Int32)), .val (.int (p2.toInt8.toInt32)), .val (.int (14 : Int32))] [])) _
                                  refine XS.iload X0.here hx rfl (hb hby d_ioc_22) rfl ?_
                                  show Steps p.tables e below (s₁.setTop (mkF m 24 #[.val (.ref b1), .val (.int p2), .val (.int (0 : Int32)), .val (.int (15 : Int32)), .val (.int (p2.toInt8.toInt32)), .val (.int (14 : Int32))] [(.int (14 : Int32))])) _
                                  exact retI X0 hx Bd.returns (hb hby d_ioc_24) hr
                                · show Q_ioc Z b1 p2 (0 : Int32) (15 : Int32) k1 h0 n0 _ s₁.heap _
                                  rw [e0]
                                  exact ⟨(congrArg (fun zz => some (Value.int zz)) (by simp only [own_find, hc19_1, hc19_3, hc19_5, hc19_7, hc19_9, hc19_11, hc19_13, hc19_15, hc19_17, hc19_19, hc19_21, hc19_23, hc19_25, hc19_27, hc19_29, if_true, if_false] : (14 : Int32) = (own_find (p2.toInt8.toInt32)))), N0, rfl⟩
                              · obtain ⟨fs, hr, hrun, hended, hW, hsame⟩ := X0.leave (v := some (.int (-1 : Int32))) (fun h => by rw [Bd.returns] at h; cases h)
                                refine ⟨_, _, pr30 _ ?_, hrun, hended, _, _, rfl, ?_, ⟨_, rfl⟩, hW, hsame.mono (by decide) (by decide)⟩
                                · show Steps p.tables e below (s₁.setTop (mkF m 19 #[.val (.ref b1), .val (.int p2), .val (.int (0 : Int32)), .val (.int (15 : Int32)), .val (.int (p2.toInt8.toInt32)), .val (.int (14 : Int32))] [(.int (p2.toInt8.toInt32)), (.int (126 : Int32))])) _
                                  refine XS.icmpYes X0.here hx rfl (pc0 := 19) (pc' := 25) rfl (hb hby d_ioc_19) rfl (feq hc19_29).2 (by decide) (by decide) ?_
                                  show Steps p.tables e below (s₁.setTop (mkF m 25 #[.val (.ref b1), .val (.int p2), .val (.int (0 : Int32)), .val (.int (15 : Int32)), .val (.int (p2.toInt8.toInt32)), .val (.int (14 : Int32))] [])) _
                                  refine XS.iinc X0.here hx rfl (hb hby d_ioc_25) rfl (l' := #[.val (.ref b1), .val (.int p2), .val (.int (0 : Int32)), .val (.int (15 : Int32)), .val (.int (p2.toInt8.toInt32)), .val (.int (15 : Int32))]) rfl ?_
                                  show Steps p.tables e below (s₁.setTop (mkF m 28 #[.val (.ref b1), .val (.int p2), .val (.int (0 : Int32)), .val (.int (15 : Int32)), .val (.int (p2.toInt8.toInt32)), .val (.int (15 : Int32))] [])) _
                                  refine XS.goto X0.here hx rfl (pc0 := 28) (pc' := 7) rfl (hb hby d_ioc_28) (by decide) (by decide) ?_
                                  show Steps p.tables e below (s₁.setTop (mkF m 7 #[.val (.ref b1), .val (.int p2), .val (.int (0 : Int32)), .val (.int (15 : Int32)), .val (.int (p2.toInt8.toInt32)), .val (.int (15 : Int32))] [])) _
                                  refine XS.iload X0.here hx rfl (hb hby d_ioc_7) rfl ?_
                                  show Steps p.tables e below (s₁.setTop (mkF m 9 #[.val (.ref b1), .val (.int p2), .val (.int (0 : Int32)), .val (.int (15 : Int32)), .val (.int (p2.toInt8.toInt32)), .val (.int (15 : Int32))] [(.int (15 : Int32))])) _
                                  refine XS.iloadN X0.here hx rfl (hb hby d_ioc_9) rfl ?_
                                  show Steps p.tables e below (s₁.setTop (mkF m 10 #[.val (.ref b1), .val (.int p2), .val (.int (0 : Int32)), .val (.int (15 : Int32)), .val (.int (p2.toInt8.toInt32)), .val (.int (15 : Int32))] [(.int (15 : Int32)), (.int (15 : Int32))])) _
                                  refine XS.icmpYes X0.here hx rfl (pc0 := 10) (pc' := 31) rfl (hb hby d_ioc_10) rfl (flt (by decide : ¬ ((15 : Int32) < (15 : Int32)))).2.1 (by decide) (by decide) ?_
                                  show Steps p.tables e below (s₁.setTop (mkF m 31 #[.val (.ref b1), .val (.int p2), .val (.int (0 : Int32)), .val (.int (15 : Int32)), .val (.int (p2.toInt8.toInt32)), .val (.int (15 : Int32))] [])) _
                                  refine XS.iconst X0.here hx rfl (hb hby d_ioc_31) ?_
                                  show Steps p.tables e below (s₁.setTop (mkF m 32 #[.val (.ref b1), .val (.int p2), .val (.int (0 : Int32)), .val (.int (15 : Int32)), .val (.int (p2.toInt8.toInt32)), .val (.int (15 : Int32))] [(.int (-1 : Int32))])) _
                                  exact retI X0 hx Bd.returns (hb hby d_ioc_32) hr
                                · show Q_ioc Z b1 p2 (0 : Int32) (15 : Int32) k1 h0 n0 _ s₁.heap _
                                  rw [e0]
                                  exact ⟨(congrArg (fun zz => some (Value.int zz)) (by simp only [own_find, hc19_1, hc19_3, hc19_5, hc19_7, hc19_9, hc19_11, hc19_13, hc19_15, hc19_17, hc19_19, hc19_21, hc19_23, hc19_25, hc19_27, hc19_29, if_true, if_false] : (-1 : Int32) = (own_find (p2.toInt8.toInt32)))), N0, rfl⟩
theorem d_six_0 : decode jdk_43_method_22_code 0 = .ok (.iload_n 1, 1) := by decide +kernel
theorem d_six_1 : decode jdk_43_method_22_code 1 = .ok (.invokestatic 88, 3) := by decide +kernel
theorem d_six_4 : decode jdk_43_method_22_code 4 = .ok (.ifCond .ne 5, 3) := by decide +kernel
theorem d_six_7 : decode jdk_43_method_22_code 7 = .ok (.iconst (-1), 1) := by decide +kernel
theorem d_six_8 : decode jdk_43_method_22_code 8 = .ok (.ireturn, 1) := by decide +kernel
theorem d_six_9 : decode jdk_43_method_22_code 9 = .ok (.iload_n 2, 1) := by decide +kernel
theorem d_six_10 : decode jdk_43_method_22_code 10 = .ok (.iconst 0, 1) := by decide +kernel
theorem d_six_11 : decode jdk_43_method_22_code 11 = .ok (.invokestatic 92, 3) := by decide +kernel
theorem d_six_14 : decode jdk_43_method_22_code 14 = .ok (.istore_n 2, 1) := by decide +kernel
theorem d_six_15 : decode jdk_43_method_22_code 15 = .ok (.iload_n 3, 1) := by decide +kernel
theorem d_six_16 : decode jdk_43_method_22_code 16 = .ok (.aload_n 0, 1) := by decide +kernel
theorem d_six_17 : decode jdk_43_method_22_code 17 = .ok (.arraylength, 1) := by decide +kernel
theorem d_six_18 : decode jdk_43_method_22_code 18 = .ok (.invokestatic 38, 3) := by decide +kernel
theorem d_six_21 : decode jdk_43_method_22_code 21 = .ok (.istore_n 3, 1) := by decide +kernel
theorem d_six_22 : decode jdk_43_method_22_code 22 = .ok (.iload_n 2, 1) := by decide +kernel
theorem d_six_23 : decode jdk_43_method_22_code 23 = .ok (.iload_n 3, 1) := by decide +kernel
theorem d_six_24 : decode jdk_43_method_22_code 24 = .ok (.if_icmp .lt 5, 3) := by decide +kernel
theorem d_six_29 : decode jdk_43_method_22_code 29 = .ok (.aload_n 0, 1) := by decide +kernel
theorem d_six_30 : decode jdk_43_method_22_code 30 = .ok (.iload_n 1, 1) := by decide +kernel
theorem d_six_31 : decode jdk_43_method_22_code 31 = .ok (.iload_n 2, 1) := by decide +kernel
theorem d_six_32 : decode jdk_43_method_22_code 32 = .ok (.iload_n 3, 1) := by decide +kernel
theorem d_six_33 : decode jdk_43_method_22_code 33 = .ok (.invokestatic 95, 3) := by decide +kernel
theorem d_six_36 : decode jdk_43_method_22_code 36 = .ok (.ireturn, 1) := by decide +kernel
theorem pn_six : plainName "java/lang/StringLatin1" = true := by first | (simp [plainName, overriddenIn]; done) | decide +kernel
theorem pd_six_0 : parseMethodDescriptor "(I)Z" = some ⟨[.int], some .boolean⟩ := by decide +kernel
theorem pd_six_1 : parseMethodDescriptor "(II)I" = some ⟨[.int, .int], some .int⟩ := by decide +kernel
theorem pd_six_2 : parseMethodDescriptor "([BIII)I" = some ⟨[(.array .byte), .int, .int, .int], some .int⟩ := by decide +kernel
theorem ef_six (m : MethodId) (b1 : Addr) (p2 : Int32) (p3 : Int32) (p4 : Int32) : entryFrame m #[(.ref b1), (.int p2), (.int p3), (.int p4)] 4 = mkF m 0 #[.val (.ref b1), .val (.int p2), .val (.int p3), .val (.int p4)] [] := by first | (simp [entryFrame, mkF, argsToLocals, Value.category]; done) | rfl
def Q_six (Z : State) (b1 : Addr) (p2 : Int32) (p3 : Int32) (p4 : Int32) (k1 : ClassId) (h0 : Heap) (n0 : Nat) (v : Option Value) (h : Heap) (L : List Loc) : Prop := v = some (.int (own_ix p2)) ∧ Fr n0 L ∧ h = h0
set_option maxRecDepth 65536 in
set_option maxHeartbeats 40000000 in
theorem rm_six (l : Launch) (Z : State) (a0 : Array Value) (hw : ∀ d ∈ tables_1, d.before a0 Z = true) (ws : List Jvm.Cond) (b1 : Addr) (p2 : Int32) (p3 : Int32) (p4 : Int32) (k1 : ClassId) (h0 : Heap) (n0 : Nat) (Z0 : n0 ≤ h0.size) (V1 : Arv Z h0 b1 k1 .byte (15 : Int32) [(.int (33 : Int32)), (.int (35 : Int32)), (.int (36 : Int32)), (.int (37 : Int32)), (.int (38 : Int32)), (.int (39 : Int32)), (.int (42 : Int32)), (.int (43 : Int32)), (.int (45 : Int32)), (.int (46 : Int32)), (.int (94 : Int32)), (.int (95 : Int32)), (.int (96 : Int32)), (.int (124 : Int32)), (.int (126 : Int32))] (.int (0 : Int32))) (h3 : p3 = (0 : Int32)) (h4 : p4 = (15 : Int32)) :
    MetFree l (⟨"java/lang/StringLatin1", "indexOf", "([BIII)I"⟩ : MethodName) (head1 (Jvm.Cond.code (⟨"java/lang/StringLatin1", "indexOf", "([BIII)I"⟩ : MethodName) jdk_43_method_22_code 4 (some .int) :: ws) ({ frames := 1, cells := 0, slots := 0, locals := 17 } : Room)) (fun a U => a = #[(.ref b1), (.int p2), (.int p3), (.int p4)] ∧ Z.Warmed39 U.vm ∧ U.heap = h0) (fun _ _ _ _ _ => True) (fun _ U o U' => ∃ v L, o = .returned v ∧ Q_six Z b1 p2 p3 p4 k1 h0 n0 v U'.heap L ∧ FrameEnd U o U' L ({ frames := 1, cells := 0, slots := 0, locals := 17 } : Room).cells ({ frames := 1, cells := 0, slots := 0, locals := 17 } : Room).slots) := by
  subst h3
  subst h4
  refine MetFree.of_bodySF (plainFor_of_name pn_six) hisR ?_
  intro p e s m args below meth c s₁ Bd hml0 hP hK
  obtain ⟨rfl, hZ, hh⟩ := hP
  have hx := Bd.exec
  have hby := Bd.bytes
  have hml : c.maxLocals = 4 := hml0
  have hown : s.vm.findClass "java/lang/StringLatin1" = some m.cls := findClass_of_methodNamed Bd.named
  have hnm := (name_of_methodNamed Bd.named Bd.method).1
  have X0 : Stand p l e ({ frames := 1, cells := 0, slots := 0, locals := 17 } : Room) s m #[(.ref b1), (.int p2), (.int (0 : Int32)), (.int (15 : Int32))] below meth c s₁ [] 0 0 := Stand.of_body Bd
  have e0 : s₁.heap = h0 := by rw [← hh, Bd.state]; rfl
  have N0 := Fr.nil n0
  have pre0 : ∀ t, Steps p.tables e below (s₁.setTop (mkF m 0 #[.val (.ref b1), .val (.int p2), .val (.int (0 : Int32)), .val (.int (15 : Int32))] [])) t → Steps p.tables e below (s₁.setTop (entryFrame m #[(.ref b1), (.int p2), (.int (0 : Int32)), (.int (15 : Int32))] 4)) t := fun t k => castTop (ef_six m b1 p2 (0 : Int32) (15 : Int32)) k
  obtain ⟨cl1, Ar1, q1, Sz1, M1, H1, G1⟩ := id V1
  have pr2 : ∀ t, Steps p.tables e below (s₁.setTop (mkF m 1 #[.val (.ref b1), .val (.int p2), .val (.int (0 : Int32)), .val (.int (15 : Int32))] [(.int p2)])) t → Steps p.tables e below (s₁.setTop (entryFrame m #[(.ref b1), (.int p2), (.int (0 : Int32)), (.int (15 : Int32))] 4)) t := fun t kt => pre0 t (by
    show Steps p.tables e below (s₁.setTop (mkF m 0 #[.val (.ref b1), .val (.int p2), .val (.int (0 : Int32)), .val (.int (15 : Int32))] [])) _
    refine XS.iloadN X0.here hx rfl (hb hby d_six_0) rfl ?_
    show Steps p.tables e below (s₁.setTop (mkF m 1 #[.val (.ref b1), .val (.int p2), .val (.int (0 : Int32)), .val (.int (15 : Int32))] [(.int p2)])) _
    exact kt)
  obtain ⟨_, _, ⟨T1, L1, k1, n1⟩, -, X1, ⟨Lc1, hQ1, l1, y1, z1⟩, st1⟩ := Jvm.LawKit.callS X0 hx (y := (⟨"java/lang/StringLatin1", "canEncode", "(I)Z"⟩ : MethodName)) hown (mvT hZ (hw _ (List.mem_of_getElem? (i := 45) rfl))) (mvT hZ (hw _ (List.mem_of_getElem? (i := 46) rfl))) (mvT hZ (hw _ (List.mem_of_getElem? (i := 43) rfl))) (mvT hZ (hw _ (List.mem_of_getElem? (i := 47) rfl))) (by decide) (backOf (W := 0) (rm_ce l Z a0 hw [] p2 h0 n0 Z0 ) hZ (hw _ (List.mem_of_getElem? (i := 47) rfl)) (hw _ (List.mem_of_getElem? (i := 43) rfl)) (by decide) (by decide)) (g := (mkF m 1 #[.val (.ref b1), .val (.int p2), .val (.int (0 : Int32)), .val (.int (15 : Int32))] [(.int p2)])) rfl (by rw [hml]; rfl) (argsL := [(.int p2)]) (rest := []) (lenOf pd_six_0 rfl) rfl (by show 2 * 0 + _ ≤ _; exact Nat.le_of_eq rfl) (hb hby d_six_1) (fun _ _ => ⟨rfl, e0, (by decide : 0 + 0 ≤ _), (by decide : 0 + 0 ≤ _)⟩)
  dsimp only [Pt.U, Pt.locs, Pt.cells, Pt.slots] at X1 l1 y1 z1 st1 hQ1
  subst l1 y1 z1
  obtain ⟨rfl, N1q, e1⟩ := hQ1
  have N1 := Fr.app N0 N1q
  have pr4 : ∀ t, Steps p.tables e below (T1.setTop (mkF m 4 #[.val (.ref b1), .val (.int p2), .val (.int (0 : Int32)), .val (.int (15 : Int32))] [(.int (own_b (own_ce p2)))])) t → Steps p.tables e below (s₁.setTop (entryFrame m #[(.ref b1), (.int p2), (.int (0 : Int32)), (.int (15 : Int32))] 4)) t := fun t kt => pr2 t (by
    refine st1 _ ?_
    exact kt)
  by_cases hc4_3 : (own_ce p2) = true
  · have pr6 : ∀ t, Steps p.tables e below (T1.setTop (mkF m 11 #[.val (.ref b1), .val (.int p2), .val (.int (0 : Int32)), .val (.int (15 : Int32))] [(.int (0 : Int32)), (.int (0 : Int32))])) t → Steps p.tables e below (s₁.setTop (entryFrame m #[(.ref b1), (.int p2), (.int (0 : Int32)), (.int (15 : Int32))] 4)) t := fun t kt => pr4 t (by
      show Steps p.tables e below (T1.setTop (mkF m 4 #[.val (.ref b1), .val (.int p2), .val (.int (0 : Int32)), .val (.int (15 : Int32))] [(.int (own_b (own_ce p2)))])) _
      refine XS.ifYes X1.here hx rfl (pc0 := 4) (pc' := 9) rfl (hb hby d_six_4) rfl ((if0 _ _).trans (feq (own_b1 hc4_3)).2) (by decide) (by decide) ?_
      show Steps p.tables e below (T1.setTop (mkF m 9 #[.val (.ref b1), .val (.int p2), .val (.int (0 : Int32)), .val (.int (15 : Int32))] [])) _
      refine XS.iloadN X1.here hx rfl (hb hby d_six_9) rfl ?_
      show Steps p.tables e below (T1.setTop (mkF m 10 #[.val (.ref b1), .val (.int p2), .val (.int (0 : Int32)), .val (.int (15 : Int32))] [(.int (0 : Int32))])) _
      refine XS.iconst X1.here hx rfl (hb hby d_six_10) ?_
      show Steps p.tables e below (T1.setTop (mkF m 11 #[.val (.ref b1), .val (.int p2), .val (.int (0 : Int32)), .val (.int (15 : Int32))] [(.int (0 : Int32)), (.int (0 : Int32))])) _
      exact kt)
    obtain ⟨_, _, ⟨T5, L5, k5, n5⟩, -, X5, ⟨Lc5, hQ5, l5, y5, z5⟩, st5⟩ := Jvm.LawKit.callS X1 hx (y := (⟨"java/lang/Math", "max", "(II)I"⟩ : MethodName)) hown (mvT hZ (hw _ (List.mem_of_getElem? (i := 48) rfl))) (mvT hZ (hw _ (List.mem_of_getElem? (i := 49) rfl))) (mvT hZ (hw _ (List.mem_of_getElem? (i := 50) rfl))) (mvT hZ (hw _ (List.mem_of_getElem? (i := 51) rfl))) (by decide) (backOf (W := 0) (rm_mx l Z a0 hw [] (0 : Int32) (0 : Int32) h0 n0 Z0 (by decide)) hZ (hw _ (List.mem_of_getElem? (i := 51) rfl)) (hw _ (List.mem_of_getElem? (i := 50) rfl)) (by decide) (by decide)) (g := (mkF m 11 #[.val (.ref b1), .val (.int p2), .val (.int (0 : Int32)), .val (.int (15 : Int32))] [(.int (0 : Int32)), (.int (0 : Int32))])) rfl (by rw [hml]; rfl) (argsL := [(.int (0 : Int32)), (.int (0 : Int32))]) (rest := []) (lenOf pd_six_1 rfl) rfl (by show 2 * 0 + _ ≤ _; exact Nat.le_of_eq rfl) (hb hby d_six_11) (fun _ _ => ⟨rfl, e1, (by decide : 0 + 0 ≤ _), (by decide : 0 + 0 ≤ _)⟩)
    dsimp only [Pt.U, Pt.locs, Pt.cells, Pt.slots] at X5 l5 y5 z5 st5 hQ5
    subst l5 y5 z5
    obtain ⟨rfl, N5q, e5⟩ := hQ5
    have N5 := Fr.app N1 N5q
    have pr8 : ∀ t, Steps p.tables e below (T5.setTop (mkF m 18 #[.val (.ref b1), .val (.int p2), .val (.int (0 : Int32)), .val (.int (15 : Int32))] [(.int (15 : Int32)), (.int (15 : Int32))])) t → Steps p.tables e below (s₁.setTop (entryFrame m #[(.ref b1), (.int p2), (.int (0 : Int32)), (.int (15 : Int32))] 4)) t := fun t kt => pr6 t (by
      refine st5 _ ?_
      show Steps p.tables e below (T5.setTop (mkF m 14 #[.val (.ref b1), .val (.int p2), .val (.int (0 : Int32)), .val (.int (15 : Int32))] [(.int (0 : Int32))])) _
      refine XS.istoreN X5.here hx rfl (hb hby d_six_14) rfl (l' := #[.val (.ref b1), .val (.int p2), .val (.int (0 : Int32)), .val (.int (15 : Int32))]) rfl ?_
      show Steps p.tables e below (T5.setTop (mkF m 15 #[.val (.ref b1), .val (.int p2), .val (.int (0 : Int32)), .val (.int (15 : Int32))] [])) _
      refine XS.iloadN X5.here hx rfl (hb hby d_six_15) rfl ?_
      show Steps p.tables e below (T5.setTop (mkF m 16 #[.val (.ref b1), .val (.int p2), .val (.int (0 : Int32)), .val (.int (15 : Int32))] [(.int (15 : Int32))])) _
      refine XS.aloadN X5.here hx rfl (hb hby d_six_16) rfl rfl ?_
      show Steps p.tables e below (T5.setTop (mkF m 17 #[.val (.ref b1), .val (.int p2), .val (.int (0 : Int32)), .val (.int (15 : Int32))] [(.ref b1), (.int (15 : Int32))])) _
      refine X5.arraylength hx (by rw [e5]; exact Ar1.1) (State.isArrayOf_alike hZ.alike Ar1.2.1) (g := (mkF m 17 #[.val (.ref b1), .val (.int p2), .val (.int (0 : Int32)), .val (.int (15 : Int32))] [(.ref b1), (.int (15 : Int32))])) rfl rfl (hb hby d_six_17) _ ?_
      rw [len_of Sz1 M1]
      show Steps p.tables e below (T5.setTop (mkF m 18 #[.val (.ref b1), .val (.int p2), .val (.int (0 : Int32)), .val (.int (15 : Int32))] [(.int (15 : Int32)), (.int (15 : Int32))])) _
      exact kt)
    obtain ⟨_, _, ⟨T7, L7, k7, n7⟩, -, X7, ⟨Lc7, hQ7, l7, y7, z7⟩, st7⟩ := Jvm.LawKit.callS X5 hx (y := (⟨"java/lang/Math", "min", "(II)I"⟩ : MethodName)) hown (mvT hZ (hw _ (List.mem_of_getElem? (i := 52) rfl))) (mvT hZ (hw _ (List.mem_of_getElem? (i := 53) rfl))) (mvT hZ (hw _ (List.mem_of_getElem? (i := 50) rfl))) (mvT hZ (hw _ (List.mem_of_getElem? (i := 54) rfl))) (by decide) (backOf (W := 0) (rm_mi l Z a0 hw [] (15 : Int32) (15 : Int32) h0 n0 Z0 (by decide)) hZ (hw _ (List.mem_of_getElem? (i := 54) rfl)) (hw _ (List.mem_of_getElem? (i := 50) rfl)) (by decide) (by decide)) (g := (mkF m 18 #[.val (.ref b1), .val (.int p2), .val (.int (0 : Int32)), .val (.int (15 : Int32))] [(.int (15 : Int32)), (.int (15 : Int32))])) rfl (by rw [hml]; rfl) (argsL := [(.int (15 : Int32)), (.int (15 : Int32))]) (rest := []) (lenOf pd_six_1 rfl) rfl (by show 2 * 0 + _ ≤ _; exact Nat.le_of_eq rfl) (hb hby d_six_18) (fun _ _ => ⟨rfl, e5, (by decide : 0 + 0 ≤ _), (by decide : 0 + 0 ≤ _)⟩)
    dsimp only [Pt.U, Pt.locs, Pt.cells, Pt.slots] at X7 l7 y7 z7 st7 hQ7
    subst l7 y7 z7
    obtain ⟨rfl, N7q, e7⟩ := hQ7
    have N7 := Fr.app N5 N7q
    have pr10 : ∀ t, Steps p.tables e below (T7.setTop (mkF m 33 #[.val (.ref b1), .val (.int p2), .val (.int (0 : Int32)), .val (.int (15 : Int32))] [(.int (15 : Int32)), (.int (0 : Int32)), (.int p2), (.ref b1)])) t → Steps p.tables e below (s₁.setTop (entryFrame m #[(.ref b1), (.int p2), (.int (0 : Int32)), (.int (15 : Int32))] 4)) t := fun t kt => pr8 t (by
      refine st7 _ ?_
      show Steps p.tables e below (T7.setTop (mkF m 21 #[.val (.ref b1), .val (.int p2), .val (.int (0 : Int32)), .val (.int (15 : Int32))] [(.int (15 : Int32))])) _
      refine XS.istoreN X7.here hx rfl (hb hby d_six_21) rfl (l' := #[.val (.ref b1), .val (.int p2), .val (.int (0 : Int32)), .val (.int (15 : Int32))]) rfl ?_
      show Steps p.tables e below (T7.setTop (mkF m 22 #[.val (.ref b1), .val (.int p2), .val (.int (0 : Int32)), .val (.int (15 : Int32))] [])) _
      refine XS.iloadN X7.here hx rfl (hb hby d_six_22) rfl ?_
      show Steps p.tables e below (T7.setTop (mkF m 23 #[.val (.ref b1), .val (.int p2), .val (.int (0 : Int32)), .val (.int (15 : Int32))] [(.int (0 : Int32))])) _
      refine XS.iloadN X7.here hx rfl (hb hby d_six_23) rfl ?_
      show Steps p.tables e below (T7.setTop (mkF m 24 #[.val (.ref b1), .val (.int p2), .val (.int (0 : Int32)), .val (.int (15 : Int32))] [(.int (15 : Int32)), (.int (0 : Int32))])) _
      refine XS.icmpYes X7.here hx rfl (pc0 := 24) (pc' := 29) rfl (hb hby d_six_24) rfl (tlt (by decide : (0 : Int32) < (15 : Int32))).1 (by decide) (by decide) ?_
      show Steps p.tables e below (T7.setTop (mkF m 29 #[.val (.ref b1), .val (.int p2), .val (.int (0 : Int32)), .val (.int (15 : Int32))] [])) _
      refine XS.aloadN X7.here hx rfl (hb hby d_six_29) rfl rfl ?_
      show Steps p.tables e below (T7.setTop (mkF m 30 #[.val (.ref b1), .val (.int p2), .val (.int (0 : Int32)), .val (.int (15 : Int32))] [(.ref b1)])) _
      refine XS.iloadN X7.here hx rfl (hb hby d_six_30) rfl ?_
      show Steps p.tables e below (T7.setTop (mkF m 31 #[.val (.ref b1), .val (.int p2), .val (.int (0 : Int32)), .val (.int (15 : Int32))] [(.int p2), (.ref b1)])) _
      refine XS.iloadN X7.here hx rfl (hb hby d_six_31) rfl ?_
      show Steps p.tables e below (T7.setTop (mkF m 32 #[.val (.ref b1), .val (.int p2), .val (.int (0 : Int32)), .val (.int (15 : Int32))] [(.int (0 : Int32)), (.int p2), (.ref b1)])) _
      refine XS.iloadN X7.here hx rfl (hb hby d_six_32) rfl ?_
      show Steps p.tables e below (T7.setTop (mkF m 33 #[.val (.ref b1), .val (.int p2), .val (.int (0 : Int32)), .val (.int (15 : Int32))] [(.int (15 : Int32)), (.int (0 : Int32)), (.int p2), (.ref b1)])) _
      exact kt)
    obtain ⟨_, _, ⟨T9, L9, k9, n9⟩, -, X9, ⟨Lc9, hQ9, l9, y9, z9⟩, st9⟩ := Jvm.LawKit.callS X7 hx (y := (⟨"java/lang/StringLatin1", "indexOfChar", "([BIII)I"⟩ : MethodName)) hown (mvT hZ (hw _ (List.mem_of_getElem? (i := 55) rfl))) (mvT hZ (hw _ (List.mem_of_getElem? (i := 56) rfl))) (mvT hZ (hw _ (List.mem_of_getElem? (i := 43) rfl))) (mvT hZ (hw _ (List.mem_of_getElem? (i := 57) rfl))) (by decide) (backOf (W := 0) (rm_ioc l Z a0 hw [] b1 p2 (0 : Int32) (15 : Int32) k1 h0 n0 Z0 V1 rfl rfl) hZ (hw _ (List.mem_of_getElem? (i := 57) rfl)) (hw _ (List.mem_of_getElem? (i := 43) rfl)) (by decide) (by decide)) (g := (mkF m 33 #[.val (.ref b1), .val (.int p2), .val (.int (0 : Int32)), .val (.int (15 : Int32))] [(.int (15 : Int32)), (.int (0 : Int32)), (.int p2), (.ref b1)])) rfl (by rw [hml]; rfl) (argsL := [(.ref b1), (.int p2), (.int (0 : Int32)), (.int (15 : Int32))]) (rest := []) (lenOf pd_six_2 rfl) rfl (by show 2 * 0 + _ ≤ _; exact Nat.le_of_eq rfl) (hb hby d_six_33) (fun _ _ => ⟨rfl, e7, (by decide : 0 + 0 ≤ _), (by decide : 0 + 0 ≤ _)⟩)
    dsimp only [Pt.U, Pt.locs, Pt.cells, Pt.slots] at X9 l9 y9 z9 st9 hQ9
    subst l9 y9 z9
    obtain ⟨rfl, N9q, e9⟩ := hQ9
    have N9 := Fr.app N7 N9q
    obtain ⟨fs, hr, hrun, hended, hW, hsame⟩ := X9.leave (v := some (.int (own_find (p2.toInt8.toInt32)))) (fun h => by rw [Bd.returns] at h; cases h)
    refine ⟨_, _, pr10 _ ?_, hrun, hended, _, _, rfl, ?_, ⟨_, rfl⟩, hW, hsame.mono (by decide) (by decide)⟩
    · refine st9 _ ?_
      show Steps p.tables e below (T9.setTop (mkF m 36 #[.val (.ref b1), .val (.int p2), .val (.int (0 : Int32)), .val (.int (15 : Int32))] [(.int (own_find (p2.toInt8.toInt32)))])) _
      exact retI X9 hx Bd.returns (hb hby d_six_36) hr
    · show Q_six Z b1 p2 (0 : Int32) (15 : Int32) k1 h0 n0 _ T9.heap _
      rw [e9]
      exact ⟨(congrArg (fun zz => some (Value.int zz)) (by simp [own_ix, hc4_3] : (own_find (p2.toInt8.toInt32)) = (own_ix p2))), N9, rfl⟩
  · obtain ⟨fs, hr, hrun, hended, hW, hsame⟩ := X1.leave (v := some (.int (-1 : Int32))) (fun h => by rw [Bd.returns] at h; cases h)
    refine ⟨_, _, pr4 _ ?_, hrun, hended, _, _, rfl, ?_, ⟨_, rfl⟩, hW, hsame.mono (by decide) (by decide)⟩
    · show Steps p.tables e below (T1.setTop (mkF m 4 #[.val (.ref b1), .val (.int p2), .val (.int (0 : Int32)), .val (.int (15 : Int32))] [(.int (own_b (own_ce p2)))])) _
      refine XS.ifNo X1.here hx rfl (hb hby d_six_4) rfl ((if0 _ _).trans (teq (own_b0 hc4_3)).2) ?_
      show Steps p.tables e below (T1.setTop (mkF m 7 #[.val (.ref b1), .val (.int p2), .val (.int (0 : Int32)), .val (.int (15 : Int32))] [])) _
      refine XS.iconst X1.here hx rfl (hb hby d_six_7) ?_
      show Steps p.tables e below (T1.setTop (mkF m 8 #[.val (.ref b1), .val (.int p2), .val (.int (0 : Int32)), .val (.int (15 : Int32))] [(.int (-1 : Int32))])) _
      exact retI X1 hx Bd.returns (hb hby d_six_8) hr
    · show Q_six Z b1 p2 (0 : Int32) (15 : Int32) k1 h0 n0 _ T1.heap _
      rw [e1]
      exact ⟨(congrArg (fun zz => some (Value.int zz)) (by simp [own_ix, hc4_3] : (-1 : Int32) = (own_ix p2))), N1, rfl⟩
theorem d_ix2_0 : decode jdk_42_method_80_code 0 = .ok (.aload_n 0, 1) := by decide +kernel
theorem d_ix2_1 : decode jdk_42_method_80_code 1 = .ok (.invokevirtual 492, 3) := by decide +kernel
theorem d_ix2_4 : decode jdk_42_method_80_code 4 = .ok (.ifCond .eq 19, 3) := by decide +kernel
theorem d_ix2_7 : decode jdk_42_method_80_code 7 = .ok (.aload_n 0, 1) := by decide +kernel
theorem d_ix2_8 : decode jdk_42_method_80_code 8 = .ok (.getfield 9, 3) := by decide +kernel
theorem d_ix2_11 : decode jdk_42_method_80_code 11 = .ok (.iload_n 1, 1) := by decide +kernel
theorem d_ix2_12 : decode jdk_42_method_80_code 12 = .ok (.iload_n 2, 1) := by decide +kernel
theorem d_ix2_13 : decode jdk_42_method_80_code 13 = .ok (.aload_n 0, 1) := by decide +kernel
theorem d_ix2_14 : decode jdk_42_method_80_code 14 = .ok (.invokevirtual 505, 3) := by decide +kernel
theorem d_ix2_17 : decode jdk_42_method_80_code 17 = .ok (.invokestatic 637, 3) := by decide +kernel
theorem d_ix2_20 : decode jdk_42_method_80_code 20 = .ok (.goto 16, 3) := by decide +kernel
theorem d_ix2_36 : decode jdk_42_method_80_code 36 = .ok (.ireturn, 1) := by decide +kernel
theorem pn_ix2 : plainName "java/lang/String" = true := by first | (simp [plainName, overriddenIn]; done) | decide +kernel
theorem pd_ix2_0 : parseMethodDescriptor "()Z" = some ⟨[], some .boolean⟩ := by decide +kernel
theorem pd_ix2_1 : parseMethodDescriptor "()I" = some ⟨[], some .int⟩ := by decide +kernel
theorem pd_ix2_2 : parseMethodDescriptor "([BIII)I" = some ⟨[(.array .byte), .int, .int, .int], some .int⟩ := by decide +kernel
theorem ef_ix2 (m : MethodId) (a1 : Addr) (p2 : Int32) (p3 : Int32) : entryFrame m #[(.ref a1), (.int p2), (.int p3)] 3 = mkF m 0 #[.val (.ref a1), .val (.int p2), .val (.int p3)] [] := by first | (simp [entryFrame, mkF, argsToLocals, Value.category]; done) | rfl
def Q_ix2 (Z : State) (a1 : Addr) (p2 : Int32) (p3 : Int32) (b1 : Addr) (k1 : ClassId) (w1 : Int32) (h0 : Heap) (n0 : Nat) (v : Option Value) (h : Heap) (L : List Loc) : Prop := v = some (.int (own_ix p2)) ∧ Fr n0 L ∧ h = h0
set_option maxRecDepth 65536 in
set_option maxHeartbeats 40000000 in
theorem rm_ix2 (l : Launch) (Z : State) (a0 : Array Value) (hw : ∀ d ∈ tables_1, d.before a0 Z = true) (ws : List Jvm.Cond) (a1 : Addr) (p2 : Int32) (p3 : Int32) (b1 : Addr) (k1 : ClassId) (w1 : Int32) (h0 : Heap) (n0 : Nat) (Z0 : n0 ≤ h0.size) (E1 : Exa Z h0 a1 "java/lang/String") (Fc : Fld Z h0 a1 "java/lang/String" "coder" "B" (.int (0 : Int32))) (Fv : Fld Z h0 a1 "java/lang/String" "value" "[B" (.ref b1)) (V1 : Arv Z h0 b1 k1 .byte (15 : Int32) [(.int (33 : Int32)), (.int (35 : Int32)), (.int (36 : Int32)), (.int (37 : Int32)), (.int (38 : Int32)), (.int (39 : Int32)), (.int (42 : Int32)), (.int (43 : Int32)), (.int (45 : Int32)), (.int (46 : Int32)), (.int (94 : Int32)), (.int (95 : Int32)), (.int (96 : Int32)), (.int (124 : Int32)), (.int (126 : Int32))] (.int (0 : Int32))) (S1 : Sta Z h0 "java/lang/String" "COMPACT_STRINGS" "Z" (.int w1)) (nz : ¬ w1 = (0 : Int32)) (h3 : p3 = (0 : Int32)) :
    MetFree l (⟨"java/lang/String", "indexOf", "(II)I"⟩ : MethodName) (head1 (Jvm.Cond.code (⟨"java/lang/String", "indexOf", "(II)I"⟩ : MethodName) jdk_42_method_80_code 3 (some .int) :: ws) ({ frames := 2, cells := 0, slots := 0, locals := 32 } : Room)) (fun a U => a = #[(.ref a1), (.int p2), (.int p3)] ∧ Z.Warmed39 U.vm ∧ U.heap = h0) (fun _ _ _ _ _ => True) (fun _ U o U' => ∃ v L, o = .returned v ∧ Q_ix2 Z a1 p2 p3 b1 k1 w1 h0 n0 v U'.heap L ∧ FrameEnd U o U' L ({ frames := 2, cells := 0, slots := 0, locals := 32 } : Room).cells ({ frames := 2, cells := 0, slots := 0, locals := 32 } : Room).slots) := by
  subst h3
  refine MetFree.of_bodySF (plainFor_of_name pn_ix2) hisR ?_
  intro p e s m args below meth c s₁ Bd hml0 hP hK
  obtain ⟨rfl, hZ, hh⟩ := hP
  have hx := Bd.exec
  have hby := Bd.bytes
  have hml : c.maxLocals = 3 := hml0
  have hown : s.vm.findClass "java/lang/String" = some m.cls := findClass_of_methodNamed Bd.named
  have hnm := (name_of_methodNamed Bd.named Bd.method).1
  have X0 : Stand p l e ({ frames := 2, cells := 0, slots := 0, locals := 32 } : Room) s m #[(.ref a1), (.int p2), (.int (0 : Int32))] below meth c s₁ [] 0 0 := Stand.of_body Bd
  have e0 : s₁.heap = h0 := by rw [← hh, Bd.state]; rfl
  have N0 := Fr.nil n0
  have pre0 : ∀ t, Steps p.tables e below (s₁.setTop (mkF m 0 #[.val (.ref a1), .val (.int p2), .val (.int (0 : Int32))] [])) t → Steps p.tables e below (s₁.setTop (entryFrame m #[(.ref a1), (.int p2), (.int (0 : Int32))] 3)) t := fun t k => castTop (ef_ix2 m a1 p2 (0 : Int32)) k
  have pr2 : ∀ t, Steps p.tables e below (s₁.setTop (mkF m 1 #[.val (.ref a1), .val (.int p2), .val (.int (0 : Int32))] [(.ref a1)])) t → Steps p.tables e below (s₁.setTop (entryFrame m #[(.ref a1), (.int p2), (.int (0 : Int32))] 3)) t := fun t kt => pre0 t (by
    show Steps p.tables e below (s₁.setTop (mkF m 0 #[.val (.ref a1), .val (.int p2), .val (.int (0 : Int32))] [])) _
    refine XS.aloadN X0.here hx rfl (hb hby d_ix2_0) rfl rfl ?_
    show Steps p.tables e below (s₁.setTop (mkF m 1 #[.val (.ref a1), .val (.int p2), .val (.int (0 : Int32))] [(.ref a1)])) _
    exact kt)
  obtain ⟨cq1, kq1, q1a, q1b, q1c⟩ := isOf hZ e0 E1
  obtain ⟨_, _, ⟨T1, L1, k1, n1⟩, -, X1, ⟨Lc1, hQ1, l1, y1, z1⟩, st1⟩ := X0.virtualBack hx (y := (⟨"java/lang/String", "isLatin1", "()Z"⟩ : MethodName)) (z := (⟨"java/lang/String", "isLatin1", "()Z"⟩ : MethodName)) hown (mvT hZ (hw _ (List.mem_of_getElem? (i := 23) rfl))) (mvT hZ (hw _ (List.mem_of_getElem? (i := 24) rfl))) (notFace_of_selects (args := #[]) (mvT hZ (hw _ (List.mem_of_getElem? (i := 26) rfl)))) (mvT hZ (hw _ (List.mem_of_getElem? (i := 26) rfl))) (mvT hZ (hw _ (List.mem_of_getElem? (i := 25) rfl))) (by decide) (backOf (W := 0) (rm_isl l Z a0 hw [] a1 w1 h0 n0 Z0 S1 nz Fc) hZ (hw _ (List.mem_of_getElem? (i := 27) rfl)) (hw _ (List.mem_of_getElem? (i := 6) rfl)) (by decide) (by decide)) q1a q1c (g := (mkF m 1 #[.val (.ref a1), .val (.int p2), .val (.int (0 : Int32))] [(.ref a1)])) rfl (by rw [hml]; rfl) (Steps.refl _) (argsL := []) (rest := []) (lenOf pd_ix2_0 rfl) rfl (by show 2 * 0 + _ ≤ _; exact Nat.le_of_eq rfl) (hb hby d_ix2_1) (fun _ _ => ⟨rfl, e0, (by decide : 0 + 0 ≤ _), (by decide : 0 + 0 ≤ _)⟩)
  dsimp only [Pt.U, Pt.locs, Pt.cells, Pt.slots] at X1 l1 y1 z1 st1 hQ1
  subst l1 y1 z1
  obtain ⟨rfl, N1q, e1⟩ := hQ1
  have N1 := Fr.app N0 N1q
  have pr4 : ∀ t, Steps p.tables e below (T1.setTop (mkF m 8 #[.val (.ref a1), .val (.int p2), .val (.int (0 : Int32))] [(.ref a1)])) t → Steps p.tables e below (s₁.setTop (entryFrame m #[(.ref a1), (.int p2), (.int (0 : Int32))] 3)) t := fun t kt => pr2 t (by
    refine st1.trans ?_
    show Steps p.tables e below (T1.setTop (mkF m 4 #[.val (.ref a1), .val (.int p2), .val (.int (0 : Int32))] [(.int (1 : Int32))])) _
    refine XS.ifNo X1.here hx rfl (hb hby d_ix2_4) rfl ((if0 _ _).trans (feq (by decide : ¬ ((1 : Int32) = (0 : Int32)))).1) ?_
    show Steps p.tables e below (T1.setTop (mkF m 7 #[.val (.ref a1), .val (.int p2), .val (.int (0 : Int32))] [])) _
    refine XS.aloadN X1.here hx rfl (hb hby d_ix2_7) rfl rfl ?_
    show Steps p.tables e below (T1.setTop (mkF m 8 #[.val (.ref a1), .val (.int p2), .val (.int (0 : Int32))] [(.ref a1)])) _
    exact kt)
  obtain ⟨T3, X3, e3, st3⟩ := getF X1 hx hZ hown (host := "") (Or.inl (hw _ (List.mem_of_getElem? (i := 30) rfl))) Via.refl e1 Fv (g := (mkF m 8 #[.val (.ref a1), .val (.int p2), .val (.int (0 : Int32))] [(.ref a1)])) rfl rfl (hb hby d_ix2_8)
  have pr6 : ∀ t, Steps p.tables e below (T3.setTop (mkF m 14 #[.val (.ref a1), .val (.int p2), .val (.int (0 : Int32))] [(.ref a1), (.int (0 : Int32)), (.int p2), (.ref b1)])) t → Steps p.tables e below (s₁.setTop (entryFrame m #[(.ref a1), (.int p2), (.int (0 : Int32))] 3)) t := fun t kt => pr4 t (by
    refine st3 _ ?_
    show Steps p.tables e below (T3.setTop (mkF m 11 #[.val (.ref a1), .val (.int p2), .val (.int (0 : Int32))] [(.ref b1)])) _
    refine XS.iloadN X3.here hx rfl (hb hby d_ix2_11) rfl ?_
    show Steps p.tables e below (T3.setTop (mkF m 12 #[.val (.ref a1), .val (.int p2), .val (.int (0 : Int32))] [(.int p2), (.ref b1)])) _
    refine XS.iloadN X3.here hx rfl (hb hby d_ix2_12) rfl ?_
    show Steps p.tables e below (T3.setTop (mkF m 13 #[.val (.ref a1), .val (.int p2), .val (.int (0 : Int32))] [(.int (0 : Int32)), (.int p2), (.ref b1)])) _
    refine XS.aloadN X3.here hx rfl (hb hby d_ix2_13) rfl rfl ?_
    show Steps p.tables e below (T3.setTop (mkF m 14 #[.val (.ref a1), .val (.int p2), .val (.int (0 : Int32))] [(.ref a1), (.int (0 : Int32)), (.int p2), (.ref b1)])) _
    exact kt)
  obtain ⟨cq5, kq5, q5a, q5b, q5c⟩ := isOf hZ e3 E1
  obtain ⟨_, _, ⟨T5, L5, k5, n5⟩, -, X5, ⟨Lc5, hQ5, l5, y5, z5⟩, st5⟩ := X3.virtualBack hx (y := (⟨"java/lang/String", "length", "()I"⟩ : MethodName)) (z := (⟨"java/lang/String", "length", "()I"⟩ : MethodName)) hown (mvT hZ (hw _ (List.mem_of_getElem? (i := 31) rfl))) (mvT hZ (hw _ (List.mem_of_getElem? (i := 32) rfl))) (notFace_of_selects (args := #[]) (mvT hZ (hw _ (List.mem_of_getElem? (i := 34) rfl)))) (mvT hZ (hw _ (List.mem_of_getElem? (i := 34) rfl))) (mvT hZ (hw _ (List.mem_of_getElem? (i := 33) rfl))) (by decide) (backOf (W := 3) (rm_len l Z a0 hw [] a1 b1 k1 w1 h0 n0 Z0 E1 Fc Fv V1 S1 nz) hZ (hw _ (List.mem_of_getElem? (i := 35) rfl)) (hw _ (List.mem_of_getElem? (i := 6) rfl)) (by decide) (by decide)) q5a q5c (g := (mkF m 14 #[.val (.ref a1), .val (.int p2), .val (.int (0 : Int32))] [(.ref a1), (.int (0 : Int32)), (.int p2), (.ref b1)])) rfl (by rw [hml]; rfl) (Steps.refl _) (argsL := []) (rest := [(.int (0 : Int32)), (.int p2), (.ref b1)]) (lenOf pd_ix2_1 rfl) rfl (by show 2 * 0 + _ ≤ _; exact Nat.le_of_eq rfl) (hb hby d_ix2_14) (fun _ _ => ⟨rfl, e3, (by decide : 0 + 0 ≤ _), (by decide : 0 + 0 ≤ _)⟩)
  dsimp only [Pt.U, Pt.locs, Pt.cells, Pt.slots] at X5 l5 y5 z5 st5 hQ5
  subst l5 y5 z5
  obtain ⟨rfl, N5q, e5⟩ := hQ5
  have N5 := Fr.app N1 N5q
  have pr8 : ∀ t, Steps p.tables e below (T5.setTop (mkF m 17 #[.val (.ref a1), .val (.int p2), .val (.int (0 : Int32))] [(.int (15 : Int32)), (.int (0 : Int32)), (.int p2), (.ref b1)])) t → Steps p.tables e below (s₁.setTop (entryFrame m #[(.ref a1), (.int p2), (.int (0 : Int32))] 3)) t := fun t kt => pr6 t (by
    refine st5.trans ?_
    show Steps p.tables e below (T5.setTop (mkF m 17 #[.val (.ref a1), .val (.int p2), .val (.int (0 : Int32))] [(.int (15 : Int32)), (.int (0 : Int32)), (.int p2), (.ref b1)])) _
    exact kt)
  obtain ⟨_, _, ⟨T7, L7, k7, n7⟩, -, X7, ⟨Lc7, hQ7, l7, y7, z7⟩, st7⟩ := Jvm.LawKit.callS X5 hx (y := (⟨"java/lang/StringLatin1", "indexOf", "([BIII)I"⟩ : MethodName)) hown (mvT hZ (hw _ (List.mem_of_getElem? (i := 41) rfl))) (mvT hZ (hw _ (List.mem_of_getElem? (i := 42) rfl))) (mvT hZ (hw _ (List.mem_of_getElem? (i := 43) rfl))) (mvT hZ (hw _ (List.mem_of_getElem? (i := 44) rfl))) (by decide) (backOf (W := 0) (rm_six l Z a0 hw [] b1 p2 (0 : Int32) (15 : Int32) k1 h0 n0 Z0 V1 rfl rfl) hZ (hw _ (List.mem_of_getElem? (i := 44) rfl)) (hw _ (List.mem_of_getElem? (i := 43) rfl)) (by decide) (by decide)) (g := (mkF m 17 #[.val (.ref a1), .val (.int p2), .val (.int (0 : Int32))] [(.int (15 : Int32)), (.int (0 : Int32)), (.int p2), (.ref b1)])) rfl (by rw [hml]; rfl) (argsL := [(.ref b1), (.int p2), (.int (0 : Int32)), (.int (15 : Int32))]) (rest := []) (lenOf pd_ix2_2 rfl) rfl (by show 2 * 0 + _ ≤ _; exact Nat.le_of_eq rfl) (hb hby d_ix2_17) (fun _ _ => ⟨rfl, e5, (by decide : 0 + 0 ≤ _), (by decide : 0 + 0 ≤ _)⟩)
  dsimp only [Pt.U, Pt.locs, Pt.cells, Pt.slots] at X7 l7 y7 z7 st7 hQ7
  subst l7 y7 z7
  obtain ⟨rfl, N7q, e7⟩ := hQ7
  have N7 := Fr.app N5 N7q
  obtain ⟨fs, hr, hrun, hended, hW, hsame⟩ := X7.leave (v := some (.int (own_ix p2))) (fun h => by rw [Bd.returns] at h; cases h)
  refine ⟨_, _, pr8 _ ?_, hrun, hended, _, _, rfl, ?_, ⟨_, rfl⟩, hW, hsame.mono (by decide) (by decide)⟩
  · refine st7 _ ?_
    show Steps p.tables e below (T7.setTop (mkF m 20 #[.val (.ref a1), .val (.int p2), .val (.int (0 : Int32))] [(.int (own_ix p2))])) _
    refine XS.goto X7.here hx rfl (pc0 := 20) (pc' := 36) rfl (hb hby d_ix2_20) (by decide) (by decide) ?_
    show Steps p.tables e below (T7.setTop (mkF m 36 #[.val (.ref a1), .val (.int p2), .val (.int (0 : Int32))] [(.int (own_ix p2))])) _
    exact retI X7 hx Bd.returns (hb hby d_ix2_36) hr
  · show Q_ix2 Z a1 p2 (0 : Int32) b1 k1 w1 h0 n0 _ T7.heap _
    rw [e7]
    exact ⟨rfl, N7, rfl⟩
theorem d_ix1_0 : decode jdk_42_method_79_code 0 = .ok (.aload_n 0, 1) := by decide +kernel
theorem d_ix1_1 : decode jdk_42_method_79_code 1 = .ok (.iload_n 1, 1) := by decide +kernel
theorem d_ix1_2 : decode jdk_42_method_79_code 2 = .ok (.iconst 0, 1) := by decide +kernel
theorem d_ix1_3 : decode jdk_42_method_79_code 3 = .ok (.invokevirtual 633, 3) := by decide +kernel
theorem d_ix1_6 : decode jdk_42_method_79_code 6 = .ok (.ireturn, 1) := by decide +kernel
theorem pn_ix1 : plainName "java/lang/String" = true := by first | (simp [plainName, overriddenIn]; done) | decide +kernel
theorem pd_ix1_0 : parseMethodDescriptor "(II)I" = some ⟨[.int, .int], some .int⟩ := by decide +kernel
theorem ef_ix1 (m : MethodId) (a1 : Addr) (p2 : Int32) : entryFrame m #[(.ref a1), (.int p2)] 2 = mkF m 0 #[.val (.ref a1), .val (.int p2)] [] := by first | (simp [entryFrame, mkF, argsToLocals, Value.category]; done) | rfl
def Q_ix1 (Z : State) (a1 : Addr) (p2 : Int32) (b1 : Addr) (k1 : ClassId) (w1 : Int32) (h0 : Heap) (n0 : Nat) (v : Option Value) (h : Heap) (L : List Loc) : Prop := v = some (.int (own_ix p2)) ∧ Fr n0 L ∧ h = h0
set_option maxRecDepth 65536 in
set_option maxHeartbeats 40000000 in
theorem rm_ix1 (l : Launch) (Z : State) (a0 : Array Value) (hw : ∀ d ∈ tables_1, d.before a0 Z = true) (ws : List Jvm.Cond) (a1 : Addr) (p2 : Int32) (b1 : Addr) (k1 : ClassId) (w1 : Int32) (h0 : Heap) (n0 : Nat) (Z0 : n0 ≤ h0.size) (E1 : Exa Z h0 a1 "java/lang/String") (Fc : Fld Z h0 a1 "java/lang/String" "coder" "B" (.int (0 : Int32))) (Fv : Fld Z h0 a1 "java/lang/String" "value" "[B" (.ref b1)) (V1 : Arv Z h0 b1 k1 .byte (15 : Int32) [(.int (33 : Int32)), (.int (35 : Int32)), (.int (36 : Int32)), (.int (37 : Int32)), (.int (38 : Int32)), (.int (39 : Int32)), (.int (42 : Int32)), (.int (43 : Int32)), (.int (45 : Int32)), (.int (46 : Int32)), (.int (94 : Int32)), (.int (95 : Int32)), (.int (96 : Int32)), (.int (124 : Int32)), (.int (126 : Int32))] (.int (0 : Int32))) (S1 : Sta Z h0 "java/lang/String" "COMPACT_STRINGS" "Z" (.int w1)) (nz : ¬ w1 = (0 : Int32)) :
    MetFree l (⟨"java/lang/String", "indexOf", "(I)I"⟩ : MethodName) (head1 (Jvm.Cond.code (⟨"java/lang/String", "indexOf", "(I)I"⟩ : MethodName) jdk_42_method_79_code 2 (some .int) :: ws) ({ frames := 3, cells := 0, slots := 0, locals := 46 } : Room)) (fun a U => a = #[(.ref a1), (.int p2)] ∧ Z.Warmed39 U.vm ∧ U.heap = h0) (fun _ _ _ _ _ => True) (fun _ U o U' => ∃ v L, o = .returned v ∧ Q_ix1 Z a1 p2 b1 k1 w1 h0 n0 v U'.heap L ∧ FrameEnd U o U' L ({ frames := 3, cells := 0, slots := 0, locals := 46 } : Room).cells ({ frames := 3, cells := 0, slots := 0, locals := 46 } : Room).slots) := by
  refine MetFree.of_bodySF (plainFor_of_name pn_ix1) hisR ?_
  intro p e s m args below meth c s₁ Bd hml0 hP hK
  obtain ⟨rfl, hZ, hh⟩ := hP
  have hx := Bd.exec
  have hby := Bd.bytes
  have hml : c.maxLocals = 2 := hml0
  have hown : s.vm.findClass "java/lang/String" = some m.cls := findClass_of_methodNamed Bd.named
  have hnm := (name_of_methodNamed Bd.named Bd.method).1
  have X0 : Stand p l e ({ frames := 3, cells := 0, slots := 0, locals := 46 } : Room) s m #[(.ref a1), (.int p2)] below meth c s₁ [] 0 0 := Stand.of_body Bd
  have e0 : s₁.heap = h0 := by rw [← hh, Bd.state]; rfl
  have N0 := Fr.nil n0
  have pre0 : ∀ t, Steps p.tables e below (s₁.setTop (mkF m 0 #[.val (.ref a1), .val (.int p2)] [])) t → Steps p.tables e below (s₁.setTop (entryFrame m #[(.ref a1), (.int p2)] 2)) t := fun t k => castTop (ef_ix1 m a1 p2) k
  have pr2 : ∀ t, Steps p.tables e below (s₁.setTop (mkF m 3 #[.val (.ref a1), .val (.int p2)] [(.int (0 : Int32)), (.int p2), (.ref a1)])) t → Steps p.tables e below (s₁.setTop (entryFrame m #[(.ref a1), (.int p2)] 2)) t := fun t kt => pre0 t (by
    show Steps p.tables e below (s₁.setTop (mkF m 0 #[.val (.ref a1), .val (.int p2)] [])) _
    refine XS.aloadN X0.here hx rfl (hb hby d_ix1_0) rfl rfl ?_
    show Steps p.tables e below (s₁.setTop (mkF m 1 #[.val (.ref a1), .val (.int p2)] [(.ref a1)])) _
    refine XS.iloadN X0.here hx rfl (hb hby d_ix1_1) rfl ?_
    show Steps p.tables e below (s₁.setTop (mkF m 2 #[.val (.ref a1), .val (.int p2)] [(.int p2), (.ref a1)])) _
    refine XS.iconst X0.here hx rfl (hb hby d_ix1_2) ?_
    show Steps p.tables e below (s₁.setTop (mkF m 3 #[.val (.ref a1), .val (.int p2)] [(.int (0 : Int32)), (.int p2), (.ref a1)])) _
    exact kt)
  obtain ⟨cq1, kq1, q1a, q1b, q1c⟩ := isOf hZ e0 E1
  obtain ⟨_, _, ⟨T1, L1, k1, n1⟩, -, X1, ⟨Lc1, hQ1, l1, y1, z1⟩, st1⟩ := X0.virtualBack hx (y := (⟨"java/lang/String", "indexOf", "(II)I"⟩ : MethodName)) (z := (⟨"java/lang/String", "indexOf", "(II)I"⟩ : MethodName)) hown (mvT hZ (hw _ (List.mem_of_getElem? (i := 18) rfl))) (mvT hZ (hw _ (List.mem_of_getElem? (i := 19) rfl))) (notFace_of_selects (args := #[]) (mvT hZ (hw _ (List.mem_of_getElem? (i := 21) rfl)))) (mvT hZ (hw _ (List.mem_of_getElem? (i := 21) rfl))) (mvT hZ (hw _ (List.mem_of_getElem? (i := 20) rfl))) (by decide) (backOf (W := 0) (rm_ix2 l Z a0 hw [] a1 p2 (0 : Int32) b1 k1 w1 h0 n0 Z0 E1 Fc Fv V1 S1 nz rfl) hZ (hw _ (List.mem_of_getElem? (i := 22) rfl)) (hw _ (List.mem_of_getElem? (i := 6) rfl)) (by decide) (by decide)) q1a q1c (g := (mkF m 3 #[.val (.ref a1), .val (.int p2)] [(.int (0 : Int32)), (.int p2), (.ref a1)])) rfl (by rw [hml]; rfl) (Steps.refl _) (argsL := [(.int p2), (.int (0 : Int32))]) (rest := []) (lenOf pd_ix1_0 rfl) rfl (by show 2 * 0 + _ ≤ _; exact Nat.le_of_eq rfl) (hb hby d_ix1_3) (fun _ _ => ⟨rfl, e0, (by decide : 0 + 0 ≤ _), (by decide : 0 + 0 ≤ _)⟩)
  dsimp only [Pt.U, Pt.locs, Pt.cells, Pt.slots] at X1 l1 y1 z1 st1 hQ1
  subst l1 y1 z1
  obtain ⟨rfl, N1q, e1⟩ := hQ1
  have N1 := Fr.app N0 N1q
  obtain ⟨fs, hr, hrun, hended, hW, hsame⟩ := X1.leave (v := some (.int (own_ix p2))) (fun h => by rw [Bd.returns] at h; cases h)
  refine ⟨_, _, pr2 _ ?_, hrun, hended, _, _, rfl, ?_, ⟨_, rfl⟩, hW, hsame.mono (by decide) (by decide)⟩
  · refine st1.trans ?_
    show Steps p.tables e below (T1.setTop (mkF m 6 #[.val (.ref a1), .val (.int p2)] [(.int (own_ix p2))])) _
    exact retI X1 hx Bd.returns (hb hby d_ix1_6) hr
  · show Q_ix1 Z a1 p2 b1 k1 w1 h0 n0 _ T1.heap _
    rw [e1]
    exact ⟨rfl, N1, rfl⟩
theorem d_tch_0 : decode prog_16_method_4_code 0 = .ok (.iload_n 0, 1) := by decide +kernel
theorem d_tch_1 : decode prog_16_method_4_code 1 = .ok (.bipush 97, 2) := by decide +kernel
theorem d_tch_3 : decode prog_16_method_4_code 3 = .ok (.if_icmp .lt 9, 3) := by decide +kernel
theorem d_tch_6 : decode prog_16_method_4_code 6 = .ok (.iload_n 0, 1) := by decide +kernel
theorem d_tch_7 : decode prog_16_method_4_code 7 = .ok (.bipush 122, 2) := by decide +kernel
theorem d_tch_9 : decode prog_16_method_4_code 9 = .ok (.if_icmp .le 36, 3) := by decide +kernel
theorem d_tch_12 : decode prog_16_method_4_code 12 = .ok (.iload_n 0, 1) := by decide +kernel
theorem d_tch_13 : decode prog_16_method_4_code 13 = .ok (.bipush 65, 2) := by decide +kernel
theorem d_tch_15 : decode prog_16_method_4_code 15 = .ok (.if_icmp .lt 9, 3) := by decide +kernel
theorem d_tch_18 : decode prog_16_method_4_code 18 = .ok (.iload_n 0, 1) := by decide +kernel
theorem d_tch_19 : decode prog_16_method_4_code 19 = .ok (.bipush 90, 2) := by decide +kernel
theorem d_tch_21 : decode prog_16_method_4_code 21 = .ok (.if_icmp .le 24, 3) := by decide +kernel
theorem d_tch_24 : decode prog_16_method_4_code 24 = .ok (.iload_n 0, 1) := by decide +kernel
theorem d_tch_25 : decode prog_16_method_4_code 25 = .ok (.bipush 48, 2) := by decide +kernel
theorem d_tch_27 : decode prog_16_method_4_code 27 = .ok (.if_icmp .lt 9, 3) := by decide +kernel
theorem d_tch_30 : decode prog_16_method_4_code 30 = .ok (.iload_n 0, 1) := by decide +kernel
theorem d_tch_31 : decode prog_16_method_4_code 31 = .ok (.bipush 57, 2) := by decide +kernel
theorem d_tch_33 : decode prog_16_method_4_code 33 = .ok (.if_icmp .le 12, 3) := by decide +kernel
theorem d_tch_36 : decode prog_16_method_4_code 36 = .ok (.ldc 42, 2) := by decide +kernel
theorem d_tch_38 : decode prog_16_method_4_code 38 = .ok (.iload_n 0, 1) := by decide +kernel
theorem d_tch_39 : decode prog_16_method_4_code 39 = .ok (.invokevirtual 44, 3) := by decide +kernel
theorem d_tch_42 : decode prog_16_method_4_code 42 = .ok (.ifCond .lt 7, 3) := by decide +kernel
theorem d_tch_45 : decode prog_16_method_4_code 45 = .ok (.iconst 1, 1) := by decide +kernel
theorem d_tch_46 : decode prog_16_method_4_code 46 = .ok (.goto 4, 3) := by decide +kernel
theorem d_tch_49 : decode prog_16_method_4_code 49 = .ok (.iconst 0, 1) := by decide +kernel
theorem d_tch_50 : decode prog_16_method_4_code 50 = .ok (.ireturn, 1) := by decide +kernel
theorem pn_tch : plainName "com/example/strict_key/strictkey/store/FieldSyntax" = true := by first | (simp [plainName, overriddenIn]; done) | decide +kernel
theorem pd_tch_0 : parseMethodDescriptor "(I)I" = some ⟨[.int], some .int⟩ := by decide +kernel
theorem ef_tch (m : MethodId) (p1 : Int32) : entryFrame m #[(.int p1)] 1 = mkF m 0 #[.val (.int p1)] [] := by first | (simp [entryFrame, mkF, argsToLocals, Value.category]; done) | rfl
def Q_tch (Z : State) (p1 : Int32) (w1 : Int32) (h0 : Heap) (n0 : Nat) (v : Option Value) (h : Heap) (L : List Loc) : Prop := v = some (.int (own_b (own_tch p1))) ∧ Fr n0 L ∧ h0.size ≤ h.size
set_option maxRecDepth 65536 in
set_option maxHeartbeats 40000000 in
theorem rm_tch (l : Launch) (Z : State) (a0 : Array Value) (hw : ∀ d ∈ tables_1, d.before a0 Z = true) (ws : List Jvm.Cond) (p1 : Int32) (w1 : Int32) (h0 : Heap) (n0 : Nat) (Z0 : n0 ≤ h0.size) (S1 : Sta Z h0 "java/lang/String" "COMPACT_STRINGS" "Z" (.int w1)) (nz : ¬ w1 = (0 : Int32)) (hkeep : ∀ (b : Addr) (cl : Cell), Z.heap[b]? = some cl → h0[b]? = some cl) (hheld : Jvm.Lit.constHeld Z "com/example/strict_key/strictkey/store/FieldSyntax" 42) (hcw : Jvm.Lit.compactW.before a0 Z = true) :
    MetFree l (⟨"com/example/strict_key/strictkey/store/FieldSyntax", "isTchar", "(I)Z"⟩ : MethodName) (head1 (Jvm.Cond.code (⟨"com/example/strict_key/strictkey/store/FieldSyntax", "isTchar", "(I)Z"⟩ : MethodName) prog_16_method_4_code 1 (some .boolean) :: ws) ({ frames := 4, cells := 2, slots := 64, locals := 59 } : Room)) (fun a U => a = #[(.int p1)] ∧ Z.Warmed39 U.vm ∧ U.heap = h0 ∧ U.vm.interned = Z.vm.interned) (fun _ _ _ _ _ => True) (fun _ U o U' => ∃ v L, o = .returned v ∧ Q_tch Z p1 w1 h0 n0 v U'.heap L ∧ ReturnedEndW U o U' L ({ frames := 4, cells := 2, slots := 64, locals := 59 } : Room).cells ({ frames := 4, cells := 2, slots := 64, locals := 59 } : Room).slots) := by
  refine MetFree.of_bodySF (plainFor_of_name pn_tch) hisR ?_
  intro p e s m args below meth c s₁ Bd hml0 hP hK
  obtain ⟨rfl, hZ, hh, hi⟩ := hP
  have hx := Bd.exec
  have hby := Bd.bytes
  have hml : c.maxLocals = 1 := hml0
  have hown : s.vm.findClass "com/example/strict_key/strictkey/store/FieldSyntax" = some m.cls := findClass_of_methodNamed Bd.named
  have hnm := (name_of_methodNamed Bd.named Bd.method).1
  have X0 : Stand p l e ({ frames := 4, cells := 2, slots := 64, locals := 59 } : Room) s m #[(.int p1)] below meth c s₁ [] 0 0 := Stand.of_body Bd
  have e0 : s₁.heap = h0 := by rw [← hh, Bd.state]; rfl
  have N0 := Fr.nil n0
  have pre0 : ∀ t, Steps p.tables e below (s₁.setTop (mkF m 0 #[.val (.int p1)] [])) t → Steps p.tables e below (s₁.setTop (entryFrame m #[(.int p1)] 1)) t := fun t k => castTop (ef_tch m p1) k
  have pr2 : ∀ t, Steps p.tables e below (s₁.setTop (mkF m 3 #[.val (.int p1)] [(.int (97 : Int32)), (.int p1)])) t → Steps p.tables e below (s₁.setTop (entryFrame m #[(.int p1)] 1)) t := fun t kt => pre0 t (by
    show Steps p.tables e below (s₁.setTop (mkF m 0 #[.val (.int p1)] [])) _
    refine XS.iloadN X0.here hx rfl (hb hby d_tch_0) rfl ?_
    show Steps p.tables e below (s₁.setTop (mkF m 1 #[.val (.int p1)] [(.int p1)])) _
    refine XS.bipush X0.here hx rfl (hb hby d_tch_1) ?_
    exact kt)
  by_cases hc3_1 : p1 < (97 : Int32)
  · have pr4 : ∀ t, Steps p.tables e below (s₁.setTop (mkF m 15 #[.val (.int p1)] [(.int (65 : Int32)), (.int p1)])) t → Steps p.tables e below (s₁.setTop (entryFrame m #[(.int p1)] 1)) t := fun t kt => pr2 t (by
      show Steps p.tables e below (s₁.setTop (mkF m 3 #[.val (.int p1)] [(.int (97 : Int32)), (.int p1)])) _
      refine XS.icmpYes X0.here hx rfl (pc0 := 3) (pc' := 12) rfl (hb hby d_tch_3) rfl (tlt hc3_1).1 (by decide) (by decide) ?_
      show Steps p.tables e below (s₁.setTop (mkF m 12 #[.val (.int p1)] [])) _
      refine XS.iloadN X0.here hx rfl (hb hby d_tch_12) rfl ?_
      show Steps p.tables e below (s₁.setTop (mkF m 13 #[.val (.int p1)] [(.int p1)])) _
      refine XS.bipush X0.here hx rfl (hb hby d_tch_13) ?_
      exact kt)
    by_cases hc15_3 : p1 < (65 : Int32)
    · have pr6 : ∀ t, Steps p.tables e below (s₁.setTop (mkF m 27 #[.val (.int p1)] [(.int (48 : Int32)), (.int p1)])) t → Steps p.tables e below (s₁.setTop (entryFrame m #[(.int p1)] 1)) t := fun t kt => pr4 t (by
        show Steps p.tables e below (s₁.setTop (mkF m 15 #[.val (.int p1)] [(.int (65 : Int32)), (.int p1)])) _
        refine XS.icmpYes X0.here hx rfl (pc0 := 15) (pc' := 24) rfl (hb hby d_tch_15) rfl (tlt hc15_3).1 (by decide) (by decide) ?_
        show Steps p.tables e below (s₁.setTop (mkF m 24 #[.val (.int p1)] [])) _
        refine XS.iloadN X0.here hx rfl (hb hby d_tch_24) rfl ?_
        show Steps p.tables e below (s₁.setTop (mkF m 25 #[.val (.int p1)] [(.int p1)])) _
        refine XS.bipush X0.here hx rfl (hb hby d_tch_25) ?_
        exact kt)
      by_cases hc27_5 : p1 < (48 : Int32)
      · have pr8 : ∀ t, Steps p.tables e below (s₁.setTop (mkF m 36 #[.val (.int p1)] [])) t → Steps p.tables e below (s₁.setTop (entryFrame m #[(.int p1)] 1)) t := fun t kt => pr6 t (by
          show Steps p.tables e below (s₁.setTop (mkF m 27 #[.val (.int p1)] [(.int (48 : Int32)), (.int p1)])) _
          refine XS.icmpYes X0.here hx rfl (pc0 := 27) (pc' := 36) rfl (hb hby d_tch_27) rfl (tlt hc27_5).1 (by decide) (by decide) ?_
          show Steps p.tables e below (s₁.setTop (mkF m 36 #[.val (.int p1)] [])) _
          exact kt)
        have hS0 : ∀ d ∈ Bundle.stringAtoms, d.before a0 Z = true := fun d hd => hw d (by simpa using (List.all_eq_true.mp (by decide +kernel : (Bundle.stringAtoms.all fun c => tables_1.contains c) = true)) d hd)
        obtain ⟨a7, T7, h7, k7, b7, c7, X7, e7, E7, S7, q7, hZ7, hown7, A7, Fc7, Fv7, V7, -, -, -, st7⟩ := ldcSV (s := s) (vm0 := s₁.vm) (X0.retabled X0.warmed.wide) hx (wtrans hZ X0.warmed) (by rw [X0.warmed.alike.findClass]; exact hown) (hw _ (List.mem_of_getElem? (i := 5) rfl)) hS0 e0 (X0.warmed.since 0) (Nat.zero_le _) (Fr.nil _) (fun b cl q => by rw [hh]; exact hkeep b cl q) (own_IB (X0.warmed.interned_eq.trans hi)) (by simp) hheld hcw (vs := [(.int (33 : Int32)), (.int (35 : Int32)), (.int (36 : Int32)), (.int (37 : Int32)), (.int (38 : Int32)), (.int (39 : Int32)), (.int (42 : Int32)), (.int (43 : Int32)), (.int (45 : Int32)), (.int (46 : Int32)), (.int (94 : Int32)), (.int (95 : Int32)), (.int (96 : Int32)), (.int (124 : Int32)), (.int (126 : Int32))]) (z := (15 : Int32)) ⟨by decide, rfl⟩ (by decide) (by decide) (g := (mkF m 36 #[.val (.int p1)] [])) rfl (hb hby d_tch_36) (n := 60) (by decide) (by decide) (by decide) (by decide)
        have Z7 : n0 ≤ h7.size := Nat.le_trans Z0 E7.1
        have pr10 : ∀ t, Steps p.tables e below (T7.setTop (mkF m 39 #[.val (.int p1)] [(.int p1), (.ref a7)])) t → Steps p.tables e below (s₁.setTop (entryFrame m #[(.int p1)] 1)) t := fun t kt => pr8 t (by
          refine st7 _ ?_
          show Steps p.tables e below (T7.setTop (mkF m 38 #[.val (.int p1)] [(.ref a7)])) _
          refine XS.iloadN X7.here hx rfl (hb hby d_tch_38) rfl ?_
          show Steps p.tables e below (T7.setTop (mkF m 39 #[.val (.int p1)] [(.int p1), (.ref a7)])) _
          exact kt)
        obtain ⟨cq9, kq9, q9a, q9b, q9c⟩ := isOf hZ7 e7 A7
        obtain ⟨_, _, ⟨T9, L9, k9, n9⟩, -, X9, ⟨Lc9, hQ9, l9, y9, z9⟩, st9⟩ := X7.virtualBack hx (y := (⟨"java/lang/String", "indexOf", "(I)I"⟩ : MethodName)) (z := (⟨"java/lang/String", "indexOf", "(I)I"⟩ : MethodName)) hown7 (mvT hZ7 (hw _ (List.mem_of_getElem? (i := 13) rfl))) (mvT hZ7 (hw _ (List.mem_of_getElem? (i := 14) rfl))) (notFace_of_selects (args := #[]) (mvT hZ7 (hw _ (List.mem_of_getElem? (i := 16) rfl)))) (mvT hZ7 (hw _ (List.mem_of_getElem? (i := 16) rfl))) (mvT hZ7 (hw _ (List.mem_of_getElem? (i := 15) rfl))) (by decide) (backOf (W := 0) (rm_ix1 l Z a0 hw [] a7 p1 b7 c7 w1 h7 n0 Z7 A7 Fc7 Fv7 V7 (S1.ext E7) nz) hZ7 (hw _ (List.mem_of_getElem? (i := 17) rfl)) (hw _ (List.mem_of_getElem? (i := 6) rfl)) (by decide) (by decide)) q9a q9c (g := (mkF m 39 #[.val (.int p1)] [(.int p1), (.ref a7)])) rfl (by rw [hml]; rfl) (Steps.refl _) (argsL := [(.int p1)]) (rest := []) (lenOf pd_tch_0 rfl) rfl (by show 2 * 0 + _ ≤ _; exact Nat.le_of_eq rfl) (hb hby d_tch_39) (fun _ _ => ⟨rfl, e7, (by decide : 2 + 0 ≤ _), (by decide : 64 + 0 ≤ _)⟩)
        dsimp only [Pt.U, Pt.locs, Pt.cells, Pt.slots] at X9 l9 y9 z9 st9 hQ9
        subst l9 y9 z9
        obtain ⟨rfl, N9q, e9⟩ := hQ9
        have N9 := Fr.app N0 N9q
        have pr12 : ∀ t, Steps p.tables e below (T9.setTop (mkF m 42 #[.val (.int p1)] [(.int (own_ix p1))])) t → Steps p.tables e below (s₁.setTop (entryFrame m #[(.int p1)] 1)) t := fun t kt => pr10 t (by
          refine st9.trans ?_
          exact kt)
        by_cases hc42_11 : (own_ix p1) < (0 : Int32)
        · obtain ⟨fs, hr, hrun, hended, hRW⟩ := X9.leaveW S7 (by rw [e9]; exact q7) (v := some (.int (nar .boolean (0 : Int32)))) (fun h => by rw [Bd.returns] at h; cases h)
          refine ⟨_, _, pr12 _ ?_, hrun, hended, _, _, rfl, ?_, hRW.1, hRW.2.1, hRW.2.2.1, hRW.2.2.2.mono (by decide) (by decide)⟩
          · show Steps p.tables e below (T9.setTop (mkF m 42 #[.val (.int p1)] [(.int (own_ix p1))])) _
            refine XS.ifYes X9.here hx rfl (pc0 := 42) (pc' := 49) rfl (hb hby d_tch_42) rfl ((if0 _ _).trans (tlt hc42_11).1) (by decide) (by decide) ?_
            show Steps p.tables e below (T9.setTop (mkF m 49 #[.val (.int p1)] [])) _
            refine XS.iconst X9.here hx rfl (hb hby d_tch_49) ?_
            show Steps p.tables e below (T9.setTop (mkF m 50 #[.val (.int p1)] [(.int (0 : Int32))])) _
            exact retN X9 hx (t := .boolean) Bd.returns (by simp) (hb hby d_tch_50) hr
          · show Q_tch Z p1 w1 h0 n0 _ T9.heap _
            rw [e9]
            exact ⟨(congrArg (fun zz => some (Value.int zz)) (by rw [show own_tch p1 = false from own_tcf (by simp only [Int32.lt_iff_toInt_lt, own_n0, own_n48, own_n57, own_n65, own_n90, own_n97, own_n122] at hc3_1 hc15_3 hc27_5 hc42_11; omega)]; rfl : nar .boolean (0 : Int32) = (own_b (own_tch p1)))), N9, E7.1⟩
        · obtain ⟨fs, hr, hrun, hended, hRW⟩ := X9.leaveW S7 (by rw [e9]; exact q7) (v := some (.int (nar .boolean (1 : Int32)))) (fun h => by rw [Bd.returns] at h; cases h)
          refine ⟨_, _, pr12 _ ?_, hrun, hended, _, _, rfl, ?_, hRW.1, hRW.2.1, hRW.2.2.1, hRW.2.2.2.mono (by decide) (by decide)⟩
          · show Steps p.tables e below (T9.setTop (mkF m 42 #[.val (.int p1)] [(.int (own_ix p1))])) _
            refine XS.ifNo X9.here hx rfl (hb hby d_tch_42) rfl ((if0 _ _).trans (flt hc42_11).1) ?_
            show Steps p.tables e below (T9.setTop (mkF m 45 #[.val (.int p1)] [])) _
            refine XS.iconst X9.here hx rfl (hb hby d_tch_45) ?_
            show Steps p.tables e below (T9.setTop (mkF m 46 #[.val (.int p1)] [(.int (1 : Int32))])) _
            refine XS.goto X9.here hx rfl (pc0 := 46) (pc' := 50) rfl (hb hby d_tch_46) (by decide) (by decide) ?_
            show Steps p.tables e below (T9.setTop (mkF m 50 #[.val (.int p1)] [(.int (1 : Int32))])) _
            exact retN X9 hx (t := .boolean) Bd.returns (by simp) (hb hby d_tch_50) hr
          · show Q_tch Z p1 w1 h0 n0 _ T9.heap _
            rw [e9]
            exact ⟨(congrArg (fun zz => some (Value.int zz)) (by rw [show own_tch p1 = true from own_tct (by simp only [Int32.lt_iff_toInt_lt, own_n0, own_n48, own_n57, own_n65, own_n90, own_n97, own_n122] at hc3_1 hc15_3 hc27_5 hc42_11; omega)]; rfl : nar .boolean (1 : Int32) = (own_b (own_tch p1)))), N9, E7.1⟩
      · have pr14 : ∀ t, Steps p.tables e below (s₁.setTop (mkF m 33 #[.val (.int p1)] [(.int (57 : Int32)), (.int p1)])) t → Steps p.tables e below (s₁.setTop (entryFrame m #[(.int p1)] 1)) t := fun t kt => pr6 t (by
          show Steps p.tables e below (s₁.setTop (mkF m 27 #[.val (.int p1)] [(.int (48 : Int32)), (.int p1)])) _
          refine XS.icmpNo X0.here hx rfl (hb hby d_tch_27) rfl (flt hc27_5).1 ?_
          show Steps p.tables e below (s₁.setTop (mkF m 30 #[.val (.int p1)] [])) _
          refine XS.iloadN X0.here hx rfl (hb hby d_tch_30) rfl ?_
          show Steps p.tables e below (s₁.setTop (mkF m 31 #[.val (.int p1)] [(.int p1)])) _
          refine XS.bipush X0.here hx rfl (hb hby d_tch_31) ?_
          exact kt)
        by_cases hc33_13 : (57 : Int32) < p1
        · have pr16 : ∀ t, Steps p.tables e below (s₁.setTop (mkF m 36 #[.val (.int p1)] [])) t → Steps p.tables e below (s₁.setTop (entryFrame m #[(.int p1)] 1)) t := fun t kt => pr14 t (by
            show Steps p.tables e below (s₁.setTop (mkF m 33 #[.val (.int p1)] [(.int (57 : Int32)), (.int p1)])) _
            refine XS.icmpNo X0.here hx rfl (hb hby d_tch_33) rfl (tlt hc33_13).2.2.2 ?_
            show Steps p.tables e below (s₁.setTop (mkF m 36 #[.val (.int p1)] [])) _
            exact kt)
          have hS0 : ∀ d ∈ Bundle.stringAtoms, d.before a0 Z = true := fun d hd => hw d (by simpa using (List.all_eq_true.mp (by decide +kernel : (Bundle.stringAtoms.all fun c => tables_1.contains c) = true)) d hd)
          obtain ⟨a15, T15, h15, k15, b15, c15, X15, e15, E15, S15, q15, hZ15, hown15, A15, Fc15, Fv15, V15, -, -, -, st15⟩ := ldcSV (s := s) (vm0 := s₁.vm) (X0.retabled X0.warmed.wide) hx (wtrans hZ X0.warmed) (by rw [X0.warmed.alike.findClass]; exact hown) (hw _ (List.mem_of_getElem? (i := 5) rfl)) hS0 e0 (X0.warmed.since 0) (Nat.zero_le _) (Fr.nil _) (fun b cl q => by rw [hh]; exact hkeep b cl q) (own_IB (X0.warmed.interned_eq.trans hi)) (by simp) hheld hcw (vs := [(.int (33 : Int32)), (.int (35 : Int32)), (.int (36 : Int32)), (.int (37 : Int32)), (.int (38 : Int32)), (.int (39 : Int32)), (.int (42 : Int32)), (.int (43 : Int32)), (.int (45 : Int32)), (.int (46 : Int32)), (.int (94 : Int32)), (.int (95 : Int32)), (.int (96 : Int32)), (.int (124 : Int32)), (.int (126 : Int32))]) (z := (15 : Int32)) ⟨by decide, rfl⟩ (by decide) (by decide) (g := (mkF m 36 #[.val (.int p1)] [])) rfl (hb hby d_tch_36) (n := 60) (by decide) (by decide) (by decide) (by decide)
          have Z15 : n0 ≤ h15.size := Nat.le_trans Z0 E15.1
          have pr18 : ∀ t, Steps p.tables e below (T15.setTop (mkF m 39 #[.val (.int p1)] [(.int p1), (.ref a15)])) t → Steps p.tables e below (s₁.setTop (entryFrame m #[(.int p1)] 1)) t := fun t kt => pr16 t (by
            refine st15 _ ?_
            show Steps p.tables e below (T15.setTop (mkF m 38 #[.val (.int p1)] [(.ref a15)])) _
            refine XS.iloadN X15.here hx rfl (hb hby d_tch_38) rfl ?_
            show Steps p.tables e below (T15.setTop (mkF m 39 #[.val (.int p1)] [(.int p1), (.ref a15)])) _
            exact kt)
          obtain ⟨cq17, kq17, q17a, q17b, q17c⟩ := isOf hZ15 e15 A15
          obtain ⟨_, _, ⟨T17, L17, k17, n17⟩, -, X17, ⟨Lc17, hQ17, l17, y17, z17⟩, st17⟩ := X15.virtualBack hx (y := (⟨"java/lang/String", "indexOf", "(I)I"⟩ : MethodName)) (z := (⟨"java/lang/String", "indexOf", "(I)I"⟩ : MethodName)) hown15 (mvT hZ15 (hw _ (List.mem_of_getElem? (i := 13) rfl))) (mvT hZ15 (hw _ (List.mem_of_getElem? (i := 14) rfl))) (notFace_of_selects (args := #[]) (mvT hZ15 (hw _ (List.mem_of_getElem? (i := 16) rfl)))) (mvT hZ15 (hw _ (List.mem_of_getElem? (i := 16) rfl))) (mvT hZ15 (hw _ (List.mem_of_getElem? (i := 15) rfl))) (by decide) (backOf (W := 0) (rm_ix1 l Z a0 hw [] a15 p1 b15 c15 w1 h15 n0 Z15 A15 Fc15 Fv15 V15 (S1.ext E15) nz) hZ15 (hw _ (List.mem_of_getElem? (i := 17) rfl)) (hw _ (List.mem_of_getElem? (i := 6) rfl)) (by decide) (by decide)) q17a q17c (g := (mkF m 39 #[.val (.int p1)] [(.int p1), (.ref a15)])) rfl (by rw [hml]; rfl) (Steps.refl _) (argsL := [(.int p1)]) (rest := []) (lenOf pd_tch_0 rfl) rfl (by show 2 * 0 + _ ≤ _; exact Nat.le_of_eq rfl) (hb hby d_tch_39) (fun _ _ => ⟨rfl, e15, (by decide : 2 + 0 ≤ _), (by decide : 64 + 0 ≤ _)⟩)
          dsimp only [Pt.U, Pt.locs, Pt.cells, Pt.slots] at X17 l17 y17 z17 st17 hQ17
          subst l17 y17 z17
          obtain ⟨rfl, N17q, e17⟩ := hQ17
          have N17 := Fr.app N0 N17q
          have pr20 : ∀ t, Steps p.tables e below (T17.setTop (mkF m 42 #[.val (.int p1)] [(.int (own_ix p1))])) t → Steps p.tables e below (s₁.setTop (entryFrame m #[(.int p1)] 1)) t := fun t kt => pr18 t (by
            refine st17.trans ?_
            exact kt)
          by_cases hc42_19 : (own_ix p1) < (0 : Int32)
          · obtain ⟨fs, hr, hrun, hended, hRW⟩ := X17.leaveW S15 (by rw [e17]; exact q15) (v := some (.int (nar .boolean (0 : Int32)))) (fun h => by rw [Bd.returns] at h; cases h)
            refine ⟨_, _, pr20 _ ?_, hrun, hended, _, _, rfl, ?_, hRW.1, hRW.2.1, hRW.2.2.1, hRW.2.2.2.mono (by decide) (by decide)⟩
            · show Steps p.tables e below (T17.setTop (mkF m 42 #[.val (.int p1)] [(.int (own_ix p1))])) _
              refine XS.ifYes X17.here hx rfl (pc0 := 42) (pc' := 49) rfl (hb hby d_tch_42) rfl ((if0 _ _).trans (tlt hc42_19).1) (by decide) (by decide) ?_
              show Steps p.tables e below (T17.setTop (mkF m 49 #[.val (.int p1)] [])) _
              refine XS.iconst X17.here hx rfl (hb hby d_tch_49) ?_
              show Steps p.tables e below (T17.setTop (mkF m 50 #[.val (.int p1)] [(.int (0 : Int32))])) _
              exact retN X17 hx (t := .boolean) Bd.returns (by simp) (hb hby d_tch_50) hr
            · show Q_tch Z p1 w1 h0 n0 _ T17.heap _
              rw [e17]
              exact ⟨(congrArg (fun zz => some (Value.int zz)) (by rw [show own_tch p1 = false from own_tcf (by simp only [Int32.lt_iff_toInt_lt, own_n0, own_n48, own_n57, own_n65, own_n90, own_n97, own_n122] at hc3_1 hc15_3 hc27_5 hc33_13 hc42_19; omega)]; rfl : nar .boolean (0 : Int32) = (own_b (own_tch p1)))), N17, E15.1⟩
          · obtain ⟨fs, hr, hrun, hended, hRW⟩ := X17.leaveW S15 (by rw [e17]; exact q15) (v := some (.int (nar .boolean (1 : Int32)))) (fun h => by rw [Bd.returns] at h; cases h)
            refine ⟨_, _, pr20 _ ?_, hrun, hended, _, _, rfl, ?_, hRW.1, hRW.2.1, hRW.2.2.1, hRW.2.2.2.mono (by decide) (by decide)⟩
            · show Steps p.tables e below (T17.setTop (mkF m 42 #[.val (.int p1)] [(.int (own_ix p1))])) _
              refine XS.ifNo X17.here hx rfl (hb hby d_tch_42) rfl ((if0 _ _).trans (flt hc42_19).1) ?_
              show Steps p.tables e below (T17.setTop (mkF m 45 #[.val (.int p1)] [])) _
              refine XS.iconst X17.here hx rfl (hb hby d_tch_45) ?_
              show Steps p.tables e below (T17.setTop (mkF m 46 #[.val (.int p1)] [(.int (1 : Int32))])) _
              refine XS.goto X17.here hx rfl (pc0 := 46) (pc' := 50) rfl (hb hby d_tch_46) (by decide) (by decide) ?_
              show Steps p.tables e below (T17.setTop (mkF m 50 #[.val (.int p1)] [(.int (1 : Int32))])) _
              exact retN X17 hx (t := .boolean) Bd.returns (by simp) (hb hby d_tch_50) hr
            · show Q_tch Z p1 w1 h0 n0 _ T17.heap _
              rw [e17]
              exact ⟨(congrArg (fun zz => some (Value.int zz)) (by rw [show own_tch p1 = true from own_tct (by simp only [Int32.lt_iff_toInt_lt, own_n0, own_n48, own_n57, own_n65, own_n90, own_n97, own_n122] at hc3_1 hc15_3 hc27_5 hc33_13 hc42_19; omega)]; rfl : nar .boolean (1 : Int32) = (own_b (own_tch p1)))), N17, E15.1⟩
        · obtain ⟨fs, hr, hrun, hended, hW, hsame⟩ := X0.leave (v := some (.int (nar .boolean (1 : Int32)))) (fun h => by rw [Bd.returns] at h; cases h)
          refine ⟨_, _, pr14 _ ?_, hrun, hended, _, _, rfl, ?_, ReturnedEndW.of_narrow ⟨_, rfl⟩ hW (hsame.mono (by decide) (by decide))⟩
          · show Steps p.tables e below (s₁.setTop (mkF m 33 #[.val (.int p1)] [(.int (57 : Int32)), (.int p1)])) _
            refine XS.icmpYes X0.here hx rfl (pc0 := 33) (pc' := 45) rfl (hb hby d_tch_33) rfl (flt hc33_13).2.2.2 (by decide) (by decide) ?_
            show Steps p.tables e below (s₁.setTop (mkF m 45 #[.val (.int p1)] [])) _
            refine XS.iconst X0.here hx rfl (hb hby d_tch_45) ?_
            show Steps p.tables e below (s₁.setTop (mkF m 46 #[.val (.int p1)] [(.int (1 : Int32))])) _
            refine XS.goto X0.here hx rfl (pc0 := 46) (pc' := 50) rfl (hb hby d_tch_46) (by decide) (by decide) ?_
            show Steps p.tables e below (s₁.setTop (mkF m 50 #[.val (.int p1)] [(.int (1 : Int32))])) _
            exact retN X0 hx (t := .boolean) Bd.returns (by simp) (hb hby d_tch_50) hr
          · show Q_tch Z p1 w1 h0 n0 _ s₁.heap _
            rw [e0]
            exact ⟨(congrArg (fun zz => some (Value.int zz)) (by rw [show own_tch p1 = true from own_tct (by simp only [Int32.lt_iff_toInt_lt, own_n0, own_n48, own_n57, own_n65, own_n90, own_n97, own_n122] at hc3_1 hc15_3 hc27_5 hc33_13; omega)]; rfl : nar .boolean (1 : Int32) = (own_b (own_tch p1)))), N0, Nat.le_refl _⟩
    · have pr22 : ∀ t, Steps p.tables e below (s₁.setTop (mkF m 21 #[.val (.int p1)] [(.int (90 : Int32)), (.int p1)])) t → Steps p.tables e below (s₁.setTop (entryFrame m #[(.int p1)] 1)) t := fun t kt => pr4 t (by
        show Steps p.tables e below (s₁.setTop (mkF m 15 #[.val (.int p1)] [(.int (65 : Int32)), (.int p1)])) _
        refine XS.icmpNo X0.here hx rfl (hb hby d_tch_15) rfl (flt hc15_3).1 ?_
        show Steps p.tables e below (s₁.setTop (mkF m 18 #[.val (.int p1)] [])) _
        refine XS.iloadN X0.here hx rfl (hb hby d_tch_18) rfl ?_
        show Steps p.tables e below (s₁.setTop (mkF m 19 #[.val (.int p1)] [(.int p1)])) _
        refine XS.bipush X0.here hx rfl (hb hby d_tch_19) ?_
        exact kt)
      by_cases hc21_21 : (90 : Int32) < p1
      · have pr24 : ∀ t, Steps p.tables e below (s₁.setTop (mkF m 36 #[.val (.int p1)] [])) t → Steps p.tables e below (s₁.setTop (entryFrame m #[(.int p1)] 1)) t := fun t kt => pr22 t (by
          show Steps p.tables e below (s₁.setTop (mkF m 21 #[.val (.int p1)] [(.int (90 : Int32)), (.int p1)])) _
          refine XS.icmpNo X0.here hx rfl (hb hby d_tch_21) rfl (tlt hc21_21).2.2.2 ?_
          show Steps p.tables e below (s₁.setTop (mkF m 24 #[.val (.int p1)] [])) _
          refine XS.iloadN X0.here hx rfl (hb hby d_tch_24) rfl ?_
          show Steps p.tables e below (s₁.setTop (mkF m 25 #[.val (.int p1)] [(.int p1)])) _
          refine XS.bipush X0.here hx rfl (hb hby d_tch_25) ?_
          show Steps p.tables e below (s₁.setTop (mkF m 27 #[.val (.int p1)] [(.int (48 : Int32)), (.int p1)])) _
          refine XS.icmpNo X0.here hx rfl (hb hby d_tch_27) rfl (flt ((own_up (by decide : (48 : Int32) < (90 : Int32)) hc21_21).1 : ¬ (p1 < (48 : Int32)))).1 ?_
          show Steps p.tables e below (s₁.setTop (mkF m 30 #[.val (.int p1)] [])) _
          refine XS.iloadN X0.here hx rfl (hb hby d_tch_30) rfl ?_
          show Steps p.tables e below (s₁.setTop (mkF m 31 #[.val (.int p1)] [(.int p1)])) _
          refine XS.bipush X0.here hx rfl (hb hby d_tch_31) ?_
          show Steps p.tables e below (s₁.setTop (mkF m 33 #[.val (.int p1)] [(.int (57 : Int32)), (.int p1)])) _
          refine XS.icmpNo X0.here hx rfl (hb hby d_tch_33) rfl (tlt ((own_up (by decide : (57 : Int32) < (90 : Int32)) hc21_21).2 : (57 : Int32) < p1)).2.2.2 ?_
          show Steps p.tables e below (s₁.setTop (mkF m 36 #[.val (.int p1)] [])) _
          exact kt)
        have hS0 : ∀ d ∈ Bundle.stringAtoms, d.before a0 Z = true := fun d hd => hw d (by simpa using (List.all_eq_true.mp (by decide +kernel : (Bundle.stringAtoms.all fun c => tables_1.contains c) = true)) d hd)
        obtain ⟨a23, T23, h23, k23, b23, c23, X23, e23, E23, S23, q23, hZ23, hown23, A23, Fc23, Fv23, V23, -, -, -, st23⟩ := ldcSV (s := s) (vm0 := s₁.vm) (X0.retabled X0.warmed.wide) hx (wtrans hZ X0.warmed) (by rw [X0.warmed.alike.findClass]; exact hown) (hw _ (List.mem_of_getElem? (i := 5) rfl)) hS0 e0 (X0.warmed.since 0) (Nat.zero_le _) (Fr.nil _) (fun b cl q => by rw [hh]; exact hkeep b cl q) (own_IB (X0.warmed.interned_eq.trans hi)) (by simp) hheld hcw (vs := [(.int (33 : Int32)), (.int (35 : Int32)), (.int (36 : Int32)), (.int (37 : Int32)), (.int (38 : Int32)), (.int (39 : Int32)), (.int (42 : Int32)), (.int (43 : Int32)), (.int (45 : Int32)), (.int (46 : Int32)), (.int (94 : Int32)), (.int (95 : Int32)), (.int (96 : Int32)), (.int (124 : Int32)), (.int (126 : Int32))]) (z := (15 : Int32)) ⟨by decide, rfl⟩ (by decide) (by decide) (g := (mkF m 36 #[.val (.int p1)] [])) rfl (hb hby d_tch_36) (n := 60) (by decide) (by decide) (by decide) (by decide)
        have Z23 : n0 ≤ h23.size := Nat.le_trans Z0 E23.1
        have pr26 : ∀ t, Steps p.tables e below (T23.setTop (mkF m 39 #[.val (.int p1)] [(.int p1), (.ref a23)])) t → Steps p.tables e below (s₁.setTop (entryFrame m #[(.int p1)] 1)) t := fun t kt => pr24 t (by
          refine st23 _ ?_
          show Steps p.tables e below (T23.setTop (mkF m 38 #[.val (.int p1)] [(.ref a23)])) _
          refine XS.iloadN X23.here hx rfl (hb hby d_tch_38) rfl ?_
          show Steps p.tables e below (T23.setTop (mkF m 39 #[.val (.int p1)] [(.int p1), (.ref a23)])) _
          exact kt)
        obtain ⟨cq25, kq25, q25a, q25b, q25c⟩ := isOf hZ23 e23 A23
        obtain ⟨_, _, ⟨T25, L25, k25, n25⟩, -, X25, ⟨Lc25, hQ25, l25, y25, z25⟩, st25⟩ := X23.virtualBack hx (y := (⟨"java/lang/String", "indexOf", "(I)I"⟩ : MethodName)) (z := (⟨"java/lang/String", "indexOf", "(I)I"⟩ : MethodName)) hown23 (mvT hZ23 (hw _ (List.mem_of_getElem? (i := 13) rfl))) (mvT hZ23 (hw _ (List.mem_of_getElem? (i := 14) rfl))) (notFace_of_selects (args := #[]) (mvT hZ23 (hw _ (List.mem_of_getElem? (i := 16) rfl)))) (mvT hZ23 (hw _ (List.mem_of_getElem? (i := 16) rfl))) (mvT hZ23 (hw _ (List.mem_of_getElem? (i := 15) rfl))) (by decide) (backOf (W := 0) (rm_ix1 l Z a0 hw [] a23 p1 b23 c23 w1 h23 n0 Z23 A23 Fc23 Fv23 V23 (S1.ext E23) nz) hZ23 (hw _ (List.mem_of_getElem? (i := 17) rfl)) (hw _ (List.mem_of_getElem? (i := 6) rfl)) (by decide) (by decide)) q25a q25c (g := (mkF m 39 #[.val (.int p1)] [(.int p1), (.ref a23)])) rfl (by rw [hml]; rfl) (Steps.refl _) (argsL := [(.int p1)]) (rest := []) (lenOf pd_tch_0 rfl) rfl (by show 2 * 0 + _ ≤ _; exact Nat.le_of_eq rfl) (hb hby d_tch_39) (fun _ _ => ⟨rfl, e23, (by decide : 2 + 0 ≤ _), (by decide : 64 + 0 ≤ _)⟩)
        dsimp only [Pt.U, Pt.locs, Pt.cells, Pt.slots] at X25 l25 y25 z25 st25 hQ25
        subst l25 y25 z25
        obtain ⟨rfl, N25q, e25⟩ := hQ25
        have N25 := Fr.app N0 N25q
        have pr28 : ∀ t, Steps p.tables e below (T25.setTop (mkF m 42 #[.val (.int p1)] [(.int (own_ix p1))])) t → Steps p.tables e below (s₁.setTop (entryFrame m #[(.int p1)] 1)) t := fun t kt => pr26 t (by
          refine st25.trans ?_
          exact kt)
        by_cases hc42_27 : (own_ix p1) < (0 : Int32)
        · obtain ⟨fs, hr, hrun, hended, hRW⟩ := X25.leaveW S23 (by rw [e25]; exact q23) (v := some (.int (nar .boolean (0 : Int32)))) (fun h => by rw [Bd.returns] at h; cases h)
          refine ⟨_, _, pr28 _ ?_, hrun, hended, _, _, rfl, ?_, hRW.1, hRW.2.1, hRW.2.2.1, hRW.2.2.2.mono (by decide) (by decide)⟩
          · show Steps p.tables e below (T25.setTop (mkF m 42 #[.val (.int p1)] [(.int (own_ix p1))])) _
            refine XS.ifYes X25.here hx rfl (pc0 := 42) (pc' := 49) rfl (hb hby d_tch_42) rfl ((if0 _ _).trans (tlt hc42_27).1) (by decide) (by decide) ?_
            show Steps p.tables e below (T25.setTop (mkF m 49 #[.val (.int p1)] [])) _
            refine XS.iconst X25.here hx rfl (hb hby d_tch_49) ?_
            show Steps p.tables e below (T25.setTop (mkF m 50 #[.val (.int p1)] [(.int (0 : Int32))])) _
            exact retN X25 hx (t := .boolean) Bd.returns (by simp) (hb hby d_tch_50) hr
          · show Q_tch Z p1 w1 h0 n0 _ T25.heap _
            rw [e25]
            exact ⟨(congrArg (fun zz => some (Value.int zz)) (by rw [show own_tch p1 = false from own_tcf (by simp only [Int32.lt_iff_toInt_lt, own_n0, own_n48, own_n57, own_n65, own_n90, own_n97, own_n122] at hc3_1 hc15_3 hc21_21 hc42_27; omega)]; rfl : nar .boolean (0 : Int32) = (own_b (own_tch p1)))), N25, E23.1⟩
        · obtain ⟨fs, hr, hrun, hended, hRW⟩ := X25.leaveW S23 (by rw [e25]; exact q23) (v := some (.int (nar .boolean (1 : Int32)))) (fun h => by rw [Bd.returns] at h; cases h)
          refine ⟨_, _, pr28 _ ?_, hrun, hended, _, _, rfl, ?_, hRW.1, hRW.2.1, hRW.2.2.1, hRW.2.2.2.mono (by decide) (by decide)⟩
          · show Steps p.tables e below (T25.setTop (mkF m 42 #[.val (.int p1)] [(.int (own_ix p1))])) _
            refine XS.ifNo X25.here hx rfl (hb hby d_tch_42) rfl ((if0 _ _).trans (flt hc42_27).1) ?_
            show Steps p.tables e below (T25.setTop (mkF m 45 #[.val (.int p1)] [])) _
            refine XS.iconst X25.here hx rfl (hb hby d_tch_45) ?_
            show Steps p.tables e below (T25.setTop (mkF m 46 #[.val (.int p1)] [(.int (1 : Int32))])) _
            refine XS.goto X25.here hx rfl (pc0 := 46) (pc' := 50) rfl (hb hby d_tch_46) (by decide) (by decide) ?_
            show Steps p.tables e below (T25.setTop (mkF m 50 #[.val (.int p1)] [(.int (1 : Int32))])) _
            exact retN X25 hx (t := .boolean) Bd.returns (by simp) (hb hby d_tch_50) hr
          · show Q_tch Z p1 w1 h0 n0 _ T25.heap _
            rw [e25]
            exact ⟨(congrArg (fun zz => some (Value.int zz)) (by rw [show own_tch p1 = true from own_tct (by simp only [Int32.lt_iff_toInt_lt, own_n0, own_n48, own_n57, own_n65, own_n90, own_n97, own_n122] at hc3_1 hc15_3 hc21_21 hc42_27; omega)]; rfl : nar .boolean (1 : Int32) = (own_b (own_tch p1)))), N25, E23.1⟩
      · obtain ⟨fs, hr, hrun, hended, hW, hsame⟩ := X0.leave (v := some (.int (nar .boolean (1 : Int32)))) (fun h => by rw [Bd.returns] at h; cases h)
        refine ⟨_, _, pr22 _ ?_, hrun, hended, _, _, rfl, ?_, ReturnedEndW.of_narrow ⟨_, rfl⟩ hW (hsame.mono (by decide) (by decide))⟩
        · show Steps p.tables e below (s₁.setTop (mkF m 21 #[.val (.int p1)] [(.int (90 : Int32)), (.int p1)])) _
          refine XS.icmpYes X0.here hx rfl (pc0 := 21) (pc' := 45) rfl (hb hby d_tch_21) rfl (flt hc21_21).2.2.2 (by decide) (by decide) ?_
          show Steps p.tables e below (s₁.setTop (mkF m 45 #[.val (.int p1)] [])) _
          refine XS.iconst X0.here hx rfl (hb hby d_tch_45) ?_
          show Steps p.tables e below (s₁.setTop (mkF m 46 #[.val (.int p1)] [(.int (1 : Int32))])) _
          refine XS.goto X0.here hx rfl (pc0 := 46) (pc' := 50) rfl (hb hby d_tch_46) (by decide) (by decide) ?_
          show Steps p.tables e below (s₁.setTop (mkF m 50 #[.val (.int p1)] [(.int (1 : Int32))])) _
          exact retN X0 hx (t := .boolean) Bd.returns (by simp) (hb hby d_tch_50) hr
        · show Q_tch Z p1 w1 h0 n0 _ s₁.heap _
          rw [e0]
          exact ⟨(congrArg (fun zz => some (Value.int zz)) (by rw [show own_tch p1 = true from own_tct (by simp only [Int32.lt_iff_toInt_lt, own_n0, own_n48, own_n57, own_n65, own_n90, own_n97, own_n122] at hc3_1 hc15_3 hc21_21; omega)]; rfl : nar .boolean (1 : Int32) = (own_b (own_tch p1)))), N0, Nat.le_refl _⟩
  · have pr30 : ∀ t, Steps p.tables e below (s₁.setTop (mkF m 9 #[.val (.int p1)] [(.int (122 : Int32)), (.int p1)])) t → Steps p.tables e below (s₁.setTop (entryFrame m #[(.int p1)] 1)) t := fun t kt => pr2 t (by
      show Steps p.tables e below (s₁.setTop (mkF m 3 #[.val (.int p1)] [(.int (97 : Int32)), (.int p1)])) _
      refine XS.icmpNo X0.here hx rfl (hb hby d_tch_3) rfl (flt hc3_1).1 ?_
      show Steps p.tables e below (s₁.setTop (mkF m 6 #[.val (.int p1)] [])) _
      refine XS.iloadN X0.here hx rfl (hb hby d_tch_6) rfl ?_
      show Steps p.tables e below (s₁.setTop (mkF m 7 #[.val (.int p1)] [(.int p1)])) _
      refine XS.bipush X0.here hx rfl (hb hby d_tch_7) ?_
      exact kt)
    by_cases hc9_29 : (122 : Int32) < p1
    · have pr32 : ∀ t, Steps p.tables e below (s₁.setTop (mkF m 36 #[.val (.int p1)] [])) t → Steps p.tables e below (s₁.setTop (entryFrame m #[(.int p1)] 1)) t := fun t kt => pr30 t (by
        show Steps p.tables e below (s₁.setTop (mkF m 9 #[.val (.int p1)] [(.int (122 : Int32)), (.int p1)])) _
        refine XS.icmpNo X0.here hx rfl (hb hby d_tch_9) rfl (tlt hc9_29).2.2.2 ?_
        show Steps p.tables e below (s₁.setTop (mkF m 12 #[.val (.int p1)] [])) _
        refine XS.iloadN X0.here hx rfl (hb hby d_tch_12) rfl ?_
        show Steps p.tables e below (s₁.setTop (mkF m 13 #[.val (.int p1)] [(.int p1)])) _
        refine XS.bipush X0.here hx rfl (hb hby d_tch_13) ?_
        show Steps p.tables e below (s₁.setTop (mkF m 15 #[.val (.int p1)] [(.int (65 : Int32)), (.int p1)])) _
        refine XS.icmpNo X0.here hx rfl (hb hby d_tch_15) rfl (flt ((own_up (by decide : (65 : Int32) < (122 : Int32)) hc9_29).1 : ¬ (p1 < (65 : Int32)))).1 ?_
        show Steps p.tables e below (s₁.setTop (mkF m 18 #[.val (.int p1)] [])) _
        refine XS.iloadN X0.here hx rfl (hb hby d_tch_18) rfl ?_
        show Steps p.tables e below (s₁.setTop (mkF m 19 #[.val (.int p1)] [(.int p1)])) _
        refine XS.bipush X0.here hx rfl (hb hby d_tch_19) ?_
        show Steps p.tables e below (s₁.setTop (mkF m 21 #[.val (.int p1)] [(.int (90 : Int32)), (.int p1)])) _
        refine XS.icmpNo X0.here hx rfl (hb hby d_tch_21) rfl (tlt ((own_up (by decide : (90 : Int32) < (122 : Int32)) hc9_29).2 : (90 : Int32) < p1)).2.2.2 ?_
        show Steps p.tables e below (s₁.setTop (mkF m 24 #[.val (.int p1)] [])) _
        refine XS.iloadN X0.here hx rfl (hb hby d_tch_24) rfl ?_
        show Steps p.tables e below (s₁.setTop (mkF m 25 #[.val (.int p1)] [(.int p1)])) _
        refine XS.bipush X0.here hx rfl (hb hby d_tch_25) ?_
        show Steps p.tables e below (s₁.setTop (mkF m 27 #[.val (.int p1)] [(.int (48 : Int32)), (.int p1)])) _
        refine XS.icmpNo X0.here hx rfl (hb hby d_tch_27) rfl (flt ((own_up (by decide : (48 : Int32) < (122 : Int32)) hc9_29).1 : ¬ (p1 < (48 : Int32)))).1 ?_
        show Steps p.tables e below (s₁.setTop (mkF m 30 #[.val (.int p1)] [])) _
        refine XS.iloadN X0.here hx rfl (hb hby d_tch_30) rfl ?_
        show Steps p.tables e below (s₁.setTop (mkF m 31 #[.val (.int p1)] [(.int p1)])) _
        refine XS.bipush X0.here hx rfl (hb hby d_tch_31) ?_
        show Steps p.tables e below (s₁.setTop (mkF m 33 #[.val (.int p1)] [(.int (57 : Int32)), (.int p1)])) _
        refine XS.icmpNo X0.here hx rfl (hb hby d_tch_33) rfl (tlt ((own_up (by decide : (57 : Int32) < (122 : Int32)) hc9_29).2 : (57 : Int32) < p1)).2.2.2 ?_
        show Steps p.tables e below (s₁.setTop (mkF m 36 #[.val (.int p1)] [])) _
        exact kt)
      have hS0 : ∀ d ∈ Bundle.stringAtoms, d.before a0 Z = true := fun d hd => hw d (by simpa using (List.all_eq_true.mp (by decide +kernel : (Bundle.stringAtoms.all fun c => tables_1.contains c) = true)) d hd)
      obtain ⟨a31, T31, h31, k31, b31, c31, X31, e31, E31, S31, q31, hZ31, hown31, A31, Fc31, Fv31, V31, -, -, -, st31⟩ := ldcSV (s := s) (vm0 := s₁.vm) (X0.retabled X0.warmed.wide) hx (wtrans hZ X0.warmed) (by rw [X0.warmed.alike.findClass]; exact hown) (hw _ (List.mem_of_getElem? (i := 5) rfl)) hS0 e0 (X0.warmed.since 0) (Nat.zero_le _) (Fr.nil _) (fun b cl q => by rw [hh]; exact hkeep b cl q) (own_IB (X0.warmed.interned_eq.trans hi)) (by simp) hheld hcw (vs := [(.int (33 : Int32)), (.int (35 : Int32)), (.int (36 : Int32)), (.int (37 : Int32)), (.int (38 : Int32)), (.int (39 : Int32)), (.int (42 : Int32)), (.int (43 : Int32)), (.int (45 : Int32)), (.int (46 : Int32)), (.int (94 : Int32)), (.int (95 : Int32)), (.int (96 : Int32)), (.int (124 : Int32)), (.int (126 : Int32))]) (z := (15 : Int32)) ⟨by decide, rfl⟩ (by decide) (by decide) (g := (mkF m 36 #[.val (.int p1)] [])) rfl (hb hby d_tch_36) (n := 60) (by decide) (by decide) (by decide) (by decide)
      have Z31 : n0 ≤ h31.size := Nat.le_trans Z0 E31.1
      have pr34 : ∀ t, Steps p.tables e below (T31.setTop (mkF m 39 #[.val (.int p1)] [(.int p1), (.ref a31)])) t → Steps p.tables e below (s₁.setTop (entryFrame m #[(.int p1)] 1)) t := fun t kt => pr32 t (by
        refine st31 _ ?_
        show Steps p.tables e below (T31.setTop (mkF m 38 #[.val (.int p1)] [(.ref a31)])) _
        refine XS.iloadN X31.here hx rfl (hb hby d_tch_38) rfl ?_
        show Steps p.tables e below (T31.setTop (mkF m 39 #[.val (.int p1)] [(.int p1), (.ref a31)])) _
        exact kt)
      obtain ⟨cq33, kq33, q33a, q33b, q33c⟩ := isOf hZ31 e31 A31
      obtain ⟨_, _, ⟨T33, L33, k33, n33⟩, -, X33, ⟨Lc33, hQ33, l33, y33, z33⟩, st33⟩ := X31.virtualBack hx (y := (⟨"java/lang/String", "indexOf", "(I)I"⟩ : MethodName)) (z := (⟨"java/lang/String", "indexOf", "(I)I"⟩ : MethodName)) hown31 (mvT hZ31 (hw _ (List.mem_of_getElem? (i := 13) rfl))) (mvT hZ31 (hw _ (List.mem_of_getElem? (i := 14) rfl))) (notFace_of_selects (args := #[]) (mvT hZ31 (hw _ (List.mem_of_getElem? (i := 16) rfl)))) (mvT hZ31 (hw _ (List.mem_of_getElem? (i := 16) rfl))) (mvT hZ31 (hw _ (List.mem_of_getElem? (i := 15) rfl))) (by decide) (backOf (W := 0) (rm_ix1 l Z a0 hw [] a31 p1 b31 c31 w1 h31 n0 Z31 A31 Fc31 Fv31 V31 (S1.ext E31) nz) hZ31 (hw _ (List.mem_of_getElem? (i := 17) rfl)) (hw _ (List.mem_of_getElem? (i := 6) rfl)) (by decide) (by decide)) q33a q33c (g := (mkF m 39 #[.val (.int p1)] [(.int p1), (.ref a31)])) rfl (by rw [hml]; rfl) (Steps.refl _) (argsL := [(.int p1)]) (rest := []) (lenOf pd_tch_0 rfl) rfl (by show 2 * 0 + _ ≤ _; exact Nat.le_of_eq rfl) (hb hby d_tch_39) (fun _ _ => ⟨rfl, e31, (by decide : 2 + 0 ≤ _), (by decide : 64 + 0 ≤ _)⟩)
      dsimp only [Pt.U, Pt.locs, Pt.cells, Pt.slots] at X33 l33 y33 z33 st33 hQ33
      subst l33 y33 z33
      obtain ⟨rfl, N33q, e33⟩ := hQ33
      have N33 := Fr.app N0 N33q
      have pr36 : ∀ t, Steps p.tables e below (T33.setTop (mkF m 42 #[.val (.int p1)] [(.int (own_ix p1))])) t → Steps p.tables e below (s₁.setTop (entryFrame m #[(.int p1)] 1)) t := fun t kt => pr34 t (by
        refine st33.trans ?_
        exact kt)
      by_cases hc42_35 : (own_ix p1) < (0 : Int32)
      · obtain ⟨fs, hr, hrun, hended, hRW⟩ := X33.leaveW S31 (by rw [e33]; exact q31) (v := some (.int (nar .boolean (0 : Int32)))) (fun h => by rw [Bd.returns] at h; cases h)
        refine ⟨_, _, pr36 _ ?_, hrun, hended, _, _, rfl, ?_, hRW.1, hRW.2.1, hRW.2.2.1, hRW.2.2.2.mono (by decide) (by decide)⟩
        · show Steps p.tables e below (T33.setTop (mkF m 42 #[.val (.int p1)] [(.int (own_ix p1))])) _
          refine XS.ifYes X33.here hx rfl (pc0 := 42) (pc' := 49) rfl (hb hby d_tch_42) rfl ((if0 _ _).trans (tlt hc42_35).1) (by decide) (by decide) ?_
          show Steps p.tables e below (T33.setTop (mkF m 49 #[.val (.int p1)] [])) _
          refine XS.iconst X33.here hx rfl (hb hby d_tch_49) ?_
          show Steps p.tables e below (T33.setTop (mkF m 50 #[.val (.int p1)] [(.int (0 : Int32))])) _
          exact retN X33 hx (t := .boolean) Bd.returns (by simp) (hb hby d_tch_50) hr
        · show Q_tch Z p1 w1 h0 n0 _ T33.heap _
          rw [e33]
          exact ⟨(congrArg (fun zz => some (Value.int zz)) (by rw [show own_tch p1 = false from own_tcf (by simp only [Int32.lt_iff_toInt_lt, own_n0, own_n48, own_n57, own_n65, own_n90, own_n97, own_n122] at hc3_1 hc9_29 hc42_35; omega)]; rfl : nar .boolean (0 : Int32) = (own_b (own_tch p1)))), N33, E31.1⟩
      · obtain ⟨fs, hr, hrun, hended, hRW⟩ := X33.leaveW S31 (by rw [e33]; exact q31) (v := some (.int (nar .boolean (1 : Int32)))) (fun h => by rw [Bd.returns] at h; cases h)
        refine ⟨_, _, pr36 _ ?_, hrun, hended, _, _, rfl, ?_, hRW.1, hRW.2.1, hRW.2.2.1, hRW.2.2.2.mono (by decide) (by decide)⟩
        · show Steps p.tables e below (T33.setTop (mkF m 42 #[.val (.int p1)] [(.int (own_ix p1))])) _
          refine XS.ifNo X33.here hx rfl (hb hby d_tch_42) rfl ((if0 _ _).trans (flt hc42_35).1) ?_
          show Steps p.tables e below (T33.setTop (mkF m 45 #[.val (.int p1)] [])) _
          refine XS.iconst X33.here hx rfl (hb hby d_tch_45) ?_
          show Steps p.tables e below (T33.setTop (mkF m 46 #[.val (.int p1)] [(.int (1 : Int32))])) _
          refine XS.goto X33.here hx rfl (pc0 := 46) (pc' := 50) rfl (hb hby d_tch_46) (by decide) (by decide) ?_
          show Steps p.tables e below (T33.setTop (mkF m 50 #[.val (.int p1)] [(.int (1 : Int32))])) _
          exact retN X33 hx (t := .boolean) Bd.returns (by simp) (hb hby d_tch_50) hr
        · show Q_tch Z p1 w1 h0 n0 _ T33.heap _
          rw [e33]
          exact ⟨(congrArg (fun zz => some (Value.int zz)) (by rw [show own_tch p1 = true from own_tct (by simp only [Int32.lt_iff_toInt_lt, own_n0, own_n48, own_n57, own_n65, own_n90, own_n97, own_n122] at hc3_1 hc9_29 hc42_35; omega)]; rfl : nar .boolean (1 : Int32) = (own_b (own_tch p1)))), N33, E31.1⟩
    · obtain ⟨fs, hr, hrun, hended, hW, hsame⟩ := X0.leave (v := some (.int (nar .boolean (1 : Int32)))) (fun h => by rw [Bd.returns] at h; cases h)
      refine ⟨_, _, pr30 _ ?_, hrun, hended, _, _, rfl, ?_, ReturnedEndW.of_narrow ⟨_, rfl⟩ hW (hsame.mono (by decide) (by decide))⟩
      · show Steps p.tables e below (s₁.setTop (mkF m 9 #[.val (.int p1)] [(.int (122 : Int32)), (.int p1)])) _
        refine XS.icmpYes X0.here hx rfl (pc0 := 9) (pc' := 45) rfl (hb hby d_tch_9) rfl (flt hc9_29).2.2.2 (by decide) (by decide) ?_
        show Steps p.tables e below (s₁.setTop (mkF m 45 #[.val (.int p1)] [])) _
        refine XS.iconst X0.here hx rfl (hb hby d_tch_45) ?_
        show Steps p.tables e below (s₁.setTop (mkF m 46 #[.val (.int p1)] [(.int (1 : Int32))])) _
        refine XS.goto X0.here hx rfl (pc0 := 46) (pc' := 50) rfl (hb hby d_tch_46) (by decide) (by decide) ?_
        show Steps p.tables e below (s₁.setTop (mkF m 50 #[.val (.int p1)] [(.int (1 : Int32))])) _
        exact retN X0 hx (t := .boolean) Bd.returns (by simp) (hb hby d_tch_50) hr
      · show Q_tch Z p1 w1 h0 n0 _ s₁.heap _
        rw [e0]
        exact ⟨(congrArg (fun zz => some (Value.int zz)) (by rw [show own_tch p1 = true from own_tct (by simp only [Int32.lt_iff_toInt_lt, own_n0, own_n48, own_n57, own_n65, own_n90, own_n97, own_n122] at hc3_1 hc9_29; omega)]; rfl : nar .boolean (1 : Int32) = (own_b (own_tch p1)))), N0, Nat.le_refl _⟩
theorem d_dl_0 : decode method_2_code 0 = .ok (.iload_n 0, 1) := by decide +kernel
theorem d_dl_1 : decode method_2_code 1 = .ok (.bipush 34, 2) := by decide +kernel
theorem d_dl_3 : decode method_2_code 3 = .ok (.if_icmp .eq 99, 3) := by decide +kernel
theorem d_dl_6 : decode method_2_code 6 = .ok (.iload_n 0, 1) := by decide +kernel
theorem d_dl_7 : decode method_2_code 7 = .ok (.bipush 40, 2) := by decide +kernel
theorem d_dl_9 : decode method_2_code 9 = .ok (.if_icmp .eq 93, 3) := by decide +kernel
theorem d_dl_12 : decode method_2_code 12 = .ok (.iload_n 0, 1) := by decide +kernel
theorem d_dl_13 : decode method_2_code 13 = .ok (.bipush 41, 2) := by decide +kernel
theorem d_dl_15 : decode method_2_code 15 = .ok (.if_icmp .eq 87, 3) := by decide +kernel
theorem d_dl_18 : decode method_2_code 18 = .ok (.iload_n 0, 1) := by decide +kernel
theorem d_dl_19 : decode method_2_code 19 = .ok (.bipush 44, 2) := by decide +kernel
theorem d_dl_21 : decode method_2_code 21 = .ok (.if_icmp .eq 81, 3) := by decide +kernel
theorem d_dl_24 : decode method_2_code 24 = .ok (.iload_n 0, 1) := by decide +kernel
theorem d_dl_25 : decode method_2_code 25 = .ok (.bipush 47, 2) := by decide +kernel
theorem d_dl_27 : decode method_2_code 27 = .ok (.if_icmp .eq 75, 3) := by decide +kernel
theorem d_dl_30 : decode method_2_code 30 = .ok (.iload_n 0, 1) := by decide +kernel
theorem d_dl_31 : decode method_2_code 31 = .ok (.bipush 58, 2) := by decide +kernel
theorem d_dl_33 : decode method_2_code 33 = .ok (.if_icmp .eq 69, 3) := by decide +kernel
theorem d_dl_36 : decode method_2_code 36 = .ok (.iload_n 0, 1) := by decide +kernel
theorem d_dl_37 : decode method_2_code 37 = .ok (.bipush 59, 2) := by decide +kernel
theorem d_dl_39 : decode method_2_code 39 = .ok (.if_icmp .eq 63, 3) := by decide +kernel
theorem d_dl_42 : decode method_2_code 42 = .ok (.iload_n 0, 1) := by decide +kernel
theorem d_dl_43 : decode method_2_code 43 = .ok (.bipush 60, 2) := by decide +kernel
theorem d_dl_45 : decode method_2_code 45 = .ok (.if_icmp .eq 57, 3) := by decide +kernel
theorem d_dl_48 : decode method_2_code 48 = .ok (.iload_n 0, 1) := by decide +kernel
theorem d_dl_49 : decode method_2_code 49 = .ok (.bipush 61, 2) := by decide +kernel
theorem d_dl_51 : decode method_2_code 51 = .ok (.if_icmp .eq 51, 3) := by decide +kernel
theorem d_dl_54 : decode method_2_code 54 = .ok (.iload_n 0, 1) := by decide +kernel
theorem d_dl_55 : decode method_2_code 55 = .ok (.bipush 62, 2) := by decide +kernel
theorem d_dl_57 : decode method_2_code 57 = .ok (.if_icmp .eq 45, 3) := by decide +kernel
theorem d_dl_60 : decode method_2_code 60 = .ok (.iload_n 0, 1) := by decide +kernel
theorem d_dl_61 : decode method_2_code 61 = .ok (.bipush 63, 2) := by decide +kernel
theorem d_dl_63 : decode method_2_code 63 = .ok (.if_icmp .eq 39, 3) := by decide +kernel
theorem d_dl_66 : decode method_2_code 66 = .ok (.iload_n 0, 1) := by decide +kernel
theorem d_dl_67 : decode method_2_code 67 = .ok (.bipush 64, 2) := by decide +kernel
theorem d_dl_69 : decode method_2_code 69 = .ok (.if_icmp .eq 33, 3) := by decide +kernel
theorem d_dl_72 : decode method_2_code 72 = .ok (.iload_n 0, 1) := by decide +kernel
theorem d_dl_73 : decode method_2_code 73 = .ok (.bipush 91, 2) := by decide +kernel
theorem d_dl_75 : decode method_2_code 75 = .ok (.if_icmp .eq 27, 3) := by decide +kernel
theorem d_dl_78 : decode method_2_code 78 = .ok (.iload_n 0, 1) := by decide +kernel
theorem d_dl_79 : decode method_2_code 79 = .ok (.bipush 92, 2) := by decide +kernel
theorem d_dl_81 : decode method_2_code 81 = .ok (.if_icmp .eq 21, 3) := by decide +kernel
theorem d_dl_84 : decode method_2_code 84 = .ok (.iload_n 0, 1) := by decide +kernel
theorem d_dl_85 : decode method_2_code 85 = .ok (.bipush 93, 2) := by decide +kernel
theorem d_dl_87 : decode method_2_code 87 = .ok (.if_icmp .eq 15, 3) := by decide +kernel
theorem d_dl_90 : decode method_2_code 90 = .ok (.iload_n 0, 1) := by decide +kernel
theorem d_dl_91 : decode method_2_code 91 = .ok (.bipush 123, 2) := by decide +kernel
theorem d_dl_93 : decode method_2_code 93 = .ok (.if_icmp .eq 9, 3) := by decide +kernel
theorem d_dl_96 : decode method_2_code 96 = .ok (.iload_n 0, 1) := by decide +kernel
theorem d_dl_97 : decode method_2_code 97 = .ok (.bipush 125, 2) := by decide +kernel
theorem d_dl_99 : decode method_2_code 99 = .ok (.if_icmp .ne 7, 3) := by decide +kernel
theorem d_dl_102 : decode method_2_code 102 = .ok (.iconst 1, 1) := by decide +kernel
theorem d_dl_103 : decode method_2_code 103 = .ok (.goto 4, 3) := by decide +kernel
theorem d_dl_106 : decode method_2_code 106 = .ok (.iconst 0, 1) := by decide +kernel
theorem d_dl_107 : decode method_2_code 107 = .ok (.ireturn, 1) := by decide +kernel
theorem pn_dl : plainName "com/example/strict_key/strictkey/store/FieldSyntaxIsTcharPinLaw" = true := by first | (simp [plainName, overriddenIn]; done) | decide +kernel
theorem ef_dl (m : MethodId) (p1 : Int32) : entryFrame m #[(.int p1)] 1 = mkF m 0 #[.val (.int p1)] [] := by first | (simp [entryFrame, mkF, argsToLocals, Value.category]; done) | rfl
def Q_dl (Z : State) (p1 : Int32) (h0 : Heap) (n0 : Nat) (v : Option Value) (h : Heap) (L : List Loc) : Prop := v = some (.int (own_b (own_del p1))) ∧ Fr n0 L ∧ h = h0
set_option maxRecDepth 65536 in
set_option maxHeartbeats 40000000 in
theorem rm_dl (l : Launch) (Z : State) (a0 : Array Value) (hw : ∀ d ∈ tables_1, d.before a0 Z = true) (ws : List Jvm.Cond) (p1 : Int32) (h0 : Heap) (n0 : Nat) (Z0 : n0 ≤ h0.size) :
    MetFree l (⟨"com/example/strict_key/strictkey/store/FieldSyntaxIsTcharPinLaw", "isDelimiter", "(I)Z"⟩ : MethodName) (head1 (Jvm.Cond.code (⟨"com/example/strict_key/strictkey/store/FieldSyntaxIsTcharPinLaw", "isDelimiter", "(I)Z"⟩ : MethodName) method_2_code 1 (some .boolean) :: ws) ({ frames := 0, cells := 0, slots := 0, locals := 0 } : Room)) (fun a U => a = #[(.int p1)] ∧ Z.Warmed39 U.vm ∧ U.heap = h0) (fun _ _ _ _ _ => True) (fun _ U o U' => ∃ v L, o = .returned v ∧ Q_dl Z p1 h0 n0 v U'.heap L ∧ FrameEnd U o U' L ({ frames := 0, cells := 0, slots := 0, locals := 0 } : Room).cells ({ frames := 0, cells := 0, slots := 0, locals := 0 } : Room).slots) := by
  refine MetFree.of_bodySF (plainFor_of_name pn_dl) hisR ?_
  intro p e s m args below meth c s₁ Bd hml0 hP hK
  obtain ⟨rfl, hZ, hh⟩ := hP
  have hx := Bd.exec
  have hby := Bd.bytes
  have hml : c.maxLocals = 1 := hml0
  have hown : s.vm.findClass "com/example/strict_key/strictkey/store/FieldSyntaxIsTcharPinLaw" = some m.cls := findClass_of_methodNamed Bd.named
  have hnm := (name_of_methodNamed Bd.named Bd.method).1
  have X0 : Stand p l e ({ frames := 0, cells := 0, slots := 0, locals := 0 } : Room) s m #[(.int p1)] below meth c s₁ [] 0 0 := Stand.of_body Bd
  have e0 : s₁.heap = h0 := by rw [← hh, Bd.state]; rfl
  have N0 := Fr.nil n0
  have pre0 : ∀ t, Steps p.tables e below (s₁.setTop (mkF m 0 #[.val (.int p1)] [])) t → Steps p.tables e below (s₁.setTop (entryFrame m #[(.int p1)] 1)) t := fun t k => castTop (ef_dl m p1) k
  have pr2 : ∀ t, Steps p.tables e below (s₁.setTop (mkF m 3 #[.val (.int p1)] [(.int (34 : Int32)), (.int p1)])) t → Steps p.tables e below (s₁.setTop (entryFrame m #[(.int p1)] 1)) t := fun t kt => pre0 t (by
    show Steps p.tables e below (s₁.setTop (mkF m 0 #[.val (.int p1)] [])) _
    refine XS.iloadN X0.here hx rfl (hb hby d_dl_0) rfl ?_
    show Steps p.tables e below (s₁.setTop (mkF m 1 #[.val (.int p1)] [(.int p1)])) _
    refine XS.bipush X0.here hx rfl (hb hby d_dl_1) ?_
    exact kt)
  by_cases hc3_1 : p1 = (34 : Int32)
  · obtain ⟨fs, hr, hrun, hended, hW, hsame⟩ := X0.leave (v := some (.int (nar .boolean (1 : Int32)))) (fun h => by rw [Bd.returns] at h; cases h)
    refine ⟨_, _, pr2 _ ?_, hrun, hended, _, _, rfl, ?_, ⟨_, rfl⟩, hW, hsame.mono (by decide) (by decide)⟩
    · show Steps p.tables e below (s₁.setTop (mkF m 3 #[.val (.int p1)] [(.int (34 : Int32)), (.int p1)])) _
      refine XS.icmpYes X0.here hx rfl (pc0 := 3) (pc' := 102) rfl (hb hby d_dl_3) rfl (teq hc3_1).1 (by decide) (by decide) ?_
      show Steps p.tables e below (s₁.setTop (mkF m 102 #[.val (.int p1)] [])) _
      refine XS.iconst X0.here hx rfl (hb hby d_dl_102) ?_
      show Steps p.tables e below (s₁.setTop (mkF m 103 #[.val (.int p1)] [(.int (1 : Int32))])) _
      refine XS.goto X0.here hx rfl (pc0 := 103) (pc' := 107) rfl (hb hby d_dl_103) (by decide) (by decide) ?_
      show Steps p.tables e below (s₁.setTop (mkF m 107 #[.val (.int p1)] [(.int (1 : Int32))])) _
      exact retN X0 hx (t := .boolean) Bd.returns (by simp) (hb hby d_dl_107) hr
    · show Q_dl Z p1 h0 n0 _ s₁.heap _
      rw [e0]
      exact ⟨(congrArg (fun zz => some (Value.int zz)) (by rw [show own_del p1 = true from by simp [own_del, hc3_1]]; rfl : nar .boolean (1 : Int32) = (own_b (own_del p1)))), N0, rfl⟩
  · have pr4 : ∀ t, Steps p.tables e below (s₁.setTop (mkF m 9 #[.val (.int p1)] [(.int (40 : Int32)), (.int p1)])) t → Steps p.tables e below (s₁.setTop (entryFrame m #[(.int p1)] 1)) t := fun t kt => pr2 t (by
      show Steps p.tables e below (s₁.setTop (mkF m 3 #[.val (.int p1)] [(.int (34 : Int32)), (.int p1)])) _
      refine XS.icmpNo X0.here hx rfl (hb hby d_dl_3) rfl (feq hc3_1).1 ?_
      show Steps p.tables e below (s₁.setTop (mkF m 6 #[.val (.int p1)] [])) _
      refine XS.iloadN X0.here hx rfl (hb hby d_dl_6) rfl ?_
      show Steps p.tables e below (s₁.setTop (mkF m 7 #[.val (.int p1)] [(.int p1)])) _
      refine XS.bipush X0.here hx rfl (hb hby d_dl_7) ?_
      exact kt)
    by_cases hc9_3 : p1 = (40 : Int32)
    · obtain ⟨fs, hr, hrun, hended, hW, hsame⟩ := X0.leave (v := some (.int (nar .boolean (1 : Int32)))) (fun h => by rw [Bd.returns] at h; cases h)
      refine ⟨_, _, pr4 _ ?_, hrun, hended, _, _, rfl, ?_, ⟨_, rfl⟩, hW, hsame.mono (by decide) (by decide)⟩
      · show Steps p.tables e below (s₁.setTop (mkF m 9 #[.val (.int p1)] [(.int (40 : Int32)), (.int p1)])) _
        refine XS.icmpYes X0.here hx rfl (pc0 := 9) (pc' := 102) rfl (hb hby d_dl_9) rfl (teq hc9_3).1 (by decide) (by decide) ?_
        show Steps p.tables e below (s₁.setTop (mkF m 102 #[.val (.int p1)] [])) _
        refine XS.iconst X0.here hx rfl (hb hby d_dl_102) ?_
        show Steps p.tables e below (s₁.setTop (mkF m 103 #[.val (.int p1)] [(.int (1 : Int32))])) _
        refine XS.goto X0.here hx rfl (pc0 := 103) (pc' := 107) rfl (hb hby d_dl_103) (by decide) (by decide) ?_
        show Steps p.tables e below (s₁.setTop (mkF m 107 #[.val (.int p1)] [(.int (1 : Int32))])) _
        exact retN X0 hx (t := .boolean) Bd.returns (by simp) (hb hby d_dl_107) hr
      · show Q_dl Z p1 h0 n0 _ s₁.heap _
        rw [e0]
        exact ⟨(congrArg (fun zz => some (Value.int zz)) (by rw [show own_del p1 = true from by simp [own_del, hc3_1, hc9_3]]; rfl : nar .boolean (1 : Int32) = (own_b (own_del p1)))), N0, rfl⟩
    · have pr6 : ∀ t, Steps p.tables e below (s₁.setTop (mkF m 15 #[.val (.int p1)] [(.int (41 : Int32)), (.int p1)])) t → Steps p.tables e below (s₁.setTop (entryFrame m #[(.int p1)] 1)) t := fun t kt => pr4 t (by
        show Steps p.tables e below (s₁.setTop (mkF m 9 #[.val (.int p1)] [(.int (40 : Int32)), (.int p1)])) _
        refine XS.icmpNo X0.here hx rfl (hb hby d_dl_9) rfl (feq hc9_3).1 ?_
        show Steps p.tables e below (s₁.setTop (mkF m 12 #[.val (.int p1)] [])) _
        refine XS.iloadN X0.here hx rfl (hb hby d_dl_12) rfl ?_
        show Steps p.tables e below (s₁.setTop (mkF m 13 #[.val (.int p1)] [(.int p1)])) _
        refine XS.bipush X0.here hx rfl (hb hby d_dl_13) ?_
        exact kt)
      by_cases hc15_5 : p1 = (41 : Int32)
      · obtain ⟨fs, hr, hrun, hended, hW, hsame⟩ := X0.leave (v := some (.int (nar .boolean (1 : Int32)))) (fun h => by rw [Bd.returns] at h; cases h)
        refine ⟨_, _, pr6 _ ?_, hrun, hended, _, _, rfl, ?_, ⟨_, rfl⟩, hW, hsame.mono (by decide) (by decide)⟩
        · show Steps p.tables e below (s₁.setTop (mkF m 15 #[.val (.int p1)] [(.int (41 : Int32)), (.int p1)])) _
          refine XS.icmpYes X0.here hx rfl (pc0 := 15) (pc' := 102) rfl (hb hby d_dl_15) rfl (teq hc15_5).1 (by decide) (by decide) ?_
          show Steps p.tables e below (s₁.setTop (mkF m 102 #[.val (.int p1)] [])) _
          refine XS.iconst X0.here hx rfl (hb hby d_dl_102) ?_
          show Steps p.tables e below (s₁.setTop (mkF m 103 #[.val (.int p1)] [(.int (1 : Int32))])) _
          refine XS.goto X0.here hx rfl (pc0 := 103) (pc' := 107) rfl (hb hby d_dl_103) (by decide) (by decide) ?_
          show Steps p.tables e below (s₁.setTop (mkF m 107 #[.val (.int p1)] [(.int (1 : Int32))])) _
          exact retN X0 hx (t := .boolean) Bd.returns (by simp) (hb hby d_dl_107) hr
        · show Q_dl Z p1 h0 n0 _ s₁.heap _
          rw [e0]
          exact ⟨(congrArg (fun zz => some (Value.int zz)) (by rw [show own_del p1 = true from by simp [own_del, hc3_1, hc9_3, hc15_5]]; rfl : nar .boolean (1 : Int32) = (own_b (own_del p1)))), N0, rfl⟩
      · have pr8 : ∀ t, Steps p.tables e below (s₁.setTop (mkF m 21 #[.val (.int p1)] [(.int (44 : Int32)), (.int p1)])) t → Steps p.tables e below (s₁.setTop (entryFrame m #[(.int p1)] 1)) t := fun t kt => pr6 t (by
          show Steps p.tables e below (s₁.setTop (mkF m 15 #[.val (.int p1)] [(.int (41 : Int32)), (.int p1)])) _
          refine XS.icmpNo X0.here hx rfl (hb hby d_dl_15) rfl (feq hc15_5).1 ?_
          show Steps p.tables e below (s₁.setTop (mkF m 18 #[.val (.int p1)] [])) _
          refine XS.iloadN X0.here hx rfl (hb hby d_dl_18) rfl ?_
          show Steps p.tables e below (s₁.setTop (mkF m 19 #[.val (.int p1)] [(.int p1)])) _
          refine XS.bipush X0.here hx rfl (hb hby d_dl_19) ?_
          exact kt)
        by_cases hc21_7 : p1 = (44 : Int32)
        · obtain ⟨fs, hr, hrun, hended, hW, hsame⟩ := X0.leave (v := some (.int (nar .boolean (1 : Int32)))) (fun h => by rw [Bd.returns] at h; cases h)
          refine ⟨_, _, pr8 _ ?_, hrun, hended, _, _, rfl, ?_, ⟨_, rfl⟩, hW, hsame.mono (by decide) (by decide)⟩
          · show Steps p.tables e below (s₁.setTop (mkF m 21 #[.val (.int p1)] [(.int (44 : Int32)), (.int p1)])) _
            refine XS.icmpYes X0.here hx rfl (pc0 := 21) (pc' := 102) rfl (hb hby d_dl_21) rfl (teq hc21_7).1 (by decide) (by decide) ?_
            show Steps p.tables e below (s₁.setTop (mkF m 102 #[.val (.int p1)] [])) _
            refine XS.iconst X0.here hx rfl (hb hby d_dl_102) ?_
            show Steps p.tables e below (s₁.setTop (mkF m 103 #[.val (.int p1)] [(.int (1 : Int32))])) _
            refine XS.goto X0.here hx rfl (pc0 := 103) (pc' := 107) rfl (hb hby d_dl_103) (by decide) (by decide) ?_
            show Steps p.tables e below (s₁.setTop (mkF m 107 #[.val (.int p1)] [(.int (1 : Int32))])) _
            exact retN X0 hx (t := .boolean) Bd.returns (by simp) (hb hby d_dl_107) hr
          · show Q_dl Z p1 h0 n0 _ s₁.heap _
            rw [e0]
            exact ⟨(congrArg (fun zz => some (Value.int zz)) (by rw [show own_del p1 = true from by simp [own_del, hc3_1, hc9_3, hc15_5, hc21_7]]; rfl : nar .boolean (1 : Int32) = (own_b (own_del p1)))), N0, rfl⟩
        · have pr10 : ∀ t, Steps p.tables e below (s₁.setTop (mkF m 27 #[.val (.int p1)] [(.int (47 : Int32)), (.int p1)])) t → Steps p.tables e below (s₁.setTop (entryFrame m #[(.int p1)] 1)) t := fun t kt => pr8 t (by
            show Steps p.tables e below (s₁.setTop (mkF m 21 #[.val (.int p1)] [(.int (44 : Int32)), (.int p1)])) _
            refine XS.icmpNo X0.here hx rfl (hb hby d_dl_21) rfl (feq hc21_7).1 ?_
            show Steps p.tables e below (s₁.setTop (mkF m 24 #[.val (.int p1)] [])) _
            refine XS.iloadN X0.here hx rfl (hb hby d_dl_24) rfl ?_
            show Steps p.tables e below (s₁.setTop (mkF m 25 #[.val (.int p1)] [(.int p1)])) _
            refine XS.bipush X0.here hx rfl (hb hby d_dl_25) ?_
            exact kt)
          by_cases hc27_9 : p1 = (47 : Int32)
          · obtain ⟨fs, hr, hrun, hended, hW, hsame⟩ := X0.leave (v := some (.int (nar .boolean (1 : Int32)))) (fun h => by rw [Bd.returns] at h; cases h)
            refine ⟨_, _, pr10 _ ?_, hrun, hended, _, _, rfl, ?_, ⟨_, rfl⟩, hW, hsame.mono (by decide) (by decide)⟩
            · show Steps p.tables e below (s₁.setTop (mkF m 27 #[.val (.int p1)] [(.int (47 : Int32)), (.int p1)])) _
              refine XS.icmpYes X0.here hx rfl (pc0 := 27) (pc' := 102) rfl (hb hby d_dl_27) rfl (teq hc27_9).1 (by decide) (by decide) ?_
              show Steps p.tables e below (s₁.setTop (mkF m 102 #[.val (.int p1)] [])) _
              refine XS.iconst X0.here hx rfl (hb hby d_dl_102) ?_
              show Steps p.tables e below (s₁.setTop (mkF m 103 #[.val (.int p1)] [(.int (1 : Int32))])) _
              refine XS.goto X0.here hx rfl (pc0 := 103) (pc' := 107) rfl (hb hby d_dl_103) (by decide) (by decide) ?_
              show Steps p.tables e below (s₁.setTop (mkF m 107 #[.val (.int p1)] [(.int (1 : Int32))])) _
              exact retN X0 hx (t := .boolean) Bd.returns (by simp) (hb hby d_dl_107) hr
            · show Q_dl Z p1 h0 n0 _ s₁.heap _
              rw [e0]
              exact ⟨(congrArg (fun zz => some (Value.int zz)) (by rw [show own_del p1 = true from by simp [own_del, hc3_1, hc9_3, hc15_5, hc21_7, hc27_9]]; rfl : nar .boolean (1 : Int32) = (own_b (own_del p1)))), N0, rfl⟩
          · have pr12 : ∀ t, Steps p.tables e below (s₁.setTop (mkF m 33 #[.val (.int p1)] [(.int (58 : Int32)), (.int p1)])) t → Steps p.tables e below (s₁.setTop (entryFrame m #[(.int p1)] 1)) t := fun t kt => pr10 t (by
              show Steps p.tables e below (s₁.setTop (mkF m 27 #[.val (.int p1)] [(.int (47 : Int32)), (.int p1)])) _
              refine XS.icmpNo X0.here hx rfl (hb hby d_dl_27) rfl (feq hc27_9).1 ?_
              show Steps p.tables e below (s₁.setTop (mkF m 30 #[.val (.int p1)] [])) _
              refine XS.iloadN X0.here hx rfl (hb hby d_dl_30) rfl ?_
              show Steps p.tables e below (s₁.setTop (mkF m 31 #[.val (.int p1)] [(.int p1)])) _
              refine XS.bipush X0.here hx rfl (hb hby d_dl_31) ?_
              exact kt)
            by_cases hc33_11 : p1 = (58 : Int32)
            · obtain ⟨fs, hr, hrun, hended, hW, hsame⟩ := X0.leave (v := some (.int (nar .boolean (1 : Int32)))) (fun h => by rw [Bd.returns] at h; cases h)
              refine ⟨_, _, pr12 _ ?_, hrun, hended, _, _, rfl, ?_, ⟨_, rfl⟩, hW, hsame.mono (by decide) (by decide)⟩
              · show Steps p.tables e below (s₁.setTop (mkF m 33 #[.val (.int p1)] [(.int (58 : Int32)), (.int p1)])) _
                refine XS.icmpYes X0.here hx rfl (pc0 := 33) (pc' := 102) rfl (hb hby d_dl_33) rfl (teq hc33_11).1 (by decide) (by decide) ?_
                show Steps p.tables e below (s₁.setTop (mkF m 102 #[.val (.int p1)] [])) _
                refine XS.iconst X0.here hx rfl (hb hby d_dl_102) ?_
                show Steps p.tables e below (s₁.setTop (mkF m 103 #[.val (.int p1)] [(.int (1 : Int32))])) _
                refine XS.goto X0.here hx rfl (pc0 := 103) (pc' := 107) rfl (hb hby d_dl_103) (by decide) (by decide) ?_
                show Steps p.tables e below (s₁.setTop (mkF m 107 #[.val (.int p1)] [(.int (1 : Int32))])) _
                exact retN X0 hx (t := .boolean) Bd.returns (by simp) (hb hby d_dl_107) hr
              · show Q_dl Z p1 h0 n0 _ s₁.heap _
                rw [e0]
                exact ⟨(congrArg (fun zz => some (Value.int zz)) (by rw [show own_del p1 = true from by simp [own_del, hc3_1, hc9_3, hc15_5, hc21_7, hc27_9, hc33_11]]; rfl : nar .boolean (1 : Int32) = (own_b (own_del p1)))), N0, rfl⟩
            · have pr14 : ∀ t, Steps p.tables e below (s₁.setTop (mkF m 39 #[.val (.int p1)] [(.int (59 : Int32)), (.int p1)])) t → Steps p.tables e below (s₁.setTop (entryFrame m #[(.int p1)] 1)) t := fun t kt => pr12 t (by
                show Steps p.tables e below (s₁.setTop (mkF m 33 #[.val (.int p1)] [(.int (58 : Int32)), (.int p1)])) _
                refine XS.icmpNo X0.here hx rfl (hb hby d_dl_33) rfl (feq hc33_11).1 ?_
                show Steps p.tables e below (s₁.setTop (mkF m 36 #[.val (.int p1)] [])) _
                refine XS.iloadN X0.here hx rfl (hb hby d_dl_36) rfl ?_
                show Steps p.tables e below (s₁.setTop (mkF m 37 #[.val (.int p1)] [(.int p1)])) _
                refine XS.bipush X0.here hx rfl (hb hby d_dl_37) ?_
                exact kt)
              by_cases hc39_13 : p1 = (59 : Int32)
              · obtain ⟨fs, hr, hrun, hended, hW, hsame⟩ := X0.leave (v := some (.int (nar .boolean (1 : Int32)))) (fun h => by rw [Bd.returns] at h; cases h)
                refine ⟨_, _, pr14 _ ?_, hrun, hended, _, _, rfl, ?_, ⟨_, rfl⟩, hW, hsame.mono (by decide) (by decide)⟩
                · show Steps p.tables e below (s₁.setTop (mkF m 39 #[.val (.int p1)] [(.int (59 : Int32)), (.int p1)])) _
                  refine XS.icmpYes X0.here hx rfl (pc0 := 39) (pc' := 102) rfl (hb hby d_dl_39) rfl (teq hc39_13).1 (by decide) (by decide) ?_
                  show Steps p.tables e below (s₁.setTop (mkF m 102 #[.val (.int p1)] [])) _
                  refine XS.iconst X0.here hx rfl (hb hby d_dl_102) ?_
                  show Steps p.tables e below (s₁.setTop (mkF m 103 #[.val (.int p1)] [(.int (1 : Int32))])) _
                  refine XS.goto X0.here hx rfl (pc0 := 103) (pc' := 107) rfl (hb hby d_dl_103) (by decide) (by decide) ?_
                  show Steps p.tables e below (s₁.setTop (mkF m 107 #[.val (.int p1)] [(.int (1 : Int32))])) _
                  exact retN X0 hx (t := .boolean) Bd.returns (by simp) (hb hby d_dl_107) hr
                · show Q_dl Z p1 h0 n0 _ s₁.heap _
                  rw [e0]
                  exact ⟨(congrArg (fun zz => some (Value.int zz)) (by rw [show own_del p1 = true from by simp [own_del, hc3_1, hc9_3, hc15_5, hc21_7, hc27_9, hc33_11, hc39_13]]; rfl : nar .boolean (1 : Int32) = (own_b (own_del p1)))), N0, rfl⟩
              · have pr16 : ∀ t, Steps p.tables e below (s₁.setTop (mkF m 45 #[.val (.int p1)] [(.int (60 : Int32)), (.int p1)])) t → Steps p.tables e below (s₁.setTop (entryFrame m #[(.int p1)] 1)) t := fun t kt => pr14 t (by
                  show Steps p.tables e below (s₁.setTop (mkF m 39 #[.val (.int p1)] [(.int (59 : Int32)), (.int p1)])) _
                  refine XS.icmpNo X0.here hx rfl (hb hby d_dl_39) rfl (feq hc39_13).1 ?_
                  show Steps p.tables e below (s₁.setTop (mkF m 42 #[.val (.int p1)] [])) _
                  refine XS.iloadN X0.here hx rfl (hb hby d_dl_42) rfl ?_
                  show Steps p.tables e below (s₁.setTop (mkF m 43 #[.val (.int p1)] [(.int p1)])) _
                  refine XS.bipush X0.here hx rfl (hb hby d_dl_43) ?_
                  exact kt)
                by_cases hc45_15 : p1 = (60 : Int32)
                · obtain ⟨fs, hr, hrun, hended, hW, hsame⟩ := X0.leave (v := some (.int (nar .boolean (1 : Int32)))) (fun h => by rw [Bd.returns] at h; cases h)
                  refine ⟨_, _, pr16 _ ?_, hrun, hended, _, _, rfl, ?_, ⟨_, rfl⟩, hW, hsame.mono (by decide) (by decide)⟩
                  · show Steps p.tables e below (s₁.setTop (mkF m 45 #[.val (.int p1)] [(.int (60 : Int32)), (.int p1)])) _
                    refine XS.icmpYes X0.here hx rfl (pc0 := 45) (pc' := 102) rfl (hb hby d_dl_45) rfl (teq hc45_15).1 (by decide) (by decide) ?_
                    show Steps p.tables e below (s₁.setTop (mkF m 102 #[.val (.int p1)] [])) _
                    refine XS.iconst X0.here hx rfl (hb hby d_dl_102) ?_
                    show Steps p.tables e below (s₁.setTop (mkF m 103 #[.val (.int p1)] [(.int (1 : Int32))])) _
                    refine XS.goto X0.here hx rfl (pc0 := 103) (pc' := 107) rfl (hb hby d_dl_103) (by decide) (by decide) ?_
                    show Steps p.tables e below (s₁.setTop (mkF m 107 #[.val (.int p1)] [(.int (1 : Int32))])) _
                    exact retN X0 hx (t := .boolean) Bd.returns (by simp) (hb hby d_dl_107) hr
                  · show Q_dl Z p1 h0 n0 _ s₁.heap _
                    rw [e0]
                    exact ⟨(congrArg (fun zz => some (Value.int zz)) (by rw [show own_del p1 = true from by simp [own_del, hc3_1, hc9_3, hc15_5, hc21_7, hc27_9, hc33_11, hc39_13, hc45_15]]; rfl : nar .boolean (1 : Int32) = (own_b (own_del p1)))), N0, rfl⟩
                · have pr18 : ∀ t, Steps p.tables e below (s₁.setTop (mkF m 51 #[.val (.int p1)] [(.int (61 : Int32)), (.int p1)])) t → Steps p.tables e below (s₁.setTop (entryFrame m #[(.int p1)] 1)) t := fun t kt => pr16 t (by
                    show Steps p.tables e below (s₁.setTop (mkF m 45 #[.val (.int p1)] [(.int (60 : Int32)), (.int p1)])) _
                    refine XS.icmpNo X0.here hx rfl (hb hby d_dl_45) rfl (feq hc45_15).1 ?_
                    show Steps p.tables e below (s₁.setTop (mkF m 48 #[.val (.int p1)] [])) _
                    refine XS.iloadN X0.here hx rfl (hb hby d_dl_48) rfl ?_
                    show Steps p.tables e below (s₁.setTop (mkF m 49 #[.val (.int p1)] [(.int p1)])) _
                    refine XS.bipush X0.here hx rfl (hb hby d_dl_49) ?_
                    exact kt)
                  by_cases hc51_17 : p1 = (61 : Int32)
                  · obtain ⟨fs, hr, hrun, hended, hW, hsame⟩ := X0.leave (v := some (.int (nar .boolean (1 : Int32)))) (fun h => by rw [Bd.returns] at h; cases h)
                    refine ⟨_, _, pr18 _ ?_, hrun, hended, _, _, rfl, ?_, ⟨_, rfl⟩, hW, hsame.mono (by decide) (by decide)⟩
                    · show Steps p.tables e below (s₁.setTop (mkF m 51 #[.val (.int p1)] [(.int (61 : Int32)), (.int p1)])) _
                      refine XS.icmpYes X0.here hx rfl (pc0 := 51) (pc' := 102) rfl (hb hby d_dl_51) rfl (teq hc51_17).1 (by decide) (by decide) ?_
                      show Steps p.tables e below (s₁.setTop (mkF m 102 #[.val (.int p1)] [])) _
                      refine XS.iconst X0.here hx rfl (hb hby d_dl_102) ?_
                      show Steps p.tables e below (s₁.setTop (mkF m 103 #[.val (.int p1)] [(.int (1 : Int32))])) _
                      refine XS.goto X0.here hx rfl (pc0 := 103) (pc' := 107) rfl (hb hby d_dl_103) (by decide) (by decide) ?_
                      show Steps p.tables e below (s₁.setTop (mkF m 107 #[.val (.int p1)] [(.int (1 : Int32))])) _
                      exact retN X0 hx (t := .boolean) Bd.returns (by simp) (hb hby d_dl_107) hr
                    · show Q_dl Z p1 h0 n0 _ s₁.heap _
                      rw [e0]
                      exact ⟨(congrArg (fun zz => some (Value.int zz)) (by rw [show own_del p1 = true from by simp [own_del, hc3_1, hc9_3, hc15_5, hc21_7, hc27_9, hc33_11, hc39_13, hc45_15, hc51_17]]; rfl : nar .boolean (1 : Int32) = (own_b (own_del p1)))), N0, rfl⟩
                  · have pr20 : ∀ t, Steps p.tables e below (s₁.setTop (mkF m 57 #[.val (.int p1)] [(.int (62 : Int32)), (.int p1)])) t → Steps p.tables e below (s₁.setTop (entryFrame m #[(.int p1)] 1)) t := fun t kt => pr18 t (by
                      show Steps p.tables e below (s₁.setTop (mkF m 51 #[.val (.int p1)] [(.int (61 : Int32)), (.int p1)])) _
                      refine XS.icmpNo X0.here hx rfl (hb hby d_dl_51) rfl (feq hc51_17).1 ?_
                      show Steps p.tables e below (s₁.setTop (mkF m 54 #[.val (.int p1)] [])) _
                      refine XS.iloadN X0.here hx rfl (hb hby d_dl_54) rfl ?_
                      show Steps p.tables e below (s₁.setTop (mkF m 55 #[.val (.int p1)] [(.int p1)])) _
                      refine XS.bipush X0.here hx rfl (hb hby d_dl_55) ?_
                      exact kt)
                    by_cases hc57_19 : p1 = (62 : Int32)
                    · obtain ⟨fs, hr, hrun, hended, hW, hsame⟩ := X0.leave (v := some (.int (nar .boolean (1 : Int32)))) (fun h => by rw [Bd.returns] at h; cases h)
                      refine ⟨_, _, pr20 _ ?_, hrun, hended, _, _, rfl, ?_, ⟨_, rfl⟩, hW, hsame.mono (by decide) (by decide)⟩
                      · show Steps p.tables e below (s₁.setTop (mkF m 57 #[.val (.int p1)] [(.int (62 : Int32)), (.int p1)])) _
                        refine XS.icmpYes X0.here hx rfl (pc0 := 57) (pc' := 102) rfl (hb hby d_dl_57) rfl (teq hc57_19).1 (by decide) (by decide) ?_
                        show Steps p.tables e below (s₁.setTop (mkF m 102 #[.val (.int p1)] [])) _
                        refine XS.iconst X0.here hx rfl (hb hby d_dl_102) ?_
                        show Steps p.tables e below (s₁.setTop (mkF m 103 #[.val (.int p1)] [(.int (1 : Int32))])) _
                        refine XS.goto X0.here hx rfl (pc0 := 103) (pc' := 107) rfl (hb hby d_dl_103) (by decide) (by decide) ?_
                        show Steps p.tables e below (s₁.setTop (mkF m 107 #[.val (.int p1)] [(.int (1 : Int32))])) _
                        exact retN X0 hx (t := .boolean) Bd.returns (by simp) (hb hby d_dl_107) hr
                      · show Q_dl Z p1 h0 n0 _ s₁.heap _
                        rw [e0]
                        exact ⟨(congrArg (fun zz => some (Value.int zz)) (by rw [show own_del p1 = true from by simp [own_del, hc3_1, hc9_3, hc15_5, hc21_7, hc27_9, hc33_11, hc39_13, hc45_15, hc51_17, hc57_19]]; rfl : nar .boolean (1 : Int32) = (own_b (own_del p1)))), N0, rfl⟩
                    · have pr22 : ∀ t, Steps p.tables e below (s₁.setTop (mkF m 63 #[.val (.int p1)] [(.int (63 : Int32)), (.int p1)])) t → Steps p.tables e below (s₁.setTop (entryFrame m #[(.int p1)] 1)) t := fun t kt => pr20 t (by
                        show Steps p.tables e below (s₁.setTop (mkF m 57 #[.val (.int p1)] [(.int (62 : Int32)), (.int p1)])) _
                        refine XS.icmpNo X0.here hx rfl (hb hby d_dl_57) rfl (feq hc57_19).1 ?_
                        show Steps p.tables e below (s₁.setTop (mkF m 60 #[.val (.int p1)] [])) _
                        refine XS.iloadN X0.here hx rfl (hb hby d_dl_60) rfl ?_
                        show Steps p.tables e below (s₁.setTop (mkF m 61 #[.val (.int p1)] [(.int p1)])) _
                        refine XS.bipush X0.here hx rfl (hb hby d_dl_61) ?_
                        exact kt)
                      by_cases hc63_21 : p1 = (63 : Int32)
                      · obtain ⟨fs, hr, hrun, hended, hW, hsame⟩ := X0.leave (v := some (.int (nar .boolean (1 : Int32)))) (fun h => by rw [Bd.returns] at h; cases h)
                        refine ⟨_, _, pr22 _ ?_, hrun, hended, _, _, rfl, ?_, ⟨_, rfl⟩, hW, hsame.mono (by decide) (by decide)⟩
                        · show Steps p.tables e below (s₁.setTop (mkF m 63 #[.val (.int p1)] [(.int (63 : Int32)), (.int p1)])) _
                          refine XS.icmpYes X0.here hx rfl (pc0 := 63) (pc' := 102) rfl (hb hby d_dl_63) rfl (teq hc63_21).1 (by decide) (by decide) ?_
                          show Steps p.tables e below (s₁.setTop (mkF m 102 #[.val (.int p1)] [])) _
                          refine XS.iconst X0.here hx rfl (hb hby d_dl_102) ?_
                          show Steps p.tables e below (s₁.setTop (mkF m 103 #[.val (.int p1)] [(.int (1 : Int32))])) _
                          refine XS.goto X0.here hx rfl (pc0 := 103) (pc' := 107) rfl (hb hby d_dl_103) (by decide) (by decide) ?_
                          show Steps p.tables e below (s₁.setTop (mkF m 107 #[.val (.int p1)] [(.int (1 : Int32))])) _
                          exact retN X0 hx (t := .boolean) Bd.returns (by simp) (hb hby d_dl_107) hr
                        · show Q_dl Z p1 h0 n0 _ s₁.heap _
                          rw [e0]
                          exact ⟨(congrArg (fun zz => some (Value.int zz)) (by rw [show own_del p1 = true from by simp [own_del, hc3_1, hc9_3, hc15_5, hc21_7, hc27_9, hc33_11, hc39_13, hc45_15, hc51_17, hc57_19, hc63_21]]; rfl : nar .boolean (1 : Int32) = (own_b (own_del p1)))), N0, rfl⟩
                      · have pr24 : ∀ t, Steps p.tables e below (s₁.setTop (mkF m 69 #[.val (.int p1)] [(.int (64 : Int32)), (.int p1)])) t → Steps p.tables e below (s₁.setTop (entryFrame m #[(.int p1)] 1)) t := fun t kt => pr22 t (by
                          show Steps p.tables e below (s₁.setTop (mkF m 63 #[.val (.int p1)] [(.int (63 : Int32)), (.int p1)])) _
                          refine XS.icmpNo X0.here hx rfl (hb hby d_dl_63) rfl (feq hc63_21).1 ?_
                          show Steps p.tables e below (s₁.setTop (mkF m 66 #[.val (.int p1)] [])) _
                          refine XS.iloadN X0.here hx rfl (hb hby d_dl_66) rfl ?_
                          show Steps p.tables e below (s₁.setTop (mkF m 67 #[.val (.int p1)] [(.int p1)])) _
                          refine XS.bipush X0.here hx rfl (hb hby d_dl_67) ?_
                          exact kt)
                        by_cases hc69_23 : p1 = (64 : Int32)
                        · obtain ⟨fs, hr, hrun, hended, hW, hsame⟩ := X0.leave (v := some (.int (nar .boolean (1 : Int32)))) (fun h => by rw [Bd.returns] at h; cases h)
                          refine ⟨_, _, pr24 _ ?_, hrun, hended, _, _, rfl, ?_, ⟨_, rfl⟩, hW, hsame.mono (by decide) (by decide)⟩
                          · show Steps p.tables e below (s₁.setTop (mkF m 69 #[.val (.int p1)] [(.int (64 : Int32)), (.int p1)])) _
                            refine XS.icmpYes X0.here hx rfl (pc0 := 69) (pc' := 102) rfl (hb hby d_dl_69) rfl (teq hc69_23).1 (by decide) (by decide) ?_
                            show Steps p.tables e below (s₁.setTop (mkF m 102 #[.val (.int p1)] [])) _
                            refine XS.iconst X0.here hx rfl (hb hby d_dl_102) ?_
                            show Steps p.tables e below (s₁.setTop (mkF m 103 #[.val (.int p1)] [(.int (1 : Int32))])) _
                            refine XS.goto X0.here hx rfl (pc0 := 103) (pc' := 107) rfl (hb hby d_dl_103) (by decide) (by decide) ?_
                            show Steps p.tables e below (s₁.setTop (mkF m 107 #[.val (.int p1)] [(.int (1 : Int32))])) _
                            exact retN X0 hx (t := .boolean) Bd.returns (by simp) (hb hby d_dl_107) hr
                          · show Q_dl Z p1 h0 n0 _ s₁.heap _
                            rw [e0]
                            exact ⟨(congrArg (fun zz => some (Value.int zz)) (by rw [show own_del p1 = true from by simp [own_del, hc3_1, hc9_3, hc15_5, hc21_7, hc27_9, hc33_11, hc39_13, hc45_15, hc51_17, hc57_19, hc63_21, hc69_23]]; rfl : nar .boolean (1 : Int32) = (own_b (own_del p1)))), N0, rfl⟩
                        · have pr26 : ∀ t, Steps p.tables e below (s₁.setTop (mkF m 75 #[.val (.int p1)] [(.int (91 : Int32)), (.int p1)])) t → Steps p.tables e below (s₁.setTop (entryFrame m #[(.int p1)] 1)) t := fun t kt => pr24 t (by
                            show Steps p.tables e below (s₁.setTop (mkF m 69 #[.val (.int p1)] [(.int (64 : Int32)), (.int p1)])) _
                            refine XS.icmpNo X0.here hx rfl (hb hby d_dl_69) rfl (feq hc69_23).1 ?_
                            show Steps p.tables e below (s₁.setTop (mkF m 72 #[.val (.int p1)] [])) _
                            refine XS.iloadN X0.here hx rfl (hb hby d_dl_72) rfl ?_
                            show Steps p.tables e below (s₁.setTop (mkF m 73 #[.val (.int p1)] [(.int p1)])) _
                            refine XS.bipush X0.here hx rfl (hb hby d_dl_73) ?_
                            exact kt)
                          by_cases hc75_25 : p1 = (91 : Int32)
                          · obtain ⟨fs, hr, hrun, hended, hW, hsame⟩ := X0.leave (v := some (.int (nar .boolean (1 : Int32)))) (fun h => by rw [Bd.returns] at h; cases h)
                            refine ⟨_, _, pr26 _ ?_, hrun, hended, _, _, rfl, ?_, ⟨_, rfl⟩, hW, hsame.mono (by decide) (by decide)⟩
                            · show Steps p.tables e below (s₁.setTop (mkF m 75 #[.val (.int p1)] [(.int (91 : Int32)), (.int p1)])) _
                              refine XS.icmpYes X0.here hx rfl (pc0 := 75) (pc' := 102) rfl (hb hby d_dl_75) rfl (teq hc75_25).1 (by decide) (by decide) ?_
                              show Steps p.tables e below (s₁.setTop (mkF m 102 #[.val (.int p1)] [])) _
                              refine XS.iconst X0.here hx rfl (hb hby d_dl_102) ?_
                              show Steps p.tables e below (s₁.setTop (mkF m 103 #[.val (.int p1)] [(.int (1 : Int32))])) _
                              refine XS.goto X0.here hx rfl (pc0 := 103) (pc' := 107) rfl (hb hby d_dl_103) (by decide) (by decide) ?_
                              show Steps p.tables e below (s₁.setTop (mkF m 107 #[.val (.int p1)] [(.int (1 : Int32))])) _
                              exact retN X0 hx (t := .boolean) Bd.returns (by simp) (hb hby d_dl_107) hr
                            · show Q_dl Z p1 h0 n0 _ s₁.heap _
                              rw [e0]
                              exact ⟨(congrArg (fun zz => some (Value.int zz)) (by rw [show own_del p1 = true from by simp [own_del, hc3_1, hc9_3, hc15_5, hc21_7, hc27_9, hc33_11, hc39_13, hc45_15, hc51_17, hc57_19, hc63_21, hc69_23, hc75_25]]; rfl : nar .boolean (1 : Int32) = (own_b (own_del p1)))), N0, rfl⟩
                          · have pr28 : ∀ t, Steps p.tables e below (s₁.setTop (mkF m 81 #[.val (.int p1)] [(.int (92 : Int32)), (.int p1)])) t → Steps p.tables e below (s₁.setTop (entryFrame m #[(.int p1)] 1)) t := fun t kt => pr26 t (by
                              show Steps p.tables e below (s₁.setTop (mkF m 75 #[.val (.int p1)] [(.int (91 : Int32)), (.int p1)])) _
                              refine XS.icmpNo X0.here hx rfl (hb hby d_dl_75) rfl (feq hc75_25).1 ?_
                              show Steps p.tables e below (s₁.setTop (mkF m 78 #[.val (.int p1)] [])) _
                              refine XS.iloadN X0.here hx rfl (hb hby d_dl_78) rfl ?_
                              show Steps p.tables e below (s₁.setTop (mkF m 79 #[.val (.int p1)] [(.int p1)])) _
                              refine XS.bipush X0.here hx rfl (hb hby d_dl_79) ?_
                              exact kt)
                            by_cases hc81_27 : p1 = (92 : Int32)
                            · obtain ⟨fs, hr, hrun, hended, hW, hsame⟩ := X0.leave (v := some (.int (nar .boolean (1 : Int32)))) (fun h => by rw [Bd.returns] at h; cases h)
                              refine ⟨_, _, pr28 _ ?_, hrun, hended, _, _, rfl, ?_, ⟨_, rfl⟩, hW, hsame.mono (by decide) (by decide)⟩
                              · show Steps p.tables e below (s₁.setTop (mkF m 81 #[.val (.int p1)] [(.int (92 : Int32)), (.int p1)])) _
                                refine XS.icmpYes X0.here hx rfl (pc0 := 81) (pc' := 102) rfl (hb hby d_dl_81) rfl (teq hc81_27).1 (by decide) (by decide) ?_
                                show Steps p.tables e below (s₁.setTop (mkF m 102 #[.val (.int p1)] [])) _
                                refine XS.iconst X0.here hx rfl (hb hby d_dl_102) ?_
                                show Steps p.tables e below (s₁.setTop (mkF m 103 #[.val (.int p1)] [(.int (1 : Int32))])) _
                                refine XS.goto X0.here hx rfl (pc0 := 103) (pc' := 107) rfl (hb hby d_dl_103) (by decide) (by decide) ?_
                                show Steps p.tables e below (s₁.setTop (mkF m 107 #[.val (.int p1)] [(.int (1 : Int32))])) _
                                exact retN X0 hx (t := .boolean) Bd.returns (by simp) (hb hby d_dl_107) hr
                              · show Q_dl Z p1 h0 n0 _ s₁.heap _
                                rw [e0]
                                exact ⟨(congrArg (fun zz => some (Value.int zz)) (by rw [show own_del p1 = true from by simp [own_del, hc3_1, hc9_3, hc15_5, hc21_7, hc27_9, hc33_11, hc39_13, hc45_15, hc51_17, hc57_19, hc63_21, hc69_23, hc75_25, hc81_27]]; rfl : nar .boolean (1 : Int32) = (own_b (own_del p1)))), N0, rfl⟩
                            · have pr30 : ∀ t, Steps p.tables e below (s₁.setTop (mkF m 87 #[.val (.int p1)] [(.int (93 : Int32)), (.int p1)])) t → Steps p.tables e below (s₁.setTop (entryFrame m #[(.int p1)] 1)) t := fun t kt => pr28 t (by
                                show Steps p.tables e below (s₁.setTop (mkF m 81 #[.val (.int p1)] [(.int (92 : Int32)), (.int p1)])) _
                                refine XS.icmpNo X0.here hx rfl (hb hby d_dl_81) rfl (feq hc81_27).1 ?_
                                show Steps p.tables e below (s₁.setTop (mkF m 84 #[.val (.int p1)] [])) _
                                refine XS.iloadN X0.here hx rfl (hb hby d_dl_84) rfl ?_
                                show Steps p.tables e below (s₁.setTop (mkF m 85 #[.val (.int p1)] [(.int p1)])) _
                                refine XS.bipush X0.here hx rfl (hb hby d_dl_85) ?_
                                exact kt)
                              by_cases hc87_29 : p1 = (93 : Int32)
                              · obtain ⟨fs, hr, hrun, hended, hW, hsame⟩ := X0.leave (v := some (.int (nar .boolean (1 : Int32)))) (fun h => by rw [Bd.returns] at h; cases h)
                                refine ⟨_, _, pr30 _ ?_, hrun, hended, _, _, rfl, ?_, ⟨_, rfl⟩, hW, hsame.mono (by decide) (by decide)⟩
                                · show Steps p.tables e below (s₁.setTop (mkF m 87 #[.val (.int p1)] [(.int (93 : Int32)), (.int p1)])) _
                                  refine XS.icmpYes X0.here hx rfl (pc0 := 87) (pc' := 102) rfl (hb hby d_dl_87) rfl (teq hc87_29).1 (by decide) (by decide) ?_
                                  show Steps p.tables e below (s₁.setTop (mkF m 102 #[.val (.int p1)] [])) _
                                  refine XS.iconst X0.here hx rfl (hb hby d_dl_102) ?_
                                  show Steps p.tables e below (s₁.setTop (mkF m 103 #[.val (.int p1)] [(.int (1 : Int32))])) _
                                  refine XS.goto X0.here hx rfl (pc0 := 103) (pc' := 107) rfl (hb hby d_dl_103) (by decide) (by decide) ?_
                                  show Steps p.tables e below (s₁.setTop (mkF m 107 #[.val (.int p1)] [(.int (1 : Int32))])) _
                                  exact retN X0 hx (t := .boolean) Bd.returns (by simp) (hb hby d_dl_107) hr
                                · show Q_dl Z p1 h0 n0 _ s₁.heap _
                                  rw [e0]
                                  exact ⟨(congrArg (fun zz => some (Value.int zz)) (by rw [show own_del p1 = true from by simp [own_del, hc3_1, hc9_3, hc15_5, hc21_7, hc27_9, hc33_11, hc39_13, hc45_15, hc51_17, hc57_19, hc63_21, hc69_23, hc75_25, hc81_27, hc87_29]]; rfl : nar .boolean (1 : Int32) = (own_b (own_del p1)))), N0, rfl⟩
                              · have pr32 : ∀ t, Steps p.tables e below (s₁.setTop (mkF m 93 #[.val (.int p1)] [(.int (123 : Int32)), (.int p1)])) t → Steps p.tables e below (s₁.setTop (entryFrame m #[(.int p1)] 1)) t := fun t kt => pr30 t (by
                                  show Steps p.tables e below (s₁.setTop (mkF m 87 #[.val (.int p1)] [(.int (93 : Int32)), (.int p1)])) _
                                  refine XS.icmpNo X0.here hx rfl (hb hby d_dl_87) rfl (feq hc87_29).1 ?_
                                  show Steps p.tables e below (s₁.setTop (mkF m 90 #[.val (.int p1)] [])) _
                                  refine XS.iloadN X0.here hx rfl (hb hby d_dl_90) rfl ?_
                                  show Steps p.tables e below (s₁.setTop (mkF m 91 #[.val (.int p1)] [(.int p1)])) _
                                  refine XS.bipush X0.here hx rfl (hb hby d_dl_91) ?_
                                  exact kt)
                                by_cases hc93_31 : p1 = (123 : Int32)
                                · obtain ⟨fs, hr, hrun, hended, hW, hsame⟩ := X0.leave (v := some (.int (nar .boolean (1 : Int32)))) (fun h => by rw [Bd.returns] at h; cases h)
                                  refine ⟨_, _, pr32 _ ?_, hrun, hended, _, _, rfl, ?_, ⟨_, rfl⟩, hW, hsame.mono (by decide) (by decide)⟩
                                  · show Steps p.tables e below (s₁.setTop (mkF m 93 #[.val (.int p1)] [(.int (123 : Int32)), (.int p1)])) _
                                    refine XS.icmpYes X0.here hx rfl (pc0 := 93) (pc' := 102) rfl (hb hby d_dl_93) rfl (teq hc93_31).1 (by decide) (by decide) ?_
                                    show Steps p.tables e below (s₁.setTop (mkF m 102 #[.val (.int p1)] [])) _
                                    refine XS.iconst X0.here hx rfl (hb hby d_dl_102) ?_
                                    show Steps p.tables e below (s₁.setTop (mkF m 103 #[.val (.int p1)] [(.int (1 : Int32))])) _
                                    refine XS.goto X0.here hx rfl (pc0 := 103) (pc' := 107) rfl (hb hby d_dl_103) (by decide) (by decide) ?_
                                    show Steps p.tables e below (s₁.setTop (mkF m 107 #[.val (.int p1)] [(.int (1 : Int32))])) _
                                    exact retN X0 hx (t := .boolean) Bd.returns (by simp) (hb hby d_dl_107) hr
                                  · show Q_dl Z p1 h0 n0 _ s₁.heap _
                                    rw [e0]
                                    exact ⟨(congrArg (fun zz => some (Value.int zz)) (by rw [show own_del p1 = true from by simp [own_del, hc3_1, hc9_3, hc15_5, hc21_7, hc27_9, hc33_11, hc39_13, hc45_15, hc51_17, hc57_19, hc63_21, hc69_23, hc75_25, hc81_27, hc87_29, hc93_31]]; rfl : nar .boolean (1 : Int32) = (own_b (own_del p1)))), N0, rfl⟩
                                · have pr34 : ∀ t, Steps p.tables e below (s₁.setTop (mkF m 99 #[.val (.int p1)] [(.int (125 : Int32)), (.int p1)])) t → Steps p.tables e below (s₁.setTop (entryFrame m #[(.int p1)] 1)) t := fun t kt => pr32 t (by
                                    show Steps p.tables e below (s₁.setTop (mkF m 93 #[.val (.int p1)] [(.int (123 : Int32)), (.int p1)])) _
                                    refine XS.icmpNo X0.here hx rfl (hb hby d_dl_93) rfl (feq hc93_31).1 ?_
                                    show Steps p.tables e below (s₁.setTop (mkF m 96 #[.val (.int p1)] [])) _
                                    refine XS.iloadN X0.here hx rfl (hb hby d_dl_96) rfl ?_
                                    show Steps p.tables e below (s₁.setTop (mkF m 97 #[.val (.int p1)] [(.int p1)])) _
                                    refine XS.bipush X0.here hx rfl (hb hby d_dl_97) ?_
                                    exact kt)
                                  by_cases hc99_33 : p1 = (125 : Int32)
                                  · obtain ⟨fs, hr, hrun, hended, hW, hsame⟩ := X0.leave (v := some (.int (nar .boolean (1 : Int32)))) (fun h => by rw [Bd.returns] at h; cases h)
                                    refine ⟨_, _, pr34 _ ?_, hrun, hended, _, _, rfl, ?_, ⟨_, rfl⟩, hW, hsame.mono (by decide) (by decide)⟩
                                    · show Steps p.tables e below (s₁.setTop (mkF m 99 #[.val (.int p1)] [(.int (125 : Int32)), (.int p1)])) _
                                      refine XS.icmpNo X0.here hx rfl (hb hby d_dl_99) rfl (teq hc99_33).2 ?_
                                      show Steps p.tables e below (s₁.setTop (mkF m 102 #[.val (.int p1)] [])) _
                                      refine XS.iconst X0.here hx rfl (hb hby d_dl_102) ?_
                                      show Steps p.tables e below (s₁.setTop (mkF m 103 #[.val (.int p1)] [(.int (1 : Int32))])) _
                                      refine XS.goto X0.here hx rfl (pc0 := 103) (pc' := 107) rfl (hb hby d_dl_103) (by decide) (by decide) ?_
                                      show Steps p.tables e below (s₁.setTop (mkF m 107 #[.val (.int p1)] [(.int (1 : Int32))])) _
                                      exact retN X0 hx (t := .boolean) Bd.returns (by simp) (hb hby d_dl_107) hr
                                    · show Q_dl Z p1 h0 n0 _ s₁.heap _
                                      rw [e0]
                                      exact ⟨(congrArg (fun zz => some (Value.int zz)) (by rw [show own_del p1 = true from by simp [own_del, hc3_1, hc9_3, hc15_5, hc21_7, hc27_9, hc33_11, hc39_13, hc45_15, hc51_17, hc57_19, hc63_21, hc69_23, hc75_25, hc81_27, hc87_29, hc93_31, hc99_33]]; rfl : nar .boolean (1 : Int32) = (own_b (own_del p1)))), N0, rfl⟩
                                  · obtain ⟨fs, hr, hrun, hended, hW, hsame⟩ := X0.leave (v := some (.int (nar .boolean (0 : Int32)))) (fun h => by rw [Bd.returns] at h; cases h)
                                    refine ⟨_, _, pr34 _ ?_, hrun, hended, _, _, rfl, ?_, ⟨_, rfl⟩, hW, hsame.mono (by decide) (by decide)⟩
                                    · show Steps p.tables e below (s₁.setTop (mkF m 99 #[.val (.int p1)] [(.int (125 : Int32)), (.int p1)])) _
                                      refine XS.icmpYes X0.here hx rfl (pc0 := 99) (pc' := 106) rfl (hb hby d_dl_99) rfl (feq hc99_33).2 (by decide) (by decide) ?_
                                      show Steps p.tables e below (s₁.setTop (mkF m 106 #[.val (.int p1)] [])) _
                                      refine XS.iconst X0.here hx rfl (hb hby d_dl_106) ?_
                                      show Steps p.tables e below (s₁.setTop (mkF m 107 #[.val (.int p1)] [(.int (0 : Int32))])) _
                                      exact retN X0 hx (t := .boolean) Bd.returns (by simp) (hb hby d_dl_107) hr
                                    · show Q_dl Z p1 h0 n0 _ s₁.heap _
                                      rw [e0]
                                      exact ⟨(congrArg (fun zz => some (Value.int zz)) (by rw [show own_del p1 = false from by simp [own_del, hc3_1, hc9_3, hc15_5, hc21_7, hc27_9, hc33_11, hc39_13, hc45_15, hc51_17, hc57_19, hc63_21, hc69_23, hc75_25, hc81_27, hc87_29, hc93_31, hc99_33]]; rfl : nar .boolean (0 : Int32) = (own_b (own_del p1)))), N0, rfl⟩
theorem d_ex_0 : decode method_3_code 0 = .ok (.iload_n 0, 1) := by decide +kernel
theorem d_ex_1 : decode method_3_code 1 = .ok (.bipush 33, 2) := by decide +kernel
theorem d_ex_3 : decode method_3_code 3 = .ok (.if_icmp .lt 13, 3) := by decide +kernel
theorem d_ex_6 : decode method_3_code 6 = .ok (.iload_n 0, 1) := by decide +kernel
theorem d_ex_7 : decode method_3_code 7 = .ok (.bipush 126, 2) := by decide +kernel
theorem d_ex_9 : decode method_3_code 9 = .ok (.if_icmp .gt 7, 3) := by decide +kernel
theorem d_ex_12 : decode method_3_code 12 = .ok (.iconst 1, 1) := by decide +kernel
theorem d_ex_13 : decode method_3_code 13 = .ok (.goto 4, 3) := by decide +kernel
theorem d_ex_16 : decode method_3_code 16 = .ok (.iconst 0, 1) := by decide +kernel
theorem d_ex_17 : decode method_3_code 17 = .ok (.istore_n 1, 1) := by decide +kernel
theorem d_ex_18 : decode method_3_code 18 = .ok (.iload_n 1, 1) := by decide +kernel
theorem d_ex_19 : decode method_3_code 19 = .ok (.ifCond .eq 14, 3) := by decide +kernel
theorem d_ex_22 : decode method_3_code 22 = .ok (.iload_n 0, 1) := by decide +kernel
theorem d_ex_23 : decode method_3_code 23 = .ok (.invokestatic 7, 3) := by decide +kernel
theorem d_ex_26 : decode method_3_code 26 = .ok (.ifCond .ne 7, 3) := by decide +kernel
theorem d_ex_29 : decode method_3_code 29 = .ok (.iconst 1, 1) := by decide +kernel
theorem d_ex_30 : decode method_3_code 30 = .ok (.goto 4, 3) := by decide +kernel
theorem d_ex_33 : decode method_3_code 33 = .ok (.iconst 0, 1) := by decide +kernel
theorem d_ex_34 : decode method_3_code 34 = .ok (.ireturn, 1) := by decide +kernel
theorem pn_ex : plainName "com/example/strict_key/strictkey/store/FieldSyntaxIsTcharPinLaw" = true := by first | (simp [plainName, overriddenIn]; done) | decide +kernel
theorem pd_ex_0 : parseMethodDescriptor "(I)Z" = some ⟨[.int], some .boolean⟩ := by decide +kernel
theorem ef_ex (m : MethodId) (p1 : Int32) : entryFrame m #[(.int p1)] 2 = mkF m 0 #[.val (.int p1), .unset] [] := by first | (simp [entryFrame, mkF, argsToLocals, Value.category]; done) | rfl
def Q_ex (Z : State) (p1 : Int32) (h0 : Heap) (n0 : Nat) (v : Option Value) (h : Heap) (L : List Loc) : Prop := v = some (.int (own_b (own_exp p1))) ∧ Fr n0 L ∧ h = h0
set_option maxRecDepth 65536 in
set_option maxHeartbeats 40000000 in
theorem rm_ex (l : Launch) (Z : State) (a0 : Array Value) (hw : ∀ d ∈ tables_1, d.before a0 Z = true) (ws : List Jvm.Cond) (p1 : Int32) (h0 : Heap) (n0 : Nat) (Z0 : n0 ≤ h0.size) :
    MetFree l (⟨"com/example/strict_key/strictkey/store/FieldSyntaxIsTcharPinLaw", "expected", "(I)Z"⟩ : MethodName) (head1 (Jvm.Cond.code (⟨"com/example/strict_key/strictkey/store/FieldSyntaxIsTcharPinLaw", "expected", "(I)Z"⟩ : MethodName) method_3_code 2 (some .boolean) :: ws) ({ frames := 1, cells := 0, slots := 0, locals := 12 } : Room)) (fun a U => a = #[(.int p1)] ∧ Z.Warmed39 U.vm ∧ U.heap = h0) (fun _ _ _ _ _ => True) (fun _ U o U' => ∃ v L, o = .returned v ∧ Q_ex Z p1 h0 n0 v U'.heap L ∧ FrameEnd U o U' L ({ frames := 1, cells := 0, slots := 0, locals := 12 } : Room).cells ({ frames := 1, cells := 0, slots := 0, locals := 12 } : Room).slots) := by
  refine MetFree.of_bodySF (plainFor_of_name pn_ex) hisR ?_
  intro p e s m args below meth c s₁ Bd hml0 hP hK
  obtain ⟨rfl, hZ, hh⟩ := hP
  have hx := Bd.exec
  have hby := Bd.bytes
  have hml : c.maxLocals = 2 := hml0
  have hown : s.vm.findClass "com/example/strict_key/strictkey/store/FieldSyntaxIsTcharPinLaw" = some m.cls := findClass_of_methodNamed Bd.named
  have hnm := (name_of_methodNamed Bd.named Bd.method).1
  have X0 : Stand p l e ({ frames := 1, cells := 0, slots := 0, locals := 12 } : Room) s m #[(.int p1)] below meth c s₁ [] 0 0 := Stand.of_body Bd
  have e0 : s₁.heap = h0 := by rw [← hh, Bd.state]; rfl
  have N0 := Fr.nil n0
  have pre0 : ∀ t, Steps p.tables e below (s₁.setTop (mkF m 0 #[.val (.int p1), .unset] [])) t → Steps p.tables e below (s₁.setTop (entryFrame m #[(.int p1)] 2)) t := fun t k => castTop (ef_ex m p1) k
  have sg1 : ∀ t, Steps p.tables e below (s₁.setTop (mkF m 17 #[.val (.int p1), .unset] [(.int (own_b (own_rg p1 (33 : Int32) (126 : Int32))))])) t → Steps p.tables e below (s₁.setTop (mkF m 0 #[.val (.int p1), .unset] [])) t := by
    intro t kt
    show Steps p.tables e below (s₁.setTop (mkF m 0 #[.val (.int p1), .unset] [])) _
    refine XS.iloadN X0.here hx rfl (hb hby d_ex_0) rfl ?_
    show Steps p.tables e below (s₁.setTop (mkF m 1 #[.val (.int p1), .unset] [(.int p1)])) _
    refine XS.bipush X0.here hx rfl (hb hby d_ex_1) ?_
    by_cases hc3_2 : p1 < (33 : Int32)
    · show Steps p.tables e below (s₁.setTop (mkF m 3 #[.val (.int p1), .unset] [(.int (33 : Int32)), (.int p1)])) _
      refine XS.icmpYes X0.here hx rfl (pc0 := 3) (pc' := 16) rfl (hb hby d_ex_3) rfl (tlt hc3_2).1 (by decide) (by decide) ?_
      show Steps p.tables e below (s₁.setTop (mkF m 16 #[.val (.int p1), .unset] [])) _
      refine XS.iconst X0.here hx rfl (hb hby d_ex_16) ?_
      show Steps p.tables e below (s₁.setTop (mkF m 17 #[.val (.int p1), .unset] [(.int (0 : Int32))])) _
      refine castTop (congrArg (fun zz => (mkF m 17 #[.val (.int p1), .unset] [(.int zz)])) (by rw [show own_rg p1 (33 : Int32) (126 : Int32) = false from by simp [own_rg, hc3_2]]; rfl : (0 : Int32) = (own_b (own_rg p1 (33 : Int32) (126 : Int32))))) ?_
      exact kt
    · show Steps p.tables e below (s₁.setTop (mkF m 3 #[.val (.int p1), .unset] [(.int (33 : Int32)), (.int p1)])) _
      refine XS.icmpNo X0.here hx rfl (hb hby d_ex_3) rfl (flt hc3_2).1 ?_
      show Steps p.tables e below (s₁.setTop (mkF m 6 #[.val (.int p1), .unset] [])) _
      refine XS.iloadN X0.here hx rfl (hb hby d_ex_6) rfl ?_
      show Steps p.tables e below (s₁.setTop (mkF m 7 #[.val (.int p1), .unset] [(.int p1)])) _
      refine XS.bipush X0.here hx rfl (hb hby d_ex_7) ?_
      by_cases hc9_3 : (126 : Int32) < p1
      · show Steps p.tables e below (s₁.setTop (mkF m 9 #[.val (.int p1), .unset] [(.int (126 : Int32)), (.int p1)])) _
        refine XS.icmpYes X0.here hx rfl (pc0 := 9) (pc' := 16) rfl (hb hby d_ex_9) rfl (tlt hc9_3).2.2.1 (by decide) (by decide) ?_
        show Steps p.tables e below (s₁.setTop (mkF m 16 #[.val (.int p1), .unset] [])) _
        refine XS.iconst X0.here hx rfl (hb hby d_ex_16) ?_
        show Steps p.tables e below (s₁.setTop (mkF m 17 #[.val (.int p1), .unset] [(.int (0 : Int32))])) _
        refine castTop (congrArg (fun zz => (mkF m 17 #[.val (.int p1), .unset] [(.int zz)])) (by rw [show own_rg p1 (33 : Int32) (126 : Int32) = false from by simp [own_rg, hc3_2, hc9_3]]; rfl : (0 : Int32) = (own_b (own_rg p1 (33 : Int32) (126 : Int32))))) ?_
        exact kt
      · show Steps p.tables e below (s₁.setTop (mkF m 9 #[.val (.int p1), .unset] [(.int (126 : Int32)), (.int p1)])) _
        refine XS.icmpNo X0.here hx rfl (hb hby d_ex_9) rfl (flt hc9_3).2.2.1 ?_
        show Steps p.tables e below (s₁.setTop (mkF m 12 #[.val (.int p1), .unset] [])) _
        refine XS.iconst X0.here hx rfl (hb hby d_ex_12) ?_
        show Steps p.tables e below (s₁.setTop (mkF m 13 #[.val (.int p1), .unset] [(.int (1 : Int32))])) _
        refine XS.goto X0.here hx rfl (pc0 := 13) (pc' := 17) rfl (hb hby d_ex_13) (by decide) (by decide) ?_
        show Steps p.tables e below (s₁.setTop (mkF m 17 #[.val (.int p1), .unset] [(.int (1 : Int32))])) _
        refine castTop (congrArg (fun zz => (mkF m 17 #[.val (.int p1), .unset] [(.int zz)])) (by rw [show own_rg p1 (33 : Int32) (126 : Int32) = true from by simp [own_rg, hc3_2, hc9_3]]; rfl : (1 : Int32) = (own_b (own_rg p1 (33 : Int32) (126 : Int32))))) ?_
        exact kt
  have pr5 : ∀ t, Steps p.tables e below (s₁.setTop (mkF m 19 #[.val (.int p1), .val (.int (own_b (own_rg p1 (33 : Int32) (126 : Int32))))] [(.int (own_b (own_rg p1 (33 : Int32) (126 : Int32))))])) t → Steps p.tables e below (s₁.setTop (entryFrame m #[(.int p1)] 2)) t := fun t kt => pre0 t (by
    show Steps p.tables e below (s₁.setTop (mkF m 0 #[.val (.int p1), .unset] [])) _
    refine sg1 _ ?_
    show Steps p.tables e below (s₁.setTop (mkF m 17 #[.val (.int p1), .unset] [(.int (own_b (own_rg p1 (33 : Int32) (126 : Int32))))])) _
    refine XS.istoreN X0.here hx rfl (hb hby d_ex_17) rfl (l' := #[.val (.int p1), .val (.int (own_b (own_rg p1 (33 : Int32) (126 : Int32))))]) rfl ?_
    show Steps p.tables e below (s₁.setTop (mkF m 18 #[.val (.int p1), .val (.int (own_b (own_rg p1 (33 : Int32) (126 : Int32))))] [])) _
    refine XS.iloadN X0.here hx rfl (hb hby d_ex_18) rfl ?_
    exact kt)
  by_cases hc19_4 : (own_rg p1 (33 : Int32) (126 : Int32)) = true
  · have pr7 : ∀ t, Steps p.tables e below (s₁.setTop (mkF m 23 #[.val (.int p1), .val (.int (own_b (own_rg p1 (33 : Int32) (126 : Int32))))] [(.int p1)])) t → Steps p.tables e below (s₁.setTop (entryFrame m #[(.int p1)] 2)) t := fun t kt => pr5 t (by
      show Steps p.tables e below (s₁.setTop (mkF m 19 #[.val (.int p1), .val (.int (own_b (own_rg p1 (33 : Int32) (126 : Int32))))] [(.int (own_b (own_rg p1 (33 : Int32) (126 : Int32))))])) _
      refine XS.ifNo X0.here hx rfl (hb hby d_ex_19) rfl ((if0 _ _).trans (feq (own_b1 hc19_4)).1) ?_
      show Steps p.tables e below (s₁.setTop (mkF m 22 #[.val (.int p1), .val (.int (own_b (own_rg p1 (33 : Int32) (126 : Int32))))] [])) _
      refine XS.iloadN X0.here hx rfl (hb hby d_ex_22) rfl ?_
      show Steps p.tables e below (s₁.setTop (mkF m 23 #[.val (.int p1), .val (.int (own_b (own_rg p1 (33 : Int32) (126 : Int32))))] [(.int p1)])) _
      exact kt)
    obtain ⟨_, _, ⟨T6, L6, k6, n6⟩, -, X6, ⟨Lc6, hQ6, l6, y6, z6⟩, st6⟩ := Jvm.LawKit.callS X0 hx (y := (⟨"com/example/strict_key/strictkey/store/FieldSyntaxIsTcharPinLaw", "isDelimiter", "(I)Z"⟩ : MethodName)) hown (mvT hZ (hw _ (List.mem_of_getElem? (i := 62) rfl))) (mvT hZ (hw _ (List.mem_of_getElem? (i := 63) rfl))) (mvT hZ (hw _ (List.mem_of_getElem? (i := 60) rfl))) (mvT hZ (hw _ (List.mem_of_getElem? (i := 64) rfl))) (by decide) (backOf (W := 0) (rm_dl l Z a0 hw [] p1 h0 n0 Z0 ) hZ (hw _ (List.mem_of_getElem? (i := 64) rfl)) (hw _ (List.mem_of_getElem? (i := 60) rfl)) (by decide) (by decide)) (g := (mkF m 23 #[.val (.int p1), .val (.int (own_b (own_rg p1 (33 : Int32) (126 : Int32))))] [(.int p1)])) rfl (by rw [hml]; rfl) (argsL := [(.int p1)]) (rest := []) (lenOf pd_ex_0 rfl) rfl (by show 2 * 0 + _ ≤ _; exact Nat.le_of_eq rfl) (hb hby d_ex_23) (fun _ _ => ⟨rfl, e0, (by decide : 0 + 0 ≤ _), (by decide : 0 + 0 ≤ _)⟩)
    dsimp only [Pt.U, Pt.locs, Pt.cells, Pt.slots] at X6 l6 y6 z6 st6 hQ6
    subst l6 y6 z6
    obtain ⟨rfl, N6q, e6⟩ := hQ6
    have N6 := Fr.app N0 N6q
    have pr9 : ∀ t, Steps p.tables e below (T6.setTop (mkF m 26 #[.val (.int p1), .val (.int (own_b (own_rg p1 (33 : Int32) (126 : Int32))))] [(.int (own_b (own_del p1)))])) t → Steps p.tables e below (s₁.setTop (entryFrame m #[(.int p1)] 2)) t := fun t kt => pr7 t (by
      refine st6 _ ?_
      exact kt)
    by_cases hc26_8 : (own_del p1) = true
    · obtain ⟨fs, hr, hrun, hended, hW, hsame⟩ := X6.leave (v := some (.int (nar .boolean (0 : Int32)))) (fun h => by rw [Bd.returns] at h; cases h)
      refine ⟨_, _, pr9 _ ?_, hrun, hended, _, _, rfl, ?_, ⟨_, rfl⟩, hW, hsame.mono (by decide) (by decide)⟩
      · show Steps p.tables e below (T6.setTop (mkF m 26 #[.val (.int p1), .val (.int (own_b (own_rg p1 (33 : Int32) (126 : Int32))))] [(.int (own_b (own_del p1)))])) _
        refine XS.ifYes X6.here hx rfl (pc0 := 26) (pc' := 33) rfl (hb hby d_ex_26) rfl ((if0 _ _).trans (feq (own_b1 hc26_8)).2) (by decide) (by decide) ?_
        show Steps p.tables e below (T6.setTop (mkF m 33 #[.val (.int p1), .val (.int (own_b (own_rg p1 (33 : Int32) (126 : Int32))))] [])) _
        refine XS.iconst X6.here hx rfl (hb hby d_ex_33) ?_
        show Steps p.tables e below (T6.setTop (mkF m 34 #[.val (.int p1), .val (.int (own_b (own_rg p1 (33 : Int32) (126 : Int32))))] [(.int (0 : Int32))])) _
        exact retN X6 hx (t := .boolean) Bd.returns (by simp) (hb hby d_ex_34) hr
      · show Q_ex Z p1 h0 n0 _ T6.heap _
        rw [e6]
        exact ⟨(congrArg (fun zz => some (Value.int zz)) (by rw [show own_exp p1 = false from by simp [own_exp, hc19_4, hc26_8]]; rfl : nar .boolean (0 : Int32) = (own_b (own_exp p1)))), N6, rfl⟩
    · obtain ⟨fs, hr, hrun, hended, hW, hsame⟩ := X6.leave (v := some (.int (nar .boolean (1 : Int32)))) (fun h => by rw [Bd.returns] at h; cases h)
      refine ⟨_, _, pr9 _ ?_, hrun, hended, _, _, rfl, ?_, ⟨_, rfl⟩, hW, hsame.mono (by decide) (by decide)⟩
      · show Steps p.tables e below (T6.setTop (mkF m 26 #[.val (.int p1), .val (.int (own_b (own_rg p1 (33 : Int32) (126 : Int32))))] [(.int (own_b (own_del p1)))])) _
        refine XS.ifNo X6.here hx rfl (hb hby d_ex_26) rfl ((if0 _ _).trans (teq (own_b0 hc26_8)).2) ?_
        show Steps p.tables e below (T6.setTop (mkF m 29 #[.val (.int p1), .val (.int (own_b (own_rg p1 (33 : Int32) (126 : Int32))))] [])) _
        refine XS.iconst X6.here hx rfl (hb hby d_ex_29) ?_
        show Steps p.tables e below (T6.setTop (mkF m 30 #[.val (.int p1), .val (.int (own_b (own_rg p1 (33 : Int32) (126 : Int32))))] [(.int (1 : Int32))])) _
        refine XS.goto X6.here hx rfl (pc0 := 30) (pc' := 34) rfl (hb hby d_ex_30) (by decide) (by decide) ?_
        show Steps p.tables e below (T6.setTop (mkF m 34 #[.val (.int p1), .val (.int (own_b (own_rg p1 (33 : Int32) (126 : Int32))))] [(.int (1 : Int32))])) _
        exact retN X6 hx (t := .boolean) Bd.returns (by simp) (hb hby d_ex_34) hr
      · show Q_ex Z p1 h0 n0 _ T6.heap _
        rw [e6]
        exact ⟨(congrArg (fun zz => some (Value.int zz)) (by rw [show own_exp p1 = true from by simp [own_exp, hc19_4, hc26_8]]; rfl : nar .boolean (1 : Int32) = (own_b (own_exp p1)))), N6, rfl⟩
  · obtain ⟨fs, hr, hrun, hended, hW, hsame⟩ := X0.leave (v := some (.int (nar .boolean (0 : Int32)))) (fun h => by rw [Bd.returns] at h; cases h)
    refine ⟨_, _, pr5 _ ?_, hrun, hended, _, _, rfl, ?_, ⟨_, rfl⟩, hW, hsame.mono (by decide) (by decide)⟩
    · show Steps p.tables e below (s₁.setTop (mkF m 19 #[.val (.int p1), .val (.int (own_b (own_rg p1 (33 : Int32) (126 : Int32))))] [(.int (own_b (own_rg p1 (33 : Int32) (126 : Int32))))])) _
      refine XS.ifYes X0.here hx rfl (pc0 := 19) (pc' := 33) rfl (hb hby d_ex_19) rfl ((if0 _ _).trans (teq (own_b0 hc19_4)).1) (by decide) (by decide) ?_
      show Steps p.tables e below (s₁.setTop (mkF m 33 #[.val (.int p1), .val (.int (own_b (own_rg p1 (33 : Int32) (126 : Int32))))] [])) _
      refine XS.iconst X0.here hx rfl (hb hby d_ex_33) ?_
      show Steps p.tables e below (s₁.setTop (mkF m 34 #[.val (.int p1), .val (.int (own_b (own_rg p1 (33 : Int32) (126 : Int32))))] [(.int (0 : Int32))])) _
      exact retN X0 hx (t := .boolean) Bd.returns (by simp) (hb hby d_ex_34) hr
    · show Q_ex Z p1 h0 n0 _ s₁.heap _
      rw [e0]
      exact ⟨(congrArg (fun zz => some (Value.int zz)) (by rw [show own_exp p1 = false from by simp [own_exp, hc19_4]]; rfl : nar .boolean (0 : Int32) = (own_b (own_exp p1)))), N0, rfl⟩
theorem pn_law : plainName "com/example/strict_key/strictkey/store/FieldSyntaxIsTcharPinLaw" = true := by first | (simp [plainName, overriddenIn]; done) | decide +kernel
theorem pd_law_0 : parseMethodDescriptor "(I)Z" = some ⟨[.int], some .boolean⟩ := by decide +kernel
theorem ef_law (m : MethodId) (p1 : Int32) (p2 : Int32) : entryFrame m #[(.int p1), (.int p2)] maxLocals = mkF m 0 #[.val (.int p1), .val (.int p2), .unset, .unset] [] := by first | (simp [entryFrame, mkF, argsToLocals, Value.category, maxLocals]; done) | rfl
def Q_law (Z : State) (p1 : Int32) (p2 : Int32) (w1 : Int32) (h0 : Heap) (n0 : Nat) (v : Option Value) (h : Heap) (L : List Loc) : Prop := v = some (.int (1 : Int32)) ∧ Fr n0 L
set_option maxRecDepth 65536 in
set_option maxHeartbeats 40000000 in
theorem rm_law (l : Launch) (Z : State) (a0 : Array Value) (hw : ∀ d ∈ tables_1, d.before a0 Z = true) (ws : List Jvm.Cond) (p1 : Int32) (p2 : Int32) (w1 : Int32) (h0 : Heap) (n0 : Nat) (Z0 : n0 ≤ h0.size) (S1 : Sta Z h0 "java/lang/String" "COMPACT_STRINGS" "Z" (.int w1)) (nz : ¬ w1 = (0 : Int32)) (hkeep : ∀ (b : Addr) (cl : Cell), Z.heap[b]? = some cl → h0[b]? = some cl) (hheld : Jvm.Lit.constHeld Z "com/example/strict_key/strictkey/store/FieldSyntax" 42) (hcw : Jvm.Lit.compactW.before a0 Z = true) :
    MetFree l x (head1 (Jvm.Cond.code x code maxLocals ret :: ws) room_1) (fun a U => a = #[(.int p1), (.int p2)] ∧ Z.Warmed39 U.vm ∧ U.heap = h0 ∧ U.vm.interned = Z.vm.interned) (fun _ _ _ _ _ => True) (fun _ U o U' => ∃ v L, o = .returned v ∧ Q_law Z p1 p2 w1 h0 n0 v U'.heap L ∧ ReturnedEndW U o U' L room_1.cells room_1.slots) := by
  refine MetFree.of_bodySF (plainFor_of_name pn_law) hisR ?_
  intro p e s m args below meth c s₁ Bd hml0 hP hK
  obtain ⟨rfl, hZ, hh, hi⟩ := hP
  have hx := Bd.exec
  have hby := Bd.bytes
  have hml : c.maxLocals = 4 := hml0
  have hown : s.vm.findClass "com/example/strict_key/strictkey/store/FieldSyntaxIsTcharPinLaw" = some m.cls := findClass_of_methodNamed Bd.named
  have hnm := (name_of_methodNamed Bd.named Bd.method).1
  have X0 : Stand p l e room_1 s m #[(.int p1), (.int p2)] below meth c s₁ [] 0 0 := Stand.of_body Bd
  have e0 : s₁.heap = h0 := by rw [← hh, Bd.state]; rfl
  have N0 := Fr.nil n0
  have pre0 : ∀ t, Steps p.tables e below (s₁.setTop (mkF m 0 #[.val (.int p1), .val (.int p2), .unset, .unset] [])) t → Steps p.tables e below (s₁.setTop (entryFrame m #[(.int p1), (.int p2)] maxLocals)) t := fun t k => castTop (ef_law m p1 p2) k
  have sg1 : ∀ t, Steps p.tables e below (s₁.setTop (mkF m 49 #[.val (.int p1), .val (.int p2), .val (.int (p2 &&& (3 : Int32))), .val (.int (own_cc p1 p2))] [])) t → Steps p.tables e below (s₁.setTop (mkF m 4 #[.val (.int p1), .val (.int p2), .val (.int (p2 &&& (3 : Int32))), .unset] [])) t := by
    intro t kt
    show Steps p.tables e below (s₁.setTop (mkF m 4 #[.val (.int p1), .val (.int p2), .val (.int (p2 &&& (3 : Int32))), .unset] [])) _
    refine XS.iloadN X0.here hx rfl (hb hby at_4) rfl ?_
    by_cases hc5_2 : (p2 &&& (3 : Int32)) = (0 : Int32)
    · show Steps p.tables e below (s₁.setTop (mkF m 5 #[.val (.int p1), .val (.int p2), .val (.int (p2 &&& (3 : Int32))), .unset] [(.int (p2 &&& (3 : Int32)))])) _
      refine XS.ifNo X0.here hx rfl (hb hby at_5) rfl ((if0 _ _).trans (teq hc5_2).2) ?_
      show Steps p.tables e below (s₁.setTop (mkF m 8 #[.val (.int p1), .val (.int p2), .val (.int (p2 &&& (3 : Int32))), .unset] [])) _
      refine XS.iloadN X0.here hx rfl (hb hby at_8) rfl ?_
      show Steps p.tables e below (s₁.setTop (mkF m 9 #[.val (.int p1), .val (.int p2), .val (.int (p2 &&& (3 : Int32))), .unset] [(.int p1)])) _
      refine XS.istoreN X0.here hx rfl (hb hby at_9) rfl (l' := #[.val (.int p1), .val (.int p2), .val (.int (p2 &&& (3 : Int32))), .val (.int p1)]) rfl ?_
      show Steps p.tables e below (s₁.setTop (mkF m 10 #[.val (.int p1), .val (.int p2), .val (.int (p2 &&& (3 : Int32))), .val (.int p1)] [])) _
      refine XS.goto X0.here hx rfl (pc0 := 10) (pc' := 49) rfl (hb hby at_10) (by decide) (by decide) ?_
      show Steps p.tables e below (s₁.setTop (mkF m 49 #[.val (.int p1), .val (.int p2), .val (.int (p2 &&& (3 : Int32))), .val (.int p1)] [])) _
      refine castTop (congrArg (fun zz => (mkF m 49 #[.val (.int p1), .val (.int p2), .val (.int (p2 &&& (3 : Int32))), .val (.int zz)] [])) (by simp [own_cc, hc5_2] : p1 = (own_cc p1 p2))) ?_
      exact kt
    · show Steps p.tables e below (s₁.setTop (mkF m 5 #[.val (.int p1), .val (.int p2), .val (.int (p2 &&& (3 : Int32))), .unset] [(.int (p2 &&& (3 : Int32)))])) _
      refine XS.ifYes X0.here hx rfl (pc0 := 5) (pc' := 13) rfl (hb hby at_5) rfl ((if0 _ _).trans (feq hc5_2).2) (by decide) (by decide) ?_
      show Steps p.tables e below (s₁.setTop (mkF m 13 #[.val (.int p1), .val (.int p2), .val (.int (p2 &&& (3 : Int32))), .unset] [])) _
      refine XS.iloadN X0.here hx rfl (hb hby at_13) rfl ?_
      show Steps p.tables e below (s₁.setTop (mkF m 14 #[.val (.int p1), .val (.int p2), .val (.int (p2 &&& (3 : Int32))), .unset] [(.int (p2 &&& (3 : Int32)))])) _
      refine XS.iconst X0.here hx rfl (hb hby at_14) ?_
      by_cases hc15_3 : (p2 &&& (3 : Int32)) = (1 : Int32)
      · show Steps p.tables e below (s₁.setTop (mkF m 15 #[.val (.int p1), .val (.int p2), .val (.int (p2 &&& (3 : Int32))), .unset] [(.int (1 : Int32)), (.int (p2 &&& (3 : Int32)))])) _
        refine XS.icmpNo X0.here hx rfl (hb hby at_15) rfl (teq hc15_3).2 ?_
        show Steps p.tables e below (s₁.setTop (mkF m 18 #[.val (.int p1), .val (.int p2), .val (.int (p2 &&& (3 : Int32))), .unset] [])) _
        refine XS.iloadN X0.here hx rfl (hb hby at_18) rfl ?_
        show Steps p.tables e below (s₁.setTop (mkF m 19 #[.val (.int p1), .val (.int p2), .val (.int (p2 &&& (3 : Int32))), .unset] [(.int p1)])) _
        refine XS.bipush X0.here hx rfl (hb hby at_19) ?_
        show Steps p.tables e below (s₁.setTop (mkF m 21 #[.val (.int p1), .val (.int p2), .val (.int (p2 &&& (3 : Int32))), .unset] [(.int (127 : Int32)), (.int p1)])) _
        refine XS.iand X0.here hx rfl (hb hby at_21) rfl ?_
        show Steps p.tables e below (s₁.setTop (mkF m 22 #[.val (.int p1), .val (.int p2), .val (.int (p2 &&& (3 : Int32))), .unset] [(.int (p1 &&& (127 : Int32)))])) _
        refine XS.istoreN X0.here hx rfl (hb hby at_22) rfl (l' := #[.val (.int p1), .val (.int p2), .val (.int (p2 &&& (3 : Int32))), .val (.int (p1 &&& (127 : Int32)))]) rfl ?_
        show Steps p.tables e below (s₁.setTop (mkF m 23 #[.val (.int p1), .val (.int p2), .val (.int (p2 &&& (3 : Int32))), .val (.int (p1 &&& (127 : Int32)))] [])) _
        refine XS.goto X0.here hx rfl (pc0 := 23) (pc' := 49) rfl (hb hby at_23) (by decide) (by decide) ?_
        show Steps p.tables e below (s₁.setTop (mkF m 49 #[.val (.int p1), .val (.int p2), .val (.int (p2 &&& (3 : Int32))), .val (.int (p1 &&& (127 : Int32)))] [])) _
        refine castTop (congrArg (fun zz => (mkF m 49 #[.val (.int p1), .val (.int p2), .val (.int (p2 &&& (3 : Int32))), .val (.int zz)] [])) (by simp [own_cc, hc5_2, hc15_3] : (p1 &&& (127 : Int32)) = (own_cc p1 p2))) ?_
        exact kt
      · show Steps p.tables e below (s₁.setTop (mkF m 15 #[.val (.int p1), .val (.int p2), .val (.int (p2 &&& (3 : Int32))), .unset] [(.int (1 : Int32)), (.int (p2 &&& (3 : Int32)))])) _
        refine XS.icmpYes X0.here hx rfl (pc0 := 15) (pc' := 26) rfl (hb hby at_15) rfl (feq hc15_3).2 (by decide) (by decide) ?_
        show Steps p.tables e below (s₁.setTop (mkF m 26 #[.val (.int p1), .val (.int p2), .val (.int (p2 &&& (3 : Int32))), .unset] [])) _
        refine XS.iloadN X0.here hx rfl (hb hby at_26) rfl ?_
        show Steps p.tables e below (s₁.setTop (mkF m 27 #[.val (.int p1), .val (.int p2), .val (.int (p2 &&& (3 : Int32))), .unset] [(.int (p2 &&& (3 : Int32)))])) _
        refine XS.iconst X0.here hx rfl (hb hby at_27) ?_
        by_cases hc28_4 : (p2 &&& (3 : Int32)) = (2 : Int32)
        · show Steps p.tables e below (s₁.setTop (mkF m 28 #[.val (.int p1), .val (.int p2), .val (.int (p2 &&& (3 : Int32))), .unset] [(.int (2 : Int32)), (.int (p2 &&& (3 : Int32)))])) _
          refine XS.icmpNo X0.here hx rfl (hb hby at_28) rfl (teq hc28_4).2 ?_
          show Steps p.tables e below (s₁.setTop (mkF m 31 #[.val (.int p1), .val (.int p2), .val (.int (p2 &&& (3 : Int32))), .unset] [])) _
          refine XS.iloadN X0.here hx rfl (hb hby at_31) rfl ?_
          show Steps p.tables e below (s₁.setTop (mkF m 32 #[.val (.int p1), .val (.int p2), .val (.int (p2 &&& (3 : Int32))), .unset] [(.int p1)])) _
          refine XS.bipush X0.here hx rfl (hb hby at_32) ?_
          show Steps p.tables e below (s₁.setTop (mkF m 34 #[.val (.int p1), .val (.int p2), .val (.int (p2 &&& (3 : Int32))), .unset] [(.int (127 : Int32)), (.int p1)])) _
          refine XS.iand X0.here hx rfl (hb hby at_34) rfl ?_
          show Steps p.tables e below (s₁.setTop (mkF m 35 #[.val (.int p1), .val (.int p2), .val (.int (p2 &&& (3 : Int32))), .unset] [(.int (p1 &&& (127 : Int32)))])) _
          refine XS.iloadN X0.here hx rfl (hb hby at_35) rfl ?_
          show Steps p.tables e below (s₁.setTop (mkF m 36 #[.val (.int p1), .val (.int p2), .val (.int (p2 &&& (3 : Int32))), .unset] [(.int p2), (.int (p1 &&& (127 : Int32)))])) _
          refine X0.ldcInt hx hown (mvT hZ (hw _ (List.mem_of_getElem? (i := 65) rfl))) (g := (mkF m 36 #[.val (.int p1), .val (.int p2), .val (.int (p2 &&& (3 : Int32))), .unset] [(.int p2), (.int (p1 &&& (127 : Int32)))])) rfl (hb hby at_36) _ ?_
          show Steps p.tables e below (s₁.setTop (mkF m 38 #[.val (.int p1), .val (.int p2), .val (.int (p2 &&& (3 : Int32))), .unset] [(.int (-65536 : Int32)), (.int p2), (.int (p1 &&& (127 : Int32)))])) _
          refine XS.iand X0.here hx rfl (hb hby at_38) rfl ?_
          show Steps p.tables e below (s₁.setTop (mkF m 39 #[.val (.int p1), .val (.int p2), .val (.int (p2 &&& (3 : Int32))), .unset] [(.int (p2 &&& (-65536 : Int32))), (.int (p1 &&& (127 : Int32)))])) _
          refine XS.ior X0.here hx rfl (hb hby at_39) rfl ?_
          show Steps p.tables e below (s₁.setTop (mkF m 40 #[.val (.int p1), .val (.int p2), .val (.int (p2 &&& (3 : Int32))), .unset] [(.int ((p1 &&& (127 : Int32)) ||| (p2 &&& (-65536 : Int32))))])) _
          refine XS.istoreN X0.here hx rfl (hb hby at_40) rfl (l' := #[.val (.int p1), .val (.int p2), .val (.int (p2 &&& (3 : Int32))), .val (.int ((p1 &&& (127 : Int32)) ||| (p2 &&& (-65536 : Int32))))]) rfl ?_
          show Steps p.tables e below (s₁.setTop (mkF m 41 #[.val (.int p1), .val (.int p2), .val (.int (p2 &&& (3 : Int32))), .val (.int ((p1 &&& (127 : Int32)) ||| (p2 &&& (-65536 : Int32))))] [])) _
          refine XS.goto X0.here hx rfl (pc0 := 41) (pc' := 49) rfl (hb hby at_41) (by decide) (by decide) ?_
          show Steps p.tables e below (s₁.setTop (mkF m 49 #[.val (.int p1), .val (.int p2), .val (.int (p2 &&& (3 : Int32))), .val (.int ((p1 &&& (127 : Int32)) ||| (p2 &&& (-65536 : Int32))))] [])) _
          refine castTop (congrArg (fun zz => (mkF m 49 #[.val (.int p1), .val (.int p2), .val (.int (p2 &&& (3 : Int32))), .val (.int zz)] [])) (by simp [own_cc, hc5_2, hc15_3, hc28_4] : ((p1 &&& (127 : Int32)) ||| (p2 &&& (-65536 : Int32))) = (own_cc p1 p2))) ?_
          exact kt
        · show Steps p.tables e below (s₁.setTop (mkF m 28 #[.val (.int p1), .val (.int p2), .val (.int (p2 &&& (3 : Int32))), .unset] [(.int (2 : Int32)), (.int (p2 &&& (3 : Int32)))])) _
          refine XS.icmpYes X0.here hx rfl (pc0 := 28) (pc' := 44) rfl (hb hby at_28) rfl (feq hc28_4).2 (by decide) (by decide) ?_
          show Steps p.tables e below (s₁.setTop (mkF m 44 #[.val (.int p1), .val (.int p2), .val (.int (p2 &&& (3 : Int32))), .unset] [])) _
          refine XS.iloadN X0.here hx rfl (hb hby at_44) rfl ?_
          show Steps p.tables e below (s₁.setTop (mkF m 45 #[.val (.int p1), .val (.int p2), .val (.int (p2 &&& (3 : Int32))), .unset] [(.int p1)])) _
          refine X0.ldcInt hx hown (mvT hZ (hw _ (List.mem_of_getElem? (i := 0) rfl))) (g := (mkF m 45 #[.val (.int p1), .val (.int p2), .val (.int (p2 &&& (3 : Int32))), .unset] [(.int p1)])) rfl (hb hby at_45) _ ?_
          show Steps p.tables e below (s₁.setTop (mkF m 47 #[.val (.int p1), .val (.int p2), .val (.int (p2 &&& (3 : Int32))), .unset] [(.int (65535 : Int32)), (.int p1)])) _
          refine XS.iand X0.here hx rfl (hb hby at_47) rfl ?_
          show Steps p.tables e below (s₁.setTop (mkF m 48 #[.val (.int p1), .val (.int p2), .val (.int (p2 &&& (3 : Int32))), .unset] [(.int (p1 &&& (65535 : Int32)))])) _
          refine XS.istoreN X0.here hx rfl (hb hby at_48) rfl (l' := #[.val (.int p1), .val (.int p2), .val (.int (p2 &&& (3 : Int32))), .val (.int (p1 &&& (65535 : Int32)))]) rfl ?_
          show Steps p.tables e below (s₁.setTop (mkF m 49 #[.val (.int p1), .val (.int p2), .val (.int (p2 &&& (3 : Int32))), .val (.int (p1 &&& (65535 : Int32)))] [])) _
          refine castTop (congrArg (fun zz => (mkF m 49 #[.val (.int p1), .val (.int p2), .val (.int (p2 &&& (3 : Int32))), .val (.int zz)] [])) (by simp [own_cc, hc5_2, hc15_3, hc28_4] : (p1 &&& (65535 : Int32)) = (own_cc p1 p2))) ?_
          exact kt
  have pr5 : ∀ t, Steps p.tables e below (s₁.setTop (mkF m 50 #[.val (.int p1), .val (.int p2), .val (.int (p2 &&& (3 : Int32))), .val (.int (own_cc p1 p2))] [(.int (own_cc p1 p2))])) t → Steps p.tables e below (s₁.setTop (entryFrame m #[(.int p1), (.int p2)] maxLocals)) t := fun t kt => pre0 t (by
    show Steps p.tables e below (s₁.setTop (mkF m 0 #[.val (.int p1), .val (.int p2), .unset, .unset] [])) _
    refine XS.iloadN X0.here hx rfl (hb hby at_0) rfl ?_
    show Steps p.tables e below (s₁.setTop (mkF m 1 #[.val (.int p1), .val (.int p2), .unset, .unset] [(.int p2)])) _
    refine XS.iconst X0.here hx rfl (hb hby at_1) ?_
    show Steps p.tables e below (s₁.setTop (mkF m 2 #[.val (.int p1), .val (.int p2), .unset, .unset] [(.int (3 : Int32)), (.int p2)])) _
    refine XS.iand X0.here hx rfl (hb hby at_2) rfl ?_
    show Steps p.tables e below (s₁.setTop (mkF m 3 #[.val (.int p1), .val (.int p2), .unset, .unset] [(.int (p2 &&& (3 : Int32)))])) _
    refine XS.istoreN X0.here hx rfl (hb hby at_3) rfl (l' := #[.val (.int p1), .val (.int p2), .val (.int (p2 &&& (3 : Int32))), .unset]) rfl ?_
    show Steps p.tables e below (s₁.setTop (mkF m 4 #[.val (.int p1), .val (.int p2), .val (.int (p2 &&& (3 : Int32))), .unset] [])) _
    refine sg1 _ ?_
    show Steps p.tables e below (s₁.setTop (mkF m 49 #[.val (.int p1), .val (.int p2), .val (.int (p2 &&& (3 : Int32))), .val (.int (own_cc p1 p2))] [])) _
    refine XS.iloadN X0.here hx rfl (hb hby at_49) rfl ?_
    show Steps p.tables e below (s₁.setTop (mkF m 50 #[.val (.int p1), .val (.int p2), .val (.int (p2 &&& (3 : Int32))), .val (.int (own_cc p1 p2))] [(.int (own_cc p1 p2))])) _
    exact kt)
  obtain ⟨_, _, ⟨T6, L6, k6, n6⟩, -, X6, S6, g6, ⟨Lc6, hQ6, l6, y6, z6⟩, st6⟩ := callSS X0 hx (y := (⟨"com/example/strict_key/strictkey/store/FieldSyntax", "isTchar", "(I)Z"⟩ : MethodName)) hown (mvT hZ (hw _ (List.mem_of_getElem? (i := 1) rfl))) (mvT hZ (hw _ (List.mem_of_getElem? (i := 2) rfl))) (mvT hZ (hw _ (List.mem_of_getElem? (i := 3) rfl))) (mvT hZ (hw _ (List.mem_of_getElem? (i := 4) rfl))) (by decide) (own_backS (W := 0) (rm_tch l Z a0 hw [] (own_cc p1 p2) w1 h0 n0 Z0 S1 nz hkeep hheld hcw) hZ (hw _ (List.mem_of_getElem? (i := 4) rfl)) (hw _ (List.mem_of_getElem? (i := 3) rfl)) (by decide) (by decide)) (g := (mkF m 50 #[.val (.int p1), .val (.int p2), .val (.int (p2 &&& (3 : Int32))), .val (.int (own_cc p1 p2))] [(.int (own_cc p1 p2))])) rfl (by rw [hml]; rfl) (argsL := [(.int (own_cc p1 p2))]) (rest := []) (lenOf pd_law_0 rfl) rfl (by show 2 * 0 + _ ≤ _; exact Nat.le_of_eq rfl) (hb hby at_50) (fun _ hv => ⟨rfl, e0, (by decide : 0 + 2 ≤ _), (by decide : 0 + 64 ≤ _), hv.interned_eq.trans hi⟩)
  dsimp only [Pt.U, Pt.locs, Pt.cells, Pt.slots] at X6 S6 g6 l6 y6 z6 st6 hQ6
  subst l6 y6 z6
  obtain ⟨rfl, N6q, G6⟩ := hQ6
  have N6 := Fr.app N0 N6q
  have hZ6 : Z.Warmed39 (s.setVm T6.vm).vm := State.Warmed39.trans hZ S6.1
  have hown6 : (s.setVm T6.vm).vm.findClass "com/example/strict_key/strictkey/store/FieldSyntaxIsTcharPinLaw" = some m.cls := by rw [show (s.setVm T6.vm).vm = T6.vm from rfl, S6.1.alike.findClass]; exact hown
  have pr8 : ∀ t, Steps p.tables e below (T6.setTop (mkF m 54 #[.val (.int p1), .val (.int p2), .val (.int (p2 &&& (3 : Int32))), .val (.int (own_cc p1 p2))] [(.int (own_cc p1 p2)), (.int (own_b (own_tch (own_cc p1 p2))))])) t → Steps p.tables e below (s₁.setTop (entryFrame m #[(.int p1), (.int p2)] maxLocals)) t := fun t kt => pr5 t (by
    refine st6.trans ?_
    show Steps p.tables e below (T6.setTop (mkF m 53 #[.val (.int p1), .val (.int p2), .val (.int (p2 &&& (3 : Int32))), .val (.int (own_cc p1 p2))] [(.int (own_b (own_tch (own_cc p1 p2))))])) _
    refine XS.iloadN X6.here hx rfl (hb hby at_53) rfl ?_
    show Steps p.tables e below (T6.setTop (mkF m 54 #[.val (.int p1), .val (.int p2), .val (.int (p2 &&& (3 : Int32))), .val (.int (own_cc p1 p2))] [(.int (own_cc p1 p2)), (.int (own_b (own_tch (own_cc p1 p2))))])) _
    exact kt)
  obtain ⟨_, _, ⟨T7, L7, k7, n7⟩, -, X7, ⟨Lc7, hQ7, l7, y7, z7⟩, st7⟩ := Jvm.LawKit.callS X6 hx (y := (⟨"com/example/strict_key/strictkey/store/FieldSyntaxIsTcharPinLaw", "expected", "(I)Z"⟩ : MethodName)) hown6 (mvT hZ6 (hw _ (List.mem_of_getElem? (i := 58) rfl))) (mvT hZ6 (hw _ (List.mem_of_getElem? (i := 59) rfl))) (mvT hZ6 (hw _ (List.mem_of_getElem? (i := 60) rfl))) (mvT hZ6 (hw _ (List.mem_of_getElem? (i := 61) rfl))) (by decide) (backOf (W := 1) (rm_ex l Z a0 hw [] (own_cc p1 p2) T6.heap n0 (Nat.le_trans Z0 G6) ) hZ6 (hw _ (List.mem_of_getElem? (i := 61) rfl)) (hw _ (List.mem_of_getElem? (i := 60) rfl)) (by decide) (by decide)) (g := (mkF m 54 #[.val (.int p1), .val (.int p2), .val (.int (p2 &&& (3 : Int32))), .val (.int (own_cc p1 p2))] [(.int (own_cc p1 p2)), (.int (own_b (own_tch (own_cc p1 p2))))])) rfl (by rw [hml]; rfl) (argsL := [(.int (own_cc p1 p2))]) (rest := [(.int (own_b (own_tch (own_cc p1 p2))))]) (lenOf pd_law_0 rfl) rfl (by show 2 * 0 + _ ≤ _; exact Nat.le_of_eq rfl) (hb hby at_54) (fun _ _ => ⟨rfl, rfl, (by decide : 2 + 0 ≤ _), (by decide : 64 + 0 ≤ _)⟩)
  dsimp only [Pt.U, Pt.locs, Pt.cells, Pt.slots] at X7 l7 y7 z7 st7 hQ7
  subst l7 y7 z7
  obtain ⟨rfl, N7q, e7⟩ := hQ7
  have N7 := Fr.app N6 N7q
  obtain ⟨fs, hr, hrun, hended, hRW⟩ := X7.leaveW S6 (Nat.le_of_eq (by rw [e7])) (v := some (.int (nar .boolean (1 : Int32)))) (fun h => by rw [Bd.returns] at h; cases h)
  refine ⟨_, _, pr8 _ ?_, hrun, hended, _, _, rfl, ?_, hRW.1, hRW.2.1, hRW.2.2.1, hRW.2.2.2.mono (by decide) (by decide)⟩
  · refine st7 _ ?_
    show Steps p.tables e below (T7.setTop (mkF m 57 #[.val (.int p1), .val (.int p2), .val (.int (p2 &&& (3 : Int32))), .val (.int (own_cc p1 p2))] [(.int (own_b (own_exp (own_cc p1 p2)))), (.int (own_b (own_tch (own_cc p1 p2))))])) _
    refine XS.icmpNo X7.here hx rfl (hb hby at_57) rfl (teq (own_law (own_cc p1 p2) : (own_b (own_tch (own_cc p1 p2))) = (own_b (own_exp (own_cc p1 p2))))).2 ?_
    show Steps p.tables e below (T7.setTop (mkF m 60 #[.val (.int p1), .val (.int p2), .val (.int (p2 &&& (3 : Int32))), .val (.int (own_cc p1 p2))] [])) _
    refine XS.iconst X7.here hx rfl (hb hby at_60) ?_
    show Steps p.tables e below (T7.setTop (mkF m 61 #[.val (.int p1), .val (.int p2), .val (.int (p2 &&& (3 : Int32))), .val (.int (own_cc p1 p2))] [(.int (1 : Int32))])) _
    refine XS.goto X7.here hx rfl (pc0 := 61) (pc' := 65) rfl (hb hby at_61) (by decide) (by decide) ?_
    show Steps p.tables e below (T7.setTop (mkF m 65 #[.val (.int p1), .val (.int p2), .val (.int (p2 &&& (3 : Int32))), .val (.int (own_cc p1 p2))] [(.int (1 : Int32))])) _
    exact retN X7 hx (t := .boolean) Bd.returns (by simp) (hb hby at_65) hr
  · show Q_law Z p1 p2 w1 h0 n0 _ T7.heap _
    rw [e7]
    exact ⟨(congrArg (fun zz => some (Value.int zz)) (by rfl : nar .boolean (1 : Int32) = (1 : Int32))), N7⟩
set_option maxRecDepth 65536 in
set_option maxHeartbeats 40000000 in
theorem comes_1 {Post : Tables → Env → Array Value → State → Outcome → State → Prop} (hpost : ∀ tb e args s v u, (limb_1_1.after args s (.returned v) u = true ∧ limb_1_2.after args s (.returned v) u = true ∧ True) → ReturnedEndW s (.returned v) u (Jvm.fieldLocs frame_1_writes args s ++ Jvm.arrayLocs frame_1_arrays args s ++ Jvm.staticLocs frame_1_statics s) 8 1088 → Post tb e args s (.returned v) u) :
    ArmFor flags0 classFile x code maxLocals ret World_1 tables_1 room_1 Calls_1 rest_1 Pre_1 Post := by
  intro l hfl _ _ p e ha hc hk s m args below hf hA hF happ hP
  obtain ⟨hcalls, hrest, hpre⟩ := hP
  obtain ⟨-, -, -, hnamed, -, -, -, hat⟩ := (Spec.applies_iff hf).mp happ
  obtain ⟨hg, hn⟩ := and_e (Cond.before_iff.mp (show (Jvm.Cond.and given_1 narrow_1).before args s = true from hpre))
  obtain ⟨hcount, hg1⟩ := and_e hg
  obtain ⟨ga0, hg2⟩ := and_e hg1
  obtain ⟨w0, w1, rfl⟩ : ∃ w0 w1 : Value, args = #[w0, w1] := by
    have hs : args.size = 2 := by simpa [Cond.value, given_1] using hcount
    obtain ⟨L⟩ := args
    match L, hs with
    | [w0, w1], _ => exact ⟨w0, w1, rfl⟩
  have hw := fun d (hd : d ∈ tables_1) => atoms_spec (ws := Jvm.Cond.code x code maxLocals ret :: tables_1) hat d (List.mem_cons_of_mem _ hd)
  obtain ⟨i0, ei0⟩ := is_v ga0
  obtain rfl : w0 = (.int i0) := Option.some.inj ei0
  obtain ⟨i1, ei1⟩ := is_v hg2
  obtain rfl : w1 = (.int i1) := Option.some.inj ei1
  obtain ⟨hsets, hown0⟩ := atoms_of _ (rest_1_c_eq ▸ (show rest_1_c.before _ s = true from hrest))
  have n5 := not_v (Cond.before_iff.mp (hsets _ (List.mem_of_getElem? (i := 2) rfl)))
  obtain ⟨i11, e10⟩ := is_v (Cond.before_iff.mp (hsets _ (List.mem_of_getElem? (i := 1) rfl)))
  have S12 : Sta s s.heap "java/lang/String" "COMPACT_STRINGS" "Z" (.int i11) := Sta.start e10 (Or.inl (hsets _ (List.mem_of_getElem? (i := 0) rfl)))
  have c17 : ¬ (i11 = (0 : Int32)) := gotF (Cond.eq_ints e10 (Term.int_eval (0))) n5
  obtain ⟨n, o, h1, h2, h3, _, L, rfl, ⟨rfl, N⟩, hq⟩ := rm_law l s _ hw tables_1 i0 i1 i11 s.heap s.heap.size (Nat.le_refl _) S12 c17 (fun _ _ q => q) (hcalls.1 _ (List.mem_cons_self ..)) (hsets _ (List.mem_of_getElem? (i := 2) rfl)) p e ha hc hk s m _ below hf ((Spec.applies_iff_loose hf).mp happ).1 ⟨rfl, State.Warmed39.refl s, rfl, rfl⟩ trivial
  refine ⟨n, _, h1, h2, h3, hpost _ _ _ _ _ _ ⟨Cond.after_iff.mpr rfl, Cond.after_iff.mpr (eq_i res_at (Term.int_eval (1)) rfl), trivial⟩ ⟨hq.1, hq.2.1, hq.2.2.1, (hq.2.2.2.sift fun y hy => Or.inr (N y hy)).mono (by decide) (by decide)⟩⟩
theorem main_1_1 : Claimed_1_1 := comes_1 fun _ _ _ _ _ _ h hF => ⟨h.1, hF⟩
theorem main_1_2 : Claimed_1_2 := comes_1 fun _ _ _ _ _ _ h hF => ⟨h.2.1, hF⟩
end Jvm.Pilot.@@N@@
namespace Jvm.Pilot.@@N@@
open Jvm Jvm.ClassFile Sem Op Lib Jvm.Free Jvm.Stand Jvm.Pilot.@@N@@.Jvm.D
/-! MADE BY PROGRAM (witnessworld.py) out of the Statement's table words and the real class files: 18 classes; the members and pool entries that the words name. The judged class is class 1, her method 3. -/
namespace start1
open Jvm.ClassFile
def u (s : String) : CpInfo := .utf8 (stringToUtf16 s)
/-- a pool by its gaps: so many unusable entries, then the entry; so many at the end -/
def gap : Nat → List CpInfo → List CpInfo
  | 0, r => r
  | n + 1, r => .unusable :: gap n r
def poolList (es : List (Nat × CpInfo)) (last : Nat) : List CpInfo := es.foldr (fun e r => gap e.1 (e.2 :: r)) (gap last [])
def pool (es : List (Nat × CpInfo)) (last : Nat) : Array CpInfo := ⟨poolList es last⟩
def fileOf (pool : Array CpInfo) (this : Nat) (attrs : Array Attribute := #[]) (ms : Array MethodInfo := #[]) (fl : Nat := 33) (sup : Nat := 0) (ifs : Array Nat := #[]) (fds : Array FieldInfo := #[]) : ClassFile where
  minorVersion := 0
  majorVersion := 65
  constantPool := pool
  accessFlags := fl
  thisClass := this
  superClass := sup
  interfaces := ifs
  fields := fds
  methods := ms
  attributes := attrs
def plain (name : String) (sup : Option ClassId) : Class where
  name := name
  kind := .ordinary
  loader := none
  accessFlags := 33
  super := sup
  interfaces := #[]
  cf := none
  fields := #[]
  methods := #[]
  instanceTypes := #[]
  staticTypes := #[]
  resolved := #[]
  callSites := []
  init := .initialized
  statics := none
  mirror := none

def pool0 : Array CpInfo := pool [(5, u "<init>"), (0, u "()V"), (1, .class_ 10), (1, u "java/lang/Object")] 113

def k0m0 : Method := { name := "<init>", desc := "()V", sig := { parameters := [], returnType := none }, accessFlags := 1, code := none }
/-- java/lang/Object -/
def k0 : Class := { plain "java/lang/Object" none with
  accessFlags := 33
  interfaces := #[]
  cf := some (fileOf pool0 8 #[] #[{ accessFlags := 1, nameIndex := 5, descriptorIndex := 6, attributes := #[] }] 33 0 #[] #[])
  fields := #[]
  methods := #[k0m0]
  instanceTypes := #[]
  staticTypes := #[]
  resolved := Array.replicate 124 none
  statics := none }

def pool1 : Array CpInfo := pool [(2, .class_ 4), (1, u "java/lang/Object"), (0, u "<init>"), (0, u "()V"), (0, .methodref 8 9), (0, .class_ 10), (0, .nameAndType 11 12), (0, u "com/example/strict_key/strictkey/store/FieldSyntaxIsTcharPinLaw"), (0, u "isDelimiter"), (0, u "(I)Z"), (0, .integer 4294901760), (0, .integer 65535), (0, .methodref 16 17), (0, .class_ 18), (0, .nameAndType 19 12), (0, u "com/example/strict_key/strictkey/store/FieldSyntax"), (0, u "isTchar"), (0, .methodref 8 21), (0, .nameAndType 22 12), (0, u "expected"), (3, u "law"), (0, u "(II)Z")] 2

def k1m0 : Method := { name := "<init>", desc := "()V", sig := { parameters := [], returnType := none }, accessFlags := 1, code := none }
def k1c1 : Code := { maxStack := 2, maxLocals := 1, code := method_2_code, exceptionTable := #[], attributes := #[] }
def k1m1 : Method := { name := "isDelimiter", desc := "(I)Z", sig := { parameters := [.int], returnType := some .boolean }, accessFlags := 10, code := some k1c1 }
def k1c2 : Code := { maxStack := 2, maxLocals := 2, code := method_3_code, exceptionTable := #[], attributes := #[] }
def k1m2 : Method := { name := "expected", desc := "(I)Z", sig := { parameters := [.int], returnType := some .boolean }, accessFlags := 10, code := some k1c2 }
def k1c3 : Code := { maxStack := 3, maxLocals := 4, code := code, exceptionTable := #[], attributes := #[] }
def k1m3 : Method := { name := "law", desc := "(II)Z", sig := { parameters := [.int, .int], returnType := some .boolean }, accessFlags := 9, code := some k1c3 }
/-- com/example/strict_key/strictkey/store/FieldSyntaxIsTcharPinLaw -/
def k1 : Class := { plain "com/example/strict_key/strictkey/store/FieldSyntaxIsTcharPinLaw" (some 0) with
  accessFlags := 49
  interfaces := #[]
  cf := some (fileOf pool1 8 #[] #[{ accessFlags := 1, nameIndex := 5, descriptorIndex := 6, attributes := #[] }, { accessFlags := 10, nameIndex := 11, descriptorIndex := 12, attributes := #[] }, { accessFlags := 10, nameIndex := 22, descriptorIndex := 12, attributes := #[] }, { accessFlags := 9, nameIndex := 26, descriptorIndex := 27, attributes := #[] }] 49 2 #[] #[])
  fields := #[]
  methods := #[k1m0, k1m1, k1m2, k1m3]
  instanceTypes := #[]
  staticTypes := #[]
  resolved := Array.replicate 30 none
  statics := none }

def pool2 : Array CpInfo := pool [(2, .class_ 4), (1, u "java/lang/Object"), (0, u "<init>"), (0, u "()V"), (1, .class_ 10), (1, u "java/lang/String"), (22, .class_ 35), (1, u "com/example/strict_key/strictkey/store/FieldSyntax"), (6, .string 43), (0, u "!#$%&'*+-.^_`|~"), (0, .methodref 8 45), (0, .nameAndType 46 47), (0, u "indexOf"), (0, u "(I)I"), (0, u "TCHAR_SYMBOLS"), (0, u "Ljava/lang/String;"), (7, u "isTchar"), (0, u "(I)Z")] 24

def k2m0 : Method := { name := "<init>", desc := "()V", sig := { parameters := [], returnType := none }, accessFlags := 2, code := none }
def k2c1 : Code := { maxStack := 2, maxLocals := 1, code := prog_16_method_4_code, exceptionTable := #[], attributes := #[] }
def k2m1 : Method := { name := "isTchar", desc := "(I)Z", sig := { parameters := [.int], returnType := some .boolean }, accessFlags := 9, code := some k2c1 }
/-- com/example/strict_key/strictkey/store/FieldSyntax -/
def k2 : Class := { plain "com/example/strict_key/strictkey/store/FieldSyntax" (some 0) with
  accessFlags := 33
  interfaces := #[]
  cf := some (fileOf pool2 33 #[] #[{ accessFlags := 2, nameIndex := 5, descriptorIndex := 6, attributes := #[] }, { accessFlags := 9, nameIndex := 57, descriptorIndex := 58, attributes := #[] }] 33 2 #[] #[{ accessFlags := 26, nameIndex := 48, descriptorIndex := 49, attributes := #[] }])
  fields := #[{ name := "TCHAR_SYMBOLS", type := (.object "java/lang/String"), accessFlags := 26, slot := 0, constantValue := 0 }]
  methods := #[k2m0, k2m1]
  instanceTypes := #[]
  staticTypes := #[(.object "java/lang/String")]
  resolved := Array.replicate 83 none
  statics := none }

def pool3 : Array CpInfo := pool [(1, .class_ 2), (0, u "java/io/Serializable"), (0, .class_ 4), (0, u "java/lang/Object")] 2

/-- java/io/Serializable -/
def k3 : Class := { plain "java/io/Serializable" (some 0) with
  accessFlags := 1537
  interfaces := #[]
  cf := some (fileOf pool3 1 #[] #[] 1537 3 #[] #[])
  fields := #[]
  methods := #[]
  instanceTypes := #[]
  staticTypes := #[]
  resolved := Array.replicate 7 none
  statics := none }

def pool4 : Array CpInfo := pool [(1, .class_ 2), (0, u "java/lang/Comparable"), (0, .class_ 4), (0, u "java/lang/Object")] 7

/-- java/lang/Comparable -/
def k4 : Class := { plain "java/lang/Comparable" (some 0) with
  accessFlags := 1537
  interfaces := #[]
  cf := some (fileOf pool4 1 #[] #[] 1537 3 #[] #[])
  fields := #[]
  methods := #[]
  instanceTypes := #[]
  staticTypes := #[]
  resolved := Array.replicate 12 none
  statics := none }

def pool5 : Array CpInfo := pool [(2, .class_ 4), (1, u "java/lang/CharSequence"), (42, .class_ 48), (0, u "java/lang/CharSequence$1CodePointIterator"), (10, .class_ 60), (0, u "java/lang/CharSequence$1CharIterator"), (5, .class_ 67), (0, u "java/lang/Object")] 63

/-- java/lang/CharSequence -/
def k5 : Class := { plain "java/lang/CharSequence" (some 0) with
  accessFlags := 1537
  interfaces := #[]
  cf := some (fileOf pool5 2 #[.nestMembers #[47, 59]] #[] 1537 66 #[] #[])
  fields := #[]
  methods := #[]
  instanceTypes := #[]
  staticTypes := #[]
  resolved := Array.replicate 131 none
  statics := none }

def pool6 : Array CpInfo := pool [(1, .class_ 2), (0, u "java/lang/constant/Constable"), (0, .class_ 4), (0, u "java/lang/Object")] 6

/-- java/lang/constant/Constable -/
def k6 : Class := { plain "java/lang/constant/Constable" (some 0) with
  accessFlags := 1537
  interfaces := #[]
  cf := some (fileOf pool6 1 #[] #[] 1537 3 #[] #[])
  fields := #[]
  methods := #[]
  instanceTypes := #[]
  staticTypes := #[]
  resolved := Array.replicate 11 none
  statics := none }

def pool7 : Array CpInfo := pool [(1, .class_ 2), (0, u "java/lang/constant/ConstantDesc"), (0, .class_ 4), (0, u "java/lang/Object")] 32

/-- java/lang/constant/ConstantDesc -/
def k7 : Class := { plain "java/lang/constant/ConstantDesc" (some 0) with
  accessFlags := 1537
  interfaces := #[]
  cf := some (fileOf pool7 1 #[] #[] 1537 3 #[] #[])
  fields := #[]
  methods := #[]
  instanceTypes := #[]
  staticTypes := #[]
  resolved := Array.replicate 37 none
  statics := none }

def pool8 : Array CpInfo := pool [(2, .class_ 4), (1, u "java/lang/Object"), (0, u "<init>"), (0, u "()V"), (2, .fieldref 10 11), (0, .class_ 12), (0, .nameAndType 13 14), (0, u "java/lang/String"), (0, u "value"), (0, u "[B"), (0, .fieldref 10 16), (0, .nameAndType 17 18), (0, u "coder"), (0, u "B"), (2, u "hash"), (0, u "I"), (2, u "hashIsZero"), (0, u "Z"), (11, .fieldref 10 39), (0, .nameAndType 40 26), (0, u "COMPACT_STRINGS"), (66, .class_ 109), (1, u "java/lang/StringLatin1"), (32, u "()Z"), (191, u "()I"), (0, .methodref 10 336), (0, .nameAndType 17 337), (0, u "()B"), (154, .methodref 10 493), (0, .nameAndType 494 142), (0, u "isLatin1"), (10, .methodref 10 506), (0, .nameAndType 507 334), (0, u "length"), (67, .class_ 576), (0, u "java/lang/CharSequence"), (22, u "CASE_INSENSITIVE_ORDER"), (0, u "Ljava/util/Comparator;"), (32, .methodref 10 634), (0, .nameAndType 635 636), (0, u "indexOf"), (0, u "(II)I"), (0, .methodref 107 638), (0, .nameAndType 635 639), (0, u "([BIII)I"), (125, u "(I)I"), (335, u "serialPersistentFields"), (0, u "[Ljava/io/ObjectStreamField;"), (0, .class_ 1104), (0, u "java/lang/String$CaseInsensitiveComparator"), (1, .class_ 1107), (0, u "java/io/Serializable"), (0, .class_ 1109), (0, u "java/lang/Comparable"), (0, .class_ 1111), (0, u "java/lang/constant/Constable"), (0, .class_ 1113), (0, u "java/lang/constant/ConstantDesc"), (2, u "serialVersionUID"), (0, u "J"), (3, u "REPL"), (0, u "C"), (2, u "LATIN1"), (1, u "UTF16")] 323

def k8m0 : Method := { name := "<init>", desc := "()V", sig := { parameters := [], returnType := none }, accessFlags := 1, code := none }
def k8c1 : Code := { maxStack := 2, maxLocals := 1, code := jdk_42_method_54_code, exceptionTable := #[], attributes := #[] }
def k8m1 : Method := { name := "length", desc := "()I", sig := { parameters := [], returnType := some .int }, accessFlags := 1, code := some k8c1 }
def k8c2 : Code := { maxStack := 3, maxLocals := 2, code := jdk_42_method_79_code, exceptionTable := #[], attributes := #[] }
def k8m2 : Method := { name := "indexOf", desc := "(I)I", sig := { parameters := [.int], returnType := some .int }, accessFlags := 1, code := some k8c2 }
def k8c3 : Code := { maxStack := 4, maxLocals := 3, code := jdk_42_method_80_code, exceptionTable := #[], attributes := #[] }
def k8m3 : Method := { name := "indexOf", desc := "(II)I", sig := { parameters := [.int, .int], returnType := some .int }, accessFlags := 1, code := some k8c3 }
def k8c4 : Code := { maxStack := 1, maxLocals := 1, code := jdk_42_method_152_code, exceptionTable := #[], attributes := #[] }
def k8m4 : Method := { name := "coder", desc := "()B", sig := { parameters := [], returnType := some .byte }, accessFlags := 0, code := some k8c4 }
def k8c5 : Code := { maxStack := 1, maxLocals := 1, code := jdk_42_method_154_code, exceptionTable := #[], attributes := #[] }
def k8m5 : Method := { name := "isLatin1", desc := "()Z", sig := { parameters := [], returnType := some .boolean }, accessFlags := 0, code := some k8c5 }
/-- java/lang/String -/
def k8 : Class := { plain "java/lang/String" (some 0) with
  accessFlags := 49
  interfaces := #[3, 4, 5, 6, 7]
  cf := some (fileOf pool8 10 #[.nestMembers #[1103]] #[{ accessFlags := 1, nameIndex := 5, descriptorIndex := 6, attributes := #[] }, { accessFlags := 1, nameIndex := 507, descriptorIndex := 334, attributes := #[] }, { accessFlags := 1, nameIndex := 635, descriptorIndex := 765, attributes := #[] }, { accessFlags := 1, nameIndex := 635, descriptorIndex := 636, attributes := #[] }, { accessFlags := 0, nameIndex := 17, descriptorIndex := 337, attributes := #[] }, { accessFlags := 0, nameIndex := 494, descriptorIndex := 142, attributes := #[] }] 49 2 #[1106, 1108, 575, 1110, 1112] #[{ accessFlags := 18, nameIndex := 13, descriptorIndex := 14, attributes := #[] }, { accessFlags := 18, nameIndex := 17, descriptorIndex := 18, attributes := #[] }, { accessFlags := 2, nameIndex := 21, descriptorIndex := 22, attributes := #[] }, { accessFlags := 2, nameIndex := 25, descriptorIndex := 26, attributes := #[] }, { accessFlags := 26, nameIndex := 1116, descriptorIndex := 1117, attributes := #[] }, { accessFlags := 24, nameIndex := 40, descriptorIndex := 26, attributes := #[] }, { accessFlags := 26, nameIndex := 1101, descriptorIndex := 1102, attributes := #[] }, { accessFlags := 26, nameIndex := 1121, descriptorIndex := 1122, attributes := #[] }, { accessFlags := 25, nameIndex := 599, descriptorIndex := 600, attributes := #[] }, { accessFlags := 24, nameIndex := 1125, descriptorIndex := 18, attributes := #[] }, { accessFlags := 24, nameIndex := 1127, descriptorIndex := 18, attributes := #[] }])
  fields := #[{ name := "value", type := (.array .byte), accessFlags := 18, slot := 0, constantValue := 0 }, { name := "coder", type := .byte, accessFlags := 18, slot := 1, constantValue := 0 }, { name := "hash", type := .int, accessFlags := 2, slot := 2, constantValue := 0 }, { name := "hashIsZero", type := .boolean, accessFlags := 2, slot := 3, constantValue := 0 }, { name := "serialVersionUID", type := .long, accessFlags := 26, slot := 0, constantValue := 0 }, { name := "COMPACT_STRINGS", type := .boolean, accessFlags := 24, slot := 1, constantValue := 0 }, { name := "serialPersistentFields", type := (.array (.object "java/io/ObjectStreamField")), accessFlags := 26, slot := 2, constantValue := 0 }, { name := "REPL", type := .char, accessFlags := 26, slot := 3, constantValue := 0 }, { name := "CASE_INSENSITIVE_ORDER", type := (.object "java/util/Comparator"), accessFlags := 25, slot := 4, constantValue := 0 }, { name := "LATIN1", type := .byte, accessFlags := 24, slot := 5, constantValue := 0 }, { name := "UTF16", type := .byte, accessFlags := 24, slot := 6, constantValue := 0 }]
  methods := #[k8m0, k8m1, k8m2, k8m3, k8m4, k8m5]
  instanceTypes := #[(.array .byte), .byte, .int, .boolean]
  staticTypes := #[.long, .boolean, (.array (.object "java/io/ObjectStreamField")), .char, (.object "java/util/Comparator"), .byte, .byte]
  resolved := Array.replicate 1451 none
  statics := some 0 }

def pool9 : Array CpInfo := pool [(4, .class_ 6), (1, u "java/lang/Object"), (0, u "<init>"), (0, u "()V"), (5, .class_ 16), (1, u "java/lang/StringLatin1"), (21, .methodref 39 40), (0, .class_ 41), (0, .nameAndType 42 43), (0, u "java/lang/Math"), (0, u "min"), (0, u "(II)I"), (44, .methodref 14 89), (0, .nameAndType 90 91), (0, u "canEncode"), (0, u "(I)Z"), (0, .methodref 39 93), (0, .nameAndType 94 43), (0, u "max"), (0, .methodref 14 96), (0, .nameAndType 97 98), (0, u "indexOfChar"), (0, u "([BIII)I"), (2, u "indexOf"), (19, u "$assertionsDisabled"), (0, u "Z"), (98, .class_ 223), (1, u "java/lang/StringLatin1$LinesSpliterator"), (166, .class_ 391), (0, u "java/lang/StringLatin1$CharsSpliterator")] 3

def k9m0 : Method := { name := "<init>", desc := "()V", sig := { parameters := [], returnType := none }, accessFlags := 0, code := none }
def k9c1 : Code := { maxStack := 2, maxLocals := 1, code := jdk_43_method_4_code, exceptionTable := #[], attributes := #[] }
def k9m1 : Method := { name := "canEncode", desc := "(I)Z", sig := { parameters := [.int], returnType := some .boolean }, accessFlags := 9, code := some k9c1 }
def k9c2 : Code := { maxStack := 4, maxLocals := 4, code := jdk_43_method_22_code, exceptionTable := #[], attributes := #[] }
def k9m2 : Method := { name := "indexOf", desc := "([BIII)I", sig := { parameters := [(.array .byte), .int, .int, .int], returnType := some .int }, accessFlags := 9, code := some k9c2 }
def k9c3 : Code := { maxStack := 2, maxLocals := 6, code := jdk_43_method_23_code, exceptionTable := #[], attributes := #[] }
def k9m3 : Method := { name := "indexOfChar", desc := "([BIII)I", sig := { parameters := [(.array .byte), .int, .int, .int], returnType := some .int }, accessFlags := 10, code := some k9c3 }
/-- java/lang/StringLatin1 -/
def k9 : Class := { plain "java/lang/StringLatin1" (some 0) with
  accessFlags := 48
  interfaces := #[]
  cf := some (fileOf pool9 14 #[.nestMembers #[390, 221]] #[{ accessFlags := 0, nameIndex := 7, descriptorIndex := 8, attributes := #[] }, { accessFlags := 9, nameIndex := 90, descriptorIndex := 91, attributes := #[] }, { accessFlags := 9, nameIndex := 101, descriptorIndex := 98, attributes := #[] }, { accessFlags := 10, nameIndex := 97, descriptorIndex := 98, attributes := #[] }] 48 4 #[] #[{ accessFlags := 4120, nameIndex := 121, descriptorIndex := 122, attributes := #[] }])
  fields := #[{ name := "$assertionsDisabled", type := .boolean, accessFlags := 4120, slot := 0, constantValue := 0 }]
  methods := #[k9m0, k9m1, k9m2, k9m3]
  instanceTypes := #[]
  staticTypes := #[.boolean]
  resolved := Array.replicate 395 none
  statics := none }

def pool10 : Array CpInfo := pool [(1, .class_ 2), (0, u "java/lang/Math"), (1, .class_ 6), (1, u "java/lang/Object"), (0, u "<init>"), (0, u "()V"), (89, .class_ 100), (1, u "java/lang/Math$RandomNumberGeneratorHolder"), (71, u "negativeZeroFloatBits"), (0, u "J"), (2, u "negativeZeroDoubleBits"), (21, u "max"), (2, u "min"), (43, u "$assertionsDisabled"), (0, u "Z"), (88, u "(II)I"), (2, u "twoToTheDoubleScaleDown"), (0, u "D"), (4, u "twoToTheDoubleScaleUp"), (9, u "E"), (3, u "PI"), (2, u "TAU"), (2, u "DEGREES_TO_RADIANS"), (0, u "RADIANS_TO_DEGREES")] 94

def k10m0 : Method := { name := "<init>", desc := "()V", sig := { parameters := [], returnType := none }, accessFlags := 2, code := none }
def k10c1 : Code := { maxStack := 2, maxLocals := 2, code := jdk_29_method_65_code, exceptionTable := #[], attributes := #[] }
def k10m1 : Method := { name := "max", desc := "(II)I", sig := { parameters := [.int, .int], returnType := some .int }, accessFlags := 9, code := some k10c1 }
def k10c2 : Code := { maxStack := 2, maxLocals := 2, code := jdk_29_method_69_code, exceptionTable := #[], attributes := #[] }
def k10m2 : Method := { name := "min", desc := "(II)I", sig := { parameters := [.int, .int], returnType := some .int }, accessFlags := 9, code := some k10c2 }
/-- java/lang/Math -/
def k10 : Class := { plain "java/lang/Math" (some 0) with
  accessFlags := 49
  interfaces := #[]
  cf := some (fileOf pool10 1 #[.nestMembers #[98]] #[{ accessFlags := 2, nameIndex := 7, descriptorIndex := 8, attributes := #[] }, { accessFlags := 9, nameIndex := 198, descriptorIndex := 335, attributes := #[] }, { accessFlags := 9, nameIndex := 201, descriptorIndex := 335, attributes := #[] }] 49 4 #[] #[{ accessFlags := 25, nameIndex := 354, descriptorIndex := 339, attributes := #[] }, { accessFlags := 25, nameIndex := 358, descriptorIndex := 339, attributes := #[] }, { accessFlags := 25, nameIndex := 361, descriptorIndex := 339, attributes := #[] }, { accessFlags := 26, nameIndex := 364, descriptorIndex := 339, attributes := #[] }, { accessFlags := 26, nameIndex := 365, descriptorIndex := 339, attributes := #[] }, { accessFlags := 26, nameIndex := 172, descriptorIndex := 173, attributes := #[] }, { accessFlags := 26, nameIndex := 176, descriptorIndex := 173, attributes := #[] }, { accessFlags := 8, nameIndex := 344, descriptorIndex := 339, attributes := #[] }, { accessFlags := 8, nameIndex := 338, descriptorIndex := 339, attributes := #[] }, { accessFlags := 4120, nameIndex := 245, descriptorIndex := 246, attributes := #[] }])
  fields := #[{ name := "E", type := .double, accessFlags := 25, slot := 0, constantValue := 0 }, { name := "PI", type := .double, accessFlags := 25, slot := 1, constantValue := 0 }, { name := "TAU", type := .double, accessFlags := 25, slot := 2, constantValue := 0 }, { name := "DEGREES_TO_RADIANS", type := .double, accessFlags := 26, slot := 3, constantValue := 0 }, { name := "RADIANS_TO_DEGREES", type := .double, accessFlags := 26, slot := 4, constantValue := 0 }, { name := "negativeZeroFloatBits", type := .long, accessFlags := 26, slot := 5, constantValue := 0 }, { name := "negativeZeroDoubleBits", type := .long, accessFlags := 26, slot := 6, constantValue := 0 }, { name := "twoToTheDoubleScaleUp", type := .double, accessFlags := 8, slot := 7, constantValue := 0 }, { name := "twoToTheDoubleScaleDown", type := .double, accessFlags := 8, slot := 8, constantValue := 0 }, { name := "$assertionsDisabled", type := .boolean, accessFlags := 4120, slot := 9, constantValue := 0 }]
  methods := #[k10m0, k10m1, k10m2]
  instanceTypes := #[]
  staticTypes := #[.double, .double, .double, .double, .double, .long, .long, .double, .double, .boolean]
  resolved := Array.replicate 460 none
  statics := none }

def pool11 : Array CpInfo := pool [(2, .class_ 4), (1, u "java/lang/Object"), (0, u "<init>"), (0, u "()V"), (17, .class_ 26), (1, u "jdk/internal/util/Preconditions"), (28, .class_ 56), (0, u "jdk/internal/util/Preconditions$4"), (57, .class_ 115), (0, u "jdk/internal/util/Preconditions$1"), (7, u "SIOOBE_FORMATTER"), (0, u "Ljava/util/function/BiFunction;"), (0, .class_ 126), (0, u "jdk/internal/util/Preconditions$2"), (3, u "AIOOBE_FORMATTER"), (0, .class_ 132), (0, u "jdk/internal/util/Preconditions$3"), (3, u "IOOBE_FORMATTER")] 57

def k11m0 : Method := { name := "<init>", desc := "()V", sig := { parameters := [], returnType := none }, accessFlags := 1, code := none }
/-- jdk/internal/util/Preconditions -/
def k11 : Class := { plain "jdk/internal/util/Preconditions" (some 0) with
  accessFlags := 33
  interfaces := #[]
  cf := some (fileOf pool11 24 #[.nestMembers #[55, 131, 125, 114]] #[{ accessFlags := 1, nameIndex := 5, descriptorIndex := 6, attributes := #[] }] 33 2 #[] #[{ accessFlags := 25, nameIndex := 123, descriptorIndex := 124, attributes := #[] }, { accessFlags := 25, nameIndex := 130, descriptorIndex := 124, attributes := #[] }, { accessFlags := 25, nameIndex := 136, descriptorIndex := 124, attributes := #[] }])
  fields := #[{ name := "SIOOBE_FORMATTER", type := (.object "java/util/function/BiFunction"), accessFlags := 25, slot := 0, constantValue := 0 }, { name := "AIOOBE_FORMATTER", type := (.object "java/util/function/BiFunction"), accessFlags := 25, slot := 1, constantValue := 0 }, { name := "IOOBE_FORMATTER", type := (.object "java/util/function/BiFunction"), accessFlags := 25, slot := 2, constantValue := 0 }]
  methods := #[k11m0]
  instanceTypes := #[]
  staticTypes := #[(.object "java/util/function/BiFunction"), (.object "java/util/function/BiFunction"), (.object "java/util/function/BiFunction")]
  resolved := Array.replicate 194 none
  statics := some 1 }

def pool12 : Array CpInfo := pool [(9, u "<init>"), (6, .class_ 18), (1, u "java/lang/Object"), (0, u "()V"), (1, .class_ 23), (1, u "jdk/internal/util/ArraysSupport"), (0, u "LOG2_ARRAY_LONG_INDEX_SCALE"), (0, u "I"), (2, u "U"), (0, u "Ljdk/internal/misc/Unsafe;"), (8, u "BIG_ENDIAN"), (0, u "Z"), (8, u "LOG2_BYTE_BIT_SIZE"), (4, u "LOG2_ARRAY_INT_INDEX_SCALE"), (54, u "JLA"), (0, u "Ljdk/internal/access/JavaLangAccess;"), (11, u "LOG2_ARRAY_BOOLEAN_INDEX_SCALE"), (9, u "LOG2_ARRAY_BYTE_INDEX_SCALE"), (5, u "LOG2_ARRAY_CHAR_INDEX_SCALE"), (5, u "LOG2_ARRAY_SHORT_INDEX_SCALE"), (18, u "LOG2_ARRAY_FLOAT_INDEX_SCALE"), (24, u "LOG2_ARRAY_DOUBLE_INDEX_SCALE"), (89, u "T_BOOLEAN"), (2, u "T_CHAR"), (1, u "T_FLOAT"), (1, u "T_DOUBLE"), (1, u "T_BYTE"), (1, u "T_SHORT"), (1, u "T_INT"), (1, u "T_LONG"), (1, u "SOFT_MAX_ARRAY_LENGTH")] 83

def k12m0 : Method := { name := "<init>", desc := "()V", sig := { parameters := [], returnType := none }, accessFlags := 2, code := none }
/-- jdk/internal/util/ArraysSupport -/
def k12 : Class := { plain "jdk/internal/util/ArraysSupport" (some 0) with
  accessFlags := 33
  interfaces := #[]
  cf := some (fileOf pool12 21 #[] #[{ accessFlags := 2, nameIndex := 9, descriptorIndex := 19, attributes := #[] }] 33 16 #[] #[{ accessFlags := 24, nameIndex := 28, descriptorIndex := 29, attributes := #[] }, { accessFlags := 26, nameIndex := 38, descriptorIndex := 39, attributes := #[] }, { accessFlags := 25, nameIndex := 121, descriptorIndex := 25, attributes := #[] }, { accessFlags := 25, nameIndex := 131, descriptorIndex := 25, attributes := #[] }, { accessFlags := 25, nameIndex := 137, descriptorIndex := 25, attributes := #[] }, { accessFlags := 25, nameIndex := 143, descriptorIndex := 25, attributes := #[] }, { accessFlags := 25, nameIndex := 53, descriptorIndex := 25, attributes := #[] }, { accessFlags := 25, nameIndex := 24, descriptorIndex := 25, attributes := #[] }, { accessFlags := 25, nameIndex := 162, descriptorIndex := 25, attributes := #[] }, { accessFlags := 25, nameIndex := 187, descriptorIndex := 25, attributes := #[] }, { accessFlags := 26, nameIndex := 48, descriptorIndex := 25, attributes := #[] }, { accessFlags := 25, nameIndex := 277, descriptorIndex := 25, attributes := #[] }, { accessFlags := 25, nameIndex := 280, descriptorIndex := 25, attributes := #[] }, { accessFlags := 25, nameIndex := 282, descriptorIndex := 25, attributes := #[] }, { accessFlags := 25, nameIndex := 284, descriptorIndex := 25, attributes := #[] }, { accessFlags := 25, nameIndex := 286, descriptorIndex := 25, attributes := #[] }, { accessFlags := 25, nameIndex := 288, descriptorIndex := 25, attributes := #[] }, { accessFlags := 25, nameIndex := 290, descriptorIndex := 25, attributes := #[] }, { accessFlags := 25, nameIndex := 292, descriptorIndex := 25, attributes := #[] }, { accessFlags := 26, nameIndex := 108, descriptorIndex := 109, attributes := #[] }, { accessFlags := 25, nameIndex := 294, descriptorIndex := 25, attributes := #[] }])
  fields := #[{ name := "U", type := (.object "jdk/internal/misc/Unsafe"), accessFlags := 24, slot := 0, constantValue := 0 }, { name := "BIG_ENDIAN", type := .boolean, accessFlags := 26, slot := 1, constantValue := 0 }, { name := "LOG2_ARRAY_BOOLEAN_INDEX_SCALE", type := .int, accessFlags := 25, slot := 2, constantValue := 0 }, { name := "LOG2_ARRAY_BYTE_INDEX_SCALE", type := .int, accessFlags := 25, slot := 3, constantValue := 0 }, { name := "LOG2_ARRAY_CHAR_INDEX_SCALE", type := .int, accessFlags := 25, slot := 4, constantValue := 0 }, { name := "LOG2_ARRAY_SHORT_INDEX_SCALE", type := .int, accessFlags := 25, slot := 5, constantValue := 0 }, { name := "LOG2_ARRAY_INT_INDEX_SCALE", type := .int, accessFlags := 25, slot := 6, constantValue := 0 }, { name := "LOG2_ARRAY_LONG_INDEX_SCALE", type := .int, accessFlags := 25, slot := 7, constantValue := 0 }, { name := "LOG2_ARRAY_FLOAT_INDEX_SCALE", type := .int, accessFlags := 25, slot := 8, constantValue := 0 }, { name := "LOG2_ARRAY_DOUBLE_INDEX_SCALE", type := .int, accessFlags := 25, slot := 9, constantValue := 0 }, { name := "LOG2_BYTE_BIT_SIZE", type := .int, accessFlags := 26, slot := 10, constantValue := 0 }, { name := "T_BOOLEAN", type := .int, accessFlags := 25, slot := 11, constantValue := 0 }, { name := "T_CHAR", type := .int, accessFlags := 25, slot := 12, constantValue := 0 }, { name := "T_FLOAT", type := .int, accessFlags := 25, slot := 13, constantValue := 0 }, { name := "T_DOUBLE", type := .int, accessFlags := 25, slot := 14, constantValue := 0 }, { name := "T_BYTE", type := .int, accessFlags := 25, slot := 15, constantValue := 0 }, { name := "T_SHORT", type := .int, accessFlags := 25, slot := 16, constantValue := 0 }, { name := "T_INT", type := .int, accessFlags := 25, slot := 17, constantValue := 0 }, { name := "T_LONG", type := .int, accessFlags := 25, slot := 18, constantValue := 0 }, { name := "JLA", type := (.object "jdk/internal/access/JavaLangAccess"), accessFlags := 26, slot := 19, constantValue := 0 }, { name := "SOFT_MAX_ARRAY_LENGTH", type := .int, accessFlags := 25, slot := 20, constantValue := 0 }]
  methods := #[k12m0]
  instanceTypes := #[]
  staticTypes := #[(.object "jdk/internal/misc/Unsafe"), .boolean, .int, .int, .int, .int, .int, .int, .int, .int, .int, .int, .int, .int, .int, .int, .int, .int, .int, (.object "jdk/internal/access/JavaLangAccess"), .int]
  resolved := Array.replicate 378 none
  statics := none }

def pool13 : Array CpInfo := pool [(1, u "java/lang/Cloneable"), (0, .class_ 1), (0, u "java/lang/Object"), (0, .class_ 3)] 3

/-- java/lang/Cloneable -/
def k13 : Class := { plain "java/lang/Cloneable" (some 0) with
  accessFlags := 1537
  interfaces := #[]
  cf := some (fileOf pool13 2 #[] #[] 1537 4 #[] #[])
  fields := #[]
  methods := #[]
  instanceTypes := #[]
  staticTypes := #[]
  resolved := Array.replicate 8 none
  statics := none }

/-- the primitive byte -/
def k14 : Class := { plain "byte" none with kind := .primitive 'B', accessFlags := 0x411 }
/-- [B -/
def k15 : Class := { plain "[B" (some 0) with kind := .array 14 .byte, interfaces := #[13, 3], accessFlags := 1041 }

/-- the primitive int -/
def k16 : Class := { plain "int" none with kind := .primitive 'I', accessFlags := 0x411 }
/-- [I -/
def k17 : Class := { plain "[I" (some 0) with kind := .array 16 .int, interfaces := #[13, 3], accessFlags := 1041 }

def heap : Heap := #[{ cls := 8, slots := #[.long 0, .int 1, .null, .int 0, .null, .int 0, .int 0], vm := .statics 8 },
  { cls := 11, slots := #[.null, .null, .null], vm := .statics 11 }]
def classes : Array Class := #[k0, k1, k2, k3, k4, k5, k6, k7, k8, k9, k10, k11, k12, k13, k14, k15, k16, k17]
def interned : List (Array UInt16 × Addr) := []
def slotsUsed : Nat := 10
def theMethod : MethodId := ⟨1, 3⟩
def args0 : Array Value := #[.int 65, .int 0]
def aboutOver (below : List Frame) : State where
  vm := { classes := classes, interned := interned.toArray }
  heap := heap
  slotsUsed := slotsUsed
  threads := #[{ frames := .invoking theMethod args0 :: below }]
def below0 : List Frame := [.native { method := ⟨0, 0⟩, args := #[] }]
def about1 : State := aboutOver below0
def p0 : Program := .bare "" "" ""
def e0 : Env := launch0.env 0 0 0
theorem w_frames : about1.frames = Frame.invoking theMethod args0 :: below0 := rfl
set_option maxRecDepth 65536 in
theorem w_args : argsFit about1.vm theMethod args0 = true := by decide +kernel
set_option maxRecDepth 65536 in
theorem w_heap : heapFits about1 = true := by decide +kernel
set_option maxRecDepth 65536 in
theorem w_runnable : about1.curStatus? = some .runnable := by decide +kernel
set_option maxRecDepth 65536 in
theorem w_alone : about1.alone = true := by decide +kernel
set_option maxRecDepth 65536 in
theorem w_named : about1.methodNamed? x = some theMethod := by decide +kernel
set_option maxRecDepth 65536 in
theorem w_hears : about1.hears theMethod below0 = true := by decide +kernel
set_option maxRecDepth 65536 in
theorem w_ripe : about1.ripe theMethod args0 below0 = true := by decide +kernel
theorem w_running : about1.status = .running := rfl
set_option maxRecDepth 65536 in
theorem w_room : about1.hasRoom e0.platform room_1 = true :=
  launch0.hasRoom_least _ room_1 (by decide +kernel) (by decide +kernel) (by decide +kernel) (by decide +kernel) (by decide +kernel) (by decide +kernel)
theorem allAtoms_all (ts : List Jvm.Cond) (a : Array Jvm.Value) (st : Jvm.State) : (allAtoms ts).before a st = ts.all (fun c => c.before a st) := by
  induction ts with
  | nil => rfl
  | cons c t ih =>
    show (Jvm.Cond.and c (allAtoms t)).before a st = _
    rw [Jvm.Cond.before_and, ih, List.all_cons]
def words1 : List Jvm.Cond := Jvm.Cond.code x code maxLocals ret :: tables_1
/-- a 'code' word, met by the world's own term for the bytes: nothing is compared byte by byte -/
theorem code_word {y : MethodName} {bytes : ByteArray} {mx : Nat} {rt : Option FieldType} {a : Array Value} {s : State} {m : MethodId} {meth : Method} {c : Code} (h1 : s.methodNamed? y = some m) (h2 : s.vm.method? m = some meth) (h3 : meth.code = some c) (h4 : c.code = bytes)
    (h5 : (c.maxLocals == mx && c.exceptionTable.isEmpty && decide (c.maxStack ≤ mostOperands) && decide (meth.sig.returnType = rt) && !meth.locks && decide (parseMethodDescriptor y.desc = some meth.sig)) = true) : (Jvm.Cond.code y bytes mx rt).before a s = true := by
  simp only [Bool.and_eq_true, beq_iff_eq, Bool.not_eq_true', decide_eq_true_eq] at h5
  obtain ⟨⟨⟨⟨⟨g1, g2⟩, g3⟩, g4⟩, g5⟩, g6⟩ := h5
  simp [Cond.before, Cond.holds, Cond.value, h1, h2, h3, h4, g1, g2, g3, g4, g5, g6]
def isCode : Jvm.Cond → Bool
  | .code _ _ _ _ => true
  | _ => false
theorem all_split {L : List Jvm.Cond} {P : Jvm.Cond → Bool} (h1 : L.all (fun c => isCode c || P c) = true) (h2 : ∀ c ∈ L.filter isCode, P c = true) : L.all P = true := by
  refine List.all_eq_true.mpr fun c hc => ?_
  have h := List.all_eq_true.mp h1 c hc
  rcases Bool.eq_false_or_eq_true (isCode c) with hi | hi
  · exact h2 c (List.mem_filter.mpr ⟨hc, hi⟩)
  · simpa [hi] using h
set_option maxRecDepth 65536 in
theorem w_c0 : (Jvm.Cond.code x code maxLocals ret).before args0 about1 = true := code_word (m := ⟨1, 3⟩) (meth := k1m3) (c := k1c3) (by decide +kernel) rfl rfl rfl (by decide +kernel)
set_option maxRecDepth 65536 in
theorem w_c1 : (Jvm.Cond.code ({ cls := "com/example/strict_key/strictkey/store/FieldSyntax", name := "isTchar", desc := "(I)Z" } : Jvm.MethodName) prog_16_method_4_code (1 : Nat) (Option.some Jvm.ClassFile.FieldType.boolean)).before args0 about1 = true := code_word (m := ⟨2, 1⟩) (meth := k2m1) (c := k2c1) (by decide +kernel) rfl rfl rfl (by decide +kernel)
set_option maxRecDepth 65536 in
theorem w_c2 : (Jvm.Cond.code ({ cls := "java/lang/String", name := "indexOf", desc := "(I)I" } : Jvm.MethodName) jdk_42_method_79_code (2 : Nat) (Option.some Jvm.ClassFile.FieldType.int)).before args0 about1 = true := code_word (m := ⟨8, 2⟩) (meth := k8m2) (c := k8c2) (by decide +kernel) rfl rfl rfl (by decide +kernel)
set_option maxRecDepth 65536 in
theorem w_c3 : (Jvm.Cond.code ({ cls := "java/lang/String", name := "indexOf", desc := "(II)I" } : Jvm.MethodName) jdk_42_method_80_code (3 : Nat) (Option.some Jvm.ClassFile.FieldType.int)).before args0 about1 = true := code_word (m := ⟨8, 3⟩) (meth := k8m3) (c := k8c3) (by decide +kernel) rfl rfl rfl (by decide +kernel)
set_option maxRecDepth 65536 in
theorem w_c4 : (Jvm.Cond.code ({ cls := "java/lang/String", name := "isLatin1", desc := "()Z" } : Jvm.MethodName) jdk_42_method_154_code (1 : Nat) (Option.some Jvm.ClassFile.FieldType.boolean)).before args0 about1 = true := code_word (m := ⟨8, 5⟩) (meth := k8m5) (c := k8c5) (by decide +kernel) rfl rfl rfl (by decide +kernel)
set_option maxRecDepth 65536 in
theorem w_c5 : (Jvm.Cond.code ({ cls := "java/lang/String", name := "length", desc := "()I" } : Jvm.MethodName) jdk_42_method_54_code (1 : Nat) (Option.some Jvm.ClassFile.FieldType.int)).before args0 about1 = true := code_word (m := ⟨8, 1⟩) (meth := k8m1) (c := k8c1) (by decide +kernel) rfl rfl rfl (by decide +kernel)
set_option maxRecDepth 65536 in
theorem w_c6 : (Jvm.Cond.code ({ cls := "java/lang/String", name := "coder", desc := "()B" } : Jvm.MethodName) jdk_42_method_152_code (1 : Nat) (Option.some Jvm.ClassFile.FieldType.byte)).before args0 about1 = true := code_word (m := ⟨8, 4⟩) (meth := k8m4) (c := k8c4) (by decide +kernel) rfl rfl rfl (by decide +kernel)
set_option maxRecDepth 65536 in
theorem w_c7 : (Jvm.Cond.code ({ cls := "java/lang/StringLatin1", name := "indexOf", desc := "([BIII)I" } : Jvm.MethodName) jdk_43_method_22_code (4 : Nat) (Option.some Jvm.ClassFile.FieldType.int)).before args0 about1 = true := code_word (m := ⟨9, 2⟩) (meth := k9m2) (c := k9c2) (by decide +kernel) rfl rfl rfl (by decide +kernel)
set_option maxRecDepth 65536 in
theorem w_c8 : (Jvm.Cond.code ({ cls := "java/lang/StringLatin1", name := "canEncode", desc := "(I)Z" } : Jvm.MethodName) jdk_43_method_4_code (1 : Nat) (Option.some Jvm.ClassFile.FieldType.boolean)).before args0 about1 = true := code_word (m := ⟨9, 1⟩) (meth := k9m1) (c := k9c1) (by decide +kernel) rfl rfl rfl (by decide +kernel)
set_option maxRecDepth 65536 in
theorem w_c9 : (Jvm.Cond.code ({ cls := "java/lang/Math", name := "max", desc := "(II)I" } : Jvm.MethodName) jdk_29_method_65_code (2 : Nat) (Option.some Jvm.ClassFile.FieldType.int)).before args0 about1 = true := code_word (m := ⟨10, 1⟩) (meth := k10m1) (c := k10c1) (by decide +kernel) rfl rfl rfl (by decide +kernel)
set_option maxRecDepth 65536 in
theorem w_c10 : (Jvm.Cond.code ({ cls := "java/lang/Math", name := "min", desc := "(II)I" } : Jvm.MethodName) jdk_29_method_69_code (2 : Nat) (Option.some Jvm.ClassFile.FieldType.int)).before args0 about1 = true := code_word (m := ⟨10, 2⟩) (meth := k10m2) (c := k10c2) (by decide +kernel) rfl rfl rfl (by decide +kernel)
set_option maxRecDepth 65536 in
theorem w_c11 : (Jvm.Cond.code ({ cls := "java/lang/StringLatin1", name := "indexOfChar", desc := "([BIII)I" } : Jvm.MethodName) jdk_43_method_23_code (6 : Nat) (Option.some Jvm.ClassFile.FieldType.int)).before args0 about1 = true := code_word (m := ⟨9, 3⟩) (meth := k9m3) (c := k9c3) (by decide +kernel) rfl rfl rfl (by decide +kernel)
set_option maxRecDepth 65536 in
theorem w_c12 : (Jvm.Cond.code ({ cls := "com/example/strict_key/strictkey/store/FieldSyntaxIsTcharPinLaw", name := "expected", desc := "(I)Z" } : Jvm.MethodName) method_3_code (2 : Nat) (Option.some Jvm.ClassFile.FieldType.boolean)).before args0 about1 = true := code_word (m := ⟨1, 2⟩) (meth := k1m2) (c := k1c2) (by decide +kernel) rfl rfl rfl (by decide +kernel)
set_option maxRecDepth 65536 in
theorem w_c13 : (Jvm.Cond.code ({ cls := "com/example/strict_key/strictkey/store/FieldSyntaxIsTcharPinLaw", name := "isDelimiter", desc := "(I)Z" } : Jvm.MethodName) method_2_code (1 : Nat) (Option.some Jvm.ClassFile.FieldType.boolean)).before args0 about1 = true := code_word (m := ⟨1, 1⟩) (meth := k1m1) (c := k1c1) (by decide +kernel) rfl rfl rfl (by decide +kernel)
def codes1 : List Jvm.Cond := [Jvm.Cond.code x code maxLocals ret, Jvm.Cond.code ({ cls := "com/example/strict_key/strictkey/store/FieldSyntax", name := "isTchar", desc := "(I)Z" } : Jvm.MethodName) prog_16_method_4_code (1 : Nat) (Option.some Jvm.ClassFile.FieldType.boolean), Jvm.Cond.code ({ cls := "java/lang/String", name := "indexOf", desc := "(I)I" } : Jvm.MethodName) jdk_42_method_79_code (2 : Nat) (Option.some Jvm.ClassFile.FieldType.int), Jvm.Cond.code ({ cls := "java/lang/String", name := "indexOf", desc := "(II)I" } : Jvm.MethodName) jdk_42_method_80_code (3 : Nat) (Option.some Jvm.ClassFile.FieldType.int), Jvm.Cond.code ({ cls := "java/lang/String", name := "isLatin1", desc := "()Z" } : Jvm.MethodName) jdk_42_method_154_code (1 : Nat) (Option.some Jvm.ClassFile.FieldType.boolean), Jvm.Cond.code ({ cls := "java/lang/String", name := "length", desc := "()I" } : Jvm.MethodName) jdk_42_method_54_code (1 : Nat) (Option.some Jvm.ClassFile.FieldType.int), Jvm.Cond.code ({ cls := "java/lang/String", name := "coder", desc := "()B" } : Jvm.MethodName) jdk_42_method_152_code (1 : Nat) (Option.some Jvm.ClassFile.FieldType.byte), Jvm.Cond.code ({ cls := "java/lang/StringLatin1", name := "indexOf", desc := "([BIII)I" } : Jvm.MethodName) jdk_43_method_22_code (4 : Nat) (Option.some Jvm.ClassFile.FieldType.int), Jvm.Cond.code ({ cls := "java/lang/StringLatin1", name := "canEncode", desc := "(I)Z" } : Jvm.MethodName) jdk_43_method_4_code (1 : Nat) (Option.some Jvm.ClassFile.FieldType.boolean), Jvm.Cond.code ({ cls := "java/lang/Math", name := "max", desc := "(II)I" } : Jvm.MethodName) jdk_29_method_65_code (2 : Nat) (Option.some Jvm.ClassFile.FieldType.int), Jvm.Cond.code ({ cls := "java/lang/Math", name := "min", desc := "(II)I" } : Jvm.MethodName) jdk_29_method_69_code (2 : Nat) (Option.some Jvm.ClassFile.FieldType.int), Jvm.Cond.code ({ cls := "java/lang/StringLatin1", name := "indexOfChar", desc := "([BIII)I" } : Jvm.MethodName) jdk_43_method_23_code (6 : Nat) (Option.some Jvm.ClassFile.FieldType.int), Jvm.Cond.code ({ cls := "com/example/strict_key/strictkey/store/FieldSyntaxIsTcharPinLaw", name := "expected", desc := "(I)Z" } : Jvm.MethodName) method_3_code (2 : Nat) (Option.some Jvm.ClassFile.FieldType.boolean), Jvm.Cond.code ({ cls := "com/example/strict_key/strictkey/store/FieldSyntaxIsTcharPinLaw", name := "isDelimiter", desc := "(I)Z" } : Jvm.MethodName) method_2_code (1 : Nat) (Option.some Jvm.ClassFile.FieldType.boolean)]
set_option maxRecDepth 65536 in
theorem codes_eq : words1.filter isCode = codes1 := rfl
theorem w_codes : ∀ c ∈ words1.filter isCode, c.before args0 about1 = true := by
  rw [codes_eq]
  intro c hc
  simp only [codes1, List.mem_cons, List.not_mem_nil, or_false] at hc
  rcases hc with rfl | rfl | rfl | rfl | rfl | rfl | rfl | rfl | rfl | rfl | rfl | rfl | rfl | rfl
  · exact w_c0
  · exact w_c1
  · exact w_c2
  · exact w_c3
  · exact w_c4
  · exact w_c5
  · exact w_c6
  · exact w_c7
  · exact w_c8
  · exact w_c9
  · exact w_c10
  · exact w_c11
  · exact w_c12
  · exact w_c13
set_option maxRecDepth 65536 in
theorem w_t1 : (words1.take 24).all (fun c => isCode c || c.before args0 about1) = true := by decide +kernel
set_option maxRecDepth 65536 in
theorem w_t2 : ((words1.drop 24).take 24).all (fun c => isCode c || c.before args0 about1) = true := by decide +kernel
set_option maxRecDepth 65536 in
theorem w_t3 : ((words1.drop 24).drop 24).all (fun c => isCode c || c.before args0 about1) = true := by decide +kernel
theorem w_tables : (allAtoms (Jvm.Cond.code x code maxLocals ret :: tables_1)).before args0 about1 = true := by
  rw [allAtoms_all]
  show words1.all (fun c => c.before args0 about1) = true
  refine all_split ?_ w_codes
  rw [← List.take_append_drop 24 words1, List.all_append, w_t1, ← List.take_append_drop 24 (words1.drop 24), List.all_append, w_t2, w_t3]
  rfl
set_option maxRecDepth 65536 in
theorem w_rest : rest_1_c.before args0 about1 = true := by decide +kernel
set_option maxRecDepth 65536 in
theorem w_case : (Jvm.Cond.and given_1 narrow_1).before args0 about1 = true := by decide +kernel
set_option maxRecDepth 65536 in
theorem w_consts : constsHeld consts_1 about1 := Jvm.Lit.constsHeldB_iff.mp (by decide +kernel)
theorem w_applies : (headSpec (Jvm.Cond.code x code maxLocals ret :: tables_1) room_1).applies x e0.platform about1 = true :=
  (Spec.applies_iff w_frames).mpr ⟨w_running, w_runnable, w_alone, w_named, w_hears, w_ripe, w_room, w_tables⟩
theorem atStart : AtStart classFile x code maxLocals ret World_1 tables_1 room_1 Calls_1 rest_1 Pre_1 launch0 p0 e0 about1 theMethod args0 below0 :=
  ⟨lists_1, trivial, launch0.admits_env _ _ _, launch0.least_env, fairChoices_fair.cas, fairChoices_fair.clock, w_frames, w_args, w_heap, w_applies, ⟨w_consts, trivial⟩, w_rest, w_case⟩
end start1
theorem witness_1 : WitnessClaimed_1 := ⟨start1.p0, start1.e0, start1.about1, start1.theMethod, start1.args0, start1.below0, start1.atStart⟩
end Jvm.Pilot.@@N@@
