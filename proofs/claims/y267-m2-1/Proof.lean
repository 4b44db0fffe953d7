import JvmDerived
import JvmDerived.Pilot.@@N@@Statement
import JvmDerived.Pilot.@@N@@Code
set_option linter.unusedVariables false
set_option linter.unusedSimpArgs false
namespace Jvm.RoadKit
open Sem ClassFile Op Lib Jvm.Stand Jvm.Free Jvm.LawKit
section New
variable {p : Program} {l : Launch} {e : Env} {R : Room} {s : State} {m : MethodId} {args : Array Value} {below : List Frame} {meth : Method} {c : Code} {T : State} {locs : List Loc} {cells slots : Nat}
theorem retI (X : Stand p l e R s m args below meth c T locs cells slots) (hx : p.tables.exec = Jvm.exec) {pc : Nat} {Ls : Array Slot} {z : Int32} {rest : List Value} (hret : meth.sig.returnType = some .int) (hd : decode c.code pc = .ok (.ireturn, 1)) {fs : List Frame}
    (hl : ∀ (f : JFrame) (acts : List Action), f.method = m → f.locked = none → f.entered = [] → (doReturn e (T.setTop f) acts (some (.int z))).1 = T.setFrames fs) : Steps p.tables e below (T.setTop (mkF m pc Ls (.int z :: rest))) (T.setFrames fs) := by
  have hm' : T.vm.method? m = some meth := X.method'
  have hn : narrow .int (.int z) = .int z := rfl
  show Steps p.tables e below (T.setTop { method := m, pc := pc, locals := Ls, stack := _ :: rest, locked := none }) _
  jvm_step X.here [X.here.top, hx, hd, hm', hret, hn]
  first | (intro acts; rw [hl _ acts rfl rfl rfl]) | rw [hl _ _ rfl rfl rfl]
  exact Steps.refl _
end New
end Jvm.RoadKit
namespace Jvm.Pilot.@@N@@
open Jvm Jvm.ClassFile Sem Op Lib Jvm.Free Jvm.Stand Jvm.LawKit Jvm.RoadKit Bundle Jvm.Pilot.@@N@@.Jvm.D
def own_b (b : Bool) : Int32 := if b = true then 1 else 0
theorem own_b0 {b : Bool} (h : ¬ (b = true)) : own_b b = 0 := if_neg h
theorem own_b1 {b : Bool} (h : b = true) : ¬ own_b b = 0 := by subst h; decide
theorem own_nb (b : Bool) : nar .boolean (own_b b) = own_b b := by cases b <;> decide
def own_pc (a b c d : Int64) : Bool := decide (a < c) || (decide (a = c) && decide (b < d))
theorem own_pci (a b c d : Int64) : own_pc a b c d = true ↔ (a.toInt < c.toInt ∨ (a.toInt = c.toInt ∧ b.toInt < d.toInt)) := by
  simp only [own_pc, Bool.or_eq_true, Bool.and_eq_true, decide_eq_true_eq, Int64.lt_iff_toInt_lt, ← Int64.toInt_inj]
def own_eq (a b c d : Int64) : Bool := decide (a = c) && decide (b = d)
theorem own_eqi (a b c d : Int64) : own_eq a b c d = true ↔ (a.toInt = c.toInt ∧ b.toInt = d.toInt) := by
  simp only [own_eq, Bool.and_eq_true, decide_eq_true_eq, ← Int64.toInt_inj]
theorem own_bi {x y : Bool} : own_b x = own_b y ↔ (x = true ↔ y = true) := by cases x <;> cases y <;> decide
theorem own_bi1 {x : Bool} : own_b x = (1 : Int32) ↔ x = true := by cases x <;> decide
theorem own_bi0 {x : Bool} : own_b x = (0 : Int32) ↔ ¬ x = true := by cases x <;> decide
theorem d_pc_0 : decode prog_8_method_24_code 0 = .ok (.lload_n 0, 1) := by decide +kernel
theorem d_pc_1 : decode prog_8_method_24_code 1 = .ok (.lload 4, 2) := by decide +kernel
theorem d_pc_3 : decode prog_8_method_24_code 3 = .ok (.lcmp, 1) := by decide +kernel
theorem d_pc_4 : decode prog_8_method_24_code 4 = .ok (.ifCond .lt 17, 3) := by decide +kernel
theorem d_pc_7 : decode prog_8_method_24_code 7 = .ok (.lload_n 0, 1) := by decide +kernel
theorem d_pc_8 : decode prog_8_method_24_code 8 = .ok (.lload 4, 2) := by decide +kernel
theorem d_pc_10 : decode prog_8_method_24_code 10 = .ok (.lcmp, 1) := by decide +kernel
theorem d_pc_11 : decode prog_8_method_24_code 11 = .ok (.ifCond .ne 14, 3) := by decide +kernel
theorem d_pc_14 : decode prog_8_method_24_code 14 = .ok (.lload_n 2, 1) := by decide +kernel
theorem d_pc_15 : decode prog_8_method_24_code 15 = .ok (.lload 6, 2) := by decide +kernel
theorem d_pc_17 : decode prog_8_method_24_code 17 = .ok (.lcmp, 1) := by decide +kernel
theorem d_pc_18 : decode prog_8_method_24_code 18 = .ok (.ifCond .ge 7, 3) := by decide +kernel
theorem d_pc_21 : decode prog_8_method_24_code 21 = .ok (.iconst 1, 1) := by decide +kernel
theorem d_pc_22 : decode prog_8_method_24_code 22 = .ok (.goto 4, 3) := by decide +kernel
theorem d_pc_25 : decode prog_8_method_24_code 25 = .ok (.iconst 0, 1) := by decide +kernel
theorem d_pc_26 : decode prog_8_method_24_code 26 = .ok (.ireturn, 1) := by decide +kernel
theorem pn_pc : plainName "com/example/treadle/treadle/MessageHeap" = true := by first | (simp [plainName, overriddenIn]; done) | decide +kernel
theorem ef_pc (m : MethodId) (q1 : Int64) (q2 : Int64) (q3 : Int64) (q4 : Int64) : entryFrame m #[(.long q1), (.long q2), (.long q3), (.long q4)] 8 = mkF m 0 #[.val (.long q1), .second, .val (.long q2), .second, .val (.long q3), .second, .val (.long q4), .second] [] := by first | (simp [entryFrame, mkF, argsToLocals, Value.category]; done) | rfl
def Q_pc (Z : State) (q1 : Int64) (q2 : Int64) (q3 : Int64) (q4 : Int64) (h0 : Heap) (n0 : Nat) (v : Option Value) (h : Heap) (L : List Loc) : Prop := v = some (.int (own_b (own_pc q1 q2 q3 q4))) ∧ Fr n0 L ∧ h = h0
set_option maxRecDepth 65536 in
set_option maxHeartbeats 40000000 in
theorem rm_pc (l : Launch) (Z : State) (a0 : Array Value) (hw : ∀ d ∈ tables_1, d.before a0 Z = true) (ws : List Jvm.Cond) (q1 : Int64) (q2 : Int64) (q3 : Int64) (q4 : Int64) (h0 : Heap) (n0 : Nat) (Z0 : n0 ≤ h0.size) :
    MetFree l (⟨"com/example/treadle/treadle/MessageHeap", "precedes", "(JJJJ)Z"⟩ : MethodName) (head1 (Jvm.Cond.code (⟨"com/example/treadle/treadle/MessageHeap", "precedes", "(JJJJ)Z"⟩ : MethodName) prog_8_method_24_code 8 (some .boolean) :: ws) ({ frames := 0, cells := 0, slots := 0, locals := 0 } : Room)) (fun a U => a = #[(.long q1), (.long q2), (.long q3), (.long q4)] ∧ Z.Warmed39 U.vm ∧ U.heap = h0) (fun _ _ _ _ _ => True) (fun _ U o U' => ∃ v L, o = .returned v ∧ Q_pc Z q1 q2 q3 q4 h0 n0 v U'.heap L ∧ FrameEnd U o U' L ({ frames := 0, cells := 0, slots := 0, locals := 0 } : Room).cells ({ frames := 0, cells := 0, slots := 0, locals := 0 } : Room).slots) := by
  refine MetFree.of_bodySF (plainFor_of_name pn_pc) hisR ?_
  intro p e s m args below meth c s₁ Bd hml0 hP hK
  obtain ⟨rfl, hZ, hh⟩ := hP
  have hx := Bd.exec
  have hby := Bd.bytes
  have hml : c.maxLocals = 8 := hml0
  have hown : s.vm.findClass "com/example/treadle/treadle/MessageHeap" = some m.cls := findClass_of_methodNamed Bd.named
  have hnm := (name_of_methodNamed Bd.named Bd.method).1
  have X0 : Stand p l e ({ frames := 0, cells := 0, slots := 0, locals := 0 } : Room) s m #[(.long q1), (.long q2), (.long q3), (.long q4)] below meth c s₁ [] 0 0 := Stand.of_body Bd
  have e0 : s₁.heap = h0 := by rw [← hh, Bd.state]; rfl
  have N0 := Fr.nil n0
  have pre0 : ∀ t, Steps p.tables e below (s₁.setTop (mkF m 0 #[.val (.long q1), .second, .val (.long q2), .second, .val (.long q3), .second, .val (.long q4), .second] [])) t → Steps p.tables e below (s₁.setTop (entryFrame m #[(.long q1), (.long q2), (.long q3), (.long q4)] 8)) t := fun t k => castTop (ef_pc m q1 q2 q3 q4) k
  have pr2 : ∀ t, Steps p.tables e below (s₁.setTop (mkF m 4 #[.val (.long q1), .second, .val (.long q2), .second, .val (.long q3), .second, .val (.long q4), .second] [(.int (lcmpW q1 q3))])) t → Steps p.tables e below (s₁.setTop (entryFrame m #[(.long q1), (.long q2), (.long q3), (.long q4)] 8)) t := fun t kt => pre0 t (by
    show Steps p.tables e below (s₁.setTop (mkF m 0 #[.val (.long q1), .second, .val (.long q2), .second, .val (.long q3), .second, .val (.long q4), .second] [])) _
    refine XS.lloadN X0.here hx rfl (hb hby d_pc_0) rfl ?_
    show Steps p.tables e below (s₁.setTop (mkF m 1 #[.val (.long q1), .second, .val (.long q2), .second, .val (.long q3), .second, .val (.long q4), .second] [(.long q1)])) _
    refine XS.lload X0.here hx rfl (hb hby d_pc_1) rfl ?_
    show Steps p.tables e below (s₁.setTop (mkF m 3 #[.val (.long q1), .second, .val (.long q2), .second, .val (.long q3), .second, .val (.long q4), .second] [(.long q3), (.long q1)])) _
    refine XS.lcmp X0.here hx rfl (hb hby d_pc_3) rfl ?_
    exact kt)
  by_cases hc4_1 : q1 < q3
  · obtain ⟨fs, hr, hrun, hended, hW, hsame⟩ := X0.leave (v := some (.int (nar .boolean (1 : Int32)))) (fun h => by rw [Bd.returns] at h; cases h)
    refine ⟨_, _, pr2 _ ?_, hrun, hended, _, _, rfl, ?_, ⟨_, rfl⟩, hW, hsame.mono (by decide) (by decide)⟩
    · show Steps p.tables e below (s₁.setTop (mkF m 4 #[.val (.long q1), .second, .val (.long q2), .second, .val (.long q3), .second, .val (.long q4), .second] [(.int (lcmpW q1 q3))])) _
      refine XS.ifYes X0.here hx rfl (pc0 := 4) (pc' := 21) rfl (hb hby d_pc_4) rfl ((if0 _ _).trans (tlt ((lw_lt _ _).mpr hc4_1)).1) (by decide) (by decide) ?_
      show Steps p.tables e below (s₁.setTop (mkF m 21 #[.val (.long q1), .second, .val (.long q2), .second, .val (.long q3), .second, .val (.long q4), .second] [])) _
      refine XS.iconst X0.here hx rfl (hb hby d_pc_21) ?_
      show Steps p.tables e below (s₁.setTop (mkF m 22 #[.val (.long q1), .second, .val (.long q2), .second, .val (.long q3), .second, .val (.long q4), .second] [(.int (1 : Int32))])) _
      refine XS.goto X0.here hx rfl (pc0 := 22) (pc' := 26) rfl (hb hby d_pc_22) (by decide) (by decide) ?_
      show Steps p.tables e below (s₁.setTop (mkF m 26 #[.val (.long q1), .second, .val (.long q2), .second, .val (.long q3), .second, .val (.long q4), .second] [(.int (1 : Int32))])) _
      exact retN X0 hx (t := .boolean) Bd.returns (by simp) (hb hby d_pc_26) hr
    · show Q_pc Z q1 q2 q3 q4 h0 n0 _ s₁.heap _
      rw [e0]
      exact ⟨(congrArg (fun zz => some (Value.int zz)) (by rw [show own_pc q1 q2 q3 q4 = true from by simp [own_pc, hc4_1]]; rfl : nar .boolean (1 : Int32) = (own_b (own_pc q1 q2 q3 q4)))), N0, rfl⟩
  · have pr4 : ∀ t, Steps p.tables e below (s₁.setTop (mkF m 11 #[.val (.long q1), .second, .val (.long q2), .second, .val (.long q3), .second, .val (.long q4), .second] [(.int (lcmpW q1 q3))])) t → Steps p.tables e below (s₁.setTop (entryFrame m #[(.long q1), (.long q2), (.long q3), (.long q4)] 8)) t := fun t kt => pr2 t (by
      show Steps p.tables e below (s₁.setTop (mkF m 4 #[.val (.long q1), .second, .val (.long q2), .second, .val (.long q3), .second, .val (.long q4), .second] [(.int (lcmpW q1 q3))])) _
      refine XS.ifNo X0.here hx rfl (hb hby d_pc_4) rfl ((if0 _ _).trans (flt (fun q => hc4_1 ((lw_lt _ _).mp q))).1) ?_
      show Steps p.tables e below (s₁.setTop (mkF m 7 #[.val (.long q1), .second, .val (.long q2), .second, .val (.long q3), .second, .val (.long q4), .second] [])) _
      refine XS.lloadN X0.here hx rfl (hb hby d_pc_7) rfl ?_
      show Steps p.tables e below (s₁.setTop (mkF m 8 #[.val (.long q1), .second, .val (.long q2), .second, .val (.long q3), .second, .val (.long q4), .second] [(.long q1)])) _
      refine XS.lload X0.here hx rfl (hb hby d_pc_8) rfl ?_
      show Steps p.tables e below (s₁.setTop (mkF m 10 #[.val (.long q1), .second, .val (.long q2), .second, .val (.long q3), .second, .val (.long q4), .second] [(.long q3), (.long q1)])) _
      refine XS.lcmp X0.here hx rfl (hb hby d_pc_10) rfl ?_
      exact kt)
    by_cases hc11_3 : q1 = q3
    · have pr6 : ∀ t, Steps p.tables e below (s₁.setTop (mkF m 18 #[.val (.long q1), .second, .val (.long q2), .second, .val (.long q3), .second, .val (.long q4), .second] [(.int (lcmpW q2 q4))])) t → Steps p.tables e below (s₁.setTop (entryFrame m #[(.long q1), (.long q2), (.long q3), (.long q4)] 8)) t := fun t kt => pr4 t (by
        show Steps p.tables e below (s₁.setTop (mkF m 11 #[.val (.long q1), .second, .val (.long q2), .second, .val (.long q3), .second, .val (.long q4), .second] [(.int (lcmpW q1 q3))])) _
        refine XS.ifNo X0.here hx rfl (hb hby d_pc_11) rfl ((if0 _ _).trans (teq ((lw_eq _ _).mpr hc11_3)).2) ?_
        show Steps p.tables e below (s₁.setTop (mkF m 14 #[.val (.long q1), .second, .val (.long q2), .second, .val (.long q3), .second, .val (.long q4), .second] [])) _
        refine XS.lloadN X0.here hx rfl (hb hby d_pc_14) rfl ?_
        show Steps p.tables e below (s₁.setTop (mkF m 15 #[.val (.long q1), .second, .val (.long q2), .second, .val (.long q3), .second, .val (.long q4), .second] [(.long q2)])) _
        refine XS.lload X0.here hx rfl (hb hby d_pc_15) rfl ?_
        show Steps p.tables e below (s₁.setTop (mkF m 17 #[.val (.long q1), .second, .val (.long q2), .second, .val (.long q3), .second, .val (.long q4), .second] [(.long q4), (.long q2)])) _
        refine XS.lcmp X0.here hx rfl (hb hby d_pc_17) rfl ?_
        exact kt)
      by_cases hc18_5 : q2 < q4
      · obtain ⟨fs, hr, hrun, hended, hW, hsame⟩ := X0.leave (v := some (.int (nar .boolean (1 : Int32)))) (fun h => by rw [Bd.returns] at h; cases h)
        refine ⟨_, _, pr6 _ ?_, hrun, hended, _, _, rfl, ?_, ⟨_, rfl⟩, hW, hsame.mono (by decide) (by decide)⟩
        · show Steps p.tables e below (s₁.setTop (mkF m 18 #[.val (.long q1), .second, .val (.long q2), .second, .val (.long q3), .second, .val (.long q4), .second] [(.int (lcmpW q2 q4))])) _
          refine XS.ifNo X0.here hx rfl (hb hby d_pc_18) rfl ((if0 _ _).trans (tlt ((lw_lt _ _).mpr hc18_5)).2.1) ?_
          show Steps p.tables e below (s₁.setTop (mkF m 21 #[.val (.long q1), .second, .val (.long q2), .second, .val (.long q3), .second, .val (.long q4), .second] [])) _
          refine XS.iconst X0.here hx rfl (hb hby d_pc_21) ?_
          show Steps p.tables e below (s₁.setTop (mkF m 22 #[.val (.long q1), .second, .val (.long q2), .second, .val (.long q3), .second, .val (.long q4), .second] [(.int (1 : Int32))])) _
          refine XS.goto X0.here hx rfl (pc0 := 22) (pc' := 26) rfl (hb hby d_pc_22) (by decide) (by decide) ?_
          show Steps p.tables e below (s₁.setTop (mkF m 26 #[.val (.long q1), .second, .val (.long q2), .second, .val (.long q3), .second, .val (.long q4), .second] [(.int (1 : Int32))])) _
          exact retN X0 hx (t := .boolean) Bd.returns (by simp) (hb hby d_pc_26) hr
        · show Q_pc Z q1 q2 q3 q4 h0 n0 _ s₁.heap _
          rw [e0]
          exact ⟨(congrArg (fun zz => some (Value.int zz)) (by rw [show own_pc q1 q2 q3 q4 = true from by simp [own_pc, hc4_1, hc11_3, hc18_5]]; rfl : nar .boolean (1 : Int32) = (own_b (own_pc q1 q2 q3 q4)))), N0, rfl⟩
      · obtain ⟨fs, hr, hrun, hended, hW, hsame⟩ := X0.leave (v := some (.int (nar .boolean (0 : Int32)))) (fun h => by rw [Bd.returns] at h; cases h)
        refine ⟨_, _, pr6 _ ?_, hrun, hended, _, _, rfl, ?_, ⟨_, rfl⟩, hW, hsame.mono (by decide) (by decide)⟩
        · show Steps p.tables e below (s₁.setTop (mkF m 18 #[.val (.long q1), .second, .val (.long q2), .second, .val (.long q3), .second, .val (.long q4), .second] [(.int (lcmpW q2 q4))])) _
          refine XS.ifYes X0.here hx rfl (pc0 := 18) (pc' := 25) rfl (hb hby d_pc_18) rfl ((if0 _ _).trans (flt (fun q => hc18_5 ((lw_lt _ _).mp q))).2.1) (by decide) (by decide) ?_
          show Steps p.tables e below (s₁.setTop (mkF m 25 #[.val (.long q1), .second, .val (.long q2), .second, .val (.long q3), .second, .val (.long q4), .second] [])) _
          refine XS.iconst X0.here hx rfl (hb hby d_pc_25) ?_
          show Steps p.tables e below (s₁.setTop (mkF m 26 #[.val (.long q1), .second, .val (.long q2), .second, .val (.long q3), .second, .val (.long q4), .second] [(.int (0 : Int32))])) _
          exact retN X0 hx (t := .boolean) Bd.returns (by simp) (hb hby d_pc_26) hr
        · show Q_pc Z q1 q2 q3 q4 h0 n0 _ s₁.heap _
          rw [e0]
          exact ⟨(congrArg (fun zz => some (Value.int zz)) (by rw [show own_pc q1 q2 q3 q4 = false from by simp [own_pc, hc4_1, hc11_3, hc18_5]]; rfl : nar .boolean (0 : Int32) = (own_b (own_pc q1 q2 q3 q4)))), N0, rfl⟩
    · obtain ⟨fs, hr, hrun, hended, hW, hsame⟩ := X0.leave (v := some (.int (nar .boolean (0 : Int32)))) (fun h => by rw [Bd.returns] at h; cases h)
      refine ⟨_, _, pr4 _ ?_, hrun, hended, _, _, rfl, ?_, ⟨_, rfl⟩, hW, hsame.mono (by decide) (by decide)⟩
      · show Steps p.tables e below (s₁.setTop (mkF m 11 #[.val (.long q1), .second, .val (.long q2), .second, .val (.long q3), .second, .val (.long q4), .second] [(.int (lcmpW q1 q3))])) _
        refine XS.ifYes X0.here hx rfl (pc0 := 11) (pc' := 25) rfl (hb hby d_pc_11) rfl ((if0 _ _).trans (feq (fun q => hc11_3 ((lw_eq _ _).mp q))).2) (by decide) (by decide) ?_
        show Steps p.tables e below (s₁.setTop (mkF m 25 #[.val (.long q1), .second, .val (.long q2), .second, .val (.long q3), .second, .val (.long q4), .second] [])) _
        refine XS.iconst X0.here hx rfl (hb hby d_pc_25) ?_
        show Steps p.tables e below (s₁.setTop (mkF m 26 #[.val (.long q1), .second, .val (.long q2), .second, .val (.long q3), .second, .val (.long q4), .second] [(.int (0 : Int32))])) _
        exact retN X0 hx (t := .boolean) Bd.returns (by simp) (hb hby d_pc_26) hr
      · show Q_pc Z q1 q2 q3 q4 h0 n0 _ s₁.heap _
        rw [e0]
        exact ⟨(congrArg (fun zz => some (Value.int zz)) (by rw [show own_pc q1 q2 q3 q4 = false from by simp [own_pc, hc4_1, hc11_3]]; rfl : nar .boolean (0 : Int32) = (own_b (own_pc q1 q2 q3 q4)))), N0, rfl⟩
theorem pn_law : plainName "com/example/treadle/treadle/MessageHeapPrecedesPinLaw" = true := by first | (simp [plainName, overriddenIn]; done) | decide +kernel
theorem pd_law_0 : parseMethodDescriptor "(JJJJ)Z" = some ⟨[.long, .long, .long, .long], some .boolean⟩ := by decide +kernel
theorem ef_law (m : MethodId) (q1 : Int64) (q2 : Int64) (q3 : Int64) (q4 : Int64) (q5 : Int64) (q6 : Int64) : entryFrame m #[(.long q1), (.long q2), (.long q3), (.long q4), (.long q5), (.long q6)] maxLocals = mkF m 0 #[.val (.long q1), .second, .val (.long q2), .second, .val (.long q3), .second, .val (.long q4), .second, .val (.long q5), .second, .val (.long q6), .second, .unset, .unset, .unset, .unset, .unset, .unset, .unset, .unset, .unset, .unset] [] := by first | (simp [entryFrame, mkF, argsToLocals, Value.category, maxLocals]; done) | rfl
def Q_law (Z : State) (q1 : Int64) (q2 : Int64) (q3 : Int64) (q4 : Int64) (q5 : Int64) (q6 : Int64) (h0 : Heap) (n0 : Nat) (v : Option Value) (h : Heap) (L : List Loc) : Prop := v = some (.int (1 : Int32)) ∧ Fr n0 L
set_option maxRecDepth 65536 in
set_option maxHeartbeats 40000000 in
theorem rm_law (l : Launch) (Z : State) (a0 : Array Value) (hw : ∀ d ∈ tables_1, d.before a0 Z = true) (ws : List Jvm.Cond) (q1 : Int64) (q2 : Int64) (q3 : Int64) (q4 : Int64) (q5 : Int64) (q6 : Int64) (h0 : Heap) (n0 : Nat) (Z0 : n0 ≤ h0.size) :
    MetFree l x (head1 (Jvm.Cond.code x code maxLocals ret :: ws) room_1) (fun a U => a = #[(.long q1), (.long q2), (.long q3), (.long q4), (.long q5), (.long q6)] ∧ Z.Warmed39 U.vm ∧ U.heap = h0) (fun _ _ _ _ _ => True) (fun _ U o U' => ∃ v L, o = .returned v ∧ Q_law Z q1 q2 q3 q4 q5 q6 h0 n0 v U'.heap L ∧ FrameEnd U o U' L room_1.cells room_1.slots) := by
  refine MetFree.of_bodySF (plainFor_of_name pn_law) hisR ?_
  intro p e s m args below meth c s₁ Bd hml0 hP hK
  obtain ⟨rfl, hZ, hh⟩ := hP
  have hx := Bd.exec
  have hby := Bd.bytes
  have hml : c.maxLocals = 22 := hml0
  have hown : s.vm.findClass "com/example/treadle/treadle/MessageHeapPrecedesPinLaw" = some m.cls := findClass_of_methodNamed Bd.named
  have hnm := (name_of_methodNamed Bd.named Bd.method).1
  have X0 : Stand p l e room_1 s m #[(.long q1), (.long q2), (.long q3), (.long q4), (.long q5), (.long q6)] below meth c s₁ [] 0 0 := Stand.of_body Bd
  have e0 : s₁.heap = h0 := by rw [← hh, Bd.state]; rfl
  have N0 := Fr.nil n0
  have pre0 : ∀ t, Steps p.tables e below (s₁.setTop (mkF m 0 #[.val (.long q1), .second, .val (.long q2), .second, .val (.long q3), .second, .val (.long q4), .second, .val (.long q5), .second, .val (.long q6), .second, .unset, .unset, .unset, .unset, .unset, .unset, .unset, .unset, .unset, .unset] [])) t → Steps p.tables e below (s₁.setTop (entryFrame m #[(.long q1), (.long q2), (.long q3), (.long q4), (.long q5), (.long q6)] maxLocals)) t := fun t k => castTop (ef_law m q1 q2 q3 q4 q5 q6) k
  have pr2 : ∀ t, Steps p.tables e below (s₁.setTop (mkF m 6 #[.val (.long q1), .second, .val (.long q2), .second, .val (.long q3), .second, .val (.long q4), .second, .val (.long q5), .second, .val (.long q6), .second, .unset, .unset, .unset, .unset, .unset, .unset, .unset, .unset, .unset, .unset] [(.long q4), (.long q3), (.long q2), (.long q1)])) t → Steps p.tables e below (s₁.setTop (entryFrame m #[(.long q1), (.long q2), (.long q3), (.long q4), (.long q5), (.long q6)] maxLocals)) t := fun t kt => pre0 t (by
    show Steps p.tables e below (s₁.setTop (mkF m 0 #[.val (.long q1), .second, .val (.long q2), .second, .val (.long q3), .second, .val (.long q4), .second, .val (.long q5), .second, .val (.long q6), .second, .unset, .unset, .unset, .unset, .unset, .unset, .unset, .unset, .unset, .unset] [])) _
    refine XS.lloadN X0.here hx rfl (hb hby at_0) rfl ?_
    show Steps p.tables e below (s₁.setTop (mkF m 1 #[.val (.long q1), .second, .val (.long q2), .second, .val (.long q3), .second, .val (.long q4), .second, .val (.long q5), .second, .val (.long q6), .second, .unset, .unset, .unset, .unset, .unset, .unset, .unset, .unset, .unset, .unset] [(.long q1)])) _
    refine XS.lloadN X0.here hx rfl (hb hby at_1) rfl ?_
    show Steps p.tables e below (s₁.setTop (mkF m 2 #[.val (.long q1), .second, .val (.long q2), .second, .val (.long q3), .second, .val (.long q4), .second, .val (.long q5), .second, .val (.long q6), .second, .unset, .unset, .unset, .unset, .unset, .unset, .unset, .unset, .unset, .unset] [(.long q2), (.long q1)])) _
    refine XS.lload X0.here hx rfl (hb hby at_2) rfl ?_
    show Steps p.tables e below (s₁.setTop (mkF m 4 #[.val (.long q1), .second, .val (.long q2), .second, .val (.long q3), .second, .val (.long q4), .second, .val (.long q5), .second, .val (.long q6), .second, .unset, .unset, .unset, .unset, .unset, .unset, .unset, .unset, .unset, .unset] [(.long q3), (.long q2), (.long q1)])) _
    refine XS.lload X0.here hx rfl (hb hby at_4) rfl ?_
    show Steps p.tables e below (s₁.setTop (mkF m 6 #[.val (.long q1), .second, .val (.long q2), .second, .val (.long q3), .second, .val (.long q4), .second, .val (.long q5), .second, .val (.long q6), .second, .unset, .unset, .unset, .unset, .unset, .unset, .unset, .unset, .unset, .unset] [(.long q4), (.long q3), (.long q2), (.long q1)])) _
    exact kt)
  obtain ⟨_, _, ⟨T1, L1, k1, n1⟩, -, X1, ⟨Lc1, hQ1, l1, y1, z1⟩, st1⟩ := Jvm.LawKit.callS X0 hx (y := (⟨"com/example/treadle/treadle/MessageHeap", "precedes", "(JJJJ)Z"⟩ : MethodName)) hown (mvT hZ (hw _ (List.mem_of_getElem? (i := 0) rfl))) (mvT hZ (hw _ (List.mem_of_getElem? (i := 1) rfl))) (mvT hZ (hw _ (List.mem_of_getElem? (i := 2) rfl))) (mvT hZ (hw _ (List.mem_of_getElem? (i := 3) rfl))) (by decide) (backOf (W := 0) (rm_pc l Z a0 hw [] q1 q2 q3 q4 h0 n0 Z0 ) hZ (hw _ (List.mem_of_getElem? (i := 3) rfl)) (hw _ (List.mem_of_getElem? (i := 2) rfl)) (by decide) (by decide)) (g := (mkF m 6 #[.val (.long q1), .second, .val (.long q2), .second, .val (.long q3), .second, .val (.long q4), .second, .val (.long q5), .second, .val (.long q6), .second, .unset, .unset, .unset, .unset, .unset, .unset, .unset, .unset, .unset, .unset] [(.long q4), (.long q3), (.long q2), (.long q1)])) rfl (by rw [hml]; rfl) (argsL := [(.long q1), (.long q2), (.long q3), (.long q4)]) (rest := []) (lenOf pd_law_0 rfl) rfl (by show 2 * 0 + _ ≤ _; exact Nat.le_of_eq rfl) (hb hby at_6) (fun _ _ => ⟨rfl, e0, (by decide : 0 + 0 ≤ _), (by decide : 0 + 0 ≤ _)⟩)
  dsimp only [Pt.U, Pt.locs, Pt.cells, Pt.slots] at X1 l1 y1 z1 st1 hQ1
  subst l1 y1 z1
  obtain ⟨rfl, N1q, e1⟩ := hQ1
  have N1 := Fr.app N0 N1q
  have pr4 : ∀ t, Steps p.tables e below (T1.setTop (mkF m 17 #[.val (.long q1), .second, .val (.long q2), .second, .val (.long q3), .second, .val (.long q4), .second, .val (.long q5), .second, .val (.long q6), .second, .val (.int (own_b (own_pc q1 q2 q3 q4))), .unset, .unset, .unset, .unset, .unset, .unset, .unset, .unset, .unset] [(.long q2), (.long q1), (.long q4), (.long q3)])) t → Steps p.tables e below (s₁.setTop (entryFrame m #[(.long q1), (.long q2), (.long q3), (.long q4), (.long q5), (.long q6)] maxLocals)) t := fun t kt => pr2 t (by
    refine st1 _ ?_
    show Steps p.tables e below (T1.setTop (mkF m 9 #[.val (.long q1), .second, .val (.long q2), .second, .val (.long q3), .second, .val (.long q4), .second, .val (.long q5), .second, .val (.long q6), .second, .unset, .unset, .unset, .unset, .unset, .unset, .unset, .unset, .unset, .unset] [(.int (own_b (own_pc q1 q2 q3 q4)))])) _
    refine XS.istore X1.here hx rfl (hb hby at_9) rfl (l' := #[.val (.long q1), .second, .val (.long q2), .second, .val (.long q3), .second, .val (.long q4), .second, .val (.long q5), .second, .val (.long q6), .second, .val (.int (own_b (own_pc q1 q2 q3 q4))), .unset, .unset, .unset, .unset, .unset, .unset, .unset, .unset, .unset]) rfl ?_
    show Steps p.tables e below (T1.setTop (mkF m 11 #[.val (.long q1), .second, .val (.long q2), .second, .val (.long q3), .second, .val (.long q4), .second, .val (.long q5), .second, .val (.long q6), .second, .val (.int (own_b (own_pc q1 q2 q3 q4))), .unset, .unset, .unset, .unset, .unset, .unset, .unset, .unset, .unset] [])) _
    refine XS.lload X1.here hx rfl (hb hby at_11) rfl ?_
    show Steps p.tables e below (T1.setTop (mkF m 13 #[.val (.long q1), .second, .val (.long q2), .second, .val (.long q3), .second, .val (.long q4), .second, .val (.long q5), .second, .val (.long q6), .second, .val (.int (own_b (own_pc q1 q2 q3 q4))), .unset, .unset, .unset, .unset, .unset, .unset, .unset, .unset, .unset] [(.long q3)])) _
    refine XS.lload X1.here hx rfl (hb hby at_13) rfl ?_
    show Steps p.tables e below (T1.setTop (mkF m 15 #[.val (.long q1), .second, .val (.long q2), .second, .val (.long q3), .second, .val (.long q4), .second, .val (.long q5), .second, .val (.long q6), .second, .val (.int (own_b (own_pc q1 q2 q3 q4))), .unset, .unset, .unset, .unset, .unset, .unset, .unset, .unset, .unset] [(.long q4), (.long q3)])) _
    refine XS.lloadN X1.here hx rfl (hb hby at_15) rfl ?_
    show Steps p.tables e below (T1.setTop (mkF m 16 #[.val (.long q1), .second, .val (.long q2), .second, .val (.long q3), .second, .val (.long q4), .second, .val (.long q5), .second, .val (.long q6), .second, .val (.int (own_b (own_pc q1 q2 q3 q4))), .unset, .unset, .unset, .unset, .unset, .unset, .unset, .unset, .unset] [(.long q1), (.long q4), (.long q3)])) _
    refine XS.lloadN X1.here hx rfl (hb hby at_16) rfl ?_
    show Steps p.tables e below (T1.setTop (mkF m 17 #[.val (.long q1), .second, .val (.long q2), .second, .val (.long q3), .second, .val (.long q4), .second, .val (.long q5), .second, .val (.long q6), .second, .val (.int (own_b (own_pc q1 q2 q3 q4))), .unset, .unset, .unset, .unset, .unset, .unset, .unset, .unset, .unset] [(.long q2), (.long q1), (.long q4), (.long q3)])) _
    exact kt)
  obtain ⟨_, _, ⟨T3, L3, k3, n3⟩, -, X3, ⟨Lc3, hQ3, l3, y3, z3⟩, st3⟩ := Jvm.LawKit.callS X1 hx (y := (⟨"com/example/treadle/treadle/MessageHeap", "precedes", "(JJJJ)Z"⟩ : MethodName)) hown (mvT hZ (hw _ (List.mem_of_getElem? (i := 0) rfl))) (mvT hZ (hw _ (List.mem_of_getElem? (i := 1) rfl))) (mvT hZ (hw _ (List.mem_of_getElem? (i := 2) rfl))) (mvT hZ (hw _ (List.mem_of_getElem? (i := 3) rfl))) (by decide) (backOf (W := 0) (rm_pc l Z a0 hw [] q3 q4 q1 q2 h0 n0 Z0 ) hZ (hw _ (List.mem_of_getElem? (i := 3) rfl)) (hw _ (List.mem_of_getElem? (i := 2) rfl)) (by decide) (by decide)) (g := (mkF m 17 #[.val (.long q1), .second, .val (.long q2), .second, .val (.long q3), .second, .val (.long q4), .second, .val (.long q5), .second, .val (.long q6), .second, .val (.int (own_b (own_pc q1 q2 q3 q4))), .unset, .unset, .unset, .unset, .unset, .unset, .unset, .unset, .unset] [(.long q2), (.long q1), (.long q4), (.long q3)])) rfl (by rw [hml]; rfl) (argsL := [(.long q3), (.long q4), (.long q1), (.long q2)]) (rest := []) (lenOf pd_law_0 rfl) rfl (by show 2 * 0 + _ ≤ _; exact Nat.le_of_eq rfl) (hb hby at_17) (fun _ _ => ⟨rfl, e1, (by decide : 0 + 0 ≤ _), (by decide : 0 + 0 ≤ _)⟩)
  dsimp only [Pt.U, Pt.locs, Pt.cells, Pt.slots] at X3 l3 y3 z3 st3 hQ3
  subst l3 y3 z3
  obtain ⟨rfl, N3q, e3⟩ := hQ3
  have N3 := Fr.app N1 N3q
  have sg5 : ∀ t, Steps p.tables e below (T3.setTop (mkF m 41 #[.val (.long q1), .second, .val (.long q2), .second, .val (.long q3), .second, .val (.long q4), .second, .val (.long q5), .second, .val (.long q6), .second, .val (.int (own_b (own_pc q1 q2 q3 q4))), .val (.int (own_b (own_pc q3 q4 q1 q2))), .unset, .unset, .unset, .unset, .unset, .unset, .unset, .unset] [(.int (own_b (own_eq q1 q2 q3 q4)))])) t → Steps p.tables e below (T3.setTop (mkF m 22 #[.val (.long q1), .second, .val (.long q2), .second, .val (.long q3), .second, .val (.long q4), .second, .val (.long q5), .second, .val (.long q6), .second, .val (.int (own_b (own_pc q1 q2 q3 q4))), .val (.int (own_b (own_pc q3 q4 q1 q2))), .unset, .unset, .unset, .unset, .unset, .unset, .unset, .unset] [])) t := by
    intro t kt
    show Steps p.tables e below (T3.setTop (mkF m 22 #[.val (.long q1), .second, .val (.long q2), .second, .val (.long q3), .second, .val (.long q4), .second, .val (.long q5), .second, .val (.long q6), .second, .val (.int (own_b (own_pc q1 q2 q3 q4))), .val (.int (own_b (own_pc q3 q4 q1 q2))), .unset, .unset, .unset, .unset, .unset, .unset, .unset, .unset] [])) _
    refine XS.lloadN X3.here hx rfl (hb hby at_22) rfl ?_
    show Steps p.tables e below (T3.setTop (mkF m 23 #[.val (.long q1), .second, .val (.long q2), .second, .val (.long q3), .second, .val (.long q4), .second, .val (.long q5), .second, .val (.long q6), .second, .val (.int (own_b (own_pc q1 q2 q3 q4))), .val (.int (own_b (own_pc q3 q4 q1 q2))), .unset, .unset, .unset, .unset, .unset, .unset, .unset, .unset] [(.long q1)])) _
    refine XS.lload X3.here hx rfl (hb hby at_23) rfl ?_
    show Steps p.tables e below (T3.setTop (mkF m 25 #[.val (.long q1), .second, .val (.long q2), .second, .val (.long q3), .second, .val (.long q4), .second, .val (.long q5), .second, .val (.long q6), .second, .val (.int (own_b (own_pc q1 q2 q3 q4))), .val (.int (own_b (own_pc q3 q4 q1 q2))), .unset, .unset, .unset, .unset, .unset, .unset, .unset, .unset] [(.long q3), (.long q1)])) _
    refine XS.lcmp X3.here hx rfl (hb hby at_25) rfl ?_
    by_cases hc26_6 : q1 = q3
    · show Steps p.tables e below (T3.setTop (mkF m 26 #[.val (.long q1), .second, .val (.long q2), .second, .val (.long q3), .second, .val (.long q4), .second, .val (.long q5), .second, .val (.long q6), .second, .val (.int (own_b (own_pc q1 q2 q3 q4))), .val (.int (own_b (own_pc q3 q4 q1 q2))), .unset, .unset, .unset, .unset, .unset, .unset, .unset, .unset] [(.int (lcmpW q1 q3))])) _
      refine XS.ifNo X3.here hx rfl (hb hby at_26) rfl ((if0 _ _).trans (teq ((lw_eq _ _).mpr hc26_6)).2) ?_
      show Steps p.tables e below (T3.setTop (mkF m 29 #[.val (.long q1), .second, .val (.long q2), .second, .val (.long q3), .second, .val (.long q4), .second, .val (.long q5), .second, .val (.long q6), .second, .val (.int (own_b (own_pc q1 q2 q3 q4))), .val (.int (own_b (own_pc q3 q4 q1 q2))), .unset, .unset, .unset, .unset, .unset, .unset, .unset, .unset] [])) _
      refine XS.lloadN X3.here hx rfl (hb hby at_29) rfl ?_
      show Steps p.tables e below (T3.setTop (mkF m 30 #[.val (.long q1), .second, .val (.long q2), .second, .val (.long q3), .second, .val (.long q4), .second, .val (.long q5), .second, .val (.long q6), .second, .val (.int (own_b (own_pc q1 q2 q3 q4))), .val (.int (own_b (own_pc q3 q4 q1 q2))), .unset, .unset, .unset, .unset, .unset, .unset, .unset, .unset] [(.long q2)])) _
      refine XS.lload X3.here hx rfl (hb hby at_30) rfl ?_
      show Steps p.tables e below (T3.setTop (mkF m 32 #[.val (.long q1), .second, .val (.long q2), .second, .val (.long q3), .second, .val (.long q4), .second, .val (.long q5), .second, .val (.long q6), .second, .val (.int (own_b (own_pc q1 q2 q3 q4))), .val (.int (own_b (own_pc q3 q4 q1 q2))), .unset, .unset, .unset, .unset, .unset, .unset, .unset, .unset] [(.long q4), (.long q2)])) _
      refine XS.lcmp X3.here hx rfl (hb hby at_32) rfl ?_
      by_cases hc33_7 : q2 = q4
      · show Steps p.tables e below (T3.setTop (mkF m 33 #[.val (.long q1), .second, .val (.long q2), .second, .val (.long q3), .second, .val (.long q4), .second, .val (.long q5), .second, .val (.long q6), .second, .val (.int (own_b (own_pc q1 q2 q3 q4))), .val (.int (own_b (own_pc q3 q4 q1 q2))), .unset, .unset, .unset, .unset, .unset, .unset, .unset, .unset] [(.int (lcmpW q2 q4))])) _
        refine XS.ifNo X3.here hx rfl (hb hby at_33) rfl ((if0 _ _).trans (teq ((lw_eq _ _).mpr hc33_7)).2) ?_
        show Steps p.tables e below (T3.setTop (mkF m 36 #[.val (.long q1), .second, .val (.long q2), .second, .val (.long q3), .second, .val (.long q4), .second, .val (.long q5), .second, .val (.long q6), .second, .val (.int (own_b (own_pc q1 q2 q3 q4))), .val (.int (own_b (own_pc q3 q4 q1 q2))), .unset, .unset, .unset, .unset, .unset, .unset, .unset, .unset] [])) _
        refine XS.iconst X3.here hx rfl (hb hby at_36) ?_
        show Steps p.tables e below (T3.setTop (mkF m 37 #[.val (.long q1), .second, .val (.long q2), .second, .val (.long q3), .second, .val (.long q4), .second, .val (.long q5), .second, .val (.long q6), .second, .val (.int (own_b (own_pc q1 q2 q3 q4))), .val (.int (own_b (own_pc q3 q4 q1 q2))), .unset, .unset, .unset, .unset, .unset, .unset, .unset, .unset] [(.int (1 : Int32))])) _
        refine XS.goto X3.here hx rfl (pc0 := 37) (pc' := 41) rfl (hb hby at_37) (by decide) (by decide) ?_
        show Steps p.tables e below (T3.setTop (mkF m 41 #[.val (.long q1), .second, .val (.long q2), .second, .val (.long q3), .second, .val (.long q4), .second, .val (.long q5), .second, .val (.long q6), .second, .val (.int (own_b (own_pc q1 q2 q3 q4))), .val (.int (own_b (own_pc q3 q4 q1 q2))), .unset, .unset, .unset, .unset, .unset, .unset, .unset, .unset] [(.int (1 : Int32))])) _
        refine castTop (congrArg (fun zz => (mkF m 41 #[.val (.long q1), .second, .val (.long q2), .second, .val (.long q3), .second, .val (.long q4), .second, .val (.long q5), .second, .val (.long q6), .second, .val (.int (own_b (own_pc q1 q2 q3 q4))), .val (.int (own_b (own_pc q3 q4 q1 q2))), .unset, .unset, .unset, .unset, .unset, .unset, .unset, .unset] [(.int zz)])) (by rw [show own_eq q1 q2 q3 q4 = true from by simp [own_eq, hc26_6, hc33_7]]; rfl : (1 : Int32) = (own_b (own_eq q1 q2 q3 q4)))) ?_
        exact kt
      · show Steps p.tables e below (T3.setTop (mkF m 33 #[.val (.long q1), .second, .val (.long q2), .second, .val (.long q3), .second, .val (.long q4), .second, .val (.long q5), .second, .val (.long q6), .second, .val (.int (own_b (own_pc q1 q2 q3 q4))), .val (.int (own_b (own_pc q3 q4 q1 q2))), .unset, .unset, .unset, .unset, .unset, .unset, .unset, .unset] [(.int (lcmpW q2 q4))])) _
        refine XS.ifYes X3.here hx rfl (pc0 := 33) (pc' := 40) rfl (hb hby at_33) rfl ((if0 _ _).trans (feq (fun q => hc33_7 ((lw_eq _ _).mp q))).2) (by decide) (by decide) ?_
        show Steps p.tables e below (T3.setTop (mkF m 40 #[.val (.long q1), .second, .val (.long q2), .second, .val (.long q3), .second, .val (.long q4), .second, .val (.long q5), .second, .val (.long q6), .second, .val (.int (own_b (own_pc q1 q2 q3 q4))), .val (.int (own_b (own_pc q3 q4 q1 q2))), .unset, .unset, .unset, .unset, .unset, .unset, .unset, .unset] [])) _
        refine XS.iconst X3.here hx rfl (hb hby at_40) ?_
        show Steps p.tables e below (T3.setTop (mkF m 41 #[.val (.long q1), .second, .val (.long q2), .second, .val (.long q3), .second, .val (.long q4), .second, .val (.long q5), .second, .val (.long q6), .second, .val (.int (own_b (own_pc q1 q2 q3 q4))), .val (.int (own_b (own_pc q3 q4 q1 q2))), .unset, .unset, .unset, .unset, .unset, .unset, .unset, .unset] [(.int (0 : Int32))])) _
        refine castTop (congrArg (fun zz => (mkF m 41 #[.val (.long q1), .second, .val (.long q2), .second, .val (.long q3), .second, .val (.long q4), .second, .val (.long q5), .second, .val (.long q6), .second, .val (.int (own_b (own_pc q1 q2 q3 q4))), .val (.int (own_b (own_pc q3 q4 q1 q2))), .unset, .unset, .unset, .unset, .unset, .unset, .unset, .unset] [(.int zz)])) (by rw [show own_eq q1 q2 q3 q4 = false from by simp [own_eq, hc26_6, hc33_7]]; rfl : (0 : Int32) = (own_b (own_eq q1 q2 q3 q4)))) ?_
        exact kt
    · show Steps p.tables e below (T3.setTop (mkF m 26 #[.val (.long q1), .second, .val (.long q2), .second, .val (.long q3), .second, .val (.long q4), .second, .val (.long q5), .second, .val (.long q6), .second, .val (.int (own_b (own_pc q1 q2 q3 q4))), .val (.int (own_b (own_pc q3 q4 q1 q2))), .unset, .unset, .unset, .unset, .unset, .unset, .unset, .unset] [(.int (lcmpW q1 q3))])) _
      refine XS.ifYes X3.here hx rfl (pc0 := 26) (pc' := 40) rfl (hb hby at_26) rfl ((if0 _ _).trans (feq (fun q => hc26_6 ((lw_eq _ _).mp q))).2) (by decide) (by decide) ?_
      show Steps p.tables e below (T3.setTop (mkF m 40 #[.val (.long q1), .second, .val (.long q2), .second, .val (.long q3), .second, .val (.long q4), .second, .val (.long q5), .second, .val (.long q6), .second, .val (.int (own_b (own_pc q1 q2 q3 q4))), .val (.int (own_b (own_pc q3 q4 q1 q2))), .unset, .unset, .unset, .unset, .unset, .unset, .unset, .unset] [])) _
      refine XS.iconst X3.here hx rfl (hb hby at_40) ?_
      show Steps p.tables e below (T3.setTop (mkF m 41 #[.val (.long q1), .second, .val (.long q2), .second, .val (.long q3), .second, .val (.long q4), .second, .val (.long q5), .second, .val (.long q6), .second, .val (.int (own_b (own_pc q1 q2 q3 q4))), .val (.int (own_b (own_pc q3 q4 q1 q2))), .unset, .unset, .unset, .unset, .unset, .unset, .unset, .unset] [(.int (0 : Int32))])) _
      refine castTop (congrArg (fun zz => (mkF m 41 #[.val (.long q1), .second, .val (.long q2), .second, .val (.long q3), .second, .val (.long q4), .second, .val (.long q5), .second, .val (.long q6), .second, .val (.int (own_b (own_pc q1 q2 q3 q4))), .val (.int (own_b (own_pc q3 q4 q1 q2))), .unset, .unset, .unset, .unset, .unset, .unset, .unset, .unset] [(.int zz)])) (by rw [show own_eq q1 q2 q3 q4 = false from by simp [own_eq, hc26_6]]; rfl : (0 : Int32) = (own_b (own_eq q1 q2 q3 q4)))) ?_
      exact kt
  have sg8 : ∀ t, Steps p.tables e below (T3.setTop (mkF m 80 #[.val (.long q1), .second, .val (.long q2), .second, .val (.long q3), .second, .val (.long q4), .second, .val (.long q5), .second, .val (.long q6), .second, .val (.int (own_b (own_pc q1 q2 q3 q4))), .val (.int (own_b (own_pc q3 q4 q1 q2))), .val (.int (own_b (own_eq q1 q2 q3 q4))), .val (.int (1 : Int32)), .unset, .unset, .unset, .unset, .unset, .unset] [])) t → Steps p.tables e below (T3.setTop (mkF m 43 #[.val (.long q1), .second, .val (.long q2), .second, .val (.long q3), .second, .val (.long q4), .second, .val (.long q5), .second, .val (.long q6), .second, .val (.int (own_b (own_pc q1 q2 q3 q4))), .val (.int (own_b (own_pc q3 q4 q1 q2))), .val (.int (own_b (own_eq q1 q2 q3 q4))), .unset, .unset, .unset, .unset, .unset, .unset, .unset] [])) t := by
    intro t kt
    show Steps p.tables e below (T3.setTop (mkF m 43 #[.val (.long q1), .second, .val (.long q2), .second, .val (.long q3), .second, .val (.long q4), .second, .val (.long q5), .second, .val (.long q6), .second, .val (.int (own_b (own_pc q1 q2 q3 q4))), .val (.int (own_b (own_pc q3 q4 q1 q2))), .val (.int (own_b (own_eq q1 q2 q3 q4))), .unset, .unset, .unset, .unset, .unset, .unset, .unset] [])) _
    refine XS.iload X3.here hx rfl (hb hby at_43) rfl ?_
    by_cases hc45_9 : (own_eq q1 q2 q3 q4) = true
    · show Steps p.tables e below (T3.setTop (mkF m 45 #[.val (.long q1), .second, .val (.long q2), .second, .val (.long q3), .second, .val (.long q4), .second, .val (.long q5), .second, .val (.long q6), .second, .val (.int (own_b (own_pc q1 q2 q3 q4))), .val (.int (own_b (own_pc q3 q4 q1 q2))), .val (.int (own_b (own_eq q1 q2 q3 q4))), .unset, .unset, .unset, .unset, .unset, .unset, .unset] [(.int (own_b (own_eq q1 q2 q3 q4)))])) _
      refine XS.ifNo X3.here hx rfl (hb hby at_45) rfl ((if0 _ _).trans (feq (own_b1 hc45_9)).1) ?_
      show Steps p.tables e below (T3.setTop (mkF m 48 #[.val (.long q1), .second, .val (.long q2), .second, .val (.long q3), .second, .val (.long q4), .second, .val (.long q5), .second, .val (.long q6), .second, .val (.int (own_b (own_pc q1 q2 q3 q4))), .val (.int (own_b (own_pc q3 q4 q1 q2))), .val (.int (own_b (own_eq q1 q2 q3 q4))), .unset, .unset, .unset, .unset, .unset, .unset, .unset] [])) _
      refine XS.iload X3.here hx rfl (hb hby at_48) rfl ?_
      by_cases hc50_10 : (own_pc q1 q2 q3 q4) = true
      · show Steps p.tables e below (T3.setTop (mkF m 50 #[.val (.long q1), .second, .val (.long q2), .second, .val (.long q3), .second, .val (.long q4), .second, .val (.long q5), .second, .val (.long q6), .second, .val (.int (own_b (own_pc q1 q2 q3 q4))), .val (.int (own_b (own_pc q3 q4 q1 q2))), .val (.int (own_b (own_eq q1 q2 q3 q4))), .unset, .unset, .unset, .unset, .unset, .unset, .unset] [(.int (own_b (own_pc q1 q2 q3 q4)))])) _
        refine XS.ifYes X3.here hx rfl (pc0 := 50) (pc' := 62) rfl (hb hby at_50) rfl ((if0 _ _).trans (feq (own_b1 hc50_10)).2) (by decide) (by decide) ?_
        show Steps p.tables e below (T3.setTop (mkF m 62 #[.val (.long q1), .second, .val (.long q2), .second, .val (.long q3), .second, .val (.long q4), .second, .val (.long q5), .second, .val (.long q6), .second, .val (.int (own_b (own_pc q1 q2 q3 q4))), .val (.int (own_b (own_pc q3 q4 q1 q2))), .val (.int (own_b (own_eq q1 q2 q3 q4))), .unset, .unset, .unset, .unset, .unset, .unset, .unset] [])) _
        refine XS.iconst X3.here hx rfl (hb hby at_62) ?_
        show Steps p.tables e below (T3.setTop (mkF m 63 #[.val (.long q1), .second, .val (.long q2), .second, .val (.long q3), .second, .val (.long q4), .second, .val (.long q5), .second, .val (.long q6), .second, .val (.int (own_b (own_pc q1 q2 q3 q4))), .val (.int (own_b (own_pc q3 q4 q1 q2))), .val (.int (own_b (own_eq q1 q2 q3 q4))), .unset, .unset, .unset, .unset, .unset, .unset, .unset] [(.int (0 : Int32))])) _
        refine XS.goto X3.here hx rfl (pc0 := 63) (pc' := 78) rfl (hb hby at_63) (by decide) (by decide) ?_
        show Steps p.tables e below (T3.setTop (mkF m 78 #[.val (.long q1), .second, .val (.long q2), .second, .val (.long q3), .second, .val (.long q4), .second, .val (.long q5), .second, .val (.long q6), .second, .val (.int (own_b (own_pc q1 q2 q3 q4))), .val (.int (own_b (own_pc q3 q4 q1 q2))), .val (.int (own_b (own_eq q1 q2 q3 q4))), .unset, .unset, .unset, .unset, .unset, .unset, .unset] [(.int (0 : Int32))])) _
        refine XS.istore X3.here hx rfl (hb hby at_78) rfl (l' := #[.val (.long q1), .second, .val (.long q2), .second, .val (.long q3), .second, .val (.long q4), .second, .val (.long q5), .second, .val (.long q6), .second, .val (.int (own_b (own_pc q1 q2 q3 q4))), .val (.int (own_b (own_pc q3 q4 q1 q2))), .val (.int (own_b (own_eq q1 q2 q3 q4))), .val (.int (0 : Int32)), .unset, .unset, .unset, .unset, .unset, .unset]) rfl ?_
        show Steps p.tables e below (T3.setTop (mkF m 80 #[.val (.long q1), .second, .val (.long q2), .second, .val (.long q3), .second, .val (.long q4), .second, .val (.long q5), .second, .val (.long q6), .second, .val (.int (own_b (own_pc q1 q2 q3 q4))), .val (.int (own_b (own_pc q3 q4 q1 q2))), .val (.int (own_b (own_eq q1 q2 q3 q4))), .val (.int (0 : Int32)), .unset, .unset, .unset, .unset, .unset, .unset] [])) _
        exfalso
        simp only [own_pci, own_eqi, own_bi, own_bi1, own_bi0, Int64.lt_iff_toInt_lt, ← Int64.toInt_inj, true_and, and_true, false_or, Int.lt_irrefl] at hc45_9 hc50_10; omega
      · show Steps p.tables e below (T3.setTop (mkF m 50 #[.val (.long q1), .second, .val (.long q2), .second, .val (.long q3), .second, .val (.long q4), .second, .val (.long q5), .second, .val (.long q6), .second, .val (.int (own_b (own_pc q1 q2 q3 q4))), .val (.int (own_b (own_pc q3 q4 q1 q2))), .val (.int (own_b (own_eq q1 q2 q3 q4))), .unset, .unset, .unset, .unset, .unset, .unset, .unset] [(.int (own_b (own_pc q1 q2 q3 q4)))])) _
        refine XS.ifNo X3.here hx rfl (hb hby at_50) rfl ((if0 _ _).trans (teq (own_b0 hc50_10)).2) ?_
        show Steps p.tables e below (T3.setTop (mkF m 53 #[.val (.long q1), .second, .val (.long q2), .second, .val (.long q3), .second, .val (.long q4), .second, .val (.long q5), .second, .val (.long q6), .second, .val (.int (own_b (own_pc q1 q2 q3 q4))), .val (.int (own_b (own_pc q3 q4 q1 q2))), .val (.int (own_b (own_eq q1 q2 q3 q4))), .unset, .unset, .unset, .unset, .unset, .unset, .unset] [])) _
        refine XS.iload X3.here hx rfl (hb hby at_53) rfl ?_
        by_cases hc55_11 : (own_pc q3 q4 q1 q2) = true
        · show Steps p.tables e below (T3.setTop (mkF m 55 #[.val (.long q1), .second, .val (.long q2), .second, .val (.long q3), .second, .val (.long q4), .second, .val (.long q5), .second, .val (.long q6), .second, .val (.int (own_b (own_pc q1 q2 q3 q4))), .val (.int (own_b (own_pc q3 q4 q1 q2))), .val (.int (own_b (own_eq q1 q2 q3 q4))), .unset, .unset, .unset, .unset, .unset, .unset, .unset] [(.int (own_b (own_pc q3 q4 q1 q2)))])) _
          refine XS.ifYes X3.here hx rfl (pc0 := 55) (pc' := 62) rfl (hb hby at_55) rfl ((if0 _ _).trans (feq (own_b1 hc55_11)).2) (by decide) (by decide) ?_
          show Steps p.tables e below (T3.setTop (mkF m 62 #[.val (.long q1), .second, .val (.long q2), .second, .val (.long q3), .second, .val (.long q4), .second, .val (.long q5), .second, .val (.long q6), .second, .val (.int (own_b (own_pc q1 q2 q3 q4))), .val (.int (own_b (own_pc q3 q4 q1 q2))), .val (.int (own_b (own_eq q1 q2 q3 q4))), .unset, .unset, .unset, .unset, .unset, .unset, .unset] [])) _
          refine XS.iconst X3.here hx rfl (hb hby at_62) ?_
          show Steps p.tables e below (T3.setTop (mkF m 63 #[.val (.long q1), .second, .val (.long q2), .second, .val (.long q3), .second, .val (.long q4), .second, .val (.long q5), .second, .val (.long q6), .second, .val (.int (own_b (own_pc q1 q2 q3 q4))), .val (.int (own_b (own_pc q3 q4 q1 q2))), .val (.int (own_b (own_eq q1 q2 q3 q4))), .unset, .unset, .unset, .unset, .unset, .unset, .unset] [(.int (0 : Int32))])) _
          refine XS.goto X3.here hx rfl (pc0 := 63) (pc' := 78) rfl (hb hby at_63) (by decide) (by decide) ?_
          show Steps p.tables e below (T3.setTop (mkF m 78 #[.val (.long q1), .second, .val (.long q2), .second, .val (.long q3), .second, .val (.long q4), .second, .val (.long q5), .second, .val (.long q6), .second, .val (.int (own_b (own_pc q1 q2 q3 q4))), .val (.int (own_b (own_pc q3 q4 q1 q2))), .val (.int (own_b (own_eq q1 q2 q3 q4))), .unset, .unset, .unset, .unset, .unset, .unset, .unset] [(.int (0 : Int32))])) _
          refine XS.istore X3.here hx rfl (hb hby at_78) rfl (l' := #[.val (.long q1), .second, .val (.long q2), .second, .val (.long q3), .second, .val (.long q4), .second, .val (.long q5), .second, .val (.long q6), .second, .val (.int (own_b (own_pc q1 q2 q3 q4))), .val (.int (own_b (own_pc q3 q4 q1 q2))), .val (.int (own_b (own_eq q1 q2 q3 q4))), .val (.int (0 : Int32)), .unset, .unset, .unset, .unset, .unset, .unset]) rfl ?_
          show Steps p.tables e below (T3.setTop (mkF m 80 #[.val (.long q1), .second, .val (.long q2), .second, .val (.long q3), .second, .val (.long q4), .second, .val (.long q5), .second, .val (.long q6), .second, .val (.int (own_b (own_pc q1 q2 q3 q4))), .val (.int (own_b (own_pc q3 q4 q1 q2))), .val (.int (own_b (own_eq q1 q2 q3 q4))), .val (.int (0 : Int32)), .unset, .unset, .unset, .unset, .unset, .unset] [])) _
          exfalso
          simp only [own_pci, own_eqi, own_bi, own_bi1, own_bi0, Int64.lt_iff_toInt_lt, ← Int64.toInt_inj, true_and, and_true, false_or, Int.lt_irrefl] at hc45_9 hc50_10 hc55_11; omega
        · show Steps p.tables e below (T3.setTop (mkF m 55 #[.val (.long q1), .second, .val (.long q2), .second, .val (.long q3), .second, .val (.long q4), .second, .val (.long q5), .second, .val (.long q6), .second, .val (.int (own_b (own_pc q1 q2 q3 q4))), .val (.int (own_b (own_pc q3 q4 q1 q2))), .val (.int (own_b (own_eq q1 q2 q3 q4))), .unset, .unset, .unset, .unset, .unset, .unset, .unset] [(.int (own_b (own_pc q3 q4 q1 q2)))])) _
          refine XS.ifNo X3.here hx rfl (hb hby at_55) rfl ((if0 _ _).trans (teq (own_b0 hc55_11)).2) ?_
          show Steps p.tables e below (T3.setTop (mkF m 58 #[.val (.long q1), .second, .val (.long q2), .second, .val (.long q3), .second, .val (.long q4), .second, .val (.long q5), .second, .val (.long q6), .second, .val (.int (own_b (own_pc q1 q2 q3 q4))), .val (.int (own_b (own_pc q3 q4 q1 q2))), .val (.int (own_b (own_eq q1 q2 q3 q4))), .unset, .unset, .unset, .unset, .unset, .unset, .unset] [])) _
          refine XS.iconst X3.here hx rfl (hb hby at_58) ?_
          show Steps p.tables e below (T3.setTop (mkF m 59 #[.val (.long q1), .second, .val (.long q2), .second, .val (.long q3), .second, .val (.long q4), .second, .val (.long q5), .second, .val (.long q6), .second, .val (.int (own_b (own_pc q1 q2 q3 q4))), .val (.int (own_b (own_pc q3 q4 q1 q2))), .val (.int (own_b (own_eq q1 q2 q3 q4))), .unset, .unset, .unset, .unset, .unset, .unset, .unset] [(.int (1 : Int32))])) _
          refine XS.goto X3.here hx rfl (pc0 := 59) (pc' := 78) rfl (hb hby at_59) (by decide) (by decide) ?_
          show Steps p.tables e below (T3.setTop (mkF m 78 #[.val (.long q1), .second, .val (.long q2), .second, .val (.long q3), .second, .val (.long q4), .second, .val (.long q5), .second, .val (.long q6), .second, .val (.int (own_b (own_pc q1 q2 q3 q4))), .val (.int (own_b (own_pc q3 q4 q1 q2))), .val (.int (own_b (own_eq q1 q2 q3 q4))), .unset, .unset, .unset, .unset, .unset, .unset, .unset] [(.int (1 : Int32))])) _
          refine XS.istore X3.here hx rfl (hb hby at_78) rfl (l' := #[.val (.long q1), .second, .val (.long q2), .second, .val (.long q3), .second, .val (.long q4), .second, .val (.long q5), .second, .val (.long q6), .second, .val (.int (own_b (own_pc q1 q2 q3 q4))), .val (.int (own_b (own_pc q3 q4 q1 q2))), .val (.int (own_b (own_eq q1 q2 q3 q4))), .val (.int (1 : Int32)), .unset, .unset, .unset, .unset, .unset, .unset]) rfl ?_
          show Steps p.tables e below (T3.setTop (mkF m 80 #[.val (.long q1), .second, .val (.long q2), .second, .val (.long q3), .second, .val (.long q4), .second, .val (.long q5), .second, .val (.long q6), .second, .val (.int (own_b (own_pc q1 q2 q3 q4))), .val (.int (own_b (own_pc q3 q4 q1 q2))), .val (.int (own_b (own_eq q1 q2 q3 q4))), .val (.int (1 : Int32)), .unset, .unset, .unset, .unset, .unset, .unset] [])) _
          exact kt
    · show Steps p.tables e below (T3.setTop (mkF m 45 #[.val (.long q1), .second, .val (.long q2), .second, .val (.long q3), .second, .val (.long q4), .second, .val (.long q5), .second, .val (.long q6), .second, .val (.int (own_b (own_pc q1 q2 q3 q4))), .val (.int (own_b (own_pc q3 q4 q1 q2))), .val (.int (own_b (own_eq q1 q2 q3 q4))), .unset, .unset, .unset, .unset, .unset, .unset, .unset] [(.int (own_b (own_eq q1 q2 q3 q4)))])) _
      refine XS.ifYes X3.here hx rfl (pc0 := 45) (pc' := 66) rfl (hb hby at_45) rfl ((if0 _ _).trans (teq (own_b0 hc45_9)).1) (by decide) (by decide) ?_
      show Steps p.tables e below (T3.setTop (mkF m 66 #[.val (.long q1), .second, .val (.long q2), .second, .val (.long q3), .second, .val (.long q4), .second, .val (.long q5), .second, .val (.long q6), .second, .val (.int (own_b (own_pc q1 q2 q3 q4))), .val (.int (own_b (own_pc q3 q4 q1 q2))), .val (.int (own_b (own_eq q1 q2 q3 q4))), .unset, .unset, .unset, .unset, .unset, .unset, .unset] [])) _
      refine XS.iload X3.here hx rfl (hb hby at_66) rfl ?_
      show Steps p.tables e below (T3.setTop (mkF m 68 #[.val (.long q1), .second, .val (.long q2), .second, .val (.long q3), .second, .val (.long q4), .second, .val (.long q5), .second, .val (.long q6), .second, .val (.int (own_b (own_pc q1 q2 q3 q4))), .val (.int (own_b (own_pc q3 q4 q1 q2))), .val (.int (own_b (own_eq q1 q2 q3 q4))), .unset, .unset, .unset, .unset, .unset, .unset, .unset] [(.int (own_b (own_pc q1 q2 q3 q4)))])) _
      refine XS.iload X3.here hx rfl (hb hby at_68) rfl ?_
      by_cases hc70_12 : (own_b (own_pc q1 q2 q3 q4)) = (own_b (own_pc q3 q4 q1 q2))
      · show Steps p.tables e below (T3.setTop (mkF m 70 #[.val (.long q1), .second, .val (.long q2), .second, .val (.long q3), .second, .val (.long q4), .second, .val (.long q5), .second, .val (.long q6), .second, .val (.int (own_b (own_pc q1 q2 q3 q4))), .val (.int (own_b (own_pc q3 q4 q1 q2))), .val (.int (own_b (own_eq q1 q2 q3 q4))), .unset, .unset, .unset, .unset, .unset, .unset, .unset] [(.int (own_b (own_pc q3 q4 q1 q2))), (.int (own_b (own_pc q1 q2 q3 q4)))])) _
        refine XS.icmpYes X3.here hx rfl (pc0 := 70) (pc' := 77) rfl (hb hby at_70) rfl (teq hc70_12).1 (by decide) (by decide) ?_
        show Steps p.tables e below (T3.setTop (mkF m 77 #[.val (.long q1), .second, .val (.long q2), .second, .val (.long q3), .second, .val (.long q4), .second, .val (.long q5), .second, .val (.long q6), .second, .val (.int (own_b (own_pc q1 q2 q3 q4))), .val (.int (own_b (own_pc q3 q4 q1 q2))), .val (.int (own_b (own_eq q1 q2 q3 q4))), .unset, .unset, .unset, .unset, .unset, .unset, .unset] [])) _
        refine XS.iconst X3.here hx rfl (hb hby at_77) ?_
        show Steps p.tables e below (T3.setTop (mkF m 78 #[.val (.long q1), .second, .val (.long q2), .second, .val (.long q3), .second, .val (.long q4), .second, .val (.long q5), .second, .val (.long q6), .second, .val (.int (own_b (own_pc q1 q2 q3 q4))), .val (.int (own_b (own_pc q3 q4 q1 q2))), .val (.int (own_b (own_eq q1 q2 q3 q4))), .unset, .unset, .unset, .unset, .unset, .unset, .unset] [(.int (0 : Int32))])) _
        refine XS.istore X3.here hx rfl (hb hby at_78) rfl (l' := #[.val (.long q1), .second, .val (.long q2), .second, .val (.long q3), .second, .val (.long q4), .second, .val (.long q5), .second, .val (.long q6), .second, .val (.int (own_b (own_pc q1 q2 q3 q4))), .val (.int (own_b (own_pc q3 q4 q1 q2))), .val (.int (own_b (own_eq q1 q2 q3 q4))), .val (.int (0 : Int32)), .unset, .unset, .unset, .unset, .unset, .unset]) rfl ?_
        show Steps p.tables e below (T3.setTop (mkF m 80 #[.val (.long q1), .second, .val (.long q2), .second, .val (.long q3), .second, .val (.long q4), .second, .val (.long q5), .second, .val (.long q6), .second, .val (.int (own_b (own_pc q1 q2 q3 q4))), .val (.int (own_b (own_pc q3 q4 q1 q2))), .val (.int (own_b (own_eq q1 q2 q3 q4))), .val (.int (0 : Int32)), .unset, .unset, .unset, .unset, .unset, .unset] [])) _
        exfalso
        simp only [own_pci, own_eqi, own_bi, own_bi1, own_bi0, Int64.lt_iff_toInt_lt, ← Int64.toInt_inj, true_and, and_true, false_or, Int.lt_irrefl] at hc45_9 hc70_12; omega
      · show Steps p.tables e below (T3.setTop (mkF m 70 #[.val (.long q1), .second, .val (.long q2), .second, .val (.long q3), .second, .val (.long q4), .second, .val (.long q5), .second, .val (.long q6), .second, .val (.int (own_b (own_pc q1 q2 q3 q4))), .val (.int (own_b (own_pc q3 q4 q1 q2))), .val (.int (own_b (own_eq q1 q2 q3 q4))), .unset, .unset, .unset, .unset, .unset, .unset, .unset] [(.int (own_b (own_pc q3 q4 q1 q2))), (.int (own_b (own_pc q1 q2 q3 q4)))])) _
        refine XS.icmpNo X3.here hx rfl (hb hby at_70) rfl (feq hc70_12).1 ?_
        show Steps p.tables e below (T3.setTop (mkF m 73 #[.val (.long q1), .second, .val (.long q2), .second, .val (.long q3), .second, .val (.long q4), .second, .val (.long q5), .second, .val (.long q6), .second, .val (.int (own_b (own_pc q1 q2 q3 q4))), .val (.int (own_b (own_pc q3 q4 q1 q2))), .val (.int (own_b (own_eq q1 q2 q3 q4))), .unset, .unset, .unset, .unset, .unset, .unset, .unset] [])) _
        refine XS.iconst X3.here hx rfl (hb hby at_73) ?_
        show Steps p.tables e below (T3.setTop (mkF m 74 #[.val (.long q1), .second, .val (.long q2), .second, .val (.long q3), .second, .val (.long q4), .second, .val (.long q5), .second, .val (.long q6), .second, .val (.int (own_b (own_pc q1 q2 q3 q4))), .val (.int (own_b (own_pc q3 q4 q1 q2))), .val (.int (own_b (own_eq q1 q2 q3 q4))), .unset, .unset, .unset, .unset, .unset, .unset, .unset] [(.int (1 : Int32))])) _
        refine XS.goto X3.here hx rfl (pc0 := 74) (pc' := 78) rfl (hb hby at_74) (by decide) (by decide) ?_
        show Steps p.tables e below (T3.setTop (mkF m 78 #[.val (.long q1), .second, .val (.long q2), .second, .val (.long q3), .second, .val (.long q4), .second, .val (.long q5), .second, .val (.long q6), .second, .val (.int (own_b (own_pc q1 q2 q3 q4))), .val (.int (own_b (own_pc q3 q4 q1 q2))), .val (.int (own_b (own_eq q1 q2 q3 q4))), .unset, .unset, .unset, .unset, .unset, .unset, .unset] [(.int (1 : Int32))])) _
        refine XS.istore X3.here hx rfl (hb hby at_78) rfl (l' := #[.val (.long q1), .second, .val (.long q2), .second, .val (.long q3), .second, .val (.long q4), .second, .val (.long q5), .second, .val (.long q6), .second, .val (.int (own_b (own_pc q1 q2 q3 q4))), .val (.int (own_b (own_pc q3 q4 q1 q2))), .val (.int (own_b (own_eq q1 q2 q3 q4))), .val (.int (1 : Int32)), .unset, .unset, .unset, .unset, .unset, .unset]) rfl ?_
        show Steps p.tables e below (T3.setTop (mkF m 80 #[.val (.long q1), .second, .val (.long q2), .second, .val (.long q3), .second, .val (.long q4), .second, .val (.long q5), .second, .val (.long q6), .second, .val (.int (own_b (own_pc q1 q2 q3 q4))), .val (.int (own_b (own_pc q3 q4 q1 q2))), .val (.int (own_b (own_eq q1 q2 q3 q4))), .val (.int (1 : Int32)), .unset, .unset, .unset, .unset, .unset, .unset] [])) _
        exact kt
  have sg13 : ∀ t, Steps p.tables e below (T3.setTop (mkF m 99 #[.val (.long q1), .second, .val (.long q2), .second, .val (.long q3), .second, .val (.long q4), .second, .val (.long q5), .second, .val (.long q6), .second, .val (.int (own_b (own_pc q1 q2 q3 q4))), .val (.int (own_b (own_pc q3 q4 q1 q2))), .val (.int (own_b (own_eq q1 q2 q3 q4))), .val (.int (1 : Int32)), .val (.int (1 : Int32)), .unset, .unset, .unset, .unset, .unset] [])) t → Steps p.tables e below (T3.setTop (mkF m 80 #[.val (.long q1), .second, .val (.long q2), .second, .val (.long q3), .second, .val (.long q4), .second, .val (.long q5), .second, .val (.long q6), .second, .val (.int (own_b (own_pc q1 q2 q3 q4))), .val (.int (own_b (own_pc q3 q4 q1 q2))), .val (.int (own_b (own_eq q1 q2 q3 q4))), .val (.int (1 : Int32)), .unset, .unset, .unset, .unset, .unset, .unset] [])) t := by
    intro t kt
    show Steps p.tables e below (T3.setTop (mkF m 80 #[.val (.long q1), .second, .val (.long q2), .second, .val (.long q3), .second, .val (.long q4), .second, .val (.long q5), .second, .val (.long q6), .second, .val (.int (own_b (own_pc q1 q2 q3 q4))), .val (.int (own_b (own_pc q3 q4 q1 q2))), .val (.int (own_b (own_eq q1 q2 q3 q4))), .val (.int (1 : Int32)), .unset, .unset, .unset, .unset, .unset, .unset] [])) _
    refine XS.lloadN X3.here hx rfl (hb hby at_80) rfl ?_
    show Steps p.tables e below (T3.setTop (mkF m 81 #[.val (.long q1), .second, .val (.long q2), .second, .val (.long q3), .second, .val (.long q4), .second, .val (.long q5), .second, .val (.long q6), .second, .val (.int (own_b (own_pc q1 q2 q3 q4))), .val (.int (own_b (own_pc q3 q4 q1 q2))), .val (.int (own_b (own_eq q1 q2 q3 q4))), .val (.int (1 : Int32)), .unset, .unset, .unset, .unset, .unset, .unset] [(.long q1)])) _
    refine XS.lload X3.here hx rfl (hb hby at_81) rfl ?_
    show Steps p.tables e below (T3.setTop (mkF m 83 #[.val (.long q1), .second, .val (.long q2), .second, .val (.long q3), .second, .val (.long q4), .second, .val (.long q5), .second, .val (.long q6), .second, .val (.int (own_b (own_pc q1 q2 q3 q4))), .val (.int (own_b (own_pc q3 q4 q1 q2))), .val (.int (own_b (own_eq q1 q2 q3 q4))), .val (.int (1 : Int32)), .unset, .unset, .unset, .unset, .unset, .unset] [(.long q3), (.long q1)])) _
    refine XS.lcmp X3.here hx rfl (hb hby at_83) rfl ?_
    by_cases hc84_14 : q1 < q3
    · show Steps p.tables e below (T3.setTop (mkF m 84 #[.val (.long q1), .second, .val (.long q2), .second, .val (.long q3), .second, .val (.long q4), .second, .val (.long q5), .second, .val (.long q6), .second, .val (.int (own_b (own_pc q1 q2 q3 q4))), .val (.int (own_b (own_pc q3 q4 q1 q2))), .val (.int (own_b (own_eq q1 q2 q3 q4))), .val (.int (1 : Int32)), .unset, .unset, .unset, .unset, .unset, .unset] [(.int (lcmpW q1 q3))])) _
      refine XS.ifNo X3.here hx rfl (hb hby at_84) rfl ((if0 _ _).trans (tlt ((lw_lt _ _).mpr hc84_14)).2.1) ?_
      show Steps p.tables e below (T3.setTop (mkF m 87 #[.val (.long q1), .second, .val (.long q2), .second, .val (.long q3), .second, .val (.long q4), .second, .val (.long q5), .second, .val (.long q6), .second, .val (.int (own_b (own_pc q1 q2 q3 q4))), .val (.int (own_b (own_pc q3 q4 q1 q2))), .val (.int (own_b (own_eq q1 q2 q3 q4))), .val (.int (1 : Int32)), .unset, .unset, .unset, .unset, .unset, .unset] [])) _
      refine XS.iload X3.here hx rfl (hb hby at_87) rfl ?_
      by_cases hc89_15 : (own_pc q1 q2 q3 q4) = true
      · show Steps p.tables e below (T3.setTop (mkF m 89 #[.val (.long q1), .second, .val (.long q2), .second, .val (.long q3), .second, .val (.long q4), .second, .val (.long q5), .second, .val (.long q6), .second, .val (.int (own_b (own_pc q1 q2 q3 q4))), .val (.int (own_b (own_pc q3 q4 q1 q2))), .val (.int (own_b (own_eq q1 q2 q3 q4))), .val (.int (1 : Int32)), .unset, .unset, .unset, .unset, .unset, .unset] [(.int (own_b (own_pc q1 q2 q3 q4)))])) _
        refine XS.ifNo X3.here hx rfl (hb hby at_89) rfl ((if0 _ _).trans (feq (own_b1 hc89_15)).1) ?_
        show Steps p.tables e below (T3.setTop (mkF m 92 #[.val (.long q1), .second, .val (.long q2), .second, .val (.long q3), .second, .val (.long q4), .second, .val (.long q5), .second, .val (.long q6), .second, .val (.int (own_b (own_pc q1 q2 q3 q4))), .val (.int (own_b (own_pc q3 q4 q1 q2))), .val (.int (own_b (own_eq q1 q2 q3 q4))), .val (.int (1 : Int32)), .unset, .unset, .unset, .unset, .unset, .unset] [])) _
        refine XS.iconst X3.here hx rfl (hb hby at_92) ?_
        show Steps p.tables e below (T3.setTop (mkF m 93 #[.val (.long q1), .second, .val (.long q2), .second, .val (.long q3), .second, .val (.long q4), .second, .val (.long q5), .second, .val (.long q6), .second, .val (.int (own_b (own_pc q1 q2 q3 q4))), .val (.int (own_b (own_pc q3 q4 q1 q2))), .val (.int (own_b (own_eq q1 q2 q3 q4))), .val (.int (1 : Int32)), .unset, .unset, .unset, .unset, .unset, .unset] [(.int (1 : Int32))])) _
        refine XS.goto X3.here hx rfl (pc0 := 93) (pc' := 97) rfl (hb hby at_93) (by decide) (by decide) ?_
        show Steps p.tables e below (T3.setTop (mkF m 97 #[.val (.long q1), .second, .val (.long q2), .second, .val (.long q3), .second, .val (.long q4), .second, .val (.long q5), .second, .val (.long q6), .second, .val (.int (own_b (own_pc q1 q2 q3 q4))), .val (.int (own_b (own_pc q3 q4 q1 q2))), .val (.int (own_b (own_eq q1 q2 q3 q4))), .val (.int (1 : Int32)), .unset, .unset, .unset, .unset, .unset, .unset] [(.int (1 : Int32))])) _
        refine XS.istore X3.here hx rfl (hb hby at_97) rfl (l' := #[.val (.long q1), .second, .val (.long q2), .second, .val (.long q3), .second, .val (.long q4), .second, .val (.long q5), .second, .val (.long q6), .second, .val (.int (own_b (own_pc q1 q2 q3 q4))), .val (.int (own_b (own_pc q3 q4 q1 q2))), .val (.int (own_b (own_eq q1 q2 q3 q4))), .val (.int (1 : Int32)), .val (.int (1 : Int32)), .unset, .unset, .unset, .unset, .unset]) rfl ?_
        show Steps p.tables e below (T3.setTop (mkF m 99 #[.val (.long q1), .second, .val (.long q2), .second, .val (.long q3), .second, .val (.long q4), .second, .val (.long q5), .second, .val (.long q6), .second, .val (.int (own_b (own_pc q1 q2 q3 q4))), .val (.int (own_b (own_pc q3 q4 q1 q2))), .val (.int (own_b (own_eq q1 q2 q3 q4))), .val (.int (1 : Int32)), .val (.int (1 : Int32)), .unset, .unset, .unset, .unset, .unset] [])) _
        exact kt
      · show Steps p.tables e below (T3.setTop (mkF m 89 #[.val (.long q1), .second, .val (.long q2), .second, .val (.long q3), .second, .val (.long q4), .second, .val (.long q5), .second, .val (.long q6), .second, .val (.int (own_b (own_pc q1 q2 q3 q4))), .val (.int (own_b (own_pc q3 q4 q1 q2))), .val (.int (own_b (own_eq q1 q2 q3 q4))), .val (.int (1 : Int32)), .unset, .unset, .unset, .unset, .unset, .unset] [(.int (own_b (own_pc q1 q2 q3 q4)))])) _
        refine XS.ifYes X3.here hx rfl (pc0 := 89) (pc' := 96) rfl (hb hby at_89) rfl ((if0 _ _).trans (teq (own_b0 hc89_15)).1) (by decide) (by decide) ?_
        show Steps p.tables e below (T3.setTop (mkF m 96 #[.val (.long q1), .second, .val (.long q2), .second, .val (.long q3), .second, .val (.long q4), .second, .val (.long q5), .second, .val (.long q6), .second, .val (.int (own_b (own_pc q1 q2 q3 q4))), .val (.int (own_b (own_pc q3 q4 q1 q2))), .val (.int (own_b (own_eq q1 q2 q3 q4))), .val (.int (1 : Int32)), .unset, .unset, .unset, .unset, .unset, .unset] [])) _
        refine XS.iconst X3.here hx rfl (hb hby at_96) ?_
        show Steps p.tables e below (T3.setTop (mkF m 97 #[.val (.long q1), .second, .val (.long q2), .second, .val (.long q3), .second, .val (.long q4), .second, .val (.long q5), .second, .val (.long q6), .second, .val (.int (own_b (own_pc q1 q2 q3 q4))), .val (.int (own_b (own_pc q3 q4 q1 q2))), .val (.int (own_b (own_eq q1 q2 q3 q4))), .val (.int (1 : Int32)), .unset, .unset, .unset, .unset, .unset, .unset] [(.int (0 : Int32))])) _
        refine XS.istore X3.here hx rfl (hb hby at_97) rfl (l' := #[.val (.long q1), .second, .val (.long q2), .second, .val (.long q3), .second, .val (.long q4), .second, .val (.long q5), .second, .val (.long q6), .second, .val (.int (own_b (own_pc q1 q2 q3 q4))), .val (.int (own_b (own_pc q3 q4 q1 q2))), .val (.int (own_b (own_eq q1 q2 q3 q4))), .val (.int (1 : Int32)), .val (.int (0 : Int32)), .unset, .unset, .unset, .unset, .unset]) rfl ?_
        show Steps p.tables e below (T3.setTop (mkF m 99 #[.val (.long q1), .second, .val (.long q2), .second, .val (.long q3), .second, .val (.long q4), .second, .val (.long q5), .second, .val (.long q6), .second, .val (.int (own_b (own_pc q1 q2 q3 q4))), .val (.int (own_b (own_pc q3 q4 q1 q2))), .val (.int (own_b (own_eq q1 q2 q3 q4))), .val (.int (1 : Int32)), .val (.int (0 : Int32)), .unset, .unset, .unset, .unset, .unset] [])) _
        exfalso
        simp only [own_pci, own_eqi, own_bi, own_bi1, own_bi0, Int64.lt_iff_toInt_lt, ← Int64.toInt_inj, true_and, and_true, false_or, Int.lt_irrefl] at hc84_14 hc89_15; omega
    · show Steps p.tables e below (T3.setTop (mkF m 84 #[.val (.long q1), .second, .val (.long q2), .second, .val (.long q3), .second, .val (.long q4), .second, .val (.long q5), .second, .val (.long q6), .second, .val (.int (own_b (own_pc q1 q2 q3 q4))), .val (.int (own_b (own_pc q3 q4 q1 q2))), .val (.int (own_b (own_eq q1 q2 q3 q4))), .val (.int (1 : Int32)), .unset, .unset, .unset, .unset, .unset, .unset] [(.int (lcmpW q1 q3))])) _
      refine XS.ifYes X3.here hx rfl (pc0 := 84) (pc' := 92) rfl (hb hby at_84) rfl ((if0 _ _).trans (flt (fun q => hc84_14 ((lw_lt _ _).mp q))).2.1) (by decide) (by decide) ?_
      show Steps p.tables e below (T3.setTop (mkF m 92 #[.val (.long q1), .second, .val (.long q2), .second, .val (.long q3), .second, .val (.long q4), .second, .val (.long q5), .second, .val (.long q6), .second, .val (.int (own_b (own_pc q1 q2 q3 q4))), .val (.int (own_b (own_pc q3 q4 q1 q2))), .val (.int (own_b (own_eq q1 q2 q3 q4))), .val (.int (1 : Int32)), .unset, .unset, .unset, .unset, .unset, .unset] [])) _
      refine XS.iconst X3.here hx rfl (hb hby at_92) ?_
      show Steps p.tables e below (T3.setTop (mkF m 93 #[.val (.long q1), .second, .val (.long q2), .second, .val (.long q3), .second, .val (.long q4), .second, .val (.long q5), .second, .val (.long q6), .second, .val (.int (own_b (own_pc q1 q2 q3 q4))), .val (.int (own_b (own_pc q3 q4 q1 q2))), .val (.int (own_b (own_eq q1 q2 q3 q4))), .val (.int (1 : Int32)), .unset, .unset, .unset, .unset, .unset, .unset] [(.int (1 : Int32))])) _
      refine XS.goto X3.here hx rfl (pc0 := 93) (pc' := 97) rfl (hb hby at_93) (by decide) (by decide) ?_
      show Steps p.tables e below (T3.setTop (mkF m 97 #[.val (.long q1), .second, .val (.long q2), .second, .val (.long q3), .second, .val (.long q4), .second, .val (.long q5), .second, .val (.long q6), .second, .val (.int (own_b (own_pc q1 q2 q3 q4))), .val (.int (own_b (own_pc q3 q4 q1 q2))), .val (.int (own_b (own_eq q1 q2 q3 q4))), .val (.int (1 : Int32)), .unset, .unset, .unset, .unset, .unset, .unset] [(.int (1 : Int32))])) _
      refine XS.istore X3.here hx rfl (hb hby at_97) rfl (l' := #[.val (.long q1), .second, .val (.long q2), .second, .val (.long q3), .second, .val (.long q4), .second, .val (.long q5), .second, .val (.long q6), .second, .val (.int (own_b (own_pc q1 q2 q3 q4))), .val (.int (own_b (own_pc q3 q4 q1 q2))), .val (.int (own_b (own_eq q1 q2 q3 q4))), .val (.int (1 : Int32)), .val (.int (1 : Int32)), .unset, .unset, .unset, .unset, .unset]) rfl ?_
      show Steps p.tables e below (T3.setTop (mkF m 99 #[.val (.long q1), .second, .val (.long q2), .second, .val (.long q3), .second, .val (.long q4), .second, .val (.long q5), .second, .val (.long q6), .second, .val (.int (own_b (own_pc q1 q2 q3 q4))), .val (.int (own_b (own_pc q3 q4 q1 q2))), .val (.int (own_b (own_eq q1 q2 q3 q4))), .val (.int (1 : Int32)), .val (.int (1 : Int32)), .unset, .unset, .unset, .unset, .unset] [])) _
      exact kt
  have pr17 : ∀ t, Steps p.tables e below (T3.setTop (mkF m 104 #[.val (.long q1), .second, .val (.long q2), .second, .val (.long q3), .second, .val (.long q4), .second, .val (.long q5), .second, .val (.long q6), .second, .val (.int (own_b (own_pc q1 q2 q3 q4))), .val (.int (own_b (own_pc q3 q4 q1 q2))), .val (.int (own_b (own_eq q1 q2 q3 q4))), .val (.int (1 : Int32)), .val (.int (1 : Int32)), .unset, .unset, .unset, .unset, .unset] [(.long q4), (.long q1), (.long q2), (.long q1)])) t → Steps p.tables e below (s₁.setTop (entryFrame m #[(.long q1), (.long q2), (.long q3), (.long q4), (.long q5), (.long q6)] maxLocals)) t := fun t kt => pr4 t (by
    refine st3 _ ?_
    show Steps p.tables e below (T3.setTop (mkF m 20 #[.val (.long q1), .second, .val (.long q2), .second, .val (.long q3), .second, .val (.long q4), .second, .val (.long q5), .second, .val (.long q6), .second, .val (.int (own_b (own_pc q1 q2 q3 q4))), .unset, .unset, .unset, .unset, .unset, .unset, .unset, .unset, .unset] [(.int (own_b (own_pc q3 q4 q1 q2)))])) _
    refine XS.istore X3.here hx rfl (hb hby at_20) rfl (l' := #[.val (.long q1), .second, .val (.long q2), .second, .val (.long q3), .second, .val (.long q4), .second, .val (.long q5), .second, .val (.long q6), .second, .val (.int (own_b (own_pc q1 q2 q3 q4))), .val (.int (own_b (own_pc q3 q4 q1 q2))), .unset, .unset, .unset, .unset, .unset, .unset, .unset, .unset]) rfl ?_
    show Steps p.tables e below (T3.setTop (mkF m 22 #[.val (.long q1), .second, .val (.long q2), .second, .val (.long q3), .second, .val (.long q4), .second, .val (.long q5), .second, .val (.long q6), .second, .val (.int (own_b (own_pc q1 q2 q3 q4))), .val (.int (own_b (own_pc q3 q4 q1 q2))), .unset, .unset, .unset, .unset, .unset, .unset, .unset, .unset] [])) _
    refine sg5 _ ?_
    show Steps p.tables e below (T3.setTop (mkF m 41 #[.val (.long q1), .second, .val (.long q2), .second, .val (.long q3), .second, .val (.long q4), .second, .val (.long q5), .second, .val (.long q6), .second, .val (.int (own_b (own_pc q1 q2 q3 q4))), .val (.int (own_b (own_pc q3 q4 q1 q2))), .unset, .unset, .unset, .unset, .unset, .unset, .unset, .unset] [(.int (own_b (own_eq q1 q2 q3 q4)))])) _
    refine XS.istore X3.here hx rfl (hb hby at_41) rfl (l' := #[.val (.long q1), .second, .val (.long q2), .second, .val (.long q3), .second, .val (.long q4), .second, .val (.long q5), .second, .val (.long q6), .second, .val (.int (own_b (own_pc q1 q2 q3 q4))), .val (.int (own_b (own_pc q3 q4 q1 q2))), .val (.int (own_b (own_eq q1 q2 q3 q4))), .unset, .unset, .unset, .unset, .unset, .unset, .unset]) rfl ?_
    show Steps p.tables e below (T3.setTop (mkF m 43 #[.val (.long q1), .second, .val (.long q2), .second, .val (.long q3), .second, .val (.long q4), .second, .val (.long q5), .second, .val (.long q6), .second, .val (.int (own_b (own_pc q1 q2 q3 q4))), .val (.int (own_b (own_pc q3 q4 q1 q2))), .val (.int (own_b (own_eq q1 q2 q3 q4))), .unset, .unset, .unset, .unset, .unset, .unset, .unset] [])) _
    refine sg8 _ ?_
    show Steps p.tables e below (T3.setTop (mkF m 80 #[.val (.long q1), .second, .val (.long q2), .second, .val (.long q3), .second, .val (.long q4), .second, .val (.long q5), .second, .val (.long q6), .second, .val (.int (own_b (own_pc q1 q2 q3 q4))), .val (.int (own_b (own_pc q3 q4 q1 q2))), .val (.int (own_b (own_eq q1 q2 q3 q4))), .val (.int (1 : Int32)), .unset, .unset, .unset, .unset, .unset, .unset] [])) _
    refine sg13 _ ?_
    show Steps p.tables e below (T3.setTop (mkF m 99 #[.val (.long q1), .second, .val (.long q2), .second, .val (.long q3), .second, .val (.long q4), .second, .val (.long q5), .second, .val (.long q6), .second, .val (.int (own_b (own_pc q1 q2 q3 q4))), .val (.int (own_b (own_pc q3 q4 q1 q2))), .val (.int (own_b (own_eq q1 q2 q3 q4))), .val (.int (1 : Int32)), .val (.int (1 : Int32)), .unset, .unset, .unset, .unset, .unset] [])) _
    refine XS.lloadN X3.here hx rfl (hb hby at_99) rfl ?_
    show Steps p.tables e below (T3.setTop (mkF m 100 #[.val (.long q1), .second, .val (.long q2), .second, .val (.long q3), .second, .val (.long q4), .second, .val (.long q5), .second, .val (.long q6), .second, .val (.int (own_b (own_pc q1 q2 q3 q4))), .val (.int (own_b (own_pc q3 q4 q1 q2))), .val (.int (own_b (own_eq q1 q2 q3 q4))), .val (.int (1 : Int32)), .val (.int (1 : Int32)), .unset, .unset, .unset, .unset, .unset] [(.long q1)])) _
    refine XS.lloadN X3.here hx rfl (hb hby at_100) rfl ?_
    show Steps p.tables e below (T3.setTop (mkF m 101 #[.val (.long q1), .second, .val (.long q2), .second, .val (.long q3), .second, .val (.long q4), .second, .val (.long q5), .second, .val (.long q6), .second, .val (.int (own_b (own_pc q1 q2 q3 q4))), .val (.int (own_b (own_pc q3 q4 q1 q2))), .val (.int (own_b (own_eq q1 q2 q3 q4))), .val (.int (1 : Int32)), .val (.int (1 : Int32)), .unset, .unset, .unset, .unset, .unset] [(.long q2), (.long q1)])) _
    refine XS.lloadN X3.here hx rfl (hb hby at_101) rfl ?_
    show Steps p.tables e below (T3.setTop (mkF m 102 #[.val (.long q1), .second, .val (.long q2), .second, .val (.long q3), .second, .val (.long q4), .second, .val (.long q5), .second, .val (.long q6), .second, .val (.int (own_b (own_pc q1 q2 q3 q4))), .val (.int (own_b (own_pc q3 q4 q1 q2))), .val (.int (own_b (own_eq q1 q2 q3 q4))), .val (.int (1 : Int32)), .val (.int (1 : Int32)), .unset, .unset, .unset, .unset, .unset] [(.long q1), (.long q2), (.long q1)])) _
    refine XS.lload X3.here hx rfl (hb hby at_102) rfl ?_
    show Steps p.tables e below (T3.setTop (mkF m 104 #[.val (.long q1), .second, .val (.long q2), .second, .val (.long q3), .second, .val (.long q4), .second, .val (.long q5), .second, .val (.long q6), .second, .val (.int (own_b (own_pc q1 q2 q3 q4))), .val (.int (own_b (own_pc q3 q4 q1 q2))), .val (.int (own_b (own_eq q1 q2 q3 q4))), .val (.int (1 : Int32)), .val (.int (1 : Int32)), .unset, .unset, .unset, .unset, .unset] [(.long q4), (.long q1), (.long q2), (.long q1)])) _
    exact kt)
  obtain ⟨_, _, ⟨T16, L16, k16, n16⟩, -, X16, ⟨Lc16, hQ16, l16, y16, z16⟩, st16⟩ := Jvm.LawKit.callS X3 hx (y := (⟨"com/example/treadle/treadle/MessageHeap", "precedes", "(JJJJ)Z"⟩ : MethodName)) hown (mvT hZ (hw _ (List.mem_of_getElem? (i := 0) rfl))) (mvT hZ (hw _ (List.mem_of_getElem? (i := 1) rfl))) (mvT hZ (hw _ (List.mem_of_getElem? (i := 2) rfl))) (mvT hZ (hw _ (List.mem_of_getElem? (i := 3) rfl))) (by decide) (backOf (W := 0) (rm_pc l Z a0 hw [] q1 q2 q1 q4 h0 n0 Z0 ) hZ (hw _ (List.mem_of_getElem? (i := 3) rfl)) (hw _ (List.mem_of_getElem? (i := 2) rfl)) (by decide) (by decide)) (g := (mkF m 104 #[.val (.long q1), .second, .val (.long q2), .second, .val (.long q3), .second, .val (.long q4), .second, .val (.long q5), .second, .val (.long q6), .second, .val (.int (own_b (own_pc q1 q2 q3 q4))), .val (.int (own_b (own_pc q3 q4 q1 q2))), .val (.int (own_b (own_eq q1 q2 q3 q4))), .val (.int (1 : Int32)), .val (.int (1 : Int32)), .unset, .unset, .unset, .unset, .unset] [(.long q4), (.long q1), (.long q2), (.long q1)])) rfl (by rw [hml]; rfl) (argsL := [(.long q1), (.long q2), (.long q1), (.long q4)]) (rest := []) (lenOf pd_law_0 rfl) rfl (by show 2 * 0 + _ ≤ _; exact Nat.le_of_eq rfl) (hb hby at_104) (fun _ _ => ⟨rfl, e3, (by decide : 0 + 0 ≤ _), (by decide : 0 + 0 ≤ _)⟩)
  dsimp only [Pt.U, Pt.locs, Pt.cells, Pt.slots] at X16 l16 y16 z16 st16 hQ16
  subst l16 y16 z16
  obtain ⟨rfl, N16q, e16⟩ := hQ16
  have N16 := Fr.app N3 N16q
  have sg18 : ∀ t, Steps p.tables e below (T16.setTop (mkF m 129 #[.val (.long q1), .second, .val (.long q2), .second, .val (.long q3), .second, .val (.long q4), .second, .val (.long q5), .second, .val (.long q6), .second, .val (.int (own_b (own_pc q1 q2 q3 q4))), .val (.int (own_b (own_pc q3 q4 q1 q2))), .val (.int (own_b (own_eq q1 q2 q3 q4))), .val (.int (1 : Int32)), .val (.int (1 : Int32)), .val (.int (1 : Int32)), .unset, .unset, .unset, .unset] [])) t → Steps p.tables e below (T16.setTop (mkF m 107 #[.val (.long q1), .second, .val (.long q2), .second, .val (.long q3), .second, .val (.long q4), .second, .val (.long q5), .second, .val (.long q6), .second, .val (.int (own_b (own_pc q1 q2 q3 q4))), .val (.int (own_b (own_pc q3 q4 q1 q2))), .val (.int (own_b (own_eq q1 q2 q3 q4))), .val (.int (1 : Int32)), .val (.int (1 : Int32)), .unset, .unset, .unset, .unset, .unset] [(.int (own_b (own_pc q1 q2 q1 q4)))])) t := by
    intro t kt
    show Steps p.tables e below (T16.setTop (mkF m 107 #[.val (.long q1), .second, .val (.long q2), .second, .val (.long q3), .second, .val (.long q4), .second, .val (.long q5), .second, .val (.long q6), .second, .val (.int (own_b (own_pc q1 q2 q3 q4))), .val (.int (own_b (own_pc q3 q4 q1 q2))), .val (.int (own_b (own_eq q1 q2 q3 q4))), .val (.int (1 : Int32)), .val (.int (1 : Int32)), .unset, .unset, .unset, .unset, .unset] [(.int (own_b (own_pc q1 q2 q1 q4)))])) _
    refine XS.lloadN X16.here hx rfl (hb hby at_107) rfl ?_
    show Steps p.tables e below (T16.setTop (mkF m 108 #[.val (.long q1), .second, .val (.long q2), .second, .val (.long q3), .second, .val (.long q4), .second, .val (.long q5), .second, .val (.long q6), .second, .val (.int (own_b (own_pc q1 q2 q3 q4))), .val (.int (own_b (own_pc q3 q4 q1 q2))), .val (.int (own_b (own_eq q1 q2 q3 q4))), .val (.int (1 : Int32)), .val (.int (1 : Int32)), .unset, .unset, .unset, .unset, .unset] [(.long q2), (.int (own_b (own_pc q1 q2 q1 q4)))])) _
    refine XS.lload X16.here hx rfl (hb hby at_108) rfl ?_
    show Steps p.tables e below (T16.setTop (mkF m 110 #[.val (.long q1), .second, .val (.long q2), .second, .val (.long q3), .second, .val (.long q4), .second, .val (.long q5), .second, .val (.long q6), .second, .val (.int (own_b (own_pc q1 q2 q3 q4))), .val (.int (own_b (own_pc q3 q4 q1 q2))), .val (.int (own_b (own_eq q1 q2 q3 q4))), .val (.int (1 : Int32)), .val (.int (1 : Int32)), .unset, .unset, .unset, .unset, .unset] [(.long q4), (.long q2), (.int (own_b (own_pc q1 q2 q1 q4)))])) _
    refine XS.lcmp X16.here hx rfl (hb hby at_110) rfl ?_
    by_cases hc111_19 : q2 < q4
    · show Steps p.tables e below (T16.setTop (mkF m 111 #[.val (.long q1), .second, .val (.long q2), .second, .val (.long q3), .second, .val (.long q4), .second, .val (.long q5), .second, .val (.long q6), .second, .val (.int (own_b (own_pc q1 q2 q3 q4))), .val (.int (own_b (own_pc q3 q4 q1 q2))), .val (.int (own_b (own_eq q1 q2 q3 q4))), .val (.int (1 : Int32)), .val (.int (1 : Int32)), .unset, .unset, .unset, .unset, .unset] [(.int (lcmpW q2 q4)), (.int (own_b (own_pc q1 q2 q1 q4)))])) _
      refine XS.ifNo X16.here hx rfl (hb hby at_111) rfl ((if0 _ _).trans (tlt ((lw_lt _ _).mpr hc111_19)).2.1) ?_
      show Steps p.tables e below (T16.setTop (mkF m 114 #[.val (.long q1), .second, .val (.long q2), .second, .val (.long q3), .second, .val (.long q4), .second, .val (.long q5), .second, .val (.long q6), .second, .val (.int (own_b (own_pc q1 q2 q3 q4))), .val (.int (own_b (own_pc q3 q4 q1 q2))), .val (.int (own_b (own_eq q1 q2 q3 q4))), .val (.int (1 : Int32)), .val (.int (1 : Int32)), .unset, .unset, .unset, .unset, .unset] [(.int (own_b (own_pc q1 q2 q1 q4)))])) _
      refine XS.iconst X16.here hx rfl (hb hby at_114) ?_
      show Steps p.tables e below (T16.setTop (mkF m 115 #[.val (.long q1), .second, .val (.long q2), .second, .val (.long q3), .second, .val (.long q4), .second, .val (.long q5), .second, .val (.long q6), .second, .val (.int (own_b (own_pc q1 q2 q3 q4))), .val (.int (own_b (own_pc q3 q4 q1 q2))), .val (.int (own_b (own_eq q1 q2 q3 q4))), .val (.int (1 : Int32)), .val (.int (1 : Int32)), .unset, .unset, .unset, .unset, .unset] [(.int (1 : Int32)), (.int (own_b (own_pc q1 q2 q1 q4)))])) _
      refine XS.goto X16.here hx rfl (pc0 := 115) (pc' := 119) rfl (hb hby at_115) (by decide) (by decide) ?_
      by_cases hc119_20 : (own_b (own_pc q1 q2 q1 q4)) = (1 : Int32)
      · show Steps p.tables e below (T16.setTop (mkF m 119 #[.val (.long q1), .second, .val (.long q2), .second, .val (.long q3), .second, .val (.long q4), .second, .val (.long q5), .second, .val (.long q6), .second, .val (.int (own_b (own_pc q1 q2 q3 q4))), .val (.int (own_b (own_pc q3 q4 q1 q2))), .val (.int (own_b (own_eq q1 q2 q3 q4))), .val (.int (1 : Int32)), .val (.int (1 : Int32)), .unset, .unset, .unset, .unset, .unset] [(.int (1 : Int32)), (.int (own_b (own_pc q1 q2 q1 q4)))])) _
        refine XS.icmpNo X16.here hx rfl (hb hby at_119) rfl (teq hc119_20).2 ?_
        show Steps p.tables e below (T16.setTop (mkF m 122 #[.val (.long q1), .second, .val (.long q2), .second, .val (.long q3), .second, .val (.long q4), .second, .val (.long q5), .second, .val (.long q6), .second, .val (.int (own_b (own_pc q1 q2 q3 q4))), .val (.int (own_b (own_pc q3 q4 q1 q2))), .val (.int (own_b (own_eq q1 q2 q3 q4))), .val (.int (1 : Int32)), .val (.int (1 : Int32)), .unset, .unset, .unset, .unset, .unset] [])) _
        refine XS.iconst X16.here hx rfl (hb hby at_122) ?_
        show Steps p.tables e below (T16.setTop (mkF m 123 #[.val (.long q1), .second, .val (.long q2), .second, .val (.long q3), .second, .val (.long q4), .second, .val (.long q5), .second, .val (.long q6), .second, .val (.int (own_b (own_pc q1 q2 q3 q4))), .val (.int (own_b (own_pc q3 q4 q1 q2))), .val (.int (own_b (own_eq q1 q2 q3 q4))), .val (.int (1 : Int32)), .val (.int (1 : Int32)), .unset, .unset, .unset, .unset, .unset] [(.int (1 : Int32))])) _
        refine XS.goto X16.here hx rfl (pc0 := 123) (pc' := 127) rfl (hb hby at_123) (by decide) (by decide) ?_
        show Steps p.tables e below (T16.setTop (mkF m 127 #[.val (.long q1), .second, .val (.long q2), .second, .val (.long q3), .second, .val (.long q4), .second, .val (.long q5), .second, .val (.long q6), .second, .val (.int (own_b (own_pc q1 q2 q3 q4))), .val (.int (own_b (own_pc q3 q4 q1 q2))), .val (.int (own_b (own_eq q1 q2 q3 q4))), .val (.int (1 : Int32)), .val (.int (1 : Int32)), .unset, .unset, .unset, .unset, .unset] [(.int (1 : Int32))])) _
        refine XS.istore X16.here hx rfl (hb hby at_127) rfl (l' := #[.val (.long q1), .second, .val (.long q2), .second, .val (.long q3), .second, .val (.long q4), .second, .val (.long q5), .second, .val (.long q6), .second, .val (.int (own_b (own_pc q1 q2 q3 q4))), .val (.int (own_b (own_pc q3 q4 q1 q2))), .val (.int (own_b (own_eq q1 q2 q3 q4))), .val (.int (1 : Int32)), .val (.int (1 : Int32)), .val (.int (1 : Int32)), .unset, .unset, .unset, .unset]) rfl ?_
        show Steps p.tables e below (T16.setTop (mkF m 129 #[.val (.long q1), .second, .val (.long q2), .second, .val (.long q3), .second, .val (.long q4), .second, .val (.long q5), .second, .val (.long q6), .second, .val (.int (own_b (own_pc q1 q2 q3 q4))), .val (.int (own_b (own_pc q3 q4 q1 q2))), .val (.int (own_b (own_eq q1 q2 q3 q4))), .val (.int (1 : Int32)), .val (.int (1 : Int32)), .val (.int (1 : Int32)), .unset, .unset, .unset, .unset] [])) _
        exact kt
      · show Steps p.tables e below (T16.setTop (mkF m 119 #[.val (.long q1), .second, .val (.long q2), .second, .val (.long q3), .second, .val (.long q4), .second, .val (.long q5), .second, .val (.long q6), .second, .val (.int (own_b (own_pc q1 q2 q3 q4))), .val (.int (own_b (own_pc q3 q4 q1 q2))), .val (.int (own_b (own_eq q1 q2 q3 q4))), .val (.int (1 : Int32)), .val (.int (1 : Int32)), .unset, .unset, .unset, .unset, .unset] [(.int (1 : Int32)), (.int (own_b (own_pc q1 q2 q1 q4)))])) _
        refine XS.icmpYes X16.here hx rfl (pc0 := 119) (pc' := 126) rfl (hb hby at_119) rfl (feq hc119_20).2 (by decide) (by decide) ?_
        show Steps p.tables e below (T16.setTop (mkF m 126 #[.val (.long q1), .second, .val (.long q2), .second, .val (.long q3), .second, .val (.long q4), .second, .val (.long q5), .second, .val (.long q6), .second, .val (.int (own_b (own_pc q1 q2 q3 q4))), .val (.int (own_b (own_pc q3 q4 q1 q2))), .val (.int (own_b (own_eq q1 q2 q3 q4))), .val (.int (1 : Int32)), .val (.int (1 : Int32)), .unset, .unset, .unset, .unset, .unset] [])) _
        refine XS.iconst X16.here hx rfl (hb hby at_126) ?_
        show Steps p.tables e below (T16.setTop (mkF m 127 #[.val (.long q1), .second, .val (.long q2), .second, .val (.long q3), .second, .val (.long q4), .second, .val (.long q5), .second, .val (.long q6), .second, .val (.int (own_b (own_pc q1 q2 q3 q4))), .val (.int (own_b (own_pc q3 q4 q1 q2))), .val (.int (own_b (own_eq q1 q2 q3 q4))), .val (.int (1 : Int32)), .val (.int (1 : Int32)), .unset, .unset, .unset, .unset, .unset] [(.int (0 : Int32))])) _
        refine XS.istore X16.here hx rfl (hb hby at_127) rfl (l' := #[.val (.long q1), .second, .val (.long q2), .second, .val (.long q3), .second, .val (.long q4), .second, .val (.long q5), .second, .val (.long q6), .second, .val (.int (own_b (own_pc q1 q2 q3 q4))), .val (.int (own_b (own_pc q3 q4 q1 q2))), .val (.int (own_b (own_eq q1 q2 q3 q4))), .val (.int (1 : Int32)), .val (.int (1 : Int32)), .val (.int (0 : Int32)), .unset, .unset, .unset, .unset]) rfl ?_
        show Steps p.tables e below (T16.setTop (mkF m 129 #[.val (.long q1), .second, .val (.long q2), .second, .val (.long q3), .second, .val (.long q4), .second, .val (.long q5), .second, .val (.long q6), .second, .val (.int (own_b (own_pc q1 q2 q3 q4))), .val (.int (own_b (own_pc q3 q4 q1 q2))), .val (.int (own_b (own_eq q1 q2 q3 q4))), .val (.int (1 : Int32)), .val (.int (1 : Int32)), .val (.int (0 : Int32)), .unset, .unset, .unset, .unset] [])) _
        exfalso
        simp only [own_pci, own_eqi, own_bi, own_bi1, own_bi0, Int64.lt_iff_toInt_lt, ← Int64.toInt_inj, true_and, and_true, false_or, Int.lt_irrefl] at hc111_19 hc119_20; omega
    · show Steps p.tables e below (T16.setTop (mkF m 111 #[.val (.long q1), .second, .val (.long q2), .second, .val (.long q3), .second, .val (.long q4), .second, .val (.long q5), .second, .val (.long q6), .second, .val (.int (own_b (own_pc q1 q2 q3 q4))), .val (.int (own_b (own_pc q3 q4 q1 q2))), .val (.int (own_b (own_eq q1 q2 q3 q4))), .val (.int (1 : Int32)), .val (.int (1 : Int32)), .unset, .unset, .unset, .unset, .unset] [(.int (lcmpW q2 q4)), (.int (own_b (own_pc q1 q2 q1 q4)))])) _
      refine XS.ifYes X16.here hx rfl (pc0 := 111) (pc' := 118) rfl (hb hby at_111) rfl ((if0 _ _).trans (flt (fun q => hc111_19 ((lw_lt _ _).mp q))).2.1) (by decide) (by decide) ?_
      show Steps p.tables e below (T16.setTop (mkF m 118 #[.val (.long q1), .second, .val (.long q2), .second, .val (.long q3), .second, .val (.long q4), .second, .val (.long q5), .second, .val (.long q6), .second, .val (.int (own_b (own_pc q1 q2 q3 q4))), .val (.int (own_b (own_pc q3 q4 q1 q2))), .val (.int (own_b (own_eq q1 q2 q3 q4))), .val (.int (1 : Int32)), .val (.int (1 : Int32)), .unset, .unset, .unset, .unset, .unset] [(.int (own_b (own_pc q1 q2 q1 q4)))])) _
      refine XS.iconst X16.here hx rfl (hb hby at_118) ?_
      by_cases hc119_21 : (own_b (own_pc q1 q2 q1 q4)) = (0 : Int32)
      · show Steps p.tables e below (T16.setTop (mkF m 119 #[.val (.long q1), .second, .val (.long q2), .second, .val (.long q3), .second, .val (.long q4), .second, .val (.long q5), .second, .val (.long q6), .second, .val (.int (own_b (own_pc q1 q2 q3 q4))), .val (.int (own_b (own_pc q3 q4 q1 q2))), .val (.int (own_b (own_eq q1 q2 q3 q4))), .val (.int (1 : Int32)), .val (.int (1 : Int32)), .unset, .unset, .unset, .unset, .unset] [(.int (0 : Int32)), (.int (own_b (own_pc q1 q2 q1 q4)))])) _
        refine XS.icmpNo X16.here hx rfl (hb hby at_119) rfl (teq hc119_21).2 ?_
        show Steps p.tables e below (T16.setTop (mkF m 122 #[.val (.long q1), .second, .val (.long q2), .second, .val (.long q3), .second, .val (.long q4), .second, .val (.long q5), .second, .val (.long q6), .second, .val (.int (own_b (own_pc q1 q2 q3 q4))), .val (.int (own_b (own_pc q3 q4 q1 q2))), .val (.int (own_b (own_eq q1 q2 q3 q4))), .val (.int (1 : Int32)), .val (.int (1 : Int32)), .unset, .unset, .unset, .unset, .unset] [])) _
        refine XS.iconst X16.here hx rfl (hb hby at_122) ?_
        show Steps p.tables e below (T16.setTop (mkF m 123 #[.val (.long q1), .second, .val (.long q2), .second, .val (.long q3), .second, .val (.long q4), .second, .val (.long q5), .second, .val (.long q6), .second, .val (.int (own_b (own_pc q1 q2 q3 q4))), .val (.int (own_b (own_pc q3 q4 q1 q2))), .val (.int (own_b (own_eq q1 q2 q3 q4))), .val (.int (1 : Int32)), .val (.int (1 : Int32)), .unset, .unset, .unset, .unset, .unset] [(.int (1 : Int32))])) _
        refine XS.goto X16.here hx rfl (pc0 := 123) (pc' := 127) rfl (hb hby at_123) (by decide) (by decide) ?_
        show Steps p.tables e below (T16.setTop (mkF m 127 #[.val (.long q1), .second, .val (.long q2), .second, .val (.long q3), .second, .val (.long q4), .second, .val (.long q5), .second, .val (.long q6), .second, .val (.int (own_b (own_pc q1 q2 q3 q4))), .val (.int (own_b (own_pc q3 q4 q1 q2))), .val (.int (own_b (own_eq q1 q2 q3 q4))), .val (.int (1 : Int32)), .val (.int (1 : Int32)), .unset, .unset, .unset, .unset, .unset] [(.int (1 : Int32))])) _
        refine XS.istore X16.here hx rfl (hb hby at_127) rfl (l' := #[.val (.long q1), .second, .val (.long q2), .second, .val (.long q3), .second, .val (.long q4), .second, .val (.long q5), .second, .val (.long q6), .second, .val (.int (own_b (own_pc q1 q2 q3 q4))), .val (.int (own_b (own_pc q3 q4 q1 q2))), .val (.int (own_b (own_eq q1 q2 q3 q4))), .val (.int (1 : Int32)), .val (.int (1 : Int32)), .val (.int (1 : Int32)), .unset, .unset, .unset, .unset]) rfl ?_
        show Steps p.tables e below (T16.setTop (mkF m 129 #[.val (.long q1), .second, .val (.long q2), .second, .val (.long q3), .second, .val (.long q4), .second, .val (.long q5), .second, .val (.long q6), .second, .val (.int (own_b (own_pc q1 q2 q3 q4))), .val (.int (own_b (own_pc q3 q4 q1 q2))), .val (.int (own_b (own_eq q1 q2 q3 q4))), .val (.int (1 : Int32)), .val (.int (1 : Int32)), .val (.int (1 : Int32)), .unset, .unset, .unset, .unset] [])) _
        exact kt
      · show Steps p.tables e below (T16.setTop (mkF m 119 #[.val (.long q1), .second, .val (.long q2), .second, .val (.long q3), .second, .val (.long q4), .second, .val (.long q5), .second, .val (.long q6), .second, .val (.int (own_b (own_pc q1 q2 q3 q4))), .val (.int (own_b (own_pc q3 q4 q1 q2))), .val (.int (own_b (own_eq q1 q2 q3 q4))), .val (.int (1 : Int32)), .val (.int (1 : Int32)), .unset, .unset, .unset, .unset, .unset] [(.int (0 : Int32)), (.int (own_b (own_pc q1 q2 q1 q4)))])) _
        refine XS.icmpYes X16.here hx rfl (pc0 := 119) (pc' := 126) rfl (hb hby at_119) rfl (feq hc119_21).2 (by decide) (by decide) ?_
        show Steps p.tables e below (T16.setTop (mkF m 126 #[.val (.long q1), .second, .val (.long q2), .second, .val (.long q3), .second, .val (.long q4), .second, .val (.long q5), .second, .val (.long q6), .second, .val (.int (own_b (own_pc q1 q2 q3 q4))), .val (.int (own_b (own_pc q3 q4 q1 q2))), .val (.int (own_b (own_eq q1 q2 q3 q4))), .val (.int (1 : Int32)), .val (.int (1 : Int32)), .unset, .unset, .unset, .unset, .unset] [])) _
        refine XS.iconst X16.here hx rfl (hb hby at_126) ?_
        show Steps p.tables e below (T16.setTop (mkF m 127 #[.val (.long q1), .second, .val (.long q2), .second, .val (.long q3), .second, .val (.long q4), .second, .val (.long q5), .second, .val (.long q6), .second, .val (.int (own_b (own_pc q1 q2 q3 q4))), .val (.int (own_b (own_pc q3 q4 q1 q2))), .val (.int (own_b (own_eq q1 q2 q3 q4))), .val (.int (1 : Int32)), .val (.int (1 : Int32)), .unset, .unset, .unset, .unset, .unset] [(.int (0 : Int32))])) _
        refine XS.istore X16.here hx rfl (hb hby at_127) rfl (l' := #[.val (.long q1), .second, .val (.long q2), .second, .val (.long q3), .second, .val (.long q4), .second, .val (.long q5), .second, .val (.long q6), .second, .val (.int (own_b (own_pc q1 q2 q3 q4))), .val (.int (own_b (own_pc q3 q4 q1 q2))), .val (.int (own_b (own_eq q1 q2 q3 q4))), .val (.int (1 : Int32)), .val (.int (1 : Int32)), .val (.int (0 : Int32)), .unset, .unset, .unset, .unset]) rfl ?_
        show Steps p.tables e below (T16.setTop (mkF m 129 #[.val (.long q1), .second, .val (.long q2), .second, .val (.long q3), .second, .val (.long q4), .second, .val (.long q5), .second, .val (.long q6), .second, .val (.int (own_b (own_pc q1 q2 q3 q4))), .val (.int (own_b (own_pc q3 q4 q1 q2))), .val (.int (own_b (own_eq q1 q2 q3 q4))), .val (.int (1 : Int32)), .val (.int (1 : Int32)), .val (.int (0 : Int32)), .unset, .unset, .unset, .unset] [])) _
        exfalso
        simp only [own_pci, own_eqi, own_bi, own_bi1, own_bi0, Int64.lt_iff_toInt_lt, ← Int64.toInt_inj, true_and, and_true, false_or, Int.lt_irrefl] at hc111_19 hc119_21; omega
  have pr23 : ∀ t, Steps p.tables e below (T16.setTop (mkF m 136 #[.val (.long q1), .second, .val (.long q2), .second, .val (.long q3), .second, .val (.long q4), .second, .val (.long q5), .second, .val (.long q6), .second, .val (.int (own_b (own_pc q1 q2 q3 q4))), .val (.int (own_b (own_pc q3 q4 q1 q2))), .val (.int (own_b (own_eq q1 q2 q3 q4))), .val (.int (1 : Int32)), .val (.int (1 : Int32)), .val (.int (1 : Int32)), .unset, .unset, .unset, .unset] [(.long q2), (.long q3), (.long q4), (.long q3)])) t → Steps p.tables e below (s₁.setTop (entryFrame m #[(.long q1), (.long q2), (.long q3), (.long q4), (.long q5), (.long q6)] maxLocals)) t := fun t kt => pr17 t (by
    refine st16 _ ?_
    show Steps p.tables e below (T16.setTop (mkF m 107 #[.val (.long q1), .second, .val (.long q2), .second, .val (.long q3), .second, .val (.long q4), .second, .val (.long q5), .second, .val (.long q6), .second, .val (.int (own_b (own_pc q1 q2 q3 q4))), .val (.int (own_b (own_pc q3 q4 q1 q2))), .val (.int (own_b (own_eq q1 q2 q3 q4))), .val (.int (1 : Int32)), .val (.int (1 : Int32)), .unset, .unset, .unset, .unset, .unset] [(.int (own_b (own_pc q1 q2 q1 q4)))])) _
    refine sg18 _ ?_
    show Steps p.tables e below (T16.setTop (mkF m 129 #[.val (.long q1), .second, .val (.long q2), .second, .val (.long q3), .second, .val (.long q4), .second, .val (.long q5), .second, .val (.long q6), .second, .val (.int (own_b (own_pc q1 q2 q3 q4))), .val (.int (own_b (own_pc q3 q4 q1 q2))), .val (.int (own_b (own_eq q1 q2 q3 q4))), .val (.int (1 : Int32)), .val (.int (1 : Int32)), .val (.int (1 : Int32)), .unset, .unset, .unset, .unset] [])) _
    refine XS.lload X16.here hx rfl (hb hby at_129) rfl ?_
    show Steps p.tables e below (T16.setTop (mkF m 131 #[.val (.long q1), .second, .val (.long q2), .second, .val (.long q3), .second, .val (.long q4), .second, .val (.long q5), .second, .val (.long q6), .second, .val (.int (own_b (own_pc q1 q2 q3 q4))), .val (.int (own_b (own_pc q3 q4 q1 q2))), .val (.int (own_b (own_eq q1 q2 q3 q4))), .val (.int (1 : Int32)), .val (.int (1 : Int32)), .val (.int (1 : Int32)), .unset, .unset, .unset, .unset] [(.long q3)])) _
    refine XS.lload X16.here hx rfl (hb hby at_131) rfl ?_
    show Steps p.tables e below (T16.setTop (mkF m 133 #[.val (.long q1), .second, .val (.long q2), .second, .val (.long q3), .second, .val (.long q4), .second, .val (.long q5), .second, .val (.long q6), .second, .val (.int (own_b (own_pc q1 q2 q3 q4))), .val (.int (own_b (own_pc q3 q4 q1 q2))), .val (.int (own_b (own_eq q1 q2 q3 q4))), .val (.int (1 : Int32)), .val (.int (1 : Int32)), .val (.int (1 : Int32)), .unset, .unset, .unset, .unset] [(.long q4), (.long q3)])) _
    refine XS.lload X16.here hx rfl (hb hby at_133) rfl ?_
    show Steps p.tables e below (T16.setTop (mkF m 135 #[.val (.long q1), .second, .val (.long q2), .second, .val (.long q3), .second, .val (.long q4), .second, .val (.long q5), .second, .val (.long q6), .second, .val (.int (own_b (own_pc q1 q2 q3 q4))), .val (.int (own_b (own_pc q3 q4 q1 q2))), .val (.int (own_b (own_eq q1 q2 q3 q4))), .val (.int (1 : Int32)), .val (.int (1 : Int32)), .val (.int (1 : Int32)), .unset, .unset, .unset, .unset] [(.long q3), (.long q4), (.long q3)])) _
    refine XS.lloadN X16.here hx rfl (hb hby at_135) rfl ?_
    show Steps p.tables e below (T16.setTop (mkF m 136 #[.val (.long q1), .second, .val (.long q2), .second, .val (.long q3), .second, .val (.long q4), .second, .val (.long q5), .second, .val (.long q6), .second, .val (.int (own_b (own_pc q1 q2 q3 q4))), .val (.int (own_b (own_pc q3 q4 q1 q2))), .val (.int (own_b (own_eq q1 q2 q3 q4))), .val (.int (1 : Int32)), .val (.int (1 : Int32)), .val (.int (1 : Int32)), .unset, .unset, .unset, .unset] [(.long q2), (.long q3), (.long q4), (.long q3)])) _
    exact kt)
  obtain ⟨_, _, ⟨T22, L22, k22, n22⟩, -, X22, ⟨Lc22, hQ22, l22, y22, z22⟩, st22⟩ := Jvm.LawKit.callS X16 hx (y := (⟨"com/example/treadle/treadle/MessageHeap", "precedes", "(JJJJ)Z"⟩ : MethodName)) hown (mvT hZ (hw _ (List.mem_of_getElem? (i := 0) rfl))) (mvT hZ (hw _ (List.mem_of_getElem? (i := 1) rfl))) (mvT hZ (hw _ (List.mem_of_getElem? (i := 2) rfl))) (mvT hZ (hw _ (List.mem_of_getElem? (i := 3) rfl))) (by decide) (backOf (W := 0) (rm_pc l Z a0 hw [] q3 q4 q3 q2 h0 n0 Z0 ) hZ (hw _ (List.mem_of_getElem? (i := 3) rfl)) (hw _ (List.mem_of_getElem? (i := 2) rfl)) (by decide) (by decide)) (g := (mkF m 136 #[.val (.long q1), .second, .val (.long q2), .second, .val (.long q3), .second, .val (.long q4), .second, .val (.long q5), .second, .val (.long q6), .second, .val (.int (own_b (own_pc q1 q2 q3 q4))), .val (.int (own_b (own_pc q3 q4 q1 q2))), .val (.int (own_b (own_eq q1 q2 q3 q4))), .val (.int (1 : Int32)), .val (.int (1 : Int32)), .val (.int (1 : Int32)), .unset, .unset, .unset, .unset] [(.long q2), (.long q3), (.long q4), (.long q3)])) rfl (by rw [hml]; rfl) (argsL := [(.long q3), (.long q4), (.long q3), (.long q2)]) (rest := []) (lenOf pd_law_0 rfl) rfl (by show 2 * 0 + _ ≤ _; exact Nat.le_of_eq rfl) (hb hby at_136) (fun _ _ => ⟨rfl, e16, (by decide : 0 + 0 ≤ _), (by decide : 0 + 0 ≤ _)⟩)
  dsimp only [Pt.U, Pt.locs, Pt.cells, Pt.slots] at X22 l22 y22 z22 st22 hQ22
  subst l22 y22 z22
  obtain ⟨rfl, N22q, e22⟩ := hQ22
  have N22 := Fr.app N16 N22q
  have sg24 : ∀ t, Steps p.tables e below (T22.setTop (mkF m 161 #[.val (.long q1), .second, .val (.long q2), .second, .val (.long q3), .second, .val (.long q4), .second, .val (.long q5), .second, .val (.long q6), .second, .val (.int (own_b (own_pc q1 q2 q3 q4))), .val (.int (own_b (own_pc q3 q4 q1 q2))), .val (.int (own_b (own_eq q1 q2 q3 q4))), .val (.int (1 : Int32)), .val (.int (1 : Int32)), .val (.int (1 : Int32)), .val (.int (1 : Int32)), .unset, .unset, .unset] [])) t → Steps p.tables e below (T22.setTop (mkF m 139 #[.val (.long q1), .second, .val (.long q2), .second, .val (.long q3), .second, .val (.long q4), .second, .val (.long q5), .second, .val (.long q6), .second, .val (.int (own_b (own_pc q1 q2 q3 q4))), .val (.int (own_b (own_pc q3 q4 q1 q2))), .val (.int (own_b (own_eq q1 q2 q3 q4))), .val (.int (1 : Int32)), .val (.int (1 : Int32)), .val (.int (1 : Int32)), .unset, .unset, .unset, .unset] [(.int (own_b (own_pc q3 q4 q3 q2)))])) t := by
    intro t kt
    show Steps p.tables e below (T22.setTop (mkF m 139 #[.val (.long q1), .second, .val (.long q2), .second, .val (.long q3), .second, .val (.long q4), .second, .val (.long q5), .second, .val (.long q6), .second, .val (.int (own_b (own_pc q1 q2 q3 q4))), .val (.int (own_b (own_pc q3 q4 q1 q2))), .val (.int (own_b (own_eq q1 q2 q3 q4))), .val (.int (1 : Int32)), .val (.int (1 : Int32)), .val (.int (1 : Int32)), .unset, .unset, .unset, .unset] [(.int (own_b (own_pc q3 q4 q3 q2)))])) _
    refine XS.lload X22.here hx rfl (hb hby at_139) rfl ?_
    show Steps p.tables e below (T22.setTop (mkF m 141 #[.val (.long q1), .second, .val (.long q2), .second, .val (.long q3), .second, .val (.long q4), .second, .val (.long q5), .second, .val (.long q6), .second, .val (.int (own_b (own_pc q1 q2 q3 q4))), .val (.int (own_b (own_pc q3 q4 q1 q2))), .val (.int (own_b (own_eq q1 q2 q3 q4))), .val (.int (1 : Int32)), .val (.int (1 : Int32)), .val (.int (1 : Int32)), .unset, .unset, .unset, .unset] [(.long q4), (.int (own_b (own_pc q3 q4 q3 q2)))])) _
    refine XS.lloadN X22.here hx rfl (hb hby at_141) rfl ?_
    show Steps p.tables e below (T22.setTop (mkF m 142 #[.val (.long q1), .second, .val (.long q2), .second, .val (.long q3), .second, .val (.long q4), .second, .val (.long q5), .second, .val (.long q6), .second, .val (.int (own_b (own_pc q1 q2 q3 q4))), .val (.int (own_b (own_pc q3 q4 q1 q2))), .val (.int (own_b (own_eq q1 q2 q3 q4))), .val (.int (1 : Int32)), .val (.int (1 : Int32)), .val (.int (1 : Int32)), .unset, .unset, .unset, .unset] [(.long q2), (.long q4), (.int (own_b (own_pc q3 q4 q3 q2)))])) _
    refine XS.lcmp X22.here hx rfl (hb hby at_142) rfl ?_
    by_cases hc143_25 : q4 < q2
    · show Steps p.tables e below (T22.setTop (mkF m 143 #[.val (.long q1), .second, .val (.long q2), .second, .val (.long q3), .second, .val (.long q4), .second, .val (.long q5), .second, .val (.long q6), .second, .val (.int (own_b (own_pc q1 q2 q3 q4))), .val (.int (own_b (own_pc q3 q4 q1 q2))), .val (.int (own_b (own_eq q1 q2 q3 q4))), .val (.int (1 : Int32)), .val (.int (1 : Int32)), .val (.int (1 : Int32)), .unset, .unset, .unset, .unset] [(.int (lcmpW q4 q2)), (.int (own_b (own_pc q3 q4 q3 q2)))])) _
      refine XS.ifNo X22.here hx rfl (hb hby at_143) rfl ((if0 _ _).trans (tlt ((lw_lt _ _).mpr hc143_25)).2.1) ?_
      show Steps p.tables e below (T22.setTop (mkF m 146 #[.val (.long q1), .second, .val (.long q2), .second, .val (.long q3), .second, .val (.long q4), .second, .val (.long q5), .second, .val (.long q6), .second, .val (.int (own_b (own_pc q1 q2 q3 q4))), .val (.int (own_b (own_pc q3 q4 q1 q2))), .val (.int (own_b (own_eq q1 q2 q3 q4))), .val (.int (1 : Int32)), .val (.int (1 : Int32)), .val (.int (1 : Int32)), .unset, .unset, .unset, .unset] [(.int (own_b (own_pc q3 q4 q3 q2)))])) _
      refine XS.iconst X22.here hx rfl (hb hby at_146) ?_
      show Steps p.tables e below (T22.setTop (mkF m 147 #[.val (.long q1), .second, .val (.long q2), .second, .val (.long q3), .second, .val (.long q4), .second, .val (.long q5), .second, .val (.long q6), .second, .val (.int (own_b (own_pc q1 q2 q3 q4))), .val (.int (own_b (own_pc q3 q4 q1 q2))), .val (.int (own_b (own_eq q1 q2 q3 q4))), .val (.int (1 : Int32)), .val (.int (1 : Int32)), .val (.int (1 : Int32)), .unset, .unset, .unset, .unset] [(.int (1 : Int32)), (.int (own_b (own_pc q3 q4 q3 q2)))])) _
      refine XS.goto X22.here hx rfl (pc0 := 147) (pc' := 151) rfl (hb hby at_147) (by decide) (by decide) ?_
      by_cases hc151_26 : (own_b (own_pc q3 q4 q3 q2)) = (1 : Int32)
      · show Steps p.tables e below (T22.setTop (mkF m 151 #[.val (.long q1), .second, .val (.long q2), .second, .val (.long q3), .second, .val (.long q4), .second, .val (.long q5), .second, .val (.long q6), .second, .val (.int (own_b (own_pc q1 q2 q3 q4))), .val (.int (own_b (own_pc q3 q4 q1 q2))), .val (.int (own_b (own_eq q1 q2 q3 q4))), .val (.int (1 : Int32)), .val (.int (1 : Int32)), .val (.int (1 : Int32)), .unset, .unset, .unset, .unset] [(.int (1 : Int32)), (.int (own_b (own_pc q3 q4 q3 q2)))])) _
        refine XS.icmpNo X22.here hx rfl (hb hby at_151) rfl (teq hc151_26).2 ?_
        show Steps p.tables e below (T22.setTop (mkF m 154 #[.val (.long q1), .second, .val (.long q2), .second, .val (.long q3), .second, .val (.long q4), .second, .val (.long q5), .second, .val (.long q6), .second, .val (.int (own_b (own_pc q1 q2 q3 q4))), .val (.int (own_b (own_pc q3 q4 q1 q2))), .val (.int (own_b (own_eq q1 q2 q3 q4))), .val (.int (1 : Int32)), .val (.int (1 : Int32)), .val (.int (1 : Int32)), .unset, .unset, .unset, .unset] [])) _
        refine XS.iconst X22.here hx rfl (hb hby at_154) ?_
        show Steps p.tables e below (T22.setTop (mkF m 155 #[.val (.long q1), .second, .val (.long q2), .second, .val (.long q3), .second, .val (.long q4), .second, .val (.long q5), .second, .val (.long q6), .second, .val (.int (own_b (own_pc q1 q2 q3 q4))), .val (.int (own_b (own_pc q3 q4 q1 q2))), .val (.int (own_b (own_eq q1 q2 q3 q4))), .val (.int (1 : Int32)), .val (.int (1 : Int32)), .val (.int (1 : Int32)), .unset, .unset, .unset, .unset] [(.int (1 : Int32))])) _
        refine XS.goto X22.here hx rfl (pc0 := 155) (pc' := 159) rfl (hb hby at_155) (by decide) (by decide) ?_
        show Steps p.tables e below (T22.setTop (mkF m 159 #[.val (.long q1), .second, .val (.long q2), .second, .val (.long q3), .second, .val (.long q4), .second, .val (.long q5), .second, .val (.long q6), .second, .val (.int (own_b (own_pc q1 q2 q3 q4))), .val (.int (own_b (own_pc q3 q4 q1 q2))), .val (.int (own_b (own_eq q1 q2 q3 q4))), .val (.int (1 : Int32)), .val (.int (1 : Int32)), .val (.int (1 : Int32)), .unset, .unset, .unset, .unset] [(.int (1 : Int32))])) _
        refine XS.istore X22.here hx rfl (hb hby at_159) rfl (l' := #[.val (.long q1), .second, .val (.long q2), .second, .val (.long q3), .second, .val (.long q4), .second, .val (.long q5), .second, .val (.long q6), .second, .val (.int (own_b (own_pc q1 q2 q3 q4))), .val (.int (own_b (own_pc q3 q4 q1 q2))), .val (.int (own_b (own_eq q1 q2 q3 q4))), .val (.int (1 : Int32)), .val (.int (1 : Int32)), .val (.int (1 : Int32)), .val (.int (1 : Int32)), .unset, .unset, .unset]) rfl ?_
        show Steps p.tables e below (T22.setTop (mkF m 161 #[.val (.long q1), .second, .val (.long q2), .second, .val (.long q3), .second, .val (.long q4), .second, .val (.long q5), .second, .val (.long q6), .second, .val (.int (own_b (own_pc q1 q2 q3 q4))), .val (.int (own_b (own_pc q3 q4 q1 q2))), .val (.int (own_b (own_eq q1 q2 q3 q4))), .val (.int (1 : Int32)), .val (.int (1 : Int32)), .val (.int (1 : Int32)), .val (.int (1 : Int32)), .unset, .unset, .unset] [])) _
        exact kt
      · show Steps p.tables e below (T22.setTop (mkF m 151 #[.val (.long q1), .second, .val (.long q2), .second, .val (.long q3), .second, .val (.long q4), .second, .val (.long q5), .second, .val (.long q6), .second, .val (.int (own_b (own_pc q1 q2 q3 q4))), .val (.int (own_b (own_pc q3 q4 q1 q2))), .val (.int (own_b (own_eq q1 q2 q3 q4))), .val (.int (1 : Int32)), .val (.int (1 : Int32)), .val (.int (1 : Int32)), .unset, .unset, .unset, .unset] [(.int (1 : Int32)), (.int (own_b (own_pc q3 q4 q3 q2)))])) _
        refine XS.icmpYes X22.here hx rfl (pc0 := 151) (pc' := 158) rfl (hb hby at_151) rfl (feq hc151_26).2 (by decide) (by decide) ?_
        show Steps p.tables e below (T22.setTop (mkF m 158 #[.val (.long q1), .second, .val (.long q2), .second, .val (.long q3), .second, .val (.long q4), .second, .val (.long q5), .second, .val (.long q6), .second, .val (.int (own_b (own_pc q1 q2 q3 q4))), .val (.int (own_b (own_pc q3 q4 q1 q2))), .val (.int (own_b (own_eq q1 q2 q3 q4))), .val (.int (1 : Int32)), .val (.int (1 : Int32)), .val (.int (1 : Int32)), .unset, .unset, .unset, .unset] [])) _
        refine XS.iconst X22.here hx rfl (hb hby at_158) ?_
        show Steps p.tables e below (T22.setTop (mkF m 159 #[.val (.long q1), .second, .val (.long q2), .second, .val (.long q3), .second, .val (.long q4), .second, .val (.long q5), .second, .val (.long q6), .second, .val (.int (own_b (own_pc q1 q2 q3 q4))), .val (.int (own_b (own_pc q3 q4 q1 q2))), .val (.int (own_b (own_eq q1 q2 q3 q4))), .val (.int (1 : Int32)), .val (.int (1 : Int32)), .val (.int (1 : Int32)), .unset, .unset, .unset, .unset] [(.int (0 : Int32))])) _
        refine XS.istore X22.here hx rfl (hb hby at_159) rfl (l' := #[.val (.long q1), .second, .val (.long q2), .second, .val (.long q3), .second, .val (.long q4), .second, .val (.long q5), .second, .val (.long q6), .second, .val (.int (own_b (own_pc q1 q2 q3 q4))), .val (.int (own_b (own_pc q3 q4 q1 q2))), .val (.int (own_b (own_eq q1 q2 q3 q4))), .val (.int (1 : Int32)), .val (.int (1 : Int32)), .val (.int (1 : Int32)), .val (.int (0 : Int32)), .unset, .unset, .unset]) rfl ?_
        show Steps p.tables e below (T22.setTop (mkF m 161 #[.val (.long q1), .second, .val (.long q2), .second, .val (.long q3), .second, .val (.long q4), .second, .val (.long q5), .second, .val (.long q6), .second, .val (.int (own_b (own_pc q1 q2 q3 q4))), .val (.int (own_b (own_pc q3 q4 q1 q2))), .val (.int (own_b (own_eq q1 q2 q3 q4))), .val (.int (1 : Int32)), .val (.int (1 : Int32)), .val (.int (1 : Int32)), .val (.int (0 : Int32)), .unset, .unset, .unset] [])) _
        exfalso
        simp only [own_pci, own_eqi, own_bi, own_bi1, own_bi0, Int64.lt_iff_toInt_lt, ← Int64.toInt_inj, true_and, and_true, false_or, Int.lt_irrefl] at hc143_25 hc151_26; omega
    · show Steps p.tables e below (T22.setTop (mkF m 143 #[.val (.long q1), .second, .val (.long q2), .second, .val (.long q3), .second, .val (.long q4), .second, .val (.long q5), .second, .val (.long q6), .second, .val (.int (own_b (own_pc q1 q2 q3 q4))), .val (.int (own_b (own_pc q3 q4 q1 q2))), .val (.int (own_b (own_eq q1 q2 q3 q4))), .val (.int (1 : Int32)), .val (.int (1 : Int32)), .val (.int (1 : Int32)), .unset, .unset, .unset, .unset] [(.int (lcmpW q4 q2)), (.int (own_b (own_pc q3 q4 q3 q2)))])) _
      refine XS.ifYes X22.here hx rfl (pc0 := 143) (pc' := 150) rfl (hb hby at_143) rfl ((if0 _ _).trans (flt (fun q => hc143_25 ((lw_lt _ _).mp q))).2.1) (by decide) (by decide) ?_
      show Steps p.tables e below (T22.setTop (mkF m 150 #[.val (.long q1), .second, .val (.long q2), .second, .val (.long q3), .second, .val (.long q4), .second, .val (.long q5), .second, .val (.long q6), .second, .val (.int (own_b (own_pc q1 q2 q3 q4))), .val (.int (own_b (own_pc q3 q4 q1 q2))), .val (.int (own_b (own_eq q1 q2 q3 q4))), .val (.int (1 : Int32)), .val (.int (1 : Int32)), .val (.int (1 : Int32)), .unset, .unset, .unset, .unset] [(.int (own_b (own_pc q3 q4 q3 q2)))])) _
      refine XS.iconst X22.here hx rfl (hb hby at_150) ?_
      by_cases hc151_27 : (own_b (own_pc q3 q4 q3 q2)) = (0 : Int32)
      · show Steps p.tables e below (T22.setTop (mkF m 151 #[.val (.long q1), .second, .val (.long q2), .second, .val (.long q3), .second, .val (.long q4), .second, .val (.long q5), .second, .val (.long q6), .second, .val (.int (own_b (own_pc q1 q2 q3 q4))), .val (.int (own_b (own_pc q3 q4 q1 q2))), .val (.int (own_b (own_eq q1 q2 q3 q4))), .val (.int (1 : Int32)), .val (.int (1 : Int32)), .val (.int (1 : Int32)), .unset, .unset, .unset, .unset] [(.int (0 : Int32)), (.int (own_b (own_pc q3 q4 q3 q2)))])) _
        refine XS.icmpNo X22.here hx rfl (hb hby at_151) rfl (teq hc151_27).2 ?_
        show Steps p.tables e below (T22.setTop (mkF m 154 #[.val (.long q1), .second, .val (.long q2), .second, .val (.long q3), .second, .val (.long q4), .second, .val (.long q5), .second, .val (.long q6), .second, .val (.int (own_b (own_pc q1 q2 q3 q4))), .val (.int (own_b (own_pc q3 q4 q1 q2))), .val (.int (own_b (own_eq q1 q2 q3 q4))), .val (.int (1 : Int32)), .val (.int (1 : Int32)), .val (.int (1 : Int32)), .unset, .unset, .unset, .unset] [])) _
        refine XS.iconst X22.here hx rfl (hb hby at_154) ?_
        show Steps p.tables e below (T22.setTop (mkF m 155 #[.val (.long q1), .second, .val (.long q2), .second, .val (.long q3), .second, .val (.long q4), .second, .val (.long q5), .second, .val (.long q6), .second, .val (.int (own_b (own_pc q1 q2 q3 q4))), .val (.int (own_b (own_pc q3 q4 q1 q2))), .val (.int (own_b (own_eq q1 q2 q3 q4))), .val (.int (1 : Int32)), .val (.int (1 : Int32)), .val (.int (1 : Int32)), .unset, .unset, .unset, .unset] [(.int (1 : Int32))])) _
        refine XS.goto X22.here hx rfl (pc0 := 155) (pc' := 159) rfl (hb hby at_155) (by decide) (by decide) ?_
        show Steps p.tables e below (T22.setTop (mkF m 159 #[.val (.long q1), .second, .val (.long q2), .second, .val (.long q3), .second, .val (.long q4), .second, .val (.long q5), .second, .val (.long q6), .second, .val (.int (own_b (own_pc q1 q2 q3 q4))), .val (.int (own_b (own_pc q3 q4 q1 q2))), .val (.int (own_b (own_eq q1 q2 q3 q4))), .val (.int (1 : Int32)), .val (.int (1 : Int32)), .val (.int (1 : Int32)), .unset, .unset, .unset, .unset] [(.int (1 : Int32))])) _
        refine XS.istore X22.here hx rfl (hb hby at_159) rfl (l' := #[.val (.long q1), .second, .val (.long q2), .second, .val (.long q3), .second, .val (.long q4), .second, .val (.long q5), .second, .val (.long q6), .second, .val (.int (own_b (own_pc q1 q2 q3 q4))), .val (.int (own_b (own_pc q3 q4 q1 q2))), .val (.int (own_b (own_eq q1 q2 q3 q4))), .val (.int (1 : Int32)), .val (.int (1 : Int32)), .val (.int (1 : Int32)), .val (.int (1 : Int32)), .unset, .unset, .unset]) rfl ?_
        show Steps p.tables e below (T22.setTop (mkF m 161 #[.val (.long q1), .second, .val (.long q2), .second, .val (.long q3), .second, .val (.long q4), .second, .val (.long q5), .second, .val (.long q6), .second, .val (.int (own_b (own_pc q1 q2 q3 q4))), .val (.int (own_b (own_pc q3 q4 q1 q2))), .val (.int (own_b (own_eq q1 q2 q3 q4))), .val (.int (1 : Int32)), .val (.int (1 : Int32)), .val (.int (1 : Int32)), .val (.int (1 : Int32)), .unset, .unset, .unset] [])) _
        exact kt
      · show Steps p.tables e below (T22.setTop (mkF m 151 #[.val (.long q1), .second, .val (.long q2), .second, .val (.long q3), .second, .val (.long q4), .second, .val (.long q5), .second, .val (.long q6), .second, .val (.int (own_b (own_pc q1 q2 q3 q4))), .val (.int (own_b (own_pc q3 q4 q1 q2))), .val (.int (own_b (own_eq q1 q2 q3 q4))), .val (.int (1 : Int32)), .val (.int (1 : Int32)), .val (.int (1 : Int32)), .unset, .unset, .unset, .unset] [(.int (0 : Int32)), (.int (own_b (own_pc q3 q4 q3 q2)))])) _
        refine XS.icmpYes X22.here hx rfl (pc0 := 151) (pc' := 158) rfl (hb hby at_151) rfl (feq hc151_27).2 (by decide) (by decide) ?_
        show Steps p.tables e below (T22.setTop (mkF m 158 #[.val (.long q1), .second, .val (.long q2), .second, .val (.long q3), .second, .val (.long q4), .second, .val (.long q5), .second, .val (.long q6), .second, .val (.int (own_b (own_pc q1 q2 q3 q4))), .val (.int (own_b (own_pc q3 q4 q1 q2))), .val (.int (own_b (own_eq q1 q2 q3 q4))), .val (.int (1 : Int32)), .val (.int (1 : Int32)), .val (.int (1 : Int32)), .unset, .unset, .unset, .unset] [])) _
        refine XS.iconst X22.here hx rfl (hb hby at_158) ?_
        show Steps p.tables e below (T22.setTop (mkF m 159 #[.val (.long q1), .second, .val (.long q2), .second, .val (.long q3), .second, .val (.long q4), .second, .val (.long q5), .second, .val (.long q6), .second, .val (.int (own_b (own_pc q1 q2 q3 q4))), .val (.int (own_b (own_pc q3 q4 q1 q2))), .val (.int (own_b (own_eq q1 q2 q3 q4))), .val (.int (1 : Int32)), .val (.int (1 : Int32)), .val (.int (1 : Int32)), .unset, .unset, .unset, .unset] [(.int (0 : Int32))])) _
        refine XS.istore X22.here hx rfl (hb hby at_159) rfl (l' := #[.val (.long q1), .second, .val (.long q2), .second, .val (.long q3), .second, .val (.long q4), .second, .val (.long q5), .second, .val (.long q6), .second, .val (.int (own_b (own_pc q1 q2 q3 q4))), .val (.int (own_b (own_pc q3 q4 q1 q2))), .val (.int (own_b (own_eq q1 q2 q3 q4))), .val (.int (1 : Int32)), .val (.int (1 : Int32)), .val (.int (1 : Int32)), .val (.int (0 : Int32)), .unset, .unset, .unset]) rfl ?_
        show Steps p.tables e below (T22.setTop (mkF m 161 #[.val (.long q1), .second, .val (.long q2), .second, .val (.long q3), .second, .val (.long q4), .second, .val (.long q5), .second, .val (.long q6), .second, .val (.int (own_b (own_pc q1 q2 q3 q4))), .val (.int (own_b (own_pc q3 q4 q1 q2))), .val (.int (own_b (own_eq q1 q2 q3 q4))), .val (.int (1 : Int32)), .val (.int (1 : Int32)), .val (.int (1 : Int32)), .val (.int (0 : Int32)), .unset, .unset, .unset] [])) _
        exfalso
        simp only [own_pci, own_eqi, own_bi, own_bi1, own_bi0, Int64.lt_iff_toInt_lt, ← Int64.toInt_inj, true_and, and_true, false_or, Int.lt_irrefl] at hc143_25 hc151_27; omega
  have pr29 : ∀ t, Steps p.tables e below (T22.setTop (mkF m 169 #[.val (.long q1), .second, .val (.long q2), .second, .val (.long q3), .second, .val (.long q4), .second, .val (.long q5), .second, .val (.long q6), .second, .val (.int (own_b (own_pc q1 q2 q3 q4))), .val (.int (own_b (own_pc q3 q4 q1 q2))), .val (.int (own_b (own_eq q1 q2 q3 q4))), .val (.int (1 : Int32)), .val (.int (1 : Int32)), .val (.int (1 : Int32)), .val (.int (1 : Int32)), .unset, .unset, .unset] [(.long q6), (.long q5), (.long q4), (.long q3)])) t → Steps p.tables e below (s₁.setTop (entryFrame m #[(.long q1), (.long q2), (.long q3), (.long q4), (.long q5), (.long q6)] maxLocals)) t := fun t kt => pr23 t (by
    refine st22 _ ?_
    show Steps p.tables e below (T22.setTop (mkF m 139 #[.val (.long q1), .second, .val (.long q2), .second, .val (.long q3), .second, .val (.long q4), .second, .val (.long q5), .second, .val (.long q6), .second, .val (.int (own_b (own_pc q1 q2 q3 q4))), .val (.int (own_b (own_pc q3 q4 q1 q2))), .val (.int (own_b (own_eq q1 q2 q3 q4))), .val (.int (1 : Int32)), .val (.int (1 : Int32)), .val (.int (1 : Int32)), .unset, .unset, .unset, .unset] [(.int (own_b (own_pc q3 q4 q3 q2)))])) _
    refine sg24 _ ?_
    show Steps p.tables e below (T22.setTop (mkF m 161 #[.val (.long q1), .second, .val (.long q2), .second, .val (.long q3), .second, .val (.long q4), .second, .val (.long q5), .second, .val (.long q6), .second, .val (.int (own_b (own_pc q1 q2 q3 q4))), .val (.int (own_b (own_pc q3 q4 q1 q2))), .val (.int (own_b (own_eq q1 q2 q3 q4))), .val (.int (1 : Int32)), .val (.int (1 : Int32)), .val (.int (1 : Int32)), .val (.int (1 : Int32)), .unset, .unset, .unset] [])) _
    refine XS.lload X22.here hx rfl (hb hby at_161) rfl ?_
    show Steps p.tables e below (T22.setTop (mkF m 163 #[.val (.long q1), .second, .val (.long q2), .second, .val (.long q3), .second, .val (.long q4), .second, .val (.long q5), .second, .val (.long q6), .second, .val (.int (own_b (own_pc q1 q2 q3 q4))), .val (.int (own_b (own_pc q3 q4 q1 q2))), .val (.int (own_b (own_eq q1 q2 q3 q4))), .val (.int (1 : Int32)), .val (.int (1 : Int32)), .val (.int (1 : Int32)), .val (.int (1 : Int32)), .unset, .unset, .unset] [(.long q3)])) _
    refine XS.lload X22.here hx rfl (hb hby at_163) rfl ?_
    show Steps p.tables e below (T22.setTop (mkF m 165 #[.val (.long q1), .second, .val (.long q2), .second, .val (.long q3), .second, .val (.long q4), .second, .val (.long q5), .second, .val (.long q6), .second, .val (.int (own_b (own_pc q1 q2 q3 q4))), .val (.int (own_b (own_pc q3 q4 q1 q2))), .val (.int (own_b (own_eq q1 q2 q3 q4))), .val (.int (1 : Int32)), .val (.int (1 : Int32)), .val (.int (1 : Int32)), .val (.int (1 : Int32)), .unset, .unset, .unset] [(.long q4), (.long q3)])) _
    refine XS.lload X22.here hx rfl (hb hby at_165) rfl ?_
    show Steps p.tables e below (T22.setTop (mkF m 167 #[.val (.long q1), .second, .val (.long q2), .second, .val (.long q3), .second, .val (.long q4), .second, .val (.long q5), .second, .val (.long q6), .second, .val (.int (own_b (own_pc q1 q2 q3 q4))), .val (.int (own_b (own_pc q3 q4 q1 q2))), .val (.int (own_b (own_eq q1 q2 q3 q4))), .val (.int (1 : Int32)), .val (.int (1 : Int32)), .val (.int (1 : Int32)), .val (.int (1 : Int32)), .unset, .unset, .unset] [(.long q5), (.long q4), (.long q3)])) _
    refine XS.lload X22.here hx rfl (hb hby at_167) rfl ?_
    show Steps p.tables e below (T22.setTop (mkF m 169 #[.val (.long q1), .second, .val (.long q2), .second, .val (.long q3), .second, .val (.long q4), .second, .val (.long q5), .second, .val (.long q6), .second, .val (.int (own_b (own_pc q1 q2 q3 q4))), .val (.int (own_b (own_pc q3 q4 q1 q2))), .val (.int (own_b (own_eq q1 q2 q3 q4))), .val (.int (1 : Int32)), .val (.int (1 : Int32)), .val (.int (1 : Int32)), .val (.int (1 : Int32)), .unset, .unset, .unset] [(.long q6), (.long q5), (.long q4), (.long q3)])) _
    exact kt)
  obtain ⟨_, _, ⟨T28, L28, k28, n28⟩, -, X28, ⟨Lc28, hQ28, l28, y28, z28⟩, st28⟩ := Jvm.LawKit.callS X22 hx (y := (⟨"com/example/treadle/treadle/MessageHeap", "precedes", "(JJJJ)Z"⟩ : MethodName)) hown (mvT hZ (hw _ (List.mem_of_getElem? (i := 0) rfl))) (mvT hZ (hw _ (List.mem_of_getElem? (i := 1) rfl))) (mvT hZ (hw _ (List.mem_of_getElem? (i := 2) rfl))) (mvT hZ (hw _ (List.mem_of_getElem? (i := 3) rfl))) (by decide) (backOf (W := 0) (rm_pc l Z a0 hw [] q3 q4 q5 q6 h0 n0 Z0 ) hZ (hw _ (List.mem_of_getElem? (i := 3) rfl)) (hw _ (List.mem_of_getElem? (i := 2) rfl)) (by decide) (by decide)) (g := (mkF m 169 #[.val (.long q1), .second, .val (.long q2), .second, .val (.long q3), .second, .val (.long q4), .second, .val (.long q5), .second, .val (.long q6), .second, .val (.int (own_b (own_pc q1 q2 q3 q4))), .val (.int (own_b (own_pc q3 q4 q1 q2))), .val (.int (own_b (own_eq q1 q2 q3 q4))), .val (.int (1 : Int32)), .val (.int (1 : Int32)), .val (.int (1 : Int32)), .val (.int (1 : Int32)), .unset, .unset, .unset] [(.long q6), (.long q5), (.long q4), (.long q3)])) rfl (by rw [hml]; rfl) (argsL := [(.long q3), (.long q4), (.long q5), (.long q6)]) (rest := []) (lenOf pd_law_0 rfl) rfl (by show 2 * 0 + _ ≤ _; exact Nat.le_of_eq rfl) (hb hby at_169) (fun _ _ => ⟨rfl, e22, (by decide : 0 + 0 ≤ _), (by decide : 0 + 0 ≤ _)⟩)
  dsimp only [Pt.U, Pt.locs, Pt.cells, Pt.slots] at X28 l28 y28 z28 st28 hQ28
  subst l28 y28 z28
  obtain ⟨rfl, N28q, e28⟩ := hQ28
  have N28 := Fr.app N22 N28q
  have pr31 : ∀ t, Steps p.tables e below (T28.setTop (mkF m 180 #[.val (.long q1), .second, .val (.long q2), .second, .val (.long q3), .second, .val (.long q4), .second, .val (.long q5), .second, .val (.long q6), .second, .val (.int (own_b (own_pc q1 q2 q3 q4))), .val (.int (own_b (own_pc q3 q4 q1 q2))), .val (.int (own_b (own_eq q1 q2 q3 q4))), .val (.int (1 : Int32)), .val (.int (1 : Int32)), .val (.int (1 : Int32)), .val (.int (1 : Int32)), .val (.int (own_b (own_pc q3 q4 q5 q6))), .unset, .unset] [(.long q6), (.long q5), (.long q2), (.long q1)])) t → Steps p.tables e below (s₁.setTop (entryFrame m #[(.long q1), (.long q2), (.long q3), (.long q4), (.long q5), (.long q6)] maxLocals)) t := fun t kt => pr29 t (by
    refine st28 _ ?_
    show Steps p.tables e below (T28.setTop (mkF m 172 #[.val (.long q1), .second, .val (.long q2), .second, .val (.long q3), .second, .val (.long q4), .second, .val (.long q5), .second, .val (.long q6), .second, .val (.int (own_b (own_pc q1 q2 q3 q4))), .val (.int (own_b (own_pc q3 q4 q1 q2))), .val (.int (own_b (own_eq q1 q2 q3 q4))), .val (.int (1 : Int32)), .val (.int (1 : Int32)), .val (.int (1 : Int32)), .val (.int (1 : Int32)), .unset, .unset, .unset] [(.int (own_b (own_pc q3 q4 q5 q6)))])) _
    refine XS.istore X28.here hx rfl (hb hby at_172) rfl (l' := #[.val (.long q1), .second, .val (.long q2), .second, .val (.long q3), .second, .val (.long q4), .second, .val (.long q5), .second, .val (.long q6), .second, .val (.int (own_b (own_pc q1 q2 q3 q4))), .val (.int (own_b (own_pc q3 q4 q1 q2))), .val (.int (own_b (own_eq q1 q2 q3 q4))), .val (.int (1 : Int32)), .val (.int (1 : Int32)), .val (.int (1 : Int32)), .val (.int (1 : Int32)), .val (.int (own_b (own_pc q3 q4 q5 q6))), .unset, .unset]) rfl ?_
    show Steps p.tables e below (T28.setTop (mkF m 174 #[.val (.long q1), .second, .val (.long q2), .second, .val (.long q3), .second, .val (.long q4), .second, .val (.long q5), .second, .val (.long q6), .second, .val (.int (own_b (own_pc q1 q2 q3 q4))), .val (.int (own_b (own_pc q3 q4 q1 q2))), .val (.int (own_b (own_eq q1 q2 q3 q4))), .val (.int (1 : Int32)), .val (.int (1 : Int32)), .val (.int (1 : Int32)), .val (.int (1 : Int32)), .val (.int (own_b (own_pc q3 q4 q5 q6))), .unset, .unset] [])) _
    refine XS.lloadN X28.here hx rfl (hb hby at_174) rfl ?_
    show Steps p.tables e below (T28.setTop (mkF m 175 #[.val (.long q1), .second, .val (.long q2), .second, .val (.long q3), .second, .val (.long q4), .second, .val (.long q5), .second, .val (.long q6), .second, .val (.int (own_b (own_pc q1 q2 q3 q4))), .val (.int (own_b (own_pc q3 q4 q1 q2))), .val (.int (own_b (own_eq q1 q2 q3 q4))), .val (.int (1 : Int32)), .val (.int (1 : Int32)), .val (.int (1 : Int32)), .val (.int (1 : Int32)), .val (.int (own_b (own_pc q3 q4 q5 q6))), .unset, .unset] [(.long q1)])) _
    refine XS.lloadN X28.here hx rfl (hb hby at_175) rfl ?_
    show Steps p.tables e below (T28.setTop (mkF m 176 #[.val (.long q1), .second, .val (.long q2), .second, .val (.long q3), .second, .val (.long q4), .second, .val (.long q5), .second, .val (.long q6), .second, .val (.int (own_b (own_pc q1 q2 q3 q4))), .val (.int (own_b (own_pc q3 q4 q1 q2))), .val (.int (own_b (own_eq q1 q2 q3 q4))), .val (.int (1 : Int32)), .val (.int (1 : Int32)), .val (.int (1 : Int32)), .val (.int (1 : Int32)), .val (.int (own_b (own_pc q3 q4 q5 q6))), .unset, .unset] [(.long q2), (.long q1)])) _
    refine XS.lload X28.here hx rfl (hb hby at_176) rfl ?_
    show Steps p.tables e below (T28.setTop (mkF m 178 #[.val (.long q1), .second, .val (.long q2), .second, .val (.long q3), .second, .val (.long q4), .second, .val (.long q5), .second, .val (.long q6), .second, .val (.int (own_b (own_pc q1 q2 q3 q4))), .val (.int (own_b (own_pc q3 q4 q1 q2))), .val (.int (own_b (own_eq q1 q2 q3 q4))), .val (.int (1 : Int32)), .val (.int (1 : Int32)), .val (.int (1 : Int32)), .val (.int (1 : Int32)), .val (.int (own_b (own_pc q3 q4 q5 q6))), .unset, .unset] [(.long q5), (.long q2), (.long q1)])) _
    refine XS.lload X28.here hx rfl (hb hby at_178) rfl ?_
    show Steps p.tables e below (T28.setTop (mkF m 180 #[.val (.long q1), .second, .val (.long q2), .second, .val (.long q3), .second, .val (.long q4), .second, .val (.long q5), .second, .val (.long q6), .second, .val (.int (own_b (own_pc q1 q2 q3 q4))), .val (.int (own_b (own_pc q3 q4 q1 q2))), .val (.int (own_b (own_eq q1 q2 q3 q4))), .val (.int (1 : Int32)), .val (.int (1 : Int32)), .val (.int (1 : Int32)), .val (.int (1 : Int32)), .val (.int (own_b (own_pc q3 q4 q5 q6))), .unset, .unset] [(.long q6), (.long q5), (.long q2), (.long q1)])) _
    exact kt)
  obtain ⟨_, _, ⟨T30, L30, k30, n30⟩, -, X30, ⟨Lc30, hQ30, l30, y30, z30⟩, st30⟩ := Jvm.LawKit.callS X28 hx (y := (⟨"com/example/treadle/treadle/MessageHeap", "precedes", "(JJJJ)Z"⟩ : MethodName)) hown (mvT hZ (hw _ (List.mem_of_getElem? (i := 0) rfl))) (mvT hZ (hw _ (List.mem_of_getElem? (i := 1) rfl))) (mvT hZ (hw _ (List.mem_of_getElem? (i := 2) rfl))) (mvT hZ (hw _ (List.mem_of_getElem? (i := 3) rfl))) (by decide) (backOf (W := 0) (rm_pc l Z a0 hw [] q1 q2 q5 q6 h0 n0 Z0 ) hZ (hw _ (List.mem_of_getElem? (i := 3) rfl)) (hw _ (List.mem_of_getElem? (i := 2) rfl)) (by decide) (by decide)) (g := (mkF m 180 #[.val (.long q1), .second, .val (.long q2), .second, .val (.long q3), .second, .val (.long q4), .second, .val (.long q5), .second, .val (.long q6), .second, .val (.int (own_b (own_pc q1 q2 q3 q4))), .val (.int (own_b (own_pc q3 q4 q1 q2))), .val (.int (own_b (own_eq q1 q2 q3 q4))), .val (.int (1 : Int32)), .val (.int (1 : Int32)), .val (.int (1 : Int32)), .val (.int (1 : Int32)), .val (.int (own_b (own_pc q3 q4 q5 q6))), .unset, .unset] [(.long q6), (.long q5), (.long q2), (.long q1)])) rfl (by rw [hml]; rfl) (argsL := [(.long q1), (.long q2), (.long q5), (.long q6)]) (rest := []) (lenOf pd_law_0 rfl) rfl (by show 2 * 0 + _ ≤ _; exact Nat.le_of_eq rfl) (hb hby at_180) (fun _ _ => ⟨rfl, e28, (by decide : 0 + 0 ≤ _), (by decide : 0 + 0 ≤ _)⟩)
  dsimp only [Pt.U, Pt.locs, Pt.cells, Pt.slots] at X30 l30 y30 z30 st30 hQ30
  subst l30 y30 z30
  obtain ⟨rfl, N30q, e30⟩ := hQ30
  have N30 := Fr.app N28 N30q
  have sg32 : ∀ t, Steps p.tables e below (T30.setTop (mkF m 207 #[.val (.long q1), .second, .val (.long q2), .second, .val (.long q3), .second, .val (.long q4), .second, .val (.long q5), .second, .val (.long q6), .second, .val (.int (own_b (own_pc q1 q2 q3 q4))), .val (.int (own_b (own_pc q3 q4 q1 q2))), .val (.int (own_b (own_eq q1 q2 q3 q4))), .val (.int (1 : Int32)), .val (.int (1 : Int32)), .val (.int (1 : Int32)), .val (.int (1 : Int32)), .val (.int (own_b (own_pc q3 q4 q5 q6))), .val (.int (own_b (own_pc q1 q2 q5 q6))), .val (.int (1 : Int32))] [])) t → Steps p.tables e below (T30.setTop (mkF m 185 #[.val (.long q1), .second, .val (.long q2), .second, .val (.long q3), .second, .val (.long q4), .second, .val (.long q5), .second, .val (.long q6), .second, .val (.int (own_b (own_pc q1 q2 q3 q4))), .val (.int (own_b (own_pc q3 q4 q1 q2))), .val (.int (own_b (own_eq q1 q2 q3 q4))), .val (.int (1 : Int32)), .val (.int (1 : Int32)), .val (.int (1 : Int32)), .val (.int (1 : Int32)), .val (.int (own_b (own_pc q3 q4 q5 q6))), .val (.int (own_b (own_pc q1 q2 q5 q6))), .unset] [])) t := by
    intro t kt
    show Steps p.tables e below (T30.setTop (mkF m 185 #[.val (.long q1), .second, .val (.long q2), .second, .val (.long q3), .second, .val (.long q4), .second, .val (.long q5), .second, .val (.long q6), .second, .val (.int (own_b (own_pc q1 q2 q3 q4))), .val (.int (own_b (own_pc q3 q4 q1 q2))), .val (.int (own_b (own_eq q1 q2 q3 q4))), .val (.int (1 : Int32)), .val (.int (1 : Int32)), .val (.int (1 : Int32)), .val (.int (1 : Int32)), .val (.int (own_b (own_pc q3 q4 q5 q6))), .val (.int (own_b (own_pc q1 q2 q5 q6))), .unset] [])) _
    refine XS.iload X30.here hx rfl (hb hby at_185) rfl ?_
    by_cases hc187_33 : (own_pc q1 q2 q3 q4) = true
    · show Steps p.tables e below (T30.setTop (mkF m 187 #[.val (.long q1), .second, .val (.long q2), .second, .val (.long q3), .second, .val (.long q4), .second, .val (.long q5), .second, .val (.long q6), .second, .val (.int (own_b (own_pc q1 q2 q3 q4))), .val (.int (own_b (own_pc q3 q4 q1 q2))), .val (.int (own_b (own_eq q1 q2 q3 q4))), .val (.int (1 : Int32)), .val (.int (1 : Int32)), .val (.int (1 : Int32)), .val (.int (1 : Int32)), .val (.int (own_b (own_pc q3 q4 q5 q6))), .val (.int (own_b (own_pc q1 q2 q5 q6))), .unset] [(.int (own_b (own_pc q1 q2 q3 q4)))])) _
      refine XS.ifNo X30.here hx rfl (hb hby at_187) rfl ((if0 _ _).trans (feq (own_b1 hc187_33)).1) ?_
      show Steps p.tables e below (T30.setTop (mkF m 190 #[.val (.long q1), .second, .val (.long q2), .second, .val (.long q3), .second, .val (.long q4), .second, .val (.long q5), .second, .val (.long q6), .second, .val (.int (own_b (own_pc q1 q2 q3 q4))), .val (.int (own_b (own_pc q3 q4 q1 q2))), .val (.int (own_b (own_eq q1 q2 q3 q4))), .val (.int (1 : Int32)), .val (.int (1 : Int32)), .val (.int (1 : Int32)), .val (.int (1 : Int32)), .val (.int (own_b (own_pc q3 q4 q5 q6))), .val (.int (own_b (own_pc q1 q2 q5 q6))), .unset] [])) _
      refine XS.iload X30.here hx rfl (hb hby at_190) rfl ?_
      by_cases hc192_34 : (own_pc q3 q4 q5 q6) = true
      · show Steps p.tables e below (T30.setTop (mkF m 192 #[.val (.long q1), .second, .val (.long q2), .second, .val (.long q3), .second, .val (.long q4), .second, .val (.long q5), .second, .val (.long q6), .second, .val (.int (own_b (own_pc q1 q2 q3 q4))), .val (.int (own_b (own_pc q3 q4 q1 q2))), .val (.int (own_b (own_eq q1 q2 q3 q4))), .val (.int (1 : Int32)), .val (.int (1 : Int32)), .val (.int (1 : Int32)), .val (.int (1 : Int32)), .val (.int (own_b (own_pc q3 q4 q5 q6))), .val (.int (own_b (own_pc q1 q2 q5 q6))), .unset] [(.int (own_b (own_pc q3 q4 q5 q6)))])) _
        refine XS.ifNo X30.here hx rfl (hb hby at_192) rfl ((if0 _ _).trans (feq (own_b1 hc192_34)).1) ?_
        show Steps p.tables e below (T30.setTop (mkF m 195 #[.val (.long q1), .second, .val (.long q2), .second, .val (.long q3), .second, .val (.long q4), .second, .val (.long q5), .second, .val (.long q6), .second, .val (.int (own_b (own_pc q1 q2 q3 q4))), .val (.int (own_b (own_pc q3 q4 q1 q2))), .val (.int (own_b (own_eq q1 q2 q3 q4))), .val (.int (1 : Int32)), .val (.int (1 : Int32)), .val (.int (1 : Int32)), .val (.int (1 : Int32)), .val (.int (own_b (own_pc q3 q4 q5 q6))), .val (.int (own_b (own_pc q1 q2 q5 q6))), .unset] [])) _
        refine XS.iload X30.here hx rfl (hb hby at_195) rfl ?_
        by_cases hc197_35 : (own_pc q1 q2 q5 q6) = true
        · show Steps p.tables e below (T30.setTop (mkF m 197 #[.val (.long q1), .second, .val (.long q2), .second, .val (.long q3), .second, .val (.long q4), .second, .val (.long q5), .second, .val (.long q6), .second, .val (.int (own_b (own_pc q1 q2 q3 q4))), .val (.int (own_b (own_pc q3 q4 q1 q2))), .val (.int (own_b (own_eq q1 q2 q3 q4))), .val (.int (1 : Int32)), .val (.int (1 : Int32)), .val (.int (1 : Int32)), .val (.int (1 : Int32)), .val (.int (own_b (own_pc q3 q4 q5 q6))), .val (.int (own_b (own_pc q1 q2 q5 q6))), .unset] [(.int (own_b (own_pc q1 q2 q5 q6)))])) _
          refine XS.ifNo X30.here hx rfl (hb hby at_197) rfl ((if0 _ _).trans (feq (own_b1 hc197_35)).1) ?_
          show Steps p.tables e below (T30.setTop (mkF m 200 #[.val (.long q1), .second, .val (.long q2), .second, .val (.long q3), .second, .val (.long q4), .second, .val (.long q5), .second, .val (.long q6), .second, .val (.int (own_b (own_pc q1 q2 q3 q4))), .val (.int (own_b (own_pc q3 q4 q1 q2))), .val (.int (own_b (own_eq q1 q2 q3 q4))), .val (.int (1 : Int32)), .val (.int (1 : Int32)), .val (.int (1 : Int32)), .val (.int (1 : Int32)), .val (.int (own_b (own_pc q3 q4 q5 q6))), .val (.int (own_b (own_pc q1 q2 q5 q6))), .unset] [])) _
          refine XS.iconst X30.here hx rfl (hb hby at_200) ?_
          show Steps p.tables e below (T30.setTop (mkF m 201 #[.val (.long q1), .second, .val (.long q2), .second, .val (.long q3), .second, .val (.long q4), .second, .val (.long q5), .second, .val (.long q6), .second, .val (.int (own_b (own_pc q1 q2 q3 q4))), .val (.int (own_b (own_pc q3 q4 q1 q2))), .val (.int (own_b (own_eq q1 q2 q3 q4))), .val (.int (1 : Int32)), .val (.int (1 : Int32)), .val (.int (1 : Int32)), .val (.int (1 : Int32)), .val (.int (own_b (own_pc q3 q4 q5 q6))), .val (.int (own_b (own_pc q1 q2 q5 q6))), .unset] [(.int (1 : Int32))])) _
          refine XS.goto X30.here hx rfl (pc0 := 201) (pc' := 205) rfl (hb hby at_201) (by decide) (by decide) ?_
          show Steps p.tables e below (T30.setTop (mkF m 205 #[.val (.long q1), .second, .val (.long q2), .second, .val (.long q3), .second, .val (.long q4), .second, .val (.long q5), .second, .val (.long q6), .second, .val (.int (own_b (own_pc q1 q2 q3 q4))), .val (.int (own_b (own_pc q3 q4 q1 q2))), .val (.int (own_b (own_eq q1 q2 q3 q4))), .val (.int (1 : Int32)), .val (.int (1 : Int32)), .val (.int (1 : Int32)), .val (.int (1 : Int32)), .val (.int (own_b (own_pc q3 q4 q5 q6))), .val (.int (own_b (own_pc q1 q2 q5 q6))), .unset] [(.int (1 : Int32))])) _
          refine XS.istore X30.here hx rfl (hb hby at_205) rfl (l' := #[.val (.long q1), .second, .val (.long q2), .second, .val (.long q3), .second, .val (.long q4), .second, .val (.long q5), .second, .val (.long q6), .second, .val (.int (own_b (own_pc q1 q2 q3 q4))), .val (.int (own_b (own_pc q3 q4 q1 q2))), .val (.int (own_b (own_eq q1 q2 q3 q4))), .val (.int (1 : Int32)), .val (.int (1 : Int32)), .val (.int (1 : Int32)), .val (.int (1 : Int32)), .val (.int (own_b (own_pc q3 q4 q5 q6))), .val (.int (own_b (own_pc q1 q2 q5 q6))), .val (.int (1 : Int32))]) rfl ?_
          show Steps p.tables e below (T30.setTop (mkF m 207 #[.val (.long q1), .second, .val (.long q2), .second, .val (.long q3), .second, .val (.long q4), .second, .val (.long q5), .second, .val (.long q6), .second, .val (.int (own_b (own_pc q1 q2 q3 q4))), .val (.int (own_b (own_pc q3 q4 q1 q2))), .val (.int (own_b (own_eq q1 q2 q3 q4))), .val (.int (1 : Int32)), .val (.int (1 : Int32)), .val (.int (1 : Int32)), .val (.int (1 : Int32)), .val (.int (own_b (own_pc q3 q4 q5 q6))), .val (.int (own_b (own_pc q1 q2 q5 q6))), .val (.int (1 : Int32))] [])) _
          exact kt
        · show Steps p.tables e below (T30.setTop (mkF m 197 #[.val (.long q1), .second, .val (.long q2), .second, .val (.long q3), .second, .val (.long q4), .second, .val (.long q5), .second, .val (.long q6), .second, .val (.int (own_b (own_pc q1 q2 q3 q4))), .val (.int (own_b (own_pc q3 q4 q1 q2))), .val (.int (own_b (own_eq q1 q2 q3 q4))), .val (.int (1 : Int32)), .val (.int (1 : Int32)), .val (.int (1 : Int32)), .val (.int (1 : Int32)), .val (.int (own_b (own_pc q3 q4 q5 q6))), .val (.int (own_b (own_pc q1 q2 q5 q6))), .unset] [(.int (own_b (own_pc q1 q2 q5 q6)))])) _
          refine XS.ifYes X30.here hx rfl (pc0 := 197) (pc' := 204) rfl (hb hby at_197) rfl ((if0 _ _).trans (teq (own_b0 hc197_35)).1) (by decide) (by decide) ?_
          show Steps p.tables e below (T30.setTop (mkF m 204 #[.val (.long q1), .second, .val (.long q2), .second, .val (.long q3), .second, .val (.long q4), .second, .val (.long q5), .second, .val (.long q6), .second, .val (.int (own_b (own_pc q1 q2 q3 q4))), .val (.int (own_b (own_pc q3 q4 q1 q2))), .val (.int (own_b (own_eq q1 q2 q3 q4))), .val (.int (1 : Int32)), .val (.int (1 : Int32)), .val (.int (1 : Int32)), .val (.int (1 : Int32)), .val (.int (own_b (own_pc q3 q4 q5 q6))), .val (.int (own_b (own_pc q1 q2 q5 q6))), .unset] [])) _
          refine XS.iconst X30.here hx rfl (hb hby at_204) ?_
          show Steps p.tables e below (T30.setTop (mkF m 205 #[.val (.long q1), .second, .val (.long q2), .second, .val (.long q3), .second, .val (.long q4), .second, .val (.long q5), .second, .val (.long q6), .second, .val (.int (own_b (own_pc q1 q2 q3 q4))), .val (.int (own_b (own_pc q3 q4 q1 q2))), .val (.int (own_b (own_eq q1 q2 q3 q4))), .val (.int (1 : Int32)), .val (.int (1 : Int32)), .val (.int (1 : Int32)), .val (.int (1 : Int32)), .val (.int (own_b (own_pc q3 q4 q5 q6))), .val (.int (own_b (own_pc q1 q2 q5 q6))), .unset] [(.int (0 : Int32))])) _
          refine XS.istore X30.here hx rfl (hb hby at_205) rfl (l' := #[.val (.long q1), .second, .val (.long q2), .second, .val (.long q3), .second, .val (.long q4), .second, .val (.long q5), .second, .val (.long q6), .second, .val (.int (own_b (own_pc q1 q2 q3 q4))), .val (.int (own_b (own_pc q3 q4 q1 q2))), .val (.int (own_b (own_eq q1 q2 q3 q4))), .val (.int (1 : Int32)), .val (.int (1 : Int32)), .val (.int (1 : Int32)), .val (.int (1 : Int32)), .val (.int (own_b (own_pc q3 q4 q5 q6))), .val (.int (own_b (own_pc q1 q2 q5 q6))), .val (.int (0 : Int32))]) rfl ?_
          show Steps p.tables e below (T30.setTop (mkF m 207 #[.val (.long q1), .second, .val (.long q2), .second, .val (.long q3), .second, .val (.long q4), .second, .val (.long q5), .second, .val (.long q6), .second, .val (.int (own_b (own_pc q1 q2 q3 q4))), .val (.int (own_b (own_pc q3 q4 q1 q2))), .val (.int (own_b (own_eq q1 q2 q3 q4))), .val (.int (1 : Int32)), .val (.int (1 : Int32)), .val (.int (1 : Int32)), .val (.int (1 : Int32)), .val (.int (own_b (own_pc q3 q4 q5 q6))), .val (.int (own_b (own_pc q1 q2 q5 q6))), .val (.int (0 : Int32))] [])) _
          exfalso
          simp only [own_pci, own_eqi, own_bi, own_bi1, own_bi0, Int64.lt_iff_toInt_lt, ← Int64.toInt_inj, true_and, and_true, false_or, Int.lt_irrefl] at hc187_33 hc192_34 hc197_35; omega
      · show Steps p.tables e below (T30.setTop (mkF m 192 #[.val (.long q1), .second, .val (.long q2), .second, .val (.long q3), .second, .val (.long q4), .second, .val (.long q5), .second, .val (.long q6), .second, .val (.int (own_b (own_pc q1 q2 q3 q4))), .val (.int (own_b (own_pc q3 q4 q1 q2))), .val (.int (own_b (own_eq q1 q2 q3 q4))), .val (.int (1 : Int32)), .val (.int (1 : Int32)), .val (.int (1 : Int32)), .val (.int (1 : Int32)), .val (.int (own_b (own_pc q3 q4 q5 q6))), .val (.int (own_b (own_pc q1 q2 q5 q6))), .unset] [(.int (own_b (own_pc q3 q4 q5 q6)))])) _
        refine XS.ifYes X30.here hx rfl (pc0 := 192) (pc' := 200) rfl (hb hby at_192) rfl ((if0 _ _).trans (teq (own_b0 hc192_34)).1) (by decide) (by decide) ?_
        show Steps p.tables e below (T30.setTop (mkF m 200 #[.val (.long q1), .second, .val (.long q2), .second, .val (.long q3), .second, .val (.long q4), .second, .val (.long q5), .second, .val (.long q6), .second, .val (.int (own_b (own_pc q1 q2 q3 q4))), .val (.int (own_b (own_pc q3 q4 q1 q2))), .val (.int (own_b (own_eq q1 q2 q3 q4))), .val (.int (1 : Int32)), .val (.int (1 : Int32)), .val (.int (1 : Int32)), .val (.int (1 : Int32)), .val (.int (own_b (own_pc q3 q4 q5 q6))), .val (.int (own_b (own_pc q1 q2 q5 q6))), .unset] [])) _
        refine XS.iconst X30.here hx rfl (hb hby at_200) ?_
        show Steps p.tables e below (T30.setTop (mkF m 201 #[.val (.long q1), .second, .val (.long q2), .second, .val (.long q3), .second, .val (.long q4), .second, .val (.long q5), .second, .val (.long q6), .second, .val (.int (own_b (own_pc q1 q2 q3 q4))), .val (.int (own_b (own_pc q3 q4 q1 q2))), .val (.int (own_b (own_eq q1 q2 q3 q4))), .val (.int (1 : Int32)), .val (.int (1 : Int32)), .val (.int (1 : Int32)), .val (.int (1 : Int32)), .val (.int (own_b (own_pc q3 q4 q5 q6))), .val (.int (own_b (own_pc q1 q2 q5 q6))), .unset] [(.int (1 : Int32))])) _
        refine XS.goto X30.here hx rfl (pc0 := 201) (pc' := 205) rfl (hb hby at_201) (by decide) (by decide) ?_
        show Steps p.tables e below (T30.setTop (mkF m 205 #[.val (.long q1), .second, .val (.long q2), .second, .val (.long q3), .second, .val (.long q4), .second, .val (.long q5), .second, .val (.long q6), .second, .val (.int (own_b (own_pc q1 q2 q3 q4))), .val (.int (own_b (own_pc q3 q4 q1 q2))), .val (.int (own_b (own_eq q1 q2 q3 q4))), .val (.int (1 : Int32)), .val (.int (1 : Int32)), .val (.int (1 : Int32)), .val (.int (1 : Int32)), .val (.int (own_b (own_pc q3 q4 q5 q6))), .val (.int (own_b (own_pc q1 q2 q5 q6))), .unset] [(.int (1 : Int32))])) _
        refine XS.istore X30.here hx rfl (hb hby at_205) rfl (l' := #[.val (.long q1), .second, .val (.long q2), .second, .val (.long q3), .second, .val (.long q4), .second, .val (.long q5), .second, .val (.long q6), .second, .val (.int (own_b (own_pc q1 q2 q3 q4))), .val (.int (own_b (own_pc q3 q4 q1 q2))), .val (.int (own_b (own_eq q1 q2 q3 q4))), .val (.int (1 : Int32)), .val (.int (1 : Int32)), .val (.int (1 : Int32)), .val (.int (1 : Int32)), .val (.int (own_b (own_pc q3 q4 q5 q6))), .val (.int (own_b (own_pc q1 q2 q5 q6))), .val (.int (1 : Int32))]) rfl ?_
        show Steps p.tables e below (T30.setTop (mkF m 207 #[.val (.long q1), .second, .val (.long q2), .second, .val (.long q3), .second, .val (.long q4), .second, .val (.long q5), .second, .val (.long q6), .second, .val (.int (own_b (own_pc q1 q2 q3 q4))), .val (.int (own_b (own_pc q3 q4 q1 q2))), .val (.int (own_b (own_eq q1 q2 q3 q4))), .val (.int (1 : Int32)), .val (.int (1 : Int32)), .val (.int (1 : Int32)), .val (.int (1 : Int32)), .val (.int (own_b (own_pc q3 q4 q5 q6))), .val (.int (own_b (own_pc q1 q2 q5 q6))), .val (.int (1 : Int32))] [])) _
        exact kt
    · show Steps p.tables e below (T30.setTop (mkF m 187 #[.val (.long q1), .second, .val (.long q2), .second, .val (.long q3), .second, .val (.long q4), .second, .val (.long q5), .second, .val (.long q6), .second, .val (.int (own_b (own_pc q1 q2 q3 q4))), .val (.int (own_b (own_pc q3 q4 q1 q2))), .val (.int (own_b (own_eq q1 q2 q3 q4))), .val (.int (1 : Int32)), .val (.int (1 : Int32)), .val (.int (1 : Int32)), .val (.int (1 : Int32)), .val (.int (own_b (own_pc q3 q4 q5 q6))), .val (.int (own_b (own_pc q1 q2 q5 q6))), .unset] [(.int (own_b (own_pc q1 q2 q3 q4)))])) _
      refine XS.ifYes X30.here hx rfl (pc0 := 187) (pc' := 200) rfl (hb hby at_187) rfl ((if0 _ _).trans (teq (own_b0 hc187_33)).1) (by decide) (by decide) ?_
      show Steps p.tables e below (T30.setTop (mkF m 200 #[.val (.long q1), .second, .val (.long q2), .second, .val (.long q3), .second, .val (.long q4), .second, .val (.long q5), .second, .val (.long q6), .second, .val (.int (own_b (own_pc q1 q2 q3 q4))), .val (.int (own_b (own_pc q3 q4 q1 q2))), .val (.int (own_b (own_eq q1 q2 q3 q4))), .val (.int (1 : Int32)), .val (.int (1 : Int32)), .val (.int (1 : Int32)), .val (.int (1 : Int32)), .val (.int (own_b (own_pc q3 q4 q5 q6))), .val (.int (own_b (own_pc q1 q2 q5 q6))), .unset] [])) _
      refine XS.iconst X30.here hx rfl (hb hby at_200) ?_
      show Steps p.tables e below (T30.setTop (mkF m 201 #[.val (.long q1), .second, .val (.long q2), .second, .val (.long q3), .second, .val (.long q4), .second, .val (.long q5), .second, .val (.long q6), .second, .val (.int (own_b (own_pc q1 q2 q3 q4))), .val (.int (own_b (own_pc q3 q4 q1 q2))), .val (.int (own_b (own_eq q1 q2 q3 q4))), .val (.int (1 : Int32)), .val (.int (1 : Int32)), .val (.int (1 : Int32)), .val (.int (1 : Int32)), .val (.int (own_b (own_pc q3 q4 q5 q6))), .val (.int (own_b (own_pc q1 q2 q5 q6))), .unset] [(.int (1 : Int32))])) _
      refine XS.goto X30.here hx rfl (pc0 := 201) (pc' := 205) rfl (hb hby at_201) (by decide) (by decide) ?_
      show Steps p.tables e below (T30.setTop (mkF m 205 #[.val (.long q1), .second, .val (.long q2), .second, .val (.long q3), .second, .val (.long q4), .second, .val (.long q5), .second, .val (.long q6), .second, .val (.int (own_b (own_pc q1 q2 q3 q4))), .val (.int (own_b (own_pc q3 q4 q1 q2))), .val (.int (own_b (own_eq q1 q2 q3 q4))), .val (.int (1 : Int32)), .val (.int (1 : Int32)), .val (.int (1 : Int32)), .val (.int (1 : Int32)), .val (.int (own_b (own_pc q3 q4 q5 q6))), .val (.int (own_b (own_pc q1 q2 q5 q6))), .unset] [(.int (1 : Int32))])) _
      refine XS.istore X30.here hx rfl (hb hby at_205) rfl (l' := #[.val (.long q1), .second, .val (.long q2), .second, .val (.long q3), .second, .val (.long q4), .second, .val (.long q5), .second, .val (.long q6), .second, .val (.int (own_b (own_pc q1 q2 q3 q4))), .val (.int (own_b (own_pc q3 q4 q1 q2))), .val (.int (own_b (own_eq q1 q2 q3 q4))), .val (.int (1 : Int32)), .val (.int (1 : Int32)), .val (.int (1 : Int32)), .val (.int (1 : Int32)), .val (.int (own_b (own_pc q3 q4 q5 q6))), .val (.int (own_b (own_pc q1 q2 q5 q6))), .val (.int (1 : Int32))]) rfl ?_
      show Steps p.tables e below (T30.setTop (mkF m 207 #[.val (.long q1), .second, .val (.long q2), .second, .val (.long q3), .second, .val (.long q4), .second, .val (.long q5), .second, .val (.long q6), .second, .val (.int (own_b (own_pc q1 q2 q3 q4))), .val (.int (own_b (own_pc q3 q4 q1 q2))), .val (.int (own_b (own_eq q1 q2 q3 q4))), .val (.int (1 : Int32)), .val (.int (1 : Int32)), .val (.int (1 : Int32)), .val (.int (1 : Int32)), .val (.int (own_b (own_pc q3 q4 q5 q6))), .val (.int (own_b (own_pc q1 q2 q5 q6))), .val (.int (1 : Int32))] [])) _
      exact kt
  obtain ⟨fs, hr, hrun, hended, hW, hsame⟩ := X30.leave (v := some (.int (nar .boolean (1 : Int32)))) (fun h => by rw [Bd.returns] at h; cases h)
  refine ⟨_, _, pr31 _ ?_, hrun, hended, _, _, rfl, ?_, ⟨_, rfl⟩, hW, hsame.mono (by decide) (by decide)⟩
  · refine st30 _ ?_
    show Steps p.tables e below (T30.setTop (mkF m 183 #[.val (.long q1), .second, .val (.long q2), .second, .val (.long q3), .second, .val (.long q4), .second, .val (.long q5), .second, .val (.long q6), .second, .val (.int (own_b (own_pc q1 q2 q3 q4))), .val (.int (own_b (own_pc q3 q4 q1 q2))), .val (.int (own_b (own_eq q1 q2 q3 q4))), .val (.int (1 : Int32)), .val (.int (1 : Int32)), .val (.int (1 : Int32)), .val (.int (1 : Int32)), .val (.int (own_b (own_pc q3 q4 q5 q6))), .unset, .unset] [(.int (own_b (own_pc q1 q2 q5 q6)))])) _
    refine XS.istore X30.here hx rfl (hb hby at_183) rfl (l' := #[.val (.long q1), .second, .val (.long q2), .second, .val (.long q3), .second, .val (.long q4), .second, .val (.long q5), .second, .val (.long q6), .second, .val (.int (own_b (own_pc q1 q2 q3 q4))), .val (.int (own_b (own_pc q3 q4 q1 q2))), .val (.int (own_b (own_eq q1 q2 q3 q4))), .val (.int (1 : Int32)), .val (.int (1 : Int32)), .val (.int (1 : Int32)), .val (.int (1 : Int32)), .val (.int (own_b (own_pc q3 q4 q5 q6))), .val (.int (own_b (own_pc q1 q2 q5 q6))), .unset]) rfl ?_
    show Steps p.tables e below (T30.setTop (mkF m 185 #[.val (.long q1), .second, .val (.long q2), .second, .val (.long q3), .second, .val (.long q4), .second, .val (.long q5), .second, .val (.long q6), .second, .val (.int (own_b (own_pc q1 q2 q3 q4))), .val (.int (own_b (own_pc q3 q4 q1 q2))), .val (.int (own_b (own_eq q1 q2 q3 q4))), .val (.int (1 : Int32)), .val (.int (1 : Int32)), .val (.int (1 : Int32)), .val (.int (1 : Int32)), .val (.int (own_b (own_pc q3 q4 q5 q6))), .val (.int (own_b (own_pc q1 q2 q5 q6))), .unset] [])) _
    refine sg32 _ ?_
    show Steps p.tables e below (T30.setTop (mkF m 207 #[.val (.long q1), .second, .val (.long q2), .second, .val (.long q3), .second, .val (.long q4), .second, .val (.long q5), .second, .val (.long q6), .second, .val (.int (own_b (own_pc q1 q2 q3 q4))), .val (.int (own_b (own_pc q3 q4 q1 q2))), .val (.int (own_b (own_eq q1 q2 q3 q4))), .val (.int (1 : Int32)), .val (.int (1 : Int32)), .val (.int (1 : Int32)), .val (.int (1 : Int32)), .val (.int (own_b (own_pc q3 q4 q5 q6))), .val (.int (own_b (own_pc q1 q2 q5 q6))), .val (.int (1 : Int32))] [])) _
    refine XS.iload X30.here hx rfl (hb hby at_207) rfl ?_
    show Steps p.tables e below (T30.setTop (mkF m 209 #[.val (.long q1), .second, .val (.long q2), .second, .val (.long q3), .second, .val (.long q4), .second, .val (.long q5), .second, .val (.long q6), .second, .val (.int (own_b (own_pc q1 q2 q3 q4))), .val (.int (own_b (own_pc q3 q4 q1 q2))), .val (.int (own_b (own_eq q1 q2 q3 q4))), .val (.int (1 : Int32)), .val (.int (1 : Int32)), .val (.int (1 : Int32)), .val (.int (1 : Int32)), .val (.int (own_b (own_pc q3 q4 q5 q6))), .val (.int (own_b (own_pc q1 q2 q5 q6))), .val (.int (1 : Int32))] [(.int (1 : Int32))])) _
    refine XS.ifNo X30.here hx rfl (hb hby at_209) rfl ((if0 _ _).trans (feq (by decide : ¬ ((1 : Int32) = (0 : Int32)))).1) ?_
    show Steps p.tables e below (T30.setTop (mkF m 212 #[.val (.long q1), .second, .val (.long q2), .second, .val (.long q3), .second, .val (.long q4), .second, .val (.long q5), .second, .val (.long q6), .second, .val (.int (own_b (own_pc q1 q2 q3 q4))), .val (.int (own_b (own_pc q3 q4 q1 q2))), .val (.int (own_b (own_eq q1 q2 q3 q4))), .val (.int (1 : Int32)), .val (.int (1 : Int32)), .val (.int (1 : Int32)), .val (.int (1 : Int32)), .val (.int (own_b (own_pc q3 q4 q5 q6))), .val (.int (own_b (own_pc q1 q2 q5 q6))), .val (.int (1 : Int32))] [])) _
    refine XS.iload X30.here hx rfl (hb hby at_212) rfl ?_
    show Steps p.tables e below (T30.setTop (mkF m 214 #[.val (.long q1), .second, .val (.long q2), .second, .val (.long q3), .second, .val (.long q4), .second, .val (.long q5), .second, .val (.long q6), .second, .val (.int (own_b (own_pc q1 q2 q3 q4))), .val (.int (own_b (own_pc q3 q4 q1 q2))), .val (.int (own_b (own_eq q1 q2 q3 q4))), .val (.int (1 : Int32)), .val (.int (1 : Int32)), .val (.int (1 : Int32)), .val (.int (1 : Int32)), .val (.int (own_b (own_pc q3 q4 q5 q6))), .val (.int (own_b (own_pc q1 q2 q5 q6))), .val (.int (1 : Int32))] [(.int (1 : Int32))])) _
    refine XS.ifNo X30.here hx rfl (hb hby at_214) rfl ((if0 _ _).trans (feq (by decide : ¬ ((1 : Int32) = (0 : Int32)))).1) ?_
    show Steps p.tables e below (T30.setTop (mkF m 217 #[.val (.long q1), .second, .val (.long q2), .second, .val (.long q3), .second, .val (.long q4), .second, .val (.long q5), .second, .val (.long q6), .second, .val (.int (own_b (own_pc q1 q2 q3 q4))), .val (.int (own_b (own_pc q3 q4 q1 q2))), .val (.int (own_b (own_eq q1 q2 q3 q4))), .val (.int (1 : Int32)), .val (.int (1 : Int32)), .val (.int (1 : Int32)), .val (.int (1 : Int32)), .val (.int (own_b (own_pc q3 q4 q5 q6))), .val (.int (own_b (own_pc q1 q2 q5 q6))), .val (.int (1 : Int32))] [])) _
    refine XS.iload X30.here hx rfl (hb hby at_217) rfl ?_
    show Steps p.tables e below (T30.setTop (mkF m 219 #[.val (.long q1), .second, .val (.long q2), .second, .val (.long q3), .second, .val (.long q4), .second, .val (.long q5), .second, .val (.long q6), .second, .val (.int (own_b (own_pc q1 q2 q3 q4))), .val (.int (own_b (own_pc q3 q4 q1 q2))), .val (.int (own_b (own_eq q1 q2 q3 q4))), .val (.int (1 : Int32)), .val (.int (1 : Int32)), .val (.int (1 : Int32)), .val (.int (1 : Int32)), .val (.int (own_b (own_pc q3 q4 q5 q6))), .val (.int (own_b (own_pc q1 q2 q5 q6))), .val (.int (1 : Int32))] [(.int (1 : Int32))])) _
    refine XS.ifNo X30.here hx rfl (hb hby at_219) rfl ((if0 _ _).trans (feq (by decide : ¬ ((1 : Int32) = (0 : Int32)))).1) ?_
    show Steps p.tables e below (T30.setTop (mkF m 222 #[.val (.long q1), .second, .val (.long q2), .second, .val (.long q3), .second, .val (.long q4), .second, .val (.long q5), .second, .val (.long q6), .second, .val (.int (own_b (own_pc q1 q2 q3 q4))), .val (.int (own_b (own_pc q3 q4 q1 q2))), .val (.int (own_b (own_eq q1 q2 q3 q4))), .val (.int (1 : Int32)), .val (.int (1 : Int32)), .val (.int (1 : Int32)), .val (.int (1 : Int32)), .val (.int (own_b (own_pc q3 q4 q5 q6))), .val (.int (own_b (own_pc q1 q2 q5 q6))), .val (.int (1 : Int32))] [])) _
    refine XS.iload X30.here hx rfl (hb hby at_222) rfl ?_
    show Steps p.tables e below (T30.setTop (mkF m 224 #[.val (.long q1), .second, .val (.long q2), .second, .val (.long q3), .second, .val (.long q4), .second, .val (.long q5), .second, .val (.long q6), .second, .val (.int (own_b (own_pc q1 q2 q3 q4))), .val (.int (own_b (own_pc q3 q4 q1 q2))), .val (.int (own_b (own_eq q1 q2 q3 q4))), .val (.int (1 : Int32)), .val (.int (1 : Int32)), .val (.int (1 : Int32)), .val (.int (1 : Int32)), .val (.int (own_b (own_pc q3 q4 q5 q6))), .val (.int (own_b (own_pc q1 q2 q5 q6))), .val (.int (1 : Int32))] [(.int (1 : Int32))])) _
    refine XS.ifNo X30.here hx rfl (hb hby at_224) rfl ((if0 _ _).trans (feq (by decide : ¬ ((1 : Int32) = (0 : Int32)))).1) ?_
    show Steps p.tables e below (T30.setTop (mkF m 227 #[.val (.long q1), .second, .val (.long q2), .second, .val (.long q3), .second, .val (.long q4), .second, .val (.long q5), .second, .val (.long q6), .second, .val (.int (own_b (own_pc q1 q2 q3 q4))), .val (.int (own_b (own_pc q3 q4 q1 q2))), .val (.int (own_b (own_eq q1 q2 q3 q4))), .val (.int (1 : Int32)), .val (.int (1 : Int32)), .val (.int (1 : Int32)), .val (.int (1 : Int32)), .val (.int (own_b (own_pc q3 q4 q5 q6))), .val (.int (own_b (own_pc q1 q2 q5 q6))), .val (.int (1 : Int32))] [])) _
    refine XS.iload X30.here hx rfl (hb hby at_227) rfl ?_
    show Steps p.tables e below (T30.setTop (mkF m 229 #[.val (.long q1), .second, .val (.long q2), .second, .val (.long q3), .second, .val (.long q4), .second, .val (.long q5), .second, .val (.long q6), .second, .val (.int (own_b (own_pc q1 q2 q3 q4))), .val (.int (own_b (own_pc q3 q4 q1 q2))), .val (.int (own_b (own_eq q1 q2 q3 q4))), .val (.int (1 : Int32)), .val (.int (1 : Int32)), .val (.int (1 : Int32)), .val (.int (1 : Int32)), .val (.int (own_b (own_pc q3 q4 q5 q6))), .val (.int (own_b (own_pc q1 q2 q5 q6))), .val (.int (1 : Int32))] [(.int (1 : Int32))])) _
    refine XS.ifNo X30.here hx rfl (hb hby at_229) rfl ((if0 _ _).trans (feq (by decide : ¬ ((1 : Int32) = (0 : Int32)))).1) ?_
    show Steps p.tables e below (T30.setTop (mkF m 232 #[.val (.long q1), .second, .val (.long q2), .second, .val (.long q3), .second, .val (.long q4), .second, .val (.long q5), .second, .val (.long q6), .second, .val (.int (own_b (own_pc q1 q2 q3 q4))), .val (.int (own_b (own_pc q3 q4 q1 q2))), .val (.int (own_b (own_eq q1 q2 q3 q4))), .val (.int (1 : Int32)), .val (.int (1 : Int32)), .val (.int (1 : Int32)), .val (.int (1 : Int32)), .val (.int (own_b (own_pc q3 q4 q5 q6))), .val (.int (own_b (own_pc q1 q2 q5 q6))), .val (.int (1 : Int32))] [])) _
    refine XS.iconst X30.here hx rfl (hb hby at_232) ?_
    show Steps p.tables e below (T30.setTop (mkF m 233 #[.val (.long q1), .second, .val (.long q2), .second, .val (.long q3), .second, .val (.long q4), .second, .val (.long q5), .second, .val (.long q6), .second, .val (.int (own_b (own_pc q1 q2 q3 q4))), .val (.int (own_b (own_pc q3 q4 q1 q2))), .val (.int (own_b (own_eq q1 q2 q3 q4))), .val (.int (1 : Int32)), .val (.int (1 : Int32)), .val (.int (1 : Int32)), .val (.int (1 : Int32)), .val (.int (own_b (own_pc q3 q4 q5 q6))), .val (.int (own_b (own_pc q1 q2 q5 q6))), .val (.int (1 : Int32))] [(.int (1 : Int32))])) _
    refine XS.goto X30.here hx rfl (pc0 := 233) (pc' := 237) rfl (hb hby at_233) (by decide) (by decide) ?_
    show Steps p.tables e below (T30.setTop (mkF m 237 #[.val (.long q1), .second, .val (.long q2), .second, .val (.long q3), .second, .val (.long q4), .second, .val (.long q5), .second, .val (.long q6), .second, .val (.int (own_b (own_pc q1 q2 q3 q4))), .val (.int (own_b (own_pc q3 q4 q1 q2))), .val (.int (own_b (own_eq q1 q2 q3 q4))), .val (.int (1 : Int32)), .val (.int (1 : Int32)), .val (.int (1 : Int32)), .val (.int (1 : Int32)), .val (.int (own_b (own_pc q3 q4 q5 q6))), .val (.int (own_b (own_pc q1 q2 q5 q6))), .val (.int (1 : Int32))] [(.int (1 : Int32))])) _
    exact retN X30 hx (t := .boolean) Bd.returns (by simp) (hb hby at_237) hr
  · show Q_law Z q1 q2 q3 q4 q5 q6 h0 n0 _ T30.heap _
    rw [e30]
    exact ⟨(congrArg (fun zz => some (Value.int zz)) (by rfl : nar .boolean (1 : Int32) = (1 : Int32))), N30⟩
set_option maxRecDepth 65536 in
set_option maxHeartbeats 40000000 in
theorem comes_1 {Post : Tables → Env → Array Value → State → Outcome → State → Prop} (hpost : ∀ tb e args s v u, (limb_1_1.after args s (.returned v) u = true ∧ limb_1_2.after args s (.returned v) u = true ∧ True) → FrameEnd s (.returned v) u (Jvm.fieldLocs frame_1_writes args s ++ Jvm.arrayLocs frame_1_arrays args s ++ Jvm.staticLocs frame_1_statics s) 0 0 → Post tb e args s (.returned v) u) :
    ArmFor flags0 classFile x code maxLocals ret World_1 tables_1 room_1 Calls_1 rest_1 Pre_1 Post := by
  intro l hfl _ _ p e ha hc hk s m args below hf hA hF happ hP
  obtain ⟨hcalls, hrest, hpre⟩ := hP
  obtain ⟨-, -, -, hnamed, -, -, -, hat⟩ := (Spec.applies_iff hf).mp happ
  obtain ⟨hg, hn⟩ := and_e (Cond.before_iff.mp (show (Jvm.Cond.and given_1 narrow_1).before args s = true from hpre))
  obtain ⟨hcount, hg1⟩ := and_e hg
  obtain ⟨ga0, hg2⟩ := and_e hg1
  obtain ⟨ga1, hg3⟩ := and_e hg2
  obtain ⟨ga2, hg4⟩ := and_e hg3
  obtain ⟨ga3, hg5⟩ := and_e hg4
  obtain ⟨ga4, hg6⟩ := and_e hg5
  obtain ⟨w0, w1, w2, w3, w4, w5, rfl⟩ : ∃ w0 w1 w2 w3 w4 w5 : Value, args = #[w0, w1, w2, w3, w4, w5] := by
    have hs : args.size = 6 := by simpa [Cond.value, given_1] using hcount
    obtain ⟨L⟩ := args
    match L, hs with
    | [w0, w1, w2, w3, w4, w5], _ => exact ⟨w0, w1, w2, w3, w4, w5, rfl⟩
  have hw := fun d (hd : d ∈ tables_1) => atoms_spec (ws := Jvm.Cond.code x code maxLocals ret :: tables_1) hat d (List.mem_cons_of_mem _ hd)
  obtain ⟨i0, ei0⟩ := isL_v ga0
  obtain rfl : w0 = (.long i0) := Option.some.inj ei0
  obtain ⟨i1, ei1⟩ := isL_v ga1
  obtain rfl : w1 = (.long i1) := Option.some.inj ei1
  obtain ⟨i2, ei2⟩ := isL_v ga2
  obtain rfl : w2 = (.long i2) := Option.some.inj ei2
  obtain ⟨i3, ei3⟩ := isL_v ga3
  obtain rfl : w3 = (.long i3) := Option.some.inj ei3
  obtain ⟨i4, ei4⟩ := isL_v ga4
  obtain rfl : w4 = (.long i4) := Option.some.inj ei4
  obtain ⟨i5, ei5⟩ := isL_v hg6
  obtain rfl : w5 = (.long i5) := Option.some.inj ei5
  obtain ⟨n, o, h1, h2, h3, _, L, rfl, ⟨rfl, N⟩, hq⟩ := rm_law l s _ hw tables_1 i0 i1 i2 i3 i4 i5 s.heap s.heap.size (Nat.le_refl _)  p e ha hc hk s m _ below hf ((Spec.applies_iff_loose hf).mp happ).1 ⟨rfl, State.Warmed39.refl s, rfl⟩ trivial
  refine ⟨n, _, h1, h2, h3, hpost _ _ _ _ _ _ ⟨Cond.after_iff.mpr rfl, Cond.after_iff.mpr (eq_i res_at (Term.int_eval (1)) rfl), trivial⟩ ⟨hq.1, hq.2.1, (hq.2.2.sift fun y hy => Or.inr (N y hy)).mono (by decide) (by decide)⟩⟩
theorem main_1_1 : Claimed_1_1 := comes_1 fun _ _ _ _ _ _ h hF => ⟨h.1, hF⟩
theorem main_1_2 : Claimed_1_2 := comes_1 fun _ _ _ _ _ _ h hF => ⟨h.2.1, hF⟩
end Jvm.Pilot.@@N@@
namespace Jvm.Pilot.@@N@@
open Jvm Jvm.ClassFile Sem Op Lib Jvm.Free Jvm.Stand Jvm.Pilot.@@N@@.Jvm.D
/-! MADE BY PROGRAM (witnessworld.py) out of the Statement's table words and the real class files: 7 classes; the members and pool entries that the words name. The judged class is class 1, her method 1. -/
namespace start1
open Jvm.ClassFile
def u (s : String) : CpInfo := .utf8 (stringToUtf16 s)
/-- a pool by its gaps: so many unusable entries, then the entry; so many at the end -/
def gap : Nat → List CpInfo → List CpInfo
  | 0, r => r
  | n + 1, r => .unusable :: gap n r
def poolList (es : List (Nat × CpInfo)) (last : Nat) : List CpInfo := es.foldr (fun e r => gap e.1 (e.2 :: r)) (gap last [])
def pool (es : List (Nat × CpInfo)) (last : Nat) : Array CpInfo := ⟨poolList es last⟩
def fileOf (pool : Array CpInfo) (this : Nat) (attrs : Array Attribute := #[]) (ms : Array MethodInfo := #[]) (fl : Nat := 33) (sup : Nat := 0) (ifs : Array Nat := #[]) (fds : Array FieldInfo := #[]) : ClassFile where
  minorVersion := 0
  majorVersion := 65
  constantPool := pool
  accessFlags := fl
  thisClass := this
  superClass := sup
  interfaces := ifs
  fields := fds
  methods := ms
  attributes := attrs
def plain (name : String) (sup : Option ClassId) : Class where
  name := name
  kind := .ordinary
  loader := none
  accessFlags := 33
  super := sup
  interfaces := #[]
  cf := none
  fields := #[]
  methods := #[]
  instanceTypes := #[]
  staticTypes := #[]
  resolved := #[]
  callSites := []
  init := .initialized
  statics := none
  mirror := none

def pool0 : Array CpInfo := pool [(5, u "<init>"), (0, u "()V"), (1, .class_ 10), (1, u "java/lang/Object")] 113

def k0m0 : Method := { name := "<init>", desc := "()V", sig := { parameters := [], returnType := none }, accessFlags := 1, code := none }
/-- java/lang/Object -/
def k0 : Class := { plain "java/lang/Object" none with
  accessFlags := 33
  interfaces := #[]
  cf := some (fileOf pool0 8 #[] #[{ accessFlags := 1, nameIndex := 5, descriptorIndex := 6, attributes := #[] }] 33 0 #[] #[])
  fields := #[]
  methods := #[k0m0]
  instanceTypes := #[]
  staticTypes := #[]
  resolved := Array.replicate 124 none
  statics := none }

def pool1 : Array CpInfo := pool [(2, .class_ 4), (1, u "java/lang/Object"), (0, u "<init>"), (0, u "()V"), (0, .methodref 8 9), (0, .class_ 10), (0, .nameAndType 11 12), (0, u "com/example/treadle/treadle/MessageHeap"), (0, u "precedes"), (0, u "(JJJJ)Z"), (0, .class_ 14), (0, u "com/example/treadle/treadle/MessageHeapPrecedesPinLaw"), (2, u "law"), (0, u "(JJJJJJ)Z")] 3

def k1m0 : Method := { name := "<init>", desc := "()V", sig := { parameters := [], returnType := none }, accessFlags := 1, code := none }
def k1c1 : Code := { maxStack := 8, maxLocals := 22, code := code, exceptionTable := #[], attributes := #[] }
def k1m1 : Method := { name := "law", desc := "(JJJJJJ)Z", sig := { parameters := [.long, .long, .long, .long, .long, .long], returnType := some .boolean }, accessFlags := 9, code := some k1c1 }
/-- com/example/treadle/treadle/MessageHeapPrecedesPinLaw -/
def k1 : Class := { plain "com/example/treadle/treadle/MessageHeapPrecedesPinLaw" (some 0) with
  accessFlags := 49
  interfaces := #[]
  cf := some (fileOf pool1 13 #[] #[{ accessFlags := 1, nameIndex := 5, descriptorIndex := 6, attributes := #[] }, { accessFlags := 9, nameIndex := 17, descriptorIndex := 18, attributes := #[] }] 49 2 #[] #[])
  fields := #[]
  methods := #[k1m0, k1m1]
  instanceTypes := #[]
  staticTypes := #[]
  resolved := Array.replicate 22 none
  statics := none }

def pool2 : Array CpInfo := pool [(4, .class_ 6), (1, u "java/lang/Object"), (0, u "<init>"), (0, u "()V"), (0, .class_ 10), (0, u "com/example/treadle/treadle/MessageHeap"), (4, u "messages"), (0, u "[Lcom/example/treadle/treadle/Message;"), (17, u "I"), (11, u "size"), (6, u "index"), (0, u "Lcom/example/treadle/treadle/MessageHeap$Index;"), (2, u "addsLeft"), (4, .class_ 64), (1, u "com/example/treadle/treadle/MessageHeap$Index"), (72, u "NO_MESSAGES"), (46, u "precedes"), (0, u "(JJJJ)Z"), (0, u "INDEX_FROM"), (2, u "ARITY"), (1, u "INITIAL_CAPACITY"), (1, u "MAX_CAPACITY"), (0, u "NONE")] 33

def k2m0 : Method := { name := "<init>", desc := "()V", sig := { parameters := [], returnType := none }, accessFlags := 0, code := none }
def k2c1 : Code := { maxStack := 4, maxLocals := 8, code := prog_8_method_24_code, exceptionTable := #[], attributes := #[] }
def k2m1 : Method := { name := "precedes", desc := "(JJJJ)Z", sig := { parameters := [.long, .long, .long, .long], returnType := some .boolean }, accessFlags := 8, code := some k2c1 }
/-- com/example/treadle/treadle/MessageHeap -/
def k2 : Class := { plain "com/example/treadle/treadle/MessageHeap" (some 0) with
  accessFlags := 48
  interfaces := #[]
  cf := some (fileOf pool2 9 #[.nestMembers #[62]] #[{ accessFlags := 0, nameIndex := 7, descriptorIndex := 8, attributes := #[] }, { accessFlags := 8, nameIndex := 184, descriptorIndex := 185, attributes := #[] }] 48 4 #[] #[{ accessFlags := 24, nameIndex := 186, descriptorIndex := 34, attributes := #[] }, { accessFlags := 26, nameIndex := 189, descriptorIndex := 34, attributes := #[] }, { accessFlags := 26, nameIndex := 191, descriptorIndex := 34, attributes := #[] }, { accessFlags := 26, nameIndex := 193, descriptorIndex := 34, attributes := #[] }, { accessFlags := 26, nameIndex := 194, descriptorIndex := 34, attributes := #[] }, { accessFlags := 26, nameIndex := 137, descriptorIndex := 16, attributes := #[] }, { accessFlags := 2, nameIndex := 15, descriptorIndex := 16, attributes := #[] }, { accessFlags := 2, nameIndex := 46, descriptorIndex := 34, attributes := #[] }, { accessFlags := 2, nameIndex := 53, descriptorIndex := 54, attributes := #[] }, { accessFlags := 2, nameIndex := 57, descriptorIndex := 34, attributes := #[] }])
  fields := #[{ name := "INDEX_FROM", type := .int, accessFlags := 24, slot := 0, constantValue := 0 }, { name := "ARITY", type := .int, accessFlags := 26, slot := 1, constantValue := 0 }, { name := "INITIAL_CAPACITY", type := .int, accessFlags := 26, slot := 2, constantValue := 0 }, { name := "MAX_CAPACITY", type := .int, accessFlags := 26, slot := 3, constantValue := 0 }, { name := "NONE", type := .int, accessFlags := 26, slot := 4, constantValue := 0 }, { name := "NO_MESSAGES", type := (.array (.object "com/example/treadle/treadle/Message")), accessFlags := 26, slot := 5, constantValue := 0 }, { name := "messages", type := (.array (.object "com/example/treadle/treadle/Message")), accessFlags := 2, slot := 0, constantValue := 0 }, { name := "size", type := .int, accessFlags := 2, slot := 1, constantValue := 0 }, { name := "index", type := (.object "com/example/treadle/treadle/MessageHeap$Index"), accessFlags := 2, slot := 2, constantValue := 0 }, { name := "addsLeft", type := .int, accessFlags := 2, slot := 3, constantValue := 0 }]
  methods := #[k2m0, k2m1]
  instanceTypes := #[(.array (.object "com/example/treadle/treadle/Message")), .int, (.object "com/example/treadle/treadle/MessageHeap$Index"), .int]
  staticTypes := #[.int, .int, .int, .int, .int, (.array (.object "com/example/treadle/treadle/Message"))]
  resolved := Array.replicate 228 none
  statics := none }

def pool3 : Array CpInfo := pool [(1, u "java/lang/Cloneable"), (0, .class_ 1), (0, u "java/lang/Object"), (0, .class_ 3)] 3

/-- java/lang/Cloneable -/
def k3 : Class := { plain "java/lang/Cloneable" (some 0) with
  accessFlags := 1537
  interfaces := #[]
  cf := some (fileOf pool3 2 #[] #[] 1537 4 #[] #[])
  fields := #[]
  methods := #[]
  instanceTypes := #[]
  staticTypes := #[]
  resolved := Array.replicate 8 none
  statics := none }

def pool4 : Array CpInfo := pool [(1, u "java/io/Serializable"), (0, .class_ 1), (0, u "java/lang/Object"), (0, .class_ 3)] 3

/-- java/io/Serializable -/
def k4 : Class := { plain "java/io/Serializable" (some 0) with
  accessFlags := 1537
  interfaces := #[]
  cf := some (fileOf pool4 2 #[] #[] 1537 4 #[] #[])
  fields := #[]
  methods := #[]
  instanceTypes := #[]
  staticTypes := #[]
  resolved := Array.replicate 8 none
  statics := none }

/-- the primitive byte -/
def k5 : Class := { plain "byte" none with kind := .primitive 'B', accessFlags := 0x411 }
/-- [B -/
def k6 : Class := { plain "[B" (some 0) with kind := .array 5 .byte, interfaces := #[3, 4], accessFlags := 1041 }

def heap : Heap := #[]
def classes : Array Class := #[k0, k1, k2, k3, k4, k5, k6]
def interned : List (Array UInt16 × Addr) := []
def slotsUsed : Nat := 0
def theMethod : MethodId := ⟨1, 1⟩
def args0 : Array Value := #[.long 1, .long 2, .long 3, .long 4, .long 5, .long 6]
def aboutOver (below : List Frame) : State where
  vm := { classes := classes, interned := interned.toArray }
  heap := heap
  slotsUsed := slotsUsed
  threads := #[{ frames := .invoking theMethod args0 :: below }]
def below0 : List Frame := [.native { method := ⟨0, 0⟩, args := #[] }]
def about1 : State := aboutOver below0
def p0 : Program := .bare "" "" ""
def e0 : Env := launch0.env 0 0 0
theorem w_frames : about1.frames = Frame.invoking theMethod args0 :: below0 := rfl
set_option maxRecDepth 65536 in
theorem w_args : argsFit about1.vm theMethod args0 = true := by decide +kernel
set_option maxRecDepth 65536 in
theorem w_heap : heapFits about1 = true := by decide +kernel
set_option maxRecDepth 65536 in
theorem w_runnable : about1.curStatus? = some .runnable := by decide +kernel
set_option maxRecDepth 65536 in
theorem w_alone : about1.alone = true := by decide +kernel
set_option maxRecDepth 65536 in
theorem w_named : about1.methodNamed? x = some theMethod := by decide +kernel
set_option maxRecDepth 65536 in
theorem w_hears : about1.hears theMethod below0 = true := by decide +kernel
set_option maxRecDepth 65536 in
theorem w_ripe : about1.ripe theMethod args0 below0 = true := by decide +kernel
theorem w_running : about1.status = .running := rfl
set_option maxRecDepth 65536 in
theorem w_room : about1.hasRoom e0.platform room_1 = true :=
  launch0.hasRoom_least _ room_1 (by decide +kernel) (by decide +kernel) (by decide +kernel) (by decide +kernel) (by decide +kernel) (by decide +kernel)
theorem allAtoms_all (ts : List Jvm.Cond) (a : Array Jvm.Value) (st : Jvm.State) : (allAtoms ts).before a st = ts.all (fun c => c.before a st) := by
  induction ts with
  | nil => rfl
  | cons c t ih =>
    show (Jvm.Cond.and c (allAtoms t)).before a st = _
    rw [Jvm.Cond.before_and, ih, List.all_cons]
def words1 : List Jvm.Cond := Jvm.Cond.code x code maxLocals ret :: tables_1
/-- a 'code' word, met by the world's own term for the bytes: nothing is compared byte by byte -/
theorem code_word {y : MethodName} {bytes : ByteArray} {mx : Nat} {rt : Option FieldType} {a : Array Value} {s : State} {m : MethodId} {meth : Method} {c : Code} (h1 : s.methodNamed? y = some m) (h2 : s.vm.method? m = some meth) (h3 : meth.code = some c) (h4 : c.code = bytes)
    (h5 : (c.maxLocals == mx && c.exceptionTable.isEmpty && decide (c.maxStack ≤ mostOperands) && decide (meth.sig.returnType = rt) && !meth.locks && decide (parseMethodDescriptor y.desc = some meth.sig)) = true) : (Jvm.Cond.code y bytes mx rt).before a s = true := by
  simp only [Bool.and_eq_true, beq_iff_eq, Bool.not_eq_true', decide_eq_true_eq] at h5
  obtain ⟨⟨⟨⟨⟨g1, g2⟩, g3⟩, g4⟩, g5⟩, g6⟩ := h5
  simp [Cond.before, Cond.holds, Cond.value, h1, h2, h3, h4, g1, g2, g3, g4, g5, g6]
def isCode : Jvm.Cond → Bool
  | .code _ _ _ _ => true
  | _ => false
theorem all_split {L : List Jvm.Cond} {P : Jvm.Cond → Bool} (h1 : L.all (fun c => isCode c || P c) = true) (h2 : ∀ c ∈ L.filter isCode, P c = true) : L.all P = true := by
  refine List.all_eq_true.mpr fun c hc => ?_
  have h := List.all_eq_true.mp h1 c hc
  rcases Bool.eq_false_or_eq_true (isCode c) with hi | hi
  · exact h2 c (List.mem_filter.mpr ⟨hc, hi⟩)
  · simpa [hi] using h
set_option maxRecDepth 65536 in
theorem w_c0 : (Jvm.Cond.code x code maxLocals ret).before args0 about1 = true := code_word (m := ⟨1, 1⟩) (meth := k1m1) (c := k1c1) (by decide +kernel) rfl rfl rfl (by decide +kernel)
set_option maxRecDepth 65536 in
theorem w_c1 : (Jvm.Cond.code ({ cls := "com/example/treadle/treadle/MessageHeap", name := "precedes", desc := "(JJJJ)Z" } : Jvm.MethodName) prog_8_method_24_code (8 : Nat) (Option.some Jvm.ClassFile.FieldType.boolean)).before args0 about1 = true := code_word (m := ⟨2, 1⟩) (meth := k2m1) (c := k2c1) (by decide +kernel) rfl rfl rfl (by decide +kernel)
def codes1 : List Jvm.Cond := [Jvm.Cond.code x code maxLocals ret, Jvm.Cond.code ({ cls := "com/example/treadle/treadle/MessageHeap", name := "precedes", desc := "(JJJJ)Z" } : Jvm.MethodName) prog_8_method_24_code (8 : Nat) (Option.some Jvm.ClassFile.FieldType.boolean)]
set_option maxRecDepth 65536 in
theorem codes_eq : words1.filter isCode = codes1 := rfl
theorem w_codes : ∀ c ∈ words1.filter isCode, c.before args0 about1 = true := by
  rw [codes_eq]
  intro c hc
  simp only [codes1, List.mem_cons, List.not_mem_nil, or_false] at hc
  rcases hc with rfl | rfl
  · exact w_c0
  · exact w_c1
set_option maxRecDepth 65536 in
theorem w_t1 : words1.all (fun c => isCode c || c.before args0 about1) = true := by decide +kernel
theorem w_tables : (allAtoms (Jvm.Cond.code x code maxLocals ret :: tables_1)).before args0 about1 = true := by
  rw [allAtoms_all]
  show words1.all (fun c => c.before args0 about1) = true
  refine all_split ?_ w_codes
  rw [w_t1]
set_option maxRecDepth 65536 in
theorem w_case : (Jvm.Cond.and given_1 narrow_1).before args0 about1 = true := by decide +kernel
theorem w_applies : (headSpec (Jvm.Cond.code x code maxLocals ret :: tables_1) room_1).applies x e0.platform about1 = true :=
  (Spec.applies_iff w_frames).mpr ⟨w_running, w_runnable, w_alone, w_named, w_hears, w_ripe, w_room, w_tables⟩
theorem atStart : AtStart classFile x code maxLocals ret World_1 tables_1 room_1 Calls_1 rest_1 Pre_1 launch0 p0 e0 about1 theMethod args0 below0 :=
  ⟨lists_1, trivial, launch0.admits_env _ _ _, launch0.least_env, fairChoices_fair.cas, fairChoices_fair.clock, w_frames, w_args, w_heap, w_applies, trivial, trivial, w_case⟩
end start1
theorem witness_1 : WitnessClaimed_1 := ⟨start1.p0, start1.e0, start1.about1, start1.theMethod, start1.args0, start1.below0, start1.atStart⟩
end Jvm.Pilot.@@N@@
