import JvmDerived
import JvmDerived.Pilot.@@N@@Statement
import JvmDerived.Pilot.@@N@@Code
set_option linter.unusedVariables false
set_option linter.unusedSimpArgs false
namespace Jvm.RoadKit
open Sem ClassFile Op Lib Jvm.Stand Jvm.Free Jvm.LawKit
section New
variable {p : Program} {l : Launch} {e : Env} {R : Room} {s : State} {m : MethodId} {args : Array Value} {below : List Frame} {meth : Method} {c : Code} {T : State} {locs : List Loc} {cells slots : Nat}
theorem retI (X : Stand p l e R s m args below meth c T locs cells slots) (hx : p.tables.exec = Jvm.exec) {pc : Nat} {Ls : Array Slot} {z : Int32} {rest : List Value} (hret : meth.sig.returnType = some .int) (hd : decode c.code pc = .ok (.ireturn, 1)) {fs : List Frame}
    (hl : ∀ (f : JFrame) (acts : List Action), f.method = m → f.locked = none → f.entered = [] → (doReturn e (T.setTop f) acts (some (.int z))).1 = T.setFrames fs) : Steps p.tables e below (T.setTop (mkF m pc Ls (.int z :: rest))) (T.setFrames fs) := by
  have hm' : T.vm.method? m = some meth := X.method'
  have hn : narrow .int (.int z) = .int z := rfl
  show Steps p.tables e below (T.setTop { method := m, pc := pc, locals := Ls, stack := _ :: rest, locked := none }) _
  jvm_step X.here [X.here.top, hx, hd, hm', hret, hn]
  first | (intro acts; rw [hl _ acts rfl rfl rfl]) | rw [hl _ _ rfl rfl rfl]
  exact Steps.refl _
end New
end Jvm.RoadKit
namespace Jvm.Pilot.@@N@@
open Jvm Jvm.ClassFile Sem Op Lib Jvm.Free Jvm.Stand Jvm.LawKit Jvm.RoadKit Bundle Jvm.Pilot.@@N@@.Jvm.D
def own_b (b : Bool) : Int32 := if b = true then 1 else 0
theorem own_b0 {b : Bool} (h : ¬ (b = true)) : own_b b = 0 := if_neg h
theorem own_b1 {b : Bool} (h : b = true) : ¬ own_b b = 0 := by subst h; decide
theorem own_nb (b : Bool) : nar .boolean (own_b b) = own_b b := by cases b <;> decide
def own_fl (f k : Int32) : Bool := !decide ((f &&& k) = 0)
def own_sel (b : Bool) (x y : Int64) : Int64 := if b = true then x else y
def own_exc (s : Bool) (o c x : Int64) : Bool := !s && decide (o = 0) && decide (c = x)
theorem own_exct {s : Bool} {o c x : Int64} (h1 : ¬ s = true) (h2 : o = (0 : Int64)) (h3 : c = x) : own_exc s o c x = true := by simp [own_exc, h1, h2, h3]
theorem d_rec_0 : decode jdk_30_method_1_code 0 = .ok (.aload_n 0, 1) := by decide +kernel
theorem d_rec_1 : decode jdk_30_method_1_code 1 = .ok (.invokespecial 1, 3) := by decide +kernel
theorem d_rec_4 : decode jdk_30_method_1_code 4 = .ok (.return_, 1) := by decide +kernel
theorem pn_rec : plainName "java/lang/Record" = true := by first | (simp [plainName, overriddenIn]; done) | decide +kernel
theorem ef_rec (m : MethodId) (a1 : Addr) : entryFrame m #[(.ref a1)] 1 = mkF m 0 #[.val (.ref a1)] [] := by first | (simp [entryFrame, mkF, argsToLocals, Value.category]; done) | rfl
def Q_rec (Z : State) (a1 : Addr) (h0 : Heap) (n0 : Nat) (v : Option Value) (h : Heap) (L : List Loc) : Prop := v = none ∧ Fr n0 L ∧ h = h0
set_option maxRecDepth 65536 in
set_option maxHeartbeats 40000000 in
theorem rm_rec (l : Launch) (Z : State) (a0 : Array Value) (hw : ∀ d ∈ tables_1, d.before a0 Z = true) (ws : List Jvm.Cond) (a1 : Addr) (h0 : Heap) (n0 : Nat) (Z0 : n0 ≤ h0.size) :
    MetFree l (⟨"java/lang/Record", "<init>", "()V"⟩ : MethodName) (head1 (Jvm.Cond.code (⟨"java/lang/Record", "<init>", "()V"⟩ : MethodName) jdk_30_method_1_code 1 none :: ws) ({ frames := 1, cells := 0, slots := 0, locals := 12 } : Room)) (fun a U => a = #[(.ref a1)] ∧ Z.Warmed39 U.vm ∧ U.heap = h0) (fun _ _ _ _ _ => True) (fun _ U o U' => ∃ v L, o = .returned v ∧ Q_rec Z a1 h0 n0 v U'.heap L ∧ FrameEnd U o U' L ({ frames := 1, cells := 0, slots := 0, locals := 12 } : Room).cells ({ frames := 1, cells := 0, slots := 0, locals := 12 } : Room).slots) := by
  refine MetFree.of_bodySF (plainFor_of_name pn_rec) hisR ?_
  intro p e s m args below meth c s₁ Bd hml0 hP hK
  obtain ⟨rfl, hZ, hh⟩ := hP
  have hx := Bd.exec
  have hby := Bd.bytes
  have hml : c.maxLocals = 1 := hml0
  have hown : s.vm.findClass "java/lang/Record" = some m.cls := findClass_of_methodNamed Bd.named
  have hnm := (name_of_methodNamed Bd.named Bd.method).1
  have X0 : Stand p l e ({ frames := 1, cells := 0, slots := 0, locals := 12 } : Room) s m #[(.ref a1)] below meth c s₁ [] 0 0 := Stand.of_body Bd
  have e0 : s₁.heap = h0 := by rw [← hh, Bd.state]; rfl
  have N0 := Fr.nil n0
  have pre0 : ∀ t, Steps p.tables e below (s₁.setTop (mkF m 0 #[.val (.ref a1)] [])) t → Steps p.tables e below (s₁.setTop (entryFrame m #[(.ref a1)] 1)) t := fun t k => castTop (ef_rec m a1) k
  have pr2 : ∀ t, Steps p.tables e below (s₁.setTop (mkF m 1 #[.val (.ref a1)] [(.ref a1)])) t → Steps p.tables e below (s₁.setTop (entryFrame m #[(.ref a1)] 1)) t := fun t kt => pre0 t (by
    show Steps p.tables e below (s₁.setTop (mkF m 0 #[.val (.ref a1)] [])) _
    refine XS.aloadN X0.here hx rfl (hb hby d_rec_0) rfl rfl ?_
    show Steps p.tables e below (s₁.setTop (mkF m 1 #[.val (.ref a1)] [(.ref a1)])) _
    exact kt)
  obtain ⟨T1, X1, e1, st1⟩ := initO X0 hx hZ hown (hw _ (List.mem_of_getElem? (i := 11) rfl)) (hw _ (List.mem_of_getElem? (i := 12) rfl)) (hw _ (List.mem_of_getElem? (i := 13) rfl)) e0 (g := (mkF m 1 #[.val (.ref a1)] [(.ref a1)])) rfl (by rw [hml]; rfl) rfl (hb hby d_rec_1) (by decide) (W := 0) (by show 2 * 0 + _ ≤ _; exact Nat.le_of_eq rfl) (by decide)
  obtain ⟨fs, hr, hrun, hended, hW, hsame⟩ := X1.leave (v := none) (fun _ => rfl)
  refine ⟨_, _, pr2 _ ?_, hrun, hended, _, _, rfl, ?_, ⟨_, rfl⟩, hW, hsame.mono (by decide) (by decide)⟩
  · refine st1 _ ?_
    show Steps p.tables e below (T1.setTop (mkF m 4 #[.val (.ref a1)] [])) _
    exact X1.returnOut hx Bd.returns (hb hby d_rec_4) hr
  · show Q_rec Z a1 h0 n0 _ T1.heap _
    rw [e1]
    exact ⟨rfl, N0, rfl⟩
theorem d1_0 : decode prog_67_method_1_code 0 = .ok (.aload_n 0, 1) := by decide +kernel
theorem d1_1 : decode prog_67_method_1_code 1 = .ok (.invokespecial 1, 3) := by decide +kernel
theorem d1_4 : decode prog_67_method_1_code 4 = .ok (.aload_n 0, 1) := by decide +kernel
theorem d1_5 : decode prog_67_method_1_code 5 = .ok (.lload_n 1, 1) := by decide +kernel
theorem d1_6 : decode prog_67_method_1_code 6 = .ok (.putfield 7, 3) := by decide +kernel
theorem d1_9 : decode prog_67_method_1_code 9 = .ok (.aload_n 0, 1) := by decide +kernel
theorem d1_10 : decode prog_67_method_1_code 10 = .ok (.lload_n 3, 1) := by decide +kernel
theorem d1_11 : decode prog_67_method_1_code 11 = .ok (.putfield 13, 3) := by decide +kernel
theorem d1_14 : decode prog_67_method_1_code 14 = .ok (.aload_n 0, 1) := by decide +kernel
theorem d1_15 : decode prog_67_method_1_code 15 = .ok (.lload 5, 2) := by decide +kernel
theorem d1_17 : decode prog_67_method_1_code 17 = .ok (.putfield 16, 3) := by decide +kernel
theorem d1_20 : decode prog_67_method_1_code 20 = .ok (.aload_n 0, 1) := by decide +kernel
theorem d1_21 : decode prog_67_method_1_code 21 = .ok (.lload 7, 2) := by decide +kernel
theorem d1_23 : decode prog_67_method_1_code 23 = .ok (.putfield 19, 3) := by decide +kernel
theorem d1_26 : decode prog_67_method_1_code 26 = .ok (.aload_n 0, 1) := by decide +kernel
theorem d1_27 : decode prog_67_method_1_code 27 = .ok (.lload 9, 2) := by decide +kernel
theorem d1_29 : decode prog_67_method_1_code 29 = .ok (.putfield 22, 3) := by decide +kernel
theorem d1_32 : decode prog_67_method_1_code 32 = .ok (.aload_n 0, 1) := by decide +kernel
theorem d1_33 : decode prog_67_method_1_code 33 = .ok (.lload 11, 2) := by decide +kernel
theorem d1_35 : decode prog_67_method_1_code 35 = .ok (.putfield 25, 3) := by decide +kernel
theorem d1_38 : decode prog_67_method_1_code 38 = .ok (.aload_n 0, 1) := by decide +kernel
theorem d1_39 : decode prog_67_method_1_code 39 = .ok (.lload 13, 2) := by decide +kernel
theorem d1_41 : decode prog_67_method_1_code 41 = .ok (.putfield 28, 3) := by decide +kernel
theorem d1_44 : decode prog_67_method_1_code 44 = .ok (.aload_n 0, 1) := by decide +kernel
theorem d1_45 : decode prog_67_method_1_code 45 = .ok (.iload 15, 2) := by decide +kernel
theorem d1_47 : decode prog_67_method_1_code 47 = .ok (.putfield 31, 3) := by decide +kernel
theorem d1_50 : decode prog_67_method_1_code 50 = .ok (.return_, 1) := by decide +kernel
theorem pn_1 : plainName "com/example/tandemlock/tandemlock/harness/ContendedRun$Result" = true := by first | (simp [plainName, overriddenIn]; done) | decide +kernel
theorem pd_1_1 : parseMethodDescriptor "()V" = some ⟨[], none⟩ := by decide +kernel
theorem ef_1 (m : MethodId) (x0 : Addr) (x1 : Int64) (x2 : Int64) (x3 : Int64) (x4 : Int64) (x5 : Int64) (x6 : Int64) (x7 : Int64) (x8 : Int32) : entryFrame m #[(.ref x0), (.long x1), (.long x2), (.long x3), (.long x4), (.long x5), (.long x6), (.long x7), (.int x8)] 16 = mkF m 0 #[.val (.ref x0), .val (.long x1), .second, .val (.long x2), .second, .val (.long x3), .second, .val (.long x4), .second, .val (.long x5), .second, .val (.long x6), .second, .val (.long x7), .second, .val (.int x8)] [] := by first | (simp [entryFrame, mkF, argsToLocals, Value.category]; done) | rfl
def Q_ini (Z : State) (a1 : Addr) (q2 : Int64) (q3 : Int64) (q4 : Int64) (q5 : Int64) (q6 : Int64) (q7 : Int64) (q8 : Int64) (p9 : Int32) (u_counter_a1 : Value) (u_expected_a1 : Value) (u_entries_a1 : Value) (u_overlaps_a1 : Value) (u_largestOvertaking_a1 : Value) (u_lateEntries_a1 : Value) (u_elapsedNanos_a1 : Value) (u_stalled_a1 : Value) (h0 : Heap) (n0 : Nat) (v : Option Value) (h : Heap) (L : List Loc) : Prop := v = none ∧ Fr n0 L ∧ Keep h0 h [a1] ∧ Exa Z h a1 "com/example/tandemlock/tandemlock/harness/ContendedRun$Result" ∧ Fld Z h a1 "com/example/tandemlock/tandemlock/harness/ContendedRun$Result" "counter" "J" (.long q2) ∧ Fld Z h a1 "com/example/tandemlock/tandemlock/harness/ContendedRun$Result" "expected" "J" (.long q3) ∧ Fld Z h a1 "com/example/tandemlock/tandemlock/harness/ContendedRun$Result" "overlaps" "J" (.long q5) ∧ Fld Z h a1 "com/example/tandemlock/tandemlock/harness/ContendedRun$Result" "stalled" "Z" (.int (nar .boolean p9))
set_option maxRecDepth 65536 in
set_option maxHeartbeats 40000000 in
theorem rm_ini (l : Launch) (Z : State) (a0 : Array Value) (hw : ∀ d ∈ tables_1, d.before a0 Z = true) (ws : List Jvm.Cond) (a1 : Addr) (q2 : Int64) (q3 : Int64) (q4 : Int64) (q5 : Int64) (q6 : Int64) (q7 : Int64) (q8 : Int64) (p9 : Int32) (u_counter_a1 : Value) (u_expected_a1 : Value) (u_entries_a1 : Value) (u_overlaps_a1 : Value) (u_largestOvertaking_a1 : Value) (u_lateEntries_a1 : Value) (u_elapsedNanos_a1 : Value) (u_stalled_a1 : Value) (h0 : Heap) (n0 : Nat) (Z0 : n0 ≤ h0.size) (E_a1 : Exa Z h0 a1 "com/example/tandemlock/tandemlock/harness/ContendedRun$Result") (F_counter_a1 : Fld Z h0 a1 "com/example/tandemlock/tandemlock/harness/ContendedRun$Result" "counter" "J" u_counter_a1) (g_a1 : n0 ≤ a1) (F_expected_a1 : Fld Z h0 a1 "com/example/tandemlock/tandemlock/harness/ContendedRun$Result" "expected" "J" u_expected_a1) (F_entries_a1 : Fld Z h0 a1 "com/example/tandemlock/tandemlock/harness/ContendedRun$Result" "entries" "J" u_entries_a1) (F_overlaps_a1 : Fld Z h0 a1 "com/example/tandemlock/tandemlock/harness/ContendedRun$Result" "overlaps" "J" u_overlaps_a1) (F_largestOvertaking_a1 : Fld Z h0 a1 "com/example/tandemlock/tandemlock/harness/ContendedRun$Result" "largestOvertaking" "J" u_largestOvertaking_a1) (F_lateEntries_a1 : Fld Z h0 a1 "com/example/tandemlock/tandemlock/harness/ContendedRun$Result" "lateEntries" "J" u_lateEntries_a1) (F_elapsedNanos_a1 : Fld Z h0 a1 "com/example/tandemlock/tandemlock/harness/ContendedRun$Result" "elapsedNanos" "J" u_elapsedNanos_a1) (F_stalled_a1 : Fld Z h0 a1 "com/example/tandemlock/tandemlock/harness/ContendedRun$Result" "stalled" "Z" u_stalled_a1) :
    MetFree l (⟨"com/example/tandemlock/tandemlock/harness/ContendedRun$Result", "<init>", "(JJJJJJJZ)V"⟩ : MethodName) (head1 (Jvm.Cond.code (⟨"com/example/tandemlock/tandemlock/harness/ContendedRun$Result", "<init>", "(JJJJJJJZ)V"⟩ : MethodName) prog_67_method_1_code 16 none :: ws) ({ frames := 2, cells := 0, slots := 0, locals := 24 } : Room)) (fun a U => a = #[(.ref a1), (.long q2), (.long q3), (.long q4), (.long q5), (.long q6), (.long q7), (.long q8), (.int p9)] ∧ Z.Warmed39 U.vm ∧ U.heap = h0) (fun _ _ _ _ _ => True) (fun _ U o U' => ∃ v L, o = .returned v ∧ Q_ini Z a1 q2 q3 q4 q5 q6 q7 q8 p9 u_counter_a1 u_expected_a1 u_entries_a1 u_overlaps_a1 u_largestOvertaking_a1 u_lateEntries_a1 u_elapsedNanos_a1 u_stalled_a1 h0 n0 v U'.heap L ∧ FrameEnd U o U' L ({ frames := 2, cells := 0, slots := 0, locals := 24 } : Room).cells ({ frames := 2, cells := 0, slots := 0, locals := 24 } : Room).slots) := by
  refine MetFree.of_bodySF (plainFor_of_name pn_1) hisR ?_
  intro p e s m args below meth c s₁ Bd hml0 hP hK
  obtain ⟨rfl, hZ, hh⟩ := hP
  have hx := Bd.exec
  have hby := Bd.bytes
  have hml : c.maxLocals = 16 := hml0
  have hown : s.vm.findClass "com/example/tandemlock/tandemlock/harness/ContendedRun$Result" = some m.cls := findClass_of_methodNamed Bd.named
  have hnm := (name_of_methodNamed Bd.named Bd.method).1
  have X0 : Stand p l e ({ frames := 2, cells := 0, slots := 0, locals := 24 } : Room) s m #[(.ref a1), (.long q2), (.long q3), (.long q4), (.long q5), (.long q6), (.long q7), (.long q8), (.int p9)] below meth c s₁ [] 0 0 := Stand.of_body Bd
  have e0 : s₁.heap = h0 := by rw [← hh, Bd.state]; rfl
  have N0 := Fr.nil n0
  have pre0 : ∀ t, Steps p.tables e below (s₁.setTop (mkF m 0 #[.val (.ref a1), .val (.long q2), .second, .val (.long q3), .second, .val (.long q4), .second, .val (.long q5), .second, .val (.long q6), .second, .val (.long q7), .second, .val (.long q8), .second, .val (.int p9)] [])) t → Steps p.tables e below (s₁.setTop (entryFrame m #[(.ref a1), (.long q2), (.long q3), (.long q4), (.long q5), (.long q6), (.long q7), (.long q8), (.int p9)] 16)) t := fun t k => castTop (ef_1 m a1 q2 q3 q4 q5 q6 q7 q8 p9) k
  obtain ⟨_, _, ⟨T10, L10, k10, n10⟩, -, X10, ⟨Lc10, hQ10, l10, y10, z10⟩, st10⟩ := X0.specialBack hx (y := (⟨"java/lang/Record", "<init>", "()V"⟩ : MethodName)) rfl hown (mvT hZ (hw _ (List.mem_of_getElem? (i := 6) rfl))) (mvT hZ (hw _ (List.mem_of_getElem? (i := 7) rfl))) (mvT hZ (hw _ (List.mem_of_getElem? (i := 10) rfl))) (by decide) (backOf (W := 0) (rm_rec l Z a0 hw [] a1 h0 n0 Z0) hZ (hw _ (List.mem_of_getElem? (i := 10) rfl)) (hw _ (List.mem_of_getElem? (i := 9) rfl)) (by decide) (by decide)) (g := (mkF m 1 #[.val (.ref a1), .val (.long q2), .second, .val (.long q3), .second, .val (.long q4), .second, .val (.long q5), .second, .val (.long q6), .second, .val (.long q7), .second, .val (.long q8), .second, .val (.int p9)] [(.ref a1)])) rfl (by rw [hml]; rfl) (Steps.refl _) (a := a1) (argsL := []) (rest := []) (lenOf pd_1_1 rfl) rfl (by show 2 * 0 + _ ≤ _; exact Nat.le_of_eq rfl) (hb hby d1_1) (fun _ _ => ⟨rfl, e0, (by decide : 0 + 0 ≤ _), (by decide : 0 + 0 ≤ _)⟩)
  dsimp only [Pt.U, Pt.locs, Pt.cells, Pt.slots] at X10 l10 y10 z10 st10 hQ10
  subst l10 y10 z10
  obtain ⟨rfl, N10q, e10⟩ := hQ10
  have N10 := Fr.app N0 N10q
  obtain ⟨T11, h11, X11, e11, W11, st11⟩ := putF X10 hx hZ hown (host := "") (Or.inl (hw _ (List.mem_of_getElem? (i := 14) rfl))) Via.refl e10 F_counter_a1 E_a1 (Or.inr ⟨(hw _ (List.mem_of_getElem? (i := 15) rfl)), rfl, hnm⟩) (hw _ (List.mem_of_getElem? (i := 1) rfl)) (ty := .long) (by decide) rfl rfl (g := (mkF m 6 #[.val (.ref a1), .val (.long q2), .second, .val (.long q3), .second, .val (.long q4), .second, .val (.long q5), .second, .val (.long q6), .second, .val (.long q7), .second, .val (.long q8), .second, .val (.int p9)] [(.long q2), (.ref a1)])) rfl rfl (hb hby d1_6)
  have Fw11 := F_counter_a1.same W11
  have K11 : Keep h0 h11 [a1] := (Keep.refl h0 [a1]).wr W11 (Or.inl (List.mem_of_getElem? (i := 0) rfl))
  have N11 := Fr.snoc X11 N10 g_a1
  obtain ⟨T12, h12, X12, e12, W12, st12⟩ := putF X11 hx hZ hown (host := "") (Or.inl (hw _ (List.mem_of_getElem? (i := 16) rfl))) Via.refl e11 (F_expected_a1.other W11 (Or.inr (slot_ne (Or.inr (hw _ (List.mem_of_getElem? (i := 17) rfl))) (Or.inr (hw _ (List.mem_of_getElem? (i := 15) rfl))) (by decide) (t := .long) (t' := .long) (by decide) (by decide)))) (E_a1.wr W11) (Or.inr ⟨(hw _ (List.mem_of_getElem? (i := 17) rfl)), rfl, hnm⟩) (hw _ (List.mem_of_getElem? (i := 1) rfl)) (ty := .long) (by decide) rfl rfl (g := (mkF m 11 #[.val (.ref a1), .val (.long q2), .second, .val (.long q3), .second, .val (.long q4), .second, .val (.long q5), .second, .val (.long q6), .second, .val (.long q7), .second, .val (.long q8), .second, .val (.int p9)] [(.long q3), (.ref a1)])) rfl rfl (hb hby d1_11)
  have Fw12 := (F_expected_a1.other W11 (Or.inr (slot_ne (Or.inr (hw _ (List.mem_of_getElem? (i := 17) rfl))) (Or.inr (hw _ (List.mem_of_getElem? (i := 15) rfl))) (by decide) (t := .long) (t' := .long) (by decide) (by decide)))).same W12
  have K12 : Keep h0 h12 [a1] := K11.wr W12 (Or.inl (List.mem_of_getElem? (i := 0) rfl))
  have N12 := Fr.snoc X12 N11 g_a1
  obtain ⟨T13, h13, X13, e13, W13, st13⟩ := putF X12 hx hZ hown (host := "") (Or.inl (hw _ (List.mem_of_getElem? (i := 18) rfl))) Via.refl e12 ((F_entries_a1.other W11 (Or.inr (slot_ne (Or.inr (hw _ (List.mem_of_getElem? (i := 19) rfl))) (Or.inr (hw _ (List.mem_of_getElem? (i := 15) rfl))) (by decide) (t := .long) (t' := .long) (by decide) (by decide)))).other W12 (Or.inr (slot_ne (Or.inr (hw _ (List.mem_of_getElem? (i := 19) rfl))) (Or.inr (hw _ (List.mem_of_getElem? (i := 17) rfl))) (by decide) (t := .long) (t' := .long) (by decide) (by decide)))) ((E_a1.wr W11).wr W12) (Or.inr ⟨(hw _ (List.mem_of_getElem? (i := 19) rfl)), rfl, hnm⟩) (hw _ (List.mem_of_getElem? (i := 1) rfl)) (ty := .long) (by decide) rfl rfl (g := (mkF m 17 #[.val (.ref a1), .val (.long q2), .second, .val (.long q3), .second, .val (.long q4), .second, .val (.long q5), .second, .val (.long q6), .second, .val (.long q7), .second, .val (.long q8), .second, .val (.int p9)] [(.long q4), (.ref a1)])) rfl rfl (hb hby d1_17)
  have Fw13 := ((F_entries_a1.other W11 (Or.inr (slot_ne (Or.inr (hw _ (List.mem_of_getElem? (i := 19) rfl))) (Or.inr (hw _ (List.mem_of_getElem? (i := 15) rfl))) (by decide) (t := .long) (t' := .long) (by decide) (by decide)))).other W12 (Or.inr (slot_ne (Or.inr (hw _ (List.mem_of_getElem? (i := 19) rfl))) (Or.inr (hw _ (List.mem_of_getElem? (i := 17) rfl))) (by decide) (t := .long) (t' := .long) (by decide) (by decide)))).same W13
  have K13 : Keep h0 h13 [a1] := K12.wr W13 (Or.inl (List.mem_of_getElem? (i := 0) rfl))
  have N13 := Fr.snoc X13 N12 g_a1
  obtain ⟨T14, h14, X14, e14, W14, st14⟩ := putF X13 hx hZ hown (host := "") (Or.inl (hw _ (List.mem_of_getElem? (i := 20) rfl))) Via.refl e13 (((F_overlaps_a1.other W11 (Or.inr (slot_ne (Or.inr (hw _ (List.mem_of_getElem? (i := 21) rfl))) (Or.inr (hw _ (List.mem_of_getElem? (i := 15) rfl))) (by decide) (t := .long) (t' := .long) (by decide) (by decide)))).other W12 (Or.inr (slot_ne (Or.inr (hw _ (List.mem_of_getElem? (i := 21) rfl))) (Or.inr (hw _ (List.mem_of_getElem? (i := 17) rfl))) (by decide) (t := .long) (t' := .long) (by decide) (by decide)))).other W13 (Or.inr (slot_ne (Or.inr (hw _ (List.mem_of_getElem? (i := 21) rfl))) (Or.inr (hw _ (List.mem_of_getElem? (i := 19) rfl))) (by decide) (t := .long) (t' := .long) (by decide) (by decide)))) (((E_a1.wr W11).wr W12).wr W13) (Or.inr ⟨(hw _ (List.mem_of_getElem? (i := 21) rfl)), rfl, hnm⟩) (hw _ (List.mem_of_getElem? (i := 1) rfl)) (ty := .long) (by decide) rfl rfl (g := (mkF m 23 #[.val (.ref a1), .val (.long q2), .second, .val (.long q3), .second, .val (.long q4), .second, .val (.long q5), .second, .val (.long q6), .second, .val (.long q7), .second, .val (.long q8), .second, .val (.int p9)] [(.long q5), (.ref a1)])) rfl rfl (hb hby d1_23)
  have Fw14 := (((F_overlaps_a1.other W11 (Or.inr (slot_ne (Or.inr (hw _ (List.mem_of_getElem? (i := 21) rfl))) (Or.inr (hw _ (List.mem_of_getElem? (i := 15) rfl))) (by decide) (t := .long) (t' := .long) (by decide) (by decide)))).other W12 (Or.inr (slot_ne (Or.inr (hw _ (List.mem_of_getElem? (i := 21) rfl))) (Or.inr (hw _ (List.mem_of_getElem? (i := 17) rfl))) (by decide) (t := .long) (t' := .long) (by decide) (by decide)))).other W13 (Or.inr (slot_ne (Or.inr (hw _ (List.mem_of_getElem? (i := 21) rfl))) (Or.inr (hw _ (List.mem_of_getElem? (i := 19) rfl))) (by decide) (t := .long) (t' := .long) (by decide) (by decide)))).same W14
  have K14 : Keep h0 h14 [a1] := K13.wr W14 (Or.inl (List.mem_of_getElem? (i := 0) rfl))
  have N14 := Fr.snoc X14 N13 g_a1
  obtain ⟨T15, h15, X15, e15, W15, st15⟩ := putF X14 hx hZ hown (host := "") (Or.inl (hw _ (List.mem_of_getElem? (i := 22) rfl))) Via.refl e14 ((((F_largestOvertaking_a1.other W11 (Or.inr (slot_ne (Or.inr (hw _ (List.mem_of_getElem? (i := 23) rfl))) (Or.inr (hw _ (List.mem_of_getElem? (i := 15) rfl))) (by decide) (t := .long) (t' := .long) (by decide) (by decide)))).other W12 (Or.inr (slot_ne (Or.inr (hw _ (List.mem_of_getElem? (i := 23) rfl))) (Or.inr (hw _ (List.mem_of_getElem? (i := 17) rfl))) (by decide) (t := .long) (t' := .long) (by decide) (by decide)))).other W13 (Or.inr (slot_ne (Or.inr (hw _ (List.mem_of_getElem? (i := 23) rfl))) (Or.inr (hw _ (List.mem_of_getElem? (i := 19) rfl))) (by decide) (t := .long) (t' := .long) (by decide) (by decide)))).other W14 (Or.inr (slot_ne (Or.inr (hw _ (List.mem_of_getElem? (i := 23) rfl))) (Or.inr (hw _ (List.mem_of_getElem? (i := 21) rfl))) (by decide) (t := .long) (t' := .long) (by decide) (by decide)))) ((((E_a1.wr W11).wr W12).wr W13).wr W14) (Or.inr ⟨(hw _ (List.mem_of_getElem? (i := 23) rfl)), rfl, hnm⟩) (hw _ (List.mem_of_getElem? (i := 1) rfl)) (ty := .long) (by decide) rfl rfl (g := (mkF m 29 #[.val (.ref a1), .val (.long q2), .second, .val (.long q3), .second, .val (.long q4), .second, .val (.long q5), .second, .val (.long q6), .second, .val (.long q7), .second, .val (.long q8), .second, .val (.int p9)] [(.long q6), (.ref a1)])) rfl rfl (hb hby d1_29)
  have Fw15 := ((((F_largestOvertaking_a1.other W11 (Or.inr (slot_ne (Or.inr (hw _ (List.mem_of_getElem? (i := 23) rfl))) (Or.inr (hw _ (List.mem_of_getElem? (i := 15) rfl))) (by decide) (t := .long) (t' := .long) (by decide) (by decide)))).other W12 (Or.inr (slot_ne (Or.inr (hw _ (List.mem_of_getElem? (i := 23) rfl))) (Or.inr (hw _ (List.mem_of_getElem? (i := 17) rfl))) (by decide) (t := .long) (t' := .long) (by decide) (by decide)))).other W13 (Or.inr (slot_ne (Or.inr (hw _ (List.mem_of_getElem? (i := 23) rfl))) (Or.inr (hw _ (List.mem_of_getElem? (i := 19) rfl))) (by decide) (t := .long) (t' := .long) (by decide) (by decide)))).other W14 (Or.inr (slot_ne (Or.inr (hw _ (List.mem_of_getElem? (i := 23) rfl))) (Or.inr (hw _ (List.mem_of_getElem? (i := 21) rfl))) (by decide) (t := .long) (t' := .long) (by decide) (by decide)))).same W15
  have K15 : Keep h0 h15 [a1] := K14.wr W15 (Or.inl (List.mem_of_getElem? (i := 0) rfl))
  have N15 := Fr.snoc X15 N14 g_a1
  obtain ⟨T16, h16, X16, e16, W16, st16⟩ := putF X15 hx hZ hown (host := "") (Or.inl (hw _ (List.mem_of_getElem? (i := 24) rfl))) Via.refl e15 (((((F_lateEntries_a1.other W11 (Or.inr (slot_ne (Or.inr (hw _ (List.mem_of_getElem? (i := 25) rfl))) (Or.inr (hw _ (List.mem_of_getElem? (i := 15) rfl))) (by decide) (t := .long) (t' := .long) (by decide) (by decide)))).other W12 (Or.inr (slot_ne (Or.inr (hw _ (List.mem_of_getElem? (i := 25) rfl))) (Or.inr (hw _ (List.mem_of_getElem? (i := 17) rfl))) (by decide) (t := .long) (t' := .long) (by decide) (by decide)))).other W13 (Or.inr (slot_ne (Or.inr (hw _ (List.mem_of_getElem? (i := 25) rfl))) (Or.inr (hw _ (List.mem_of_getElem? (i := 19) rfl))) (by decide) (t := .long) (t' := .long) (by decide) (by decide)))).other W14 (Or.inr (slot_ne (Or.inr (hw _ (List.mem_of_getElem? (i := 25) rfl))) (Or.inr (hw _ (List.mem_of_getElem? (i := 21) rfl))) (by decide) (t := .long) (t' := .long) (by decide) (by decide)))).other W15 (Or.inr (slot_ne (Or.inr (hw _ (List.mem_of_getElem? (i := 25) rfl))) (Or.inr (hw _ (List.mem_of_getElem? (i := 23) rfl))) (by decide) (t := .long) (t' := .long) (by decide) (by decide)))) (((((E_a1.wr W11).wr W12).wr W13).wr W14).wr W15) (Or.inr ⟨(hw _ (List.mem_of_getElem? (i := 25) rfl)), rfl, hnm⟩) (hw _ (List.mem_of_getElem? (i := 1) rfl)) (ty := .long) (by decide) rfl rfl (g := (mkF m 35 #[.val (.ref a1), .val (.long q2), .second, .val (.long q3), .second, .val (.long q4), .second, .val (.long q5), .second, .val (.long q6), .second, .val (.long q7), .second, .val (.long q8), .second, .val (.int p9)] [(.long q7), (.ref a1)])) rfl rfl (hb hby d1_35)
  have Fw16 := (((((F_lateEntries_a1.other W11 (Or.inr (slot_ne (Or.inr (hw _ (List.mem_of_getElem? (i := 25) rfl))) (Or.inr (hw _ (List.mem_of_getElem? (i := 15) rfl))) (by decide) (t := .long) (t' := .long) (by decide) (by decide)))).other W12 (Or.inr (slot_ne (Or.inr (hw _ (List.mem_of_getElem? (i := 25) rfl))) (Or.inr (hw _ (List.mem_of_getElem? (i := 17) rfl))) (by decide) (t := .long) (t' := .long) (by decide) (by decide)))).other W13 (Or.inr (slot_ne (Or.inr (hw _ (List.mem_of_getElem? (i := 25) rfl))) (Or.inr (hw _ (List.mem_of_getElem? (i := 19) rfl))) (by decide) (t := .long) (t' := .long) (by decide) (by decide)))).other W14 (Or.inr (slot_ne (Or.inr (hw _ (List.mem_of_getElem? (i := 25) rfl))) (Or.inr (hw _ (List.mem_of_getElem? (i := 21) rfl))) (by decide) (t := .long) (t' := .long) (by decide) (by decide)))).other W15 (Or.inr (slot_ne (Or.inr (hw _ (List.mem_of_getElem? (i := 25) rfl))) (Or.inr (hw _ (List.mem_of_getElem? (i := 23) rfl))) (by decide) (t := .long) (t' := .long) (by decide) (by decide)))).same W16
  have K16 : Keep h0 h16 [a1] := K15.wr W16 (Or.inl (List.mem_of_getElem? (i := 0) rfl))
  have N16 := Fr.snoc X16 N15 g_a1
  obtain ⟨T17, h17, X17, e17, W17, st17⟩ := putF X16 hx hZ hown (host := "") (Or.inl (hw _ (List.mem_of_getElem? (i := 26) rfl))) Via.refl e16 ((((((F_elapsedNanos_a1.other W11 (Or.inr (slot_ne (Or.inr (hw _ (List.mem_of_getElem? (i := 27) rfl))) (Or.inr (hw _ (List.mem_of_getElem? (i := 15) rfl))) (by decide) (t := .long) (t' := .long) (by decide) (by decide)))).other W12 (Or.inr (slot_ne (Or.inr (hw _ (List.mem_of_getElem? (i := 27) rfl))) (Or.inr (hw _ (List.mem_of_getElem? (i := 17) rfl))) (by decide) (t := .long) (t' := .long) (by decide) (by decide)))).other W13 (Or.inr (slot_ne (Or.inr (hw _ (List.mem_of_getElem? (i := 27) rfl))) (Or.inr (hw _ (List.mem_of_getElem? (i := 19) rfl))) (by decide) (t := .long) (t' := .long) (by decide) (by decide)))).other W14 (Or.inr (slot_ne (Or.inr (hw _ (List.mem_of_getElem? (i := 27) rfl))) (Or.inr (hw _ (List.mem_of_getElem? (i := 21) rfl))) (by decide) (t := .long) (t' := .long) (by decide) (by decide)))).other W15 (Or.inr (slot_ne (Or.inr (hw _ (List.mem_of_getElem? (i := 27) rfl))) (Or.inr (hw _ (List.mem_of_getElem? (i := 23) rfl))) (by decide) (t := .long) (t' := .long) (by decide) (by decide)))).other W16 (Or.inr (slot_ne (Or.inr (hw _ (List.mem_of_getElem? (i := 27) rfl))) (Or.inr (hw _ (List.mem_of_getElem? (i := 25) rfl))) (by decide) (t := .long) (t' := .long) (by decide) (by decide)))) ((((((E_a1.wr W11).wr W12).wr W13).wr W14).wr W15).wr W16) (Or.inr ⟨(hw _ (List.mem_of_getElem? (i := 27) rfl)), rfl, hnm⟩) (hw _ (List.mem_of_getElem? (i := 1) rfl)) (ty := .long) (by decide) rfl rfl (g := (mkF m 41 #[.val (.ref a1), .val (.long q2), .second, .val (.long q3), .second, .val (.long q4), .second, .val (.long q5), .second, .val (.long q6), .second, .val (.long q7), .second, .val (.long q8), .second, .val (.int p9)] [(.long q8), (.ref a1)])) rfl rfl (hb hby d1_41)
  have Fw17 := ((((((F_elapsedNanos_a1.other W11 (Or.inr (slot_ne (Or.inr (hw _ (List.mem_of_getElem? (i := 27) rfl))) (Or.inr (hw _ (List.mem_of_getElem? (i := 15) rfl))) (by decide) (t := .long) (t' := .long) (by decide) (by decide)))).other W12 (Or.inr (slot_ne (Or.inr (hw _ (List.mem_of_getElem? (i := 27) rfl))) (Or.inr (hw _ (List.mem_of_getElem? (i := 17) rfl))) (by decide) (t := .long) (t' := .long) (by decide) (by decide)))).other W13 (Or.inr (slot_ne (Or.inr (hw _ (List.mem_of_getElem? (i := 27) rfl))) (Or.inr (hw _ (List.mem_of_getElem? (i := 19) rfl))) (by decide) (t := .long) (t' := .long) (by decide) (by decide)))).other W14 (Or.inr (slot_ne (Or.inr (hw _ (List.mem_of_getElem? (i := 27) rfl))) (Or.inr (hw _ (List.mem_of_getElem? (i := 21) rfl))) (by decide) (t := .long) (t' := .long) (by decide) (by decide)))).other W15 (Or.inr (slot_ne (Or.inr (hw _ (List.mem_of_getElem? (i := 27) rfl))) (Or.inr (hw _ (List.mem_of_getElem? (i := 23) rfl))) (by decide) (t := .long) (t' := .long) (by decide) (by decide)))).other W16 (Or.inr (slot_ne (Or.inr (hw _ (List.mem_of_getElem? (i := 27) rfl))) (Or.inr (hw _ (List.mem_of_getElem? (i := 25) rfl))) (by decide) (t := .long) (t' := .long) (by decide) (by decide)))).same W17
  have K17 : Keep h0 h17 [a1] := K16.wr W17 (Or.inl (List.mem_of_getElem? (i := 0) rfl))
  have N17 := Fr.snoc X17 N16 g_a1
  obtain ⟨T18, h18, X18, e18, W18, st18⟩ := putFN X17 hx hZ hown (hw _ (List.mem_of_getElem? (i := 28) rfl)) Via.refl e17 (((((((F_stalled_a1.other W11 (Or.inr (slot_ne (Or.inr (hw _ (List.mem_of_getElem? (i := 29) rfl))) (Or.inr (hw _ (List.mem_of_getElem? (i := 15) rfl))) (by decide) (t := .boolean) (t' := .long) (by decide) (by decide)))).other W12 (Or.inr (slot_ne (Or.inr (hw _ (List.mem_of_getElem? (i := 29) rfl))) (Or.inr (hw _ (List.mem_of_getElem? (i := 17) rfl))) (by decide) (t := .boolean) (t' := .long) (by decide) (by decide)))).other W13 (Or.inr (slot_ne (Or.inr (hw _ (List.mem_of_getElem? (i := 29) rfl))) (Or.inr (hw _ (List.mem_of_getElem? (i := 19) rfl))) (by decide) (t := .boolean) (t' := .long) (by decide) (by decide)))).other W14 (Or.inr (slot_ne (Or.inr (hw _ (List.mem_of_getElem? (i := 29) rfl))) (Or.inr (hw _ (List.mem_of_getElem? (i := 21) rfl))) (by decide) (t := .boolean) (t' := .long) (by decide) (by decide)))).other W15 (Or.inr (slot_ne (Or.inr (hw _ (List.mem_of_getElem? (i := 29) rfl))) (Or.inr (hw _ (List.mem_of_getElem? (i := 23) rfl))) (by decide) (t := .boolean) (t' := .long) (by decide) (by decide)))).other W16 (Or.inr (slot_ne (Or.inr (hw _ (List.mem_of_getElem? (i := 29) rfl))) (Or.inr (hw _ (List.mem_of_getElem? (i := 25) rfl))) (by decide) (t := .boolean) (t' := .long) (by decide) (by decide)))).other W17 (Or.inr (slot_ne (Or.inr (hw _ (List.mem_of_getElem? (i := 29) rfl))) (Or.inr (hw _ (List.mem_of_getElem? (i := 27) rfl))) (by decide) (t := .boolean) (t' := .long) (by decide) (by decide)))) (((((((E_a1.wr W11).wr W12).wr W13).wr W14).wr W15).wr W16).wr W17) (Or.inr ⟨(hw _ (List.mem_of_getElem? (i := 29) rfl)), rfl, hnm⟩) (hw _ (List.mem_of_getElem? (i := 1) rfl)) (ty := .boolean) (v' := (.int (nar .boolean p9))) (by decide) rfl (fits_nar_bool _) (g := (mkF m 47 #[.val (.ref a1), .val (.long q2), .second, .val (.long q3), .second, .val (.long q4), .second, .val (.long q5), .second, .val (.long q6), .second, .val (.long q7), .second, .val (.long q8), .second, .val (.int p9)] [(.int p9), (.ref a1)])) rfl rfl (hb hby d1_47)
  have Fw18 := (((((((F_stalled_a1.other W11 (Or.inr (slot_ne (Or.inr (hw _ (List.mem_of_getElem? (i := 29) rfl))) (Or.inr (hw _ (List.mem_of_getElem? (i := 15) rfl))) (by decide) (t := .boolean) (t' := .long) (by decide) (by decide)))).other W12 (Or.inr (slot_ne (Or.inr (hw _ (List.mem_of_getElem? (i := 29) rfl))) (Or.inr (hw _ (List.mem_of_getElem? (i := 17) rfl))) (by decide) (t := .boolean) (t' := .long) (by decide) (by decide)))).other W13 (Or.inr (slot_ne (Or.inr (hw _ (List.mem_of_getElem? (i := 29) rfl))) (Or.inr (hw _ (List.mem_of_getElem? (i := 19) rfl))) (by decide) (t := .boolean) (t' := .long) (by decide) (by decide)))).other W14 (Or.inr (slot_ne (Or.inr (hw _ (List.mem_of_getElem? (i := 29) rfl))) (Or.inr (hw _ (List.mem_of_getElem? (i := 21) rfl))) (by decide) (t := .boolean) (t' := .long) (by decide) (by decide)))).other W15 (Or.inr (slot_ne (Or.inr (hw _ (List.mem_of_getElem? (i := 29) rfl))) (Or.inr (hw _ (List.mem_of_getElem? (i := 23) rfl))) (by decide) (t := .boolean) (t' := .long) (by decide) (by decide)))).other W16 (Or.inr (slot_ne (Or.inr (hw _ (List.mem_of_getElem? (i := 29) rfl))) (Or.inr (hw _ (List.mem_of_getElem? (i := 25) rfl))) (by decide) (t := .boolean) (t' := .long) (by decide) (by decide)))).other W17 (Or.inr (slot_ne (Or.inr (hw _ (List.mem_of_getElem? (i := 29) rfl))) (Or.inr (hw _ (List.mem_of_getElem? (i := 27) rfl))) (by decide) (t := .boolean) (t' := .long) (by decide) (by decide)))).same W18
  have K18 : Keep h0 h18 [a1] := K17.wr W18 (Or.inl (List.mem_of_getElem? (i := 0) rfl))
  have N18 := Fr.snoc X18 N17 g_a1
  obtain ⟨fs, hr, hrun, hended, hW, hsame⟩ := X18.leave (v := none) (fun _ => rfl)
  refine ⟨_, _, pre0 _ ?_, hrun, hended, _, _, rfl, ?_, ⟨_, rfl⟩, hW, hsame.mono (by decide) (by decide)⟩
  · show Steps p.tables e below (s₁.setTop (mkF m 0 #[.val (.ref a1), .val (.long q2), .second, .val (.long q3), .second, .val (.long q4), .second, .val (.long q5), .second, .val (.long q6), .second, .val (.long q7), .second, .val (.long q8), .second, .val (.int p9)] [])) _
    refine XS.aloadN X0.here hx rfl (hb hby d1_0) rfl rfl ?_
    show Steps p.tables e below (s₁.setTop (mkF m 1 #[.val (.ref a1), .val (.long q2), .second, .val (.long q3), .second, .val (.long q4), .second, .val (.long q5), .second, .val (.long q6), .second, .val (.long q7), .second, .val (.long q8), .second, .val (.int p9)] [(.ref a1)])) _
    refine st10.trans ?_
    show Steps p.tables e below (T10.setTop (mkF m 4 #[.val (.ref a1), .val (.long q2), .second, .val (.long q3), .second, .val (.long q4), .second, .val (.long q5), .second, .val (.long q6), .second, .val (.long q7), .second, .val (.long q8), .second, .val (.int p9)] [])) _
    refine XS.aloadN X10.here hx rfl (hb hby d1_4) rfl rfl ?_
    show Steps p.tables e below (T10.setTop (mkF m 5 #[.val (.ref a1), .val (.long q2), .second, .val (.long q3), .second, .val (.long q4), .second, .val (.long q5), .second, .val (.long q6), .second, .val (.long q7), .second, .val (.long q8), .second, .val (.int p9)] [(.ref a1)])) _
    refine XS.lloadN X10.here hx rfl (hb hby d1_5) rfl ?_
    show Steps p.tables e below (T10.setTop (mkF m 6 #[.val (.ref a1), .val (.long q2), .second, .val (.long q3), .second, .val (.long q4), .second, .val (.long q5), .second, .val (.long q6), .second, .val (.long q7), .second, .val (.long q8), .second, .val (.int p9)] [(.long q2), (.ref a1)])) _
    refine st11 _ ?_
    show Steps p.tables e below (T11.setTop (mkF m 9 #[.val (.ref a1), .val (.long q2), .second, .val (.long q3), .second, .val (.long q4), .second, .val (.long q5), .second, .val (.long q6), .second, .val (.long q7), .second, .val (.long q8), .second, .val (.int p9)] [])) _
    refine XS.aloadN X11.here hx rfl (hb hby d1_9) rfl rfl ?_
    show Steps p.tables e below (T11.setTop (mkF m 10 #[.val (.ref a1), .val (.long q2), .second, .val (.long q3), .second, .val (.long q4), .second, .val (.long q5), .second, .val (.long q6), .second, .val (.long q7), .second, .val (.long q8), .second, .val (.int p9)] [(.ref a1)])) _
    refine XS.lloadN X11.here hx rfl (hb hby d1_10) rfl ?_
    show Steps p.tables e below (T11.setTop (mkF m 11 #[.val (.ref a1), .val (.long q2), .second, .val (.long q3), .second, .val (.long q4), .second, .val (.long q5), .second, .val (.long q6), .second, .val (.long q7), .second, .val (.long q8), .second, .val (.int p9)] [(.long q3), (.ref a1)])) _
    refine st12 _ ?_
    show Steps p.tables e below (T12.setTop (mkF m 14 #[.val (.ref a1), .val (.long q2), .second, .val (.long q3), .second, .val (.long q4), .second, .val (.long q5), .second, .val (.long q6), .second, .val (.long q7), .second, .val (.long q8), .second, .val (.int p9)] [])) _
    refine XS.aloadN X12.here hx rfl (hb hby d1_14) rfl rfl ?_
    show Steps p.tables e below (T12.setTop (mkF m 15 #[.val (.ref a1), .val (.long q2), .second, .val (.long q3), .second, .val (.long q4), .second, .val (.long q5), .second, .val (.long q6), .second, .val (.long q7), .second, .val (.long q8), .second, .val (.int p9)] [(.ref a1)])) _
    refine XS.lload X12.here hx rfl (hb hby d1_15) rfl ?_
    show Steps p.tables e below (T12.setTop (mkF m 17 #[.val (.ref a1), .val (.long q2), .second, .val (.long q3), .second, .val (.long q4), .second, .val (.long q5), .second, .val (.long q6), .second, .val (.long q7), .second, .val (.long q8), .second, .val (.int p9)] [(.long q4), (.ref a1)])) _
    refine st13 _ ?_
    show Steps p.tables e below (T13.setTop (mkF m 20 #[.val (.ref a1), .val (.long q2), .second, .val (.long q3), .second, .val (.long q4), .second, .val (.long q5), .second, .val (.long q6), .second, .val (.long q7), .second, .val (.long q8), .second, .val (.int p9)] [])) _
    refine XS.aloadN X13.here hx rfl (hb hby d1_20) rfl rfl ?_
    show Steps p.tables e below (T13.setTop (mkF m 21 #[.val (.ref a1), .val (.long q2), .second, .val (.long q3), .second, .val (.long q4), .second, .val (.long q5), .second, .val (.long q6), .second, .val (.long q7), .second, .val (.long q8), .second, .val (.int p9)] [(.ref a1)])) _
    refine XS.lload X13.here hx rfl (hb hby d1_21) rfl ?_
    show Steps p.tables e below (T13.setTop (mkF m 23 #[.val (.ref a1), .val (.long q2), .second, .val (.long q3), .second, .val (.long q4), .second, .val (.long q5), .second, .val (.long q6), .second, .val (.long q7), .second, .val (.long q8), .second, .val (.int p9)] [(.long q5), (.ref a1)])) _
    refine st14 _ ?_
    show Steps p.tables e below (T14.setTop (mkF m 26 #[.val (.ref a1), .val (.long q2), .second, .val (.long q3), .second, .val (.long q4), .second, .val (.long q5), .second, .val (.long q6), .second, .val (.long q7), .second, .val (.long q8), .second, .val (.int p9)] [])) _
    refine XS.aloadN X14.here hx rfl (hb hby d1_26) rfl rfl ?_
    show Steps p.tables e below (T14.setTop (mkF m 27 #[.val (.ref a1), .val (.long q2), .second, .val (.long q3), .second, .val (.long q4), .second, .val (.long q5), .second, .val (.long q6), .second, .val (.long q7), .second, .val (.long q8), .second, .val (.int p9)] [(.ref a1)])) _
    refine XS.lload X14.here hx rfl (hb hby d1_27) rfl ?_
    show Steps p.tables e below (T14.setTop (mkF m 29 #[.val (.ref a1), .val (.long q2), .second, .val (.long q3), .second, .val (.long q4), .second, .val (.long q5), .second, .val (.long q6), .second, .val (.long q7), .second, .val (.long q8), .second, .val (.int p9)] [(.long q6), (.ref a1)])) _
    refine st15 _ ?_
    show Steps p.tables e below (T15.setTop (mkF m 32 #[.val (.ref a1), .val (.long q2), .second, .val (.long q3), .second, .val (.long q4), .second, .val (.long q5), .second, .val (.long q6), .second, .val (.long q7), .second, .val (.long q8), .second, .val (.int p9)] [])) _
    refine XS.aloadN X15.here hx rfl (hb hby d1_32) rfl rfl ?_
    show Steps p.tables e below (T15.setTop (mkF m 33 #[.val (.ref a1), .val (.long q2), .second, .val (.long q3), .second, .val (.long q4), .second, .val (.long q5), .second, .val (.long q6), .second, .val (.long q7), .second, .val (.long q8), .second, .val (.int p9)] [(.ref a1)])) _
    refine XS.lload X15.here hx rfl (hb hby d1_33) rfl ?_
    show Steps p.tables e below (T15.setTop (mkF m 35 #[.val (.ref a1), .val (.long q2), .second, .val (.long q3), .second, .val (.long q4), .second, .val (.long q5), .second, .val (.long q6), .second, .val (.long q7), .second, .val (.long q8), .second, .val (.int p9)] [(.long q7), (.ref a1)])) _
    refine st16 _ ?_
    show Steps p.tables e below (T16.setTop (mkF m 38 #[.val (.ref a1), .val (.long q2), .second, .val (.long q3), .second, .val (.long q4), .second, .val (.long q5), .second, .val (.long q6), .second, .val (.long q7), .second, .val (.long q8), .second, .val (.int p9)] [])) _
    refine XS.aloadN X16.here hx rfl (hb hby d1_38) rfl rfl ?_
    show Steps p.tables e below (T16.setTop (mkF m 39 #[.val (.ref a1), .val (.long q2), .second, .val (.long q3), .second, .val (.long q4), .second, .val (.long q5), .second, .val (.long q6), .second, .val (.long q7), .second, .val (.long q8), .second, .val (.int p9)] [(.ref a1)])) _
    refine XS.lload X16.here hx rfl (hb hby d1_39) rfl ?_
    show Steps p.tables e below (T16.setTop (mkF m 41 #[.val (.ref a1), .val (.long q2), .second, .val (.long q3), .second, .val (.long q4), .second, .val (.long q5), .second, .val (.long q6), .second, .val (.long q7), .second, .val (.long q8), .second, .val (.int p9)] [(.long q8), (.ref a1)])) _
    refine st17 _ ?_
    show Steps p.tables e below (T17.setTop (mkF m 44 #[.val (.ref a1), .val (.long q2), .second, .val (.long q3), .second, .val (.long q4), .second, .val (.long q5), .second, .val (.long q6), .second, .val (.long q7), .second, .val (.long q8), .second, .val (.int p9)] [])) _
    refine XS.aloadN X17.here hx rfl (hb hby d1_44) rfl rfl ?_
    show Steps p.tables e below (T17.setTop (mkF m 45 #[.val (.ref a1), .val (.long q2), .second, .val (.long q3), .second, .val (.long q4), .second, .val (.long q5), .second, .val (.long q6), .second, .val (.long q7), .second, .val (.long q8), .second, .val (.int p9)] [(.ref a1)])) _
    refine XS.iload X17.here hx rfl (hb hby d1_45) rfl ?_
    show Steps p.tables e below (T17.setTop (mkF m 47 #[.val (.ref a1), .val (.long q2), .second, .val (.long q3), .second, .val (.long q4), .second, .val (.long q5), .second, .val (.long q6), .second, .val (.long q7), .second, .val (.long q8), .second, .val (.int p9)] [(.int p9), (.ref a1)])) _
    refine st18 _ ?_
    show Steps p.tables e below (T18.setTop (mkF m 50 #[.val (.ref a1), .val (.long q2), .second, .val (.long q3), .second, .val (.long q4), .second, .val (.long q5), .second, .val (.long q6), .second, .val (.long q7), .second, .val (.long q8), .second, .val (.int p9)] [])) _
    exact X18.returnOut hx Bd.returns (hb hby d1_50) hr
  · show Q_ini Z a1 q2 q3 q4 q5 q6 q7 q8 p9 u_counter_a1 u_expected_a1 u_entries_a1 u_overlaps_a1 u_largestOvertaking_a1 u_lateEntries_a1 u_elapsedNanos_a1 u_stalled_a1 h0 n0 _ T18.heap _
    rw [e18]
    exact ⟨rfl, N18, K18, ((((((((E_a1.wr W11).wr W12).wr W13).wr W14).wr W15).wr W16).wr W17).wr W18), (((((((Fw11.other W12 (Or.inr (slot_ne (Or.inr (hw _ (List.mem_of_getElem? (i := 15) rfl))) (Or.inr (hw _ (List.mem_of_getElem? (i := 17) rfl))) (by decide) (t := .long) (t' := .long) (by decide) (by decide)))).other W13 (Or.inr (slot_ne (Or.inr (hw _ (List.mem_of_getElem? (i := 15) rfl))) (Or.inr (hw _ (List.mem_of_getElem? (i := 19) rfl))) (by decide) (t := .long) (t' := .long) (by decide) (by decide)))).other W14 (Or.inr (slot_ne (Or.inr (hw _ (List.mem_of_getElem? (i := 15) rfl))) (Or.inr (hw _ (List.mem_of_getElem? (i := 21) rfl))) (by decide) (t := .long) (t' := .long) (by decide) (by decide)))).other W15 (Or.inr (slot_ne (Or.inr (hw _ (List.mem_of_getElem? (i := 15) rfl))) (Or.inr (hw _ (List.mem_of_getElem? (i := 23) rfl))) (by decide) (t := .long) (t' := .long) (by decide) (by decide)))).other W16 (Or.inr (slot_ne (Or.inr (hw _ (List.mem_of_getElem? (i := 15) rfl))) (Or.inr (hw _ (List.mem_of_getElem? (i := 25) rfl))) (by decide) (t := .long) (t' := .long) (by decide) (by decide)))).other W17 (Or.inr (slot_ne (Or.inr (hw _ (List.mem_of_getElem? (i := 15) rfl))) (Or.inr (hw _ (List.mem_of_getElem? (i := 27) rfl))) (by decide) (t := .long) (t' := .long) (by decide) (by decide)))).other W18 (Or.inr (slot_ne (Or.inr (hw _ (List.mem_of_getElem? (i := 15) rfl))) (Or.inr (hw _ (List.mem_of_getElem? (i := 29) rfl))) (by decide) (t := .long) (t' := .boolean) (by decide) (by decide)))), ((((((Fw12.other W13 (Or.inr (slot_ne (Or.inr (hw _ (List.mem_of_getElem? (i := 17) rfl))) (Or.inr (hw _ (List.mem_of_getElem? (i := 19) rfl))) (by decide) (t := .long) (t' := .long) (by decide) (by decide)))).other W14 (Or.inr (slot_ne (Or.inr (hw _ (List.mem_of_getElem? (i := 17) rfl))) (Or.inr (hw _ (List.mem_of_getElem? (i := 21) rfl))) (by decide) (t := .long) (t' := .long) (by decide) (by decide)))).other W15 (Or.inr (slot_ne (Or.inr (hw _ (List.mem_of_getElem? (i := 17) rfl))) (Or.inr (hw _ (List.mem_of_getElem? (i := 23) rfl))) (by decide) (t := .long) (t' := .long) (by decide) (by decide)))).other W16 (Or.inr (slot_ne (Or.inr (hw _ (List.mem_of_getElem? (i := 17) rfl))) (Or.inr (hw _ (List.mem_of_getElem? (i := 25) rfl))) (by decide) (t := .long) (t' := .long) (by decide) (by decide)))).other W17 (Or.inr (slot_ne (Or.inr (hw _ (List.mem_of_getElem? (i := 17) rfl))) (Or.inr (hw _ (List.mem_of_getElem? (i := 27) rfl))) (by decide) (t := .long) (t' := .long) (by decide) (by decide)))).other W18 (Or.inr (slot_ne (Or.inr (hw _ (List.mem_of_getElem? (i := 17) rfl))) (Or.inr (hw _ (List.mem_of_getElem? (i := 29) rfl))) (by decide) (t := .long) (t' := .boolean) (by decide) (by decide)))), ((((Fw14.other W15 (Or.inr (slot_ne (Or.inr (hw _ (List.mem_of_getElem? (i := 21) rfl))) (Or.inr (hw _ (List.mem_of_getElem? (i := 23) rfl))) (by decide) (t := .long) (t' := .long) (by decide) (by decide)))).other W16 (Or.inr (slot_ne (Or.inr (hw _ (List.mem_of_getElem? (i := 21) rfl))) (Or.inr (hw _ (List.mem_of_getElem? (i := 25) rfl))) (by decide) (t := .long) (t' := .long) (by decide) (by decide)))).other W17 (Or.inr (slot_ne (Or.inr (hw _ (List.mem_of_getElem? (i := 21) rfl))) (Or.inr (hw _ (List.mem_of_getElem? (i := 27) rfl))) (by decide) (t := .long) (t' := .long) (by decide) (by decide)))).other W18 (Or.inr (slot_ne (Or.inr (hw _ (List.mem_of_getElem? (i := 21) rfl))) (Or.inr (hw _ (List.mem_of_getElem? (i := 29) rfl))) (by decide) (t := .long) (t' := .boolean) (by decide) (by decide)))), Fw18⟩

theorem d_exc_0 : decode prog_67_method_2_code 0 = .ok (.aload_n 0, 1) := by decide +kernel
theorem d_exc_1 : decode prog_67_method_2_code 1 = .ok (.getfield 31, 3) := by decide +kernel
theorem d_exc_4 : decode prog_67_method_2_code 4 = .ok (.ifCond .ne 28, 3) := by decide +kernel
theorem d_exc_7 : decode prog_67_method_2_code 7 = .ok (.aload_n 0, 1) := by decide +kernel
theorem d_exc_8 : decode prog_67_method_2_code 8 = .ok (.getfield 19, 3) := by decide +kernel
theorem d_exc_11 : decode prog_67_method_2_code 11 = .ok (.lconst 0, 1) := by decide +kernel
theorem d_exc_12 : decode prog_67_method_2_code 12 = .ok (.lcmp, 1) := by decide +kernel
theorem d_exc_13 : decode prog_67_method_2_code 13 = .ok (.ifCond .ne 19, 3) := by decide +kernel
theorem d_exc_16 : decode prog_67_method_2_code 16 = .ok (.aload_n 0, 1) := by decide +kernel
theorem d_exc_17 : decode prog_67_method_2_code 17 = .ok (.getfield 7, 3) := by decide +kernel
theorem d_exc_20 : decode prog_67_method_2_code 20 = .ok (.aload_n 0, 1) := by decide +kernel
theorem d_exc_21 : decode prog_67_method_2_code 21 = .ok (.getfield 13, 3) := by decide +kernel
theorem d_exc_24 : decode prog_67_method_2_code 24 = .ok (.lcmp, 1) := by decide +kernel
theorem d_exc_25 : decode prog_67_method_2_code 25 = .ok (.ifCond .ne 7, 3) := by decide +kernel
theorem d_exc_28 : decode prog_67_method_2_code 28 = .ok (.iconst 1, 1) := by decide +kernel
theorem d_exc_29 : decode prog_67_method_2_code 29 = .ok (.goto 4, 3) := by decide +kernel
theorem d_exc_32 : decode prog_67_method_2_code 32 = .ok (.iconst 0, 1) := by decide +kernel
theorem d_exc_33 : decode prog_67_method_2_code 33 = .ok (.ireturn, 1) := by decide +kernel
theorem pn_exc : plainName "com/example/tandemlock/tandemlock/harness/ContendedRun$Result" = true := by first | (simp [plainName, overriddenIn]; done) | decide +kernel
theorem ef_exc (m : MethodId) (a1 : Addr) : entryFrame m #[(.ref a1)] 1 = mkF m 0 #[.val (.ref a1)] [] := by first | (simp [entryFrame, mkF, argsToLocals, Value.category]; done) | rfl
def Q_exc (Z : State) (a1 : Addr) (s1 : Bool) (o1 : Int64) (c1 : Int64) (x1 : Int64) (h0 : Heap) (n0 : Nat) (v : Option Value) (h : Heap) (L : List Loc) : Prop := v = some (.int (own_b (own_exc s1 o1 c1 x1))) ∧ Fr n0 L ∧ h = h0
set_option maxRecDepth 65536 in
set_option maxHeartbeats 40000000 in
theorem rm_exc (l : Launch) (Z : State) (a0 : Array Value) (hw : ∀ d ∈ tables_1, d.before a0 Z = true) (ws : List Jvm.Cond) (a1 : Addr) (s1 : Bool) (o1 : Int64) (c1 : Int64) (x1 : Int64) (h0 : Heap) (n0 : Nat) (Z0 : n0 ≤ h0.size) (F1 : Fld Z h0 a1 "com/example/tandemlock/tandemlock/harness/ContendedRun$Result" "stalled" "Z" (.int (own_b s1))) (F2 : Fld Z h0 a1 "com/example/tandemlock/tandemlock/harness/ContendedRun$Result" "overlaps" "J" (.long o1)) (F3 : Fld Z h0 a1 "com/example/tandemlock/tandemlock/harness/ContendedRun$Result" "counter" "J" (.long c1)) (F4 : Fld Z h0 a1 "com/example/tandemlock/tandemlock/harness/ContendedRun$Result" "expected" "J" (.long x1)) :
    MetFree l (⟨"com/example/tandemlock/tandemlock/harness/ContendedRun$Result", "excludes", "()Z"⟩ : MethodName) (head1 (Jvm.Cond.code (⟨"com/example/tandemlock/tandemlock/harness/ContendedRun$Result", "excludes", "()Z"⟩ : MethodName) prog_67_method_2_code 1 (some .boolean) :: ws) ({ frames := 0, cells := 0, slots := 0, locals := 0 } : Room)) (fun a U => a = #[(.ref a1)] ∧ Z.Warmed39 U.vm ∧ U.heap = h0) (fun _ _ _ _ _ => True) (fun _ U o U' => ∃ v L, o = .returned v ∧ Q_exc Z a1 s1 o1 c1 x1 h0 n0 v U'.heap L ∧ FrameEnd U o U' L ({ frames := 0, cells := 0, slots := 0, locals := 0 } : Room).cells ({ frames := 0, cells := 0, slots := 0, locals := 0 } : Room).slots) := by
  refine MetFree.of_bodySF (plainFor_of_name pn_exc) hisR ?_
  intro p e s m args below meth c s₁ Bd hml0 hP hK
  obtain ⟨rfl, hZ, hh⟩ := hP
  have hx := Bd.exec
  have hby := Bd.bytes
  have hml : c.maxLocals = 1 := hml0
  have hown : s.vm.findClass "com/example/tandemlock/tandemlock/harness/ContendedRun$Result" = some m.cls := findClass_of_methodNamed Bd.named
  have hnm := (name_of_methodNamed Bd.named Bd.method).1
  have X0 : Stand p l e ({ frames := 0, cells := 0, slots := 0, locals := 0 } : Room) s m #[(.ref a1)] below meth c s₁ [] 0 0 := Stand.of_body Bd
  have e0 : s₁.heap = h0 := by rw [← hh, Bd.state]; rfl
  have N0 := Fr.nil n0
  have pre0 : ∀ t, Steps p.tables e below (s₁.setTop (mkF m 0 #[.val (.ref a1)] [])) t → Steps p.tables e below (s₁.setTop (entryFrame m #[(.ref a1)] 1)) t := fun t k => castTop (ef_exc m a1) k
  have pr2 : ∀ t, Steps p.tables e below (s₁.setTop (mkF m 1 #[.val (.ref a1)] [(.ref a1)])) t → Steps p.tables e below (s₁.setTop (entryFrame m #[(.ref a1)] 1)) t := fun t kt => pre0 t (by
    show Steps p.tables e below (s₁.setTop (mkF m 0 #[.val (.ref a1)] [])) _
    refine XS.aloadN X0.here hx rfl (hb hby d_exc_0) rfl rfl ?_
    show Steps p.tables e below (s₁.setTop (mkF m 1 #[.val (.ref a1)] [(.ref a1)])) _
    exact kt)
  obtain ⟨T1, X1, e1, st1⟩ := getF X0 hx hZ hown (host := "") (Or.inl (hw _ (List.mem_of_getElem? (i := 28) rfl))) Via.refl e0 F1 (g := (mkF m 1 #[.val (.ref a1)] [(.ref a1)])) rfl rfl (hb hby d_exc_1)
  have pr4 : ∀ t, Steps p.tables e below (T1.setTop (mkF m 4 #[.val (.ref a1)] [(.int (own_b s1))])) t → Steps p.tables e below (s₁.setTop (entryFrame m #[(.ref a1)] 1)) t := fun t kt => pr2 t (by
    refine st1 _ ?_
    exact kt)
  by_cases hc4_3 : s1 = true
  · obtain ⟨fs, hr, hrun, hended, hW, hsame⟩ := X1.leave (v := some (.int (nar .boolean (0 : Int32)))) (fun h => by rw [Bd.returns] at h; cases h)
    refine ⟨_, _, pr4 _ ?_, hrun, hended, _, _, rfl, ?_, ⟨_, rfl⟩, hW, hsame.mono (by decide) (by decide)⟩
    · show Steps p.tables e below (T1.setTop (mkF m 4 #[.val (.ref a1)] [(.int (own_b s1))])) _
      refine XS.ifYes X1.here hx rfl (pc0 := 4) (pc' := 32) rfl (hb hby d_exc_4) rfl ((if0 _ _).trans (feq (own_b1 hc4_3)).2) (by decide) (by decide) ?_
      show Steps p.tables e below (T1.setTop (mkF m 32 #[.val (.ref a1)] [])) _
      refine XS.iconst X1.here hx rfl (hb hby d_exc_32) ?_
      show Steps p.tables e below (T1.setTop (mkF m 33 #[.val (.ref a1)] [(.int (0 : Int32))])) _
      exact retN X1 hx (t := .boolean) Bd.returns (by simp) (hb hby d_exc_33) hr
    · show Q_exc Z a1 s1 o1 c1 x1 h0 n0 _ T1.heap _
      rw [e1]
      exact ⟨(congrArg (fun zz => some (Value.int zz)) (by rw [show own_exc s1 o1 c1 x1 = false from by simp [own_exc, hc4_3]]; rfl : nar .boolean (0 : Int32) = (own_b (own_exc s1 o1 c1 x1)))), N0, rfl⟩
  · have pr6 : ∀ t, Steps p.tables e below (T1.setTop (mkF m 8 #[.val (.ref a1)] [(.ref a1)])) t → Steps p.tables e below (s₁.setTop (entryFrame m #[(.ref a1)] 1)) t := fun t kt => pr4 t (by
      show Steps p.tables e below (T1.setTop (mkF m 4 #[.val (.ref a1)] [(.int (own_b s1))])) _
      refine XS.ifNo X1.here hx rfl (hb hby d_exc_4) rfl ((if0 _ _).trans (teq (own_b0 hc4_3)).2) ?_
      show Steps p.tables e below (T1.setTop (mkF m 7 #[.val (.ref a1)] [])) _
      refine XS.aloadN X1.here hx rfl (hb hby d_exc_7) rfl rfl ?_
      show Steps p.tables e below (T1.setTop (mkF m 8 #[.val (.ref a1)] [(.ref a1)])) _
      exact kt)
    obtain ⟨T5, X5, e5, st5⟩ := getF X1 hx hZ hown (host := "") (Or.inl (hw _ (List.mem_of_getElem? (i := 20) rfl))) Via.refl e1 F2 (g := (mkF m 8 #[.val (.ref a1)] [(.ref a1)])) rfl rfl (hb hby d_exc_8)
    have pr8 : ∀ t, Steps p.tables e below (T5.setTop (mkF m 13 #[.val (.ref a1)] [(.int (lcmpW o1 (0 : Int64)))])) t → Steps p.tables e below (s₁.setTop (entryFrame m #[(.ref a1)] 1)) t := fun t kt => pr6 t (by
      refine st5 _ ?_
      show Steps p.tables e below (T5.setTop (mkF m 11 #[.val (.ref a1)] [(.long o1)])) _
      refine XS.lconst X5.here hx rfl (hb hby d_exc_11) ?_
      show Steps p.tables e below (T5.setTop (mkF m 12 #[.val (.ref a1)] [(.long (0 : Int64)), (.long o1)])) _
      refine XS.lcmp X5.here hx rfl (hb hby d_exc_12) rfl ?_
      exact kt)
    by_cases hc13_7 : o1 = (0 : Int64)
    · have pr10 : ∀ t, Steps p.tables e below (T5.setTop (mkF m 17 #[.val (.ref a1)] [(.ref a1)])) t → Steps p.tables e below (s₁.setTop (entryFrame m #[(.ref a1)] 1)) t := fun t kt => pr8 t (by
        show Steps p.tables e below (T5.setTop (mkF m 13 #[.val (.ref a1)] [(.int (lcmpW o1 (0 : Int64)))])) _
        refine XS.ifNo X5.here hx rfl (hb hby d_exc_13) rfl ((if0 _ _).trans (teq ((lw_eq _ _).mpr hc13_7)).2) ?_
        show Steps p.tables e below (T5.setTop (mkF m 16 #[.val (.ref a1)] [])) _
        refine XS.aloadN X5.here hx rfl (hb hby d_exc_16) rfl rfl ?_
        show Steps p.tables e below (T5.setTop (mkF m 17 #[.val (.ref a1)] [(.ref a1)])) _
        exact kt)
      obtain ⟨T9, X9, e9, st9⟩ := getF X5 hx hZ hown (host := "") (Or.inl (hw _ (List.mem_of_getElem? (i := 14) rfl))) Via.refl e5 F3 (g := (mkF m 17 #[.val (.ref a1)] [(.ref a1)])) rfl rfl (hb hby d_exc_17)
      have pr12 : ∀ t, Steps p.tables e below (T9.setTop (mkF m 21 #[.val (.ref a1)] [(.ref a1), (.long c1)])) t → Steps p.tables e below (s₁.setTop (entryFrame m #[(.ref a1)] 1)) t := fun t kt => pr10 t (by
        refine st9 _ ?_
        show Steps p.tables e below (T9.setTop (mkF m 20 #[.val (.ref a1)] [(.long c1)])) _
        refine XS.aloadN X9.here hx rfl (hb hby d_exc_20) rfl rfl ?_
        show Steps p.tables e below (T9.setTop (mkF m 21 #[.val (.ref a1)] [(.ref a1), (.long c1)])) _
        exact kt)
      obtain ⟨T11, X11, e11, st11⟩ := getF X9 hx hZ hown (host := "") (Or.inl (hw _ (List.mem_of_getElem? (i := 16) rfl))) Via.refl e9 F4 (g := (mkF m 21 #[.val (.ref a1)] [(.ref a1), (.long c1)])) rfl rfl (hb hby d_exc_21)
      have pr14 : ∀ t, Steps p.tables e below (T11.setTop (mkF m 25 #[.val (.ref a1)] [(.int (lcmpW c1 x1))])) t → Steps p.tables e below (s₁.setTop (entryFrame m #[(.ref a1)] 1)) t := fun t kt => pr12 t (by
        refine st11 _ ?_
        show Steps p.tables e below (T11.setTop (mkF m 24 #[.val (.ref a1)] [(.long x1), (.long c1)])) _
        refine XS.lcmp X11.here hx rfl (hb hby d_exc_24) rfl ?_
        exact kt)
      by_cases hc25_13 : c1 = x1
      · obtain ⟨fs, hr, hrun, hended, hW, hsame⟩ := X11.leave (v := some (.int (nar .boolean (1 : Int32)))) (fun h => by rw [Bd.returns] at h; cases h)
        refine ⟨_, _, pr14 _ ?_, hrun, hended, _, _, rfl, ?_, ⟨_, rfl⟩, hW, hsame.mono (by decide) (by decide)⟩
        · show Steps p.tables e below (T11.setTop (mkF m 25 #[.val (.ref a1)] [(.int (lcmpW c1 x1))])) _
          refine XS.ifNo X11.here hx rfl (hb hby d_exc_25) rfl ((if0 _ _).trans (teq ((lw_eq _ _).mpr hc25_13)).2) ?_
          show Steps p.tables e below (T11.setTop (mkF m 28 #[.val (.ref a1)] [])) _
          refine XS.iconst X11.here hx rfl (hb hby d_exc_28) ?_
          show Steps p.tables e below (T11.setTop (mkF m 29 #[.val (.ref a1)] [(.int (1 : Int32))])) _
          refine XS.goto X11.here hx rfl (pc0 := 29) (pc' := 33) rfl (hb hby d_exc_29) (by decide) (by decide) ?_
          show Steps p.tables e below (T11.setTop (mkF m 33 #[.val (.ref a1)] [(.int (1 : Int32))])) _
          exact retN X11 hx (t := .boolean) Bd.returns (by simp) (hb hby d_exc_33) hr
        · show Q_exc Z a1 s1 o1 c1 x1 h0 n0 _ T11.heap _
          rw [e11]
          exact ⟨(congrArg (fun zz => some (Value.int zz)) (by rw [show own_exc s1 o1 c1 x1 = true from by simp [own_exc, hc4_3, hc13_7, hc25_13]]; rfl : nar .boolean (1 : Int32) = (own_b (own_exc s1 o1 c1 x1)))), N0, rfl⟩
      · obtain ⟨fs, hr, hrun, hended, hW, hsame⟩ := X11.leave (v := some (.int (nar .boolean (0 : Int32)))) (fun h => by rw [Bd.returns] at h; cases h)
        refine ⟨_, _, pr14 _ ?_, hrun, hended, _, _, rfl, ?_, ⟨_, rfl⟩, hW, hsame.mono (by decide) (by decide)⟩
        · show Steps p.tables e below (T11.setTop (mkF m 25 #[.val (.ref a1)] [(.int (lcmpW c1 x1))])) _
          refine XS.ifYes X11.here hx rfl (pc0 := 25) (pc' := 32) rfl (hb hby d_exc_25) rfl ((if0 _ _).trans (feq (fun q => hc25_13 ((lw_eq _ _).mp q))).2) (by decide) (by decide) ?_
          show Steps p.tables e below (T11.setTop (mkF m 32 #[.val (.ref a1)] [])) _
          refine XS.iconst X11.here hx rfl (hb hby d_exc_32) ?_
          show Steps p.tables e below (T11.setTop (mkF m 33 #[.val (.ref a1)] [(.int (0 : Int32))])) _
          exact retN X11 hx (t := .boolean) Bd.returns (by simp) (hb hby d_exc_33) hr
        · show Q_exc Z a1 s1 o1 c1 x1 h0 n0 _ T11.heap _
          rw [e11]
          exact ⟨(congrArg (fun zz => some (Value.int zz)) (by rw [show own_exc s1 o1 c1 x1 = false from by simp [own_exc, hc4_3, hc13_7, hc25_13]]; rfl : nar .boolean (0 : Int32) = (own_b (own_exc s1 o1 c1 x1)))), N0, rfl⟩
    · obtain ⟨fs, hr, hrun, hended, hW, hsame⟩ := X5.leave (v := some (.int (nar .boolean (0 : Int32)))) (fun h => by rw [Bd.returns] at h; cases h)
      refine ⟨_, _, pr8 _ ?_, hrun, hended, _, _, rfl, ?_, ⟨_, rfl⟩, hW, hsame.mono (by decide) (by decide)⟩
      · show Steps p.tables e below (T5.setTop (mkF m 13 #[.val (.ref a1)] [(.int (lcmpW o1 (0 : Int64)))])) _
        refine XS.ifYes X5.here hx rfl (pc0 := 13) (pc' := 32) rfl (hb hby d_exc_13) rfl ((if0 _ _).trans (feq (fun q => hc13_7 ((lw_eq _ _).mp q))).2) (by decide) (by decide) ?_
        show Steps p.tables e below (T5.setTop (mkF m 32 #[.val (.ref a1)] [])) _
        refine XS.iconst X5.here hx rfl (hb hby d_exc_32) ?_
        show Steps p.tables e below (T5.setTop (mkF m 33 #[.val (.ref a1)] [(.int (0 : Int32))])) _
        exact retN X5 hx (t := .boolean) Bd.returns (by simp) (hb hby d_exc_33) hr
      · show Q_exc Z a1 s1 o1 c1 x1 h0 n0 _ T5.heap _
        rw [e5]
        exact ⟨(congrArg (fun zz => some (Value.int zz)) (by rw [show own_exc s1 o1 c1 x1 = false from by simp [own_exc, hc4_3, hc13_7]]; rfl : nar .boolean (0 : Int32) = (own_b (own_exc s1 o1 c1 x1)))), N0, rfl⟩
theorem pn_law : plainName "com/example/tandemlock/tandemlock/harness/ResultExcludesPinLaw" = true := by first | (simp [plainName, overriddenIn]; done) | decide +kernel
theorem pd_law_0 : parseMethodDescriptor "(JJJJJJJZ)V" = some ⟨[.long, .long, .long, .long, .long, .long, .long, .boolean], none⟩ := by decide +kernel
theorem pd_law_1 : parseMethodDescriptor "()Z" = some ⟨[], some .boolean⟩ := by decide +kernel
theorem ef_law (m : MethodId) (q1 : Int64) (q2 : Int64) (q3 : Int64) (q4 : Int64) (q5 : Int64) (p6 : Int32) : entryFrame m #[(.long q1), (.long q2), (.long q3), (.long q4), (.long q5), (.int p6)] maxLocals = mkF m 0 #[.val (.long q1), .second, .val (.long q2), .second, .val (.long q3), .second, .val (.long q4), .second, .val (.long q5), .second, .val (.int p6), .unset, .unset, .unset, .unset, .unset, .unset, .unset, .unset, .unset, .unset, .unset, .unset, .unset, .unset, .unset] [] := by first | (simp [entryFrame, mkF, argsToLocals, Value.category, maxLocals]; done) | rfl
def Q_law (Z : State) (q1 : Int64) (q2 : Int64) (q3 : Int64) (q4 : Int64) (q5 : Int64) (p6 : Int32) (h0 : Heap) (n0 : Nat) (v : Option Value) (h : Heap) (L : List Loc) : Prop := v = some (.int (1 : Int32)) ∧ Fr n0 L
set_option maxRecDepth 65536 in
set_option maxHeartbeats 40000000 in
theorem rm_law (l : Launch) (Z : State) (a0 : Array Value) (hw : ∀ d ∈ tables_1, d.before a0 Z = true) (ws : List Jvm.Cond) (q1 : Int64) (q2 : Int64) (q3 : Int64) (q4 : Int64) (q5 : Int64) (p6 : Int32) (h0 : Heap) (n0 : Nat) (Z0 : n0 ≤ h0.size) :
    MetFree l x (head1 (Jvm.Cond.code x code maxLocals ret :: ws) room_1) (fun a U => a = #[(.long q1), (.long q2), (.long q3), (.long q4), (.long q5), (.int p6)] ∧ Z.Warmed39 U.vm ∧ U.heap = h0) (fun _ _ _ _ _ => True) (fun _ U o U' => ∃ v L, o = .returned v ∧ Q_law Z q1 q2 q3 q4 q5 p6 h0 n0 v U'.heap L ∧ FrameEnd U o U' L room_1.cells room_1.slots) := by
  refine MetFree.of_bodySF (plainFor_of_name pn_law) hisR ?_
  intro p e s m args below meth c s₁ Bd hml0 hP hK
  obtain ⟨rfl, hZ, hh⟩ := hP
  have hx := Bd.exec
  have hby := Bd.bytes
  have hml : c.maxLocals = 26 := hml0
  have hown : s.vm.findClass "com/example/tandemlock/tandemlock/harness/ResultExcludesPinLaw" = some m.cls := findClass_of_methodNamed Bd.named
  have hnm := (name_of_methodNamed Bd.named Bd.method).1
  have X0 : Stand p l e room_1 s m #[(.long q1), (.long q2), (.long q3), (.long q4), (.long q5), (.int p6)] below meth c s₁ [] 0 0 := Stand.of_body Bd
  have e0 : s₁.heap = h0 := by rw [← hh, Bd.state]; rfl
  have N0 := Fr.nil n0
  have pre0 : ∀ t, Steps p.tables e below (s₁.setTop (mkF m 0 #[.val (.long q1), .second, .val (.long q2), .second, .val (.long q3), .second, .val (.long q4), .second, .val (.long q5), .second, .val (.int p6), .unset, .unset, .unset, .unset, .unset, .unset, .unset, .unset, .unset, .unset, .unset, .unset, .unset, .unset, .unset] [])) t → Steps p.tables e below (s₁.setTop (entryFrame m #[(.long q1), (.long q2), (.long q3), (.long q4), (.long q5), (.int p6)] maxLocals)) t := fun t k => castTop (ef_law m q1 q2 q3 q4 q5 p6) k
  have sg1 : ∀ t, Steps p.tables e below (s₁.setTop (mkF m 12 #[.val (.long q1), .second, .val (.long q2), .second, .val (.long q3), .second, .val (.long q4), .second, .val (.long q5), .second, .val (.int p6), .unset, .unset, .unset, .unset, .unset, .unset, .unset, .unset, .unset, .unset, .unset, .unset, .unset, .unset, .unset] [(.int (own_b (own_fl p6 (1 : Int32))))])) t → Steps p.tables e below (s₁.setTop (mkF m 0 #[.val (.long q1), .second, .val (.long q2), .second, .val (.long q3), .second, .val (.long q4), .second, .val (.long q5), .second, .val (.int p6), .unset, .unset, .unset, .unset, .unset, .unset, .unset, .unset, .unset, .unset, .unset, .unset, .unset, .unset, .unset] [])) t := by
    intro t kt
    show Steps p.tables e below (s₁.setTop (mkF m 0 #[.val (.long q1), .second, .val (.long q2), .second, .val (.long q3), .second, .val (.long q4), .second, .val (.long q5), .second, .val (.int p6), .unset, .unset, .unset, .unset, .unset, .unset, .unset, .unset, .unset, .unset, .unset, .unset, .unset, .unset, .unset] [])) _
    refine XS.iload X0.here hx rfl (hb hby at_0) rfl ?_
    show Steps p.tables e below (s₁.setTop (mkF m 2 #[.val (.long q1), .second, .val (.long q2), .second, .val (.long q3), .second, .val (.long q4), .second, .val (.long q5), .second, .val (.int p6), .unset, .unset, .unset, .unset, .unset, .unset, .unset, .unset, .unset, .unset, .unset, .unset, .unset, .unset, .unset] [(.int p6)])) _
    refine XS.iconst X0.here hx rfl (hb hby at_2) ?_
    show Steps p.tables e below (s₁.setTop (mkF m 3 #[.val (.long q1), .second, .val (.long q2), .second, .val (.long q3), .second, .val (.long q4), .second, .val (.long q5), .second, .val (.int p6), .unset, .unset, .unset, .unset, .unset, .unset, .unset, .unset, .unset, .unset, .unset, .unset, .unset, .unset, .unset] [(.int (1 : Int32)), (.int p6)])) _
    refine XS.iand X0.here hx rfl (hb hby at_3) rfl ?_
    by_cases hc4_2 : (p6 &&& (1 : Int32)) = (0 : Int32)
    · show Steps p.tables e below (s₁.setTop (mkF m 4 #[.val (.long q1), .second, .val (.long q2), .second, .val (.long q3), .second, .val (.long q4), .second, .val (.long q5), .second, .val (.int p6), .unset, .unset, .unset, .unset, .unset, .unset, .unset, .unset, .unset, .unset, .unset, .unset, .unset, .unset, .unset] [(.int (p6 &&& (1 : Int32)))])) _
      refine XS.ifYes X0.here hx rfl (pc0 := 4) (pc' := 11) rfl (hb hby at_4) rfl ((if0 _ _).trans (teq hc4_2).1) (by decide) (by decide) ?_
      show Steps p.tables e below (s₁.setTop (mkF m 11 #[.val (.long q1), .second, .val (.long q2), .second, .val (.long q3), .second, .val (.long q4), .second, .val (.long q5), .second, .val (.int p6), .unset, .unset, .unset, .unset, .unset, .unset, .unset, .unset, .unset, .unset, .unset, .unset, .unset, .unset, .unset] [])) _
      refine XS.iconst X0.here hx rfl (hb hby at_11) ?_
      show Steps p.tables e below (s₁.setTop (mkF m 12 #[.val (.long q1), .second, .val (.long q2), .second, .val (.long q3), .second, .val (.long q4), .second, .val (.long q5), .second, .val (.int p6), .unset, .unset, .unset, .unset, .unset, .unset, .unset, .unset, .unset, .unset, .unset, .unset, .unset, .unset, .unset] [(.int (0 : Int32))])) _
      refine castTop (congrArg (fun zz => (mkF m 12 #[.val (.long q1), .second, .val (.long q2), .second, .val (.long q3), .second, .val (.long q4), .second, .val (.long q5), .second, .val (.int p6), .unset, .unset, .unset, .unset, .unset, .unset, .unset, .unset, .unset, .unset, .unset, .unset, .unset, .unset, .unset] [(.int zz)])) (by rw [show own_fl p6 (1 : Int32) = false from by simp [own_fl, hc4_2]]; rfl : (0 : Int32) = (own_b (own_fl p6 (1 : Int32))))) ?_
      exact kt
    · show Steps p.tables e below (s₁.setTop (mkF m 4 #[.val (.long q1), .second, .val (.long q2), .second, .val (.long q3), .second, .val (.long q4), .second, .val (.long q5), .second, .val (.int p6), .unset, .unset, .unset, .unset, .unset, .unset, .unset, .unset, .unset, .unset, .unset, .unset, .unset, .unset, .unset] [(.int (p6 &&& (1 : Int32)))])) _
      refine XS.ifNo X0.here hx rfl (hb hby at_4) rfl ((if0 _ _).trans (feq hc4_2).1) ?_
      show Steps p.tables e below (s₁.setTop (mkF m 7 #[.val (.long q1), .second, .val (.long q2), .second, .val (.long q3), .second, .val (.long q4), .second, .val (.long q5), .second, .val (.int p6), .unset, .unset, .unset, .unset, .unset, .unset, .unset, .unset, .unset, .unset, .unset, .unset, .unset, .unset, .unset] [])) _
      refine XS.iconst X0.here hx rfl (hb hby at_7) ?_
      show Steps p.tables e below (s₁.setTop (mkF m 8 #[.val (.long q1), .second, .val (.long q2), .second, .val (.long q3), .second, .val (.long q4), .second, .val (.long q5), .second, .val (.int p6), .unset, .unset, .unset, .unset, .unset, .unset, .unset, .unset, .unset, .unset, .unset, .unset, .unset, .unset, .unset] [(.int (1 : Int32))])) _
      refine XS.goto X0.here hx rfl (pc0 := 8) (pc' := 12) rfl (hb hby at_8) (by decide) (by decide) ?_
      show Steps p.tables e below (s₁.setTop (mkF m 12 #[.val (.long q1), .second, .val (.long q2), .second, .val (.long q3), .second, .val (.long q4), .second, .val (.long q5), .second, .val (.int p6), .unset, .unset, .unset, .unset, .unset, .unset, .unset, .unset, .unset, .unset, .unset, .unset, .unset, .unset, .unset] [(.int (1 : Int32))])) _
      refine castTop (congrArg (fun zz => (mkF m 12 #[.val (.long q1), .second, .val (.long q2), .second, .val (.long q3), .second, .val (.long q4), .second, .val (.long q5), .second, .val (.int p6), .unset, .unset, .unset, .unset, .unset, .unset, .unset, .unset, .unset, .unset, .unset, .unset, .unset, .unset, .unset] [(.int zz)])) (by rw [show own_fl p6 (1 : Int32) = true from by simp [own_fl, hc4_2]]; rfl : (1 : Int32) = (own_b (own_fl p6 (1 : Int32))))) ?_
      exact kt
  have sg3 : ∀ t, Steps p.tables e below (s₁.setTop (mkF m 26 #[.val (.long q1), .second, .val (.long q2), .second, .val (.long q3), .second, .val (.long q4), .second, .val (.long q5), .second, .val (.int p6), .val (.int (own_b (own_fl p6 (1 : Int32)))), .unset, .unset, .unset, .unset, .unset, .unset, .unset, .unset, .unset, .unset, .unset, .unset, .unset, .unset] [(.long (own_sel (own_fl p6 (2 : Int32)) q1 q2))])) t → Steps p.tables e below (s₁.setTop (mkF m 14 #[.val (.long q1), .second, .val (.long q2), .second, .val (.long q3), .second, .val (.long q4), .second, .val (.long q5), .second, .val (.int p6), .val (.int (own_b (own_fl p6 (1 : Int32)))), .unset, .unset, .unset, .unset, .unset, .unset, .unset, .unset, .unset, .unset, .unset, .unset, .unset, .unset] [])) t := by
    intro t kt
    show Steps p.tables e below (s₁.setTop (mkF m 14 #[.val (.long q1), .second, .val (.long q2), .second, .val (.long q3), .second, .val (.long q4), .second, .val (.long q5), .second, .val (.int p6), .val (.int (own_b (own_fl p6 (1 : Int32)))), .unset, .unset, .unset, .unset, .unset, .unset, .unset, .unset, .unset, .unset, .unset, .unset, .unset, .unset] [])) _
    refine XS.iload X0.here hx rfl (hb hby at_14) rfl ?_
    show Steps p.tables e below (s₁.setTop (mkF m 16 #[.val (.long q1), .second, .val (.long q2), .second, .val (.long q3), .second, .val (.long q4), .second, .val (.long q5), .second, .val (.int p6), .val (.int (own_b (own_fl p6 (1 : Int32)))), .unset, .unset, .unset, .unset, .unset, .unset, .unset, .unset, .unset, .unset, .unset, .unset, .unset, .unset] [(.int p6)])) _
    refine XS.iconst X0.here hx rfl (hb hby at_16) ?_
    show Steps p.tables e below (s₁.setTop (mkF m 17 #[.val (.long q1), .second, .val (.long q2), .second, .val (.long q3), .second, .val (.long q4), .second, .val (.long q5), .second, .val (.int p6), .val (.int (own_b (own_fl p6 (1 : Int32)))), .unset, .unset, .unset, .unset, .unset, .unset, .unset, .unset, .unset, .unset, .unset, .unset, .unset, .unset] [(.int (2 : Int32)), (.int p6)])) _
    refine XS.iand X0.here hx rfl (hb hby at_17) rfl ?_
    by_cases hc18_4 : (p6 &&& (2 : Int32)) = (0 : Int32)
    · show Steps p.tables e below (s₁.setTop (mkF m 18 #[.val (.long q1), .second, .val (.long q2), .second, .val (.long q3), .second, .val (.long q4), .second, .val (.long q5), .second, .val (.int p6), .val (.int (own_b (own_fl p6 (1 : Int32)))), .unset, .unset, .unset, .unset, .unset, .unset, .unset, .unset, .unset, .unset, .unset, .unset, .unset, .unset] [(.int (p6 &&& (2 : Int32)))])) _
      refine XS.ifYes X0.here hx rfl (pc0 := 18) (pc' := 25) rfl (hb hby at_18) rfl ((if0 _ _).trans (teq hc18_4).1) (by decide) (by decide) ?_
      show Steps p.tables e below (s₁.setTop (mkF m 25 #[.val (.long q1), .second, .val (.long q2), .second, .val (.long q3), .second, .val (.long q4), .second, .val (.long q5), .second, .val (.int p6), .val (.int (own_b (own_fl p6 (1 : Int32)))), .unset, .unset, .unset, .unset, .unset, .unset, .unset, .unset, .unset, .unset, .unset, .unset, .unset, .unset] [])) _
      refine XS.lloadN X0.here hx rfl (hb hby at_25) rfl ?_
      show Steps p.tables e below (s₁.setTop (mkF m 26 #[.val (.long q1), .second, .val (.long q2), .second, .val (.long q3), .second, .val (.long q4), .second, .val (.long q5), .second, .val (.int p6), .val (.int (own_b (own_fl p6 (1 : Int32)))), .unset, .unset, .unset, .unset, .unset, .unset, .unset, .unset, .unset, .unset, .unset, .unset, .unset, .unset] [(.long q2)])) _
      refine castTop (congrArg (fun zz => (mkF m 26 #[.val (.long q1), .second, .val (.long q2), .second, .val (.long q3), .second, .val (.long q4), .second, .val (.long q5), .second, .val (.int p6), .val (.int (own_b (own_fl p6 (1 : Int32)))), .unset, .unset, .unset, .unset, .unset, .unset, .unset, .unset, .unset, .unset, .unset, .unset, .unset, .unset] [(.long zz)])) (by simp [own_sel, own_fl, hc18_4] : q2 = (own_sel (own_fl p6 (2 : Int32)) q1 q2))) ?_
      exact kt
    · show Steps p.tables e below (s₁.setTop (mkF m 18 #[.val (.long q1), .second, .val (.long q2), .second, .val (.long q3), .second, .val (.long q4), .second, .val (.long q5), .second, .val (.int p6), .val (.int (own_b (own_fl p6 (1 : Int32)))), .unset, .unset, .unset, .unset, .unset, .unset, .unset, .unset, .unset, .unset, .unset, .unset, .unset, .unset] [(.int (p6 &&& (2 : Int32)))])) _
      refine XS.ifNo X0.here hx rfl (hb hby at_18) rfl ((if0 _ _).trans (feq hc18_4).1) ?_
      show Steps p.tables e below (s₁.setTop (mkF m 21 #[.val (.long q1), .second, .val (.long q2), .second, .val (.long q3), .second, .val (.long q4), .second, .val (.long q5), .second, .val (.int p6), .val (.int (own_b (own_fl p6 (1 : Int32)))), .unset, .unset, .unset, .unset, .unset, .unset, .unset, .unset, .unset, .unset, .unset, .unset, .unset, .unset] [])) _
      refine XS.lloadN X0.here hx rfl (hb hby at_21) rfl ?_
      show Steps p.tables e below (s₁.setTop (mkF m 22 #[.val (.long q1), .second, .val (.long q2), .second, .val (.long q3), .second, .val (.long q4), .second, .val (.long q5), .second, .val (.int p6), .val (.int (own_b (own_fl p6 (1 : Int32)))), .unset, .unset, .unset, .unset, .unset, .unset, .unset, .unset, .unset, .unset, .unset, .unset, .unset, .unset] [(.long q1)])) _
      refine XS.goto X0.here hx rfl (pc0 := 22) (pc' := 26) rfl (hb hby at_22) (by decide) (by decide) ?_
      show Steps p.tables e below (s₁.setTop (mkF m 26 #[.val (.long q1), .second, .val (.long q2), .second, .val (.long q3), .second, .val (.long q4), .second, .val (.long q5), .second, .val (.int p6), .val (.int (own_b (own_fl p6 (1 : Int32)))), .unset, .unset, .unset, .unset, .unset, .unset, .unset, .unset, .unset, .unset, .unset, .unset, .unset, .unset] [(.long q1)])) _
      refine castTop (congrArg (fun zz => (mkF m 26 #[.val (.long q1), .second, .val (.long q2), .second, .val (.long q3), .second, .val (.long q4), .second, .val (.long q5), .second, .val (.int p6), .val (.int (own_b (own_fl p6 (1 : Int32)))), .unset, .unset, .unset, .unset, .unset, .unset, .unset, .unset, .unset, .unset, .unset, .unset, .unset, .unset] [(.long zz)])) (by simp [own_sel, own_fl, hc18_4] : q1 = (own_sel (own_fl p6 (2 : Int32)) q1 q2))) ?_
      exact kt
  have sg5 : ∀ t, Steps p.tables e below (s₁.setTop (mkF m 41 #[.val (.long q1), .second, .val (.long q2), .second, .val (.long q3), .second, .val (.long q4), .second, .val (.long q5), .second, .val (.int p6), .val (.int (own_b (own_fl p6 (1 : Int32)))), .val (.long (own_sel (own_fl p6 (2 : Int32)) q1 q2)), .second, .unset, .unset, .unset, .unset, .unset, .unset, .unset, .unset, .unset, .unset, .unset, .unset] [(.long (own_sel (own_fl p6 (4 : Int32)) (0 : Int64) q3))])) t → Steps p.tables e below (s₁.setTop (mkF m 28 #[.val (.long q1), .second, .val (.long q2), .second, .val (.long q3), .second, .val (.long q4), .second, .val (.long q5), .second, .val (.int p6), .val (.int (own_b (own_fl p6 (1 : Int32)))), .val (.long (own_sel (own_fl p6 (2 : Int32)) q1 q2)), .second, .unset, .unset, .unset, .unset, .unset, .unset, .unset, .unset, .unset, .unset, .unset, .unset] [])) t := by
    intro t kt
    show Steps p.tables e below (s₁.setTop (mkF m 28 #[.val (.long q1), .second, .val (.long q2), .second, .val (.long q3), .second, .val (.long q4), .second, .val (.long q5), .second, .val (.int p6), .val (.int (own_b (own_fl p6 (1 : Int32)))), .val (.long (own_sel (own_fl p6 (2 : Int32)) q1 q2)), .second, .unset, .unset, .unset, .unset, .unset, .unset, .unset, .unset, .unset, .unset, .unset, .unset] [])) _
    refine XS.iload X0.here hx rfl (hb hby at_28) rfl ?_
    show Steps p.tables e below (s₁.setTop (mkF m 30 #[.val (.long q1), .second, .val (.long q2), .second, .val (.long q3), .second, .val (.long q4), .second, .val (.long q5), .second, .val (.int p6), .val (.int (own_b (own_fl p6 (1 : Int32)))), .val (.long (own_sel (own_fl p6 (2 : Int32)) q1 q2)), .second, .unset, .unset, .unset, .unset, .unset, .unset, .unset, .unset, .unset, .unset, .unset, .unset] [(.int p6)])) _
    refine XS.iconst X0.here hx rfl (hb hby at_30) ?_
    show Steps p.tables e below (s₁.setTop (mkF m 31 #[.val (.long q1), .second, .val (.long q2), .second, .val (.long q3), .second, .val (.long q4), .second, .val (.long q5), .second, .val (.int p6), .val (.int (own_b (own_fl p6 (1 : Int32)))), .val (.long (own_sel (own_fl p6 (2 : Int32)) q1 q2)), .second, .unset, .unset, .unset, .unset, .unset, .unset, .unset, .unset, .unset, .unset, .unset, .unset] [(.int (4 : Int32)), (.int p6)])) _
    refine XS.iand X0.here hx rfl (hb hby at_31) rfl ?_
    by_cases hc32_6 : (p6 &&& (4 : Int32)) = (0 : Int32)
    · show Steps p.tables e below (s₁.setTop (mkF m 32 #[.val (.long q1), .second, .val (.long q2), .second, .val (.long q3), .second, .val (.long q4), .second, .val (.long q5), .second, .val (.int p6), .val (.int (own_b (own_fl p6 (1 : Int32)))), .val (.long (own_sel (own_fl p6 (2 : Int32)) q1 q2)), .second, .unset, .unset, .unset, .unset, .unset, .unset, .unset, .unset, .unset, .unset, .unset, .unset] [(.int (p6 &&& (4 : Int32)))])) _
      refine XS.ifYes X0.here hx rfl (pc0 := 32) (pc' := 39) rfl (hb hby at_32) rfl ((if0 _ _).trans (teq hc32_6).1) (by decide) (by decide) ?_
      show Steps p.tables e below (s₁.setTop (mkF m 39 #[.val (.long q1), .second, .val (.long q2), .second, .val (.long q3), .second, .val (.long q4), .second, .val (.long q5), .second, .val (.int p6), .val (.int (own_b (own_fl p6 (1 : Int32)))), .val (.long (own_sel (own_fl p6 (2 : Int32)) q1 q2)), .second, .unset, .unset, .unset, .unset, .unset, .unset, .unset, .unset, .unset, .unset, .unset, .unset] [])) _
      refine XS.lload X0.here hx rfl (hb hby at_39) rfl ?_
      show Steps p.tables e below (s₁.setTop (mkF m 41 #[.val (.long q1), .second, .val (.long q2), .second, .val (.long q3), .second, .val (.long q4), .second, .val (.long q5), .second, .val (.int p6), .val (.int (own_b (own_fl p6 (1 : Int32)))), .val (.long (own_sel (own_fl p6 (2 : Int32)) q1 q2)), .second, .unset, .unset, .unset, .unset, .unset, .unset, .unset, .unset, .unset, .unset, .unset, .unset] [(.long q3)])) _
      refine castTop (congrArg (fun zz => (mkF m 41 #[.val (.long q1), .second, .val (.long q2), .second, .val (.long q3), .second, .val (.long q4), .second, .val (.long q5), .second, .val (.int p6), .val (.int (own_b (own_fl p6 (1 : Int32)))), .val (.long (own_sel (own_fl p6 (2 : Int32)) q1 q2)), .second, .unset, .unset, .unset, .unset, .unset, .unset, .unset, .unset, .unset, .unset, .unset, .unset] [(.long zz)])) (by simp [own_sel, own_fl, hc32_6] : q3 = (own_sel (own_fl p6 (4 : Int32)) (0 : Int64) q3))) ?_
      exact kt
    · show Steps p.tables e below (s₁.setTop (mkF m 32 #[.val (.long q1), .second, .val (.long q2), .second, .val (.long q3), .second, .val (.long q4), .second, .val (.long q5), .second, .val (.int p6), .val (.int (own_b (own_fl p6 (1 : Int32)))), .val (.long (own_sel (own_fl p6 (2 : Int32)) q1 q2)), .second, .unset, .unset, .unset, .unset, .unset, .unset, .unset, .unset, .unset, .unset, .unset, .unset] [(.int (p6 &&& (4 : Int32)))])) _
      refine XS.ifNo X0.here hx rfl (hb hby at_32) rfl ((if0 _ _).trans (feq hc32_6).1) ?_
      show Steps p.tables e below (s₁.setTop (mkF m 35 #[.val (.long q1), .second, .val (.long q2), .second, .val (.long q3), .second, .val (.long q4), .second, .val (.long q5), .second, .val (.int p6), .val (.int (own_b (own_fl p6 (1 : Int32)))), .val (.long (own_sel (own_fl p6 (2 : Int32)) q1 q2)), .second, .unset, .unset, .unset, .unset, .unset, .unset, .unset, .unset, .unset, .unset, .unset, .unset] [])) _
      refine XS.lconst X0.here hx rfl (hb hby at_35) ?_
      show Steps p.tables e below (s₁.setTop (mkF m 36 #[.val (.long q1), .second, .val (.long q2), .second, .val (.long q3), .second, .val (.long q4), .second, .val (.long q5), .second, .val (.int p6), .val (.int (own_b (own_fl p6 (1 : Int32)))), .val (.long (own_sel (own_fl p6 (2 : Int32)) q1 q2)), .second, .unset, .unset, .unset, .unset, .unset, .unset, .unset, .unset, .unset, .unset, .unset, .unset] [(.long (0 : Int64))])) _
      refine XS.goto X0.here hx rfl (pc0 := 36) (pc' := 41) rfl (hb hby at_36) (by decide) (by decide) ?_
      show Steps p.tables e below (s₁.setTop (mkF m 41 #[.val (.long q1), .second, .val (.long q2), .second, .val (.long q3), .second, .val (.long q4), .second, .val (.long q5), .second, .val (.int p6), .val (.int (own_b (own_fl p6 (1 : Int32)))), .val (.long (own_sel (own_fl p6 (2 : Int32)) q1 q2)), .second, .unset, .unset, .unset, .unset, .unset, .unset, .unset, .unset, .unset, .unset, .unset, .unset] [(.long (0 : Int64))])) _
      refine castTop (congrArg (fun zz => (mkF m 41 #[.val (.long q1), .second, .val (.long q2), .second, .val (.long q3), .second, .val (.long q4), .second, .val (.long q5), .second, .val (.int p6), .val (.int (own_b (own_fl p6 (1 : Int32)))), .val (.long (own_sel (own_fl p6 (2 : Int32)) q1 q2)), .second, .unset, .unset, .unset, .unset, .unset, .unset, .unset, .unset, .unset, .unset, .unset, .unset] [(.long zz)])) (by simp [own_sel, own_fl, hc32_6] : (0 : Int64) = (own_sel (own_fl p6 (4 : Int32)) (0 : Int64) q3))) ?_
      exact kt
  have sg7 : ∀ t, Steps p.tables e below (s₁.setTop (mkF m 80 #[.val (.long q1), .second, .val (.long q2), .second, .val (.long q3), .second, .val (.long q4), .second, .val (.long q5), .second, .val (.int p6), .val (.int (own_b (own_fl p6 (1 : Int32)))), .val (.long (own_sel (own_fl p6 (2 : Int32)) q1 q2)), .second, .val (.long (own_sel (own_fl p6 (4 : Int32)) (0 : Int64) q3)), .second, .val (.long q4), .second, .val (.long q5), .second, .val (.long (q4 ^^^ q5)), .second, .unset, .unset, .unset, .unset] [(.long (own_sel (own_fl p6 (8 : Int32)) (q5 ^^^ (-1 : Int64)) (q4 + q5)))])) t → Steps p.tables e below (s₁.setTop (mkF m 58 #[.val (.long q1), .second, .val (.long q2), .second, .val (.long q3), .second, .val (.long q4), .second, .val (.long q5), .second, .val (.int p6), .val (.int (own_b (own_fl p6 (1 : Int32)))), .val (.long (own_sel (own_fl p6 (2 : Int32)) q1 q2)), .second, .val (.long (own_sel (own_fl p6 (4 : Int32)) (0 : Int64) q3)), .second, .val (.long q4), .second, .val (.long q5), .second, .val (.long (q4 ^^^ q5)), .second, .unset, .unset, .unset, .unset] [])) t := by
    intro t kt
    show Steps p.tables e below (s₁.setTop (mkF m 58 #[.val (.long q1), .second, .val (.long q2), .second, .val (.long q3), .second, .val (.long q4), .second, .val (.long q5), .second, .val (.int p6), .val (.int (own_b (own_fl p6 (1 : Int32)))), .val (.long (own_sel (own_fl p6 (2 : Int32)) q1 q2)), .second, .val (.long (own_sel (own_fl p6 (4 : Int32)) (0 : Int64) q3)), .second, .val (.long q4), .second, .val (.long q5), .second, .val (.long (q4 ^^^ q5)), .second, .unset, .unset, .unset, .unset] [])) _
    refine XS.iload X0.here hx rfl (hb hby at_58) rfl ?_
    show Steps p.tables e below (s₁.setTop (mkF m 60 #[.val (.long q1), .second, .val (.long q2), .second, .val (.long q3), .second, .val (.long q4), .second, .val (.long q5), .second, .val (.int p6), .val (.int (own_b (own_fl p6 (1 : Int32)))), .val (.long (own_sel (own_fl p6 (2 : Int32)) q1 q2)), .second, .val (.long (own_sel (own_fl p6 (4 : Int32)) (0 : Int64) q3)), .second, .val (.long q4), .second, .val (.long q5), .second, .val (.long (q4 ^^^ q5)), .second, .unset, .unset, .unset, .unset] [(.int p6)])) _
    refine XS.bipush X0.here hx rfl (hb hby at_60) ?_
    show Steps p.tables e below (s₁.setTop (mkF m 62 #[.val (.long q1), .second, .val (.long q2), .second, .val (.long q3), .second, .val (.long q4), .second, .val (.long q5), .second, .val (.int p6), .val (.int (own_b (own_fl p6 (1 : Int32)))), .val (.long (own_sel (own_fl p6 (2 : Int32)) q1 q2)), .second, .val (.long (own_sel (own_fl p6 (4 : Int32)) (0 : Int64) q3)), .second, .val (.long q4), .second, .val (.long q5), .second, .val (.long (q4 ^^^ q5)), .second, .unset, .unset, .unset, .unset] [(.int (8 : Int32)), (.int p6)])) _
    refine XS.iand X0.here hx rfl (hb hby at_62) rfl ?_
    by_cases hc63_8 : (p6 &&& (8 : Int32)) = (0 : Int32)
    · show Steps p.tables e below (s₁.setTop (mkF m 63 #[.val (.long q1), .second, .val (.long q2), .second, .val (.long q3), .second, .val (.long q4), .second, .val (.long q5), .second, .val (.int p6), .val (.int (own_b (own_fl p6 (1 : Int32)))), .val (.long (own_sel (own_fl p6 (2 : Int32)) q1 q2)), .second, .val (.long (own_sel (own_fl p6 (4 : Int32)) (0 : Int64) q3)), .second, .val (.long q4), .second, .val (.long q5), .second, .val (.long (q4 ^^^ q5)), .second, .unset, .unset, .unset, .unset] [(.int (p6 &&& (8 : Int32)))])) _
      refine XS.ifYes X0.here hx rfl (pc0 := 63) (pc' := 75) rfl (hb hby at_63) rfl ((if0 _ _).trans (teq hc63_8).1) (by decide) (by decide) ?_
      show Steps p.tables e below (s₁.setTop (mkF m 75 #[.val (.long q1), .second, .val (.long q2), .second, .val (.long q3), .second, .val (.long q4), .second, .val (.long q5), .second, .val (.int p6), .val (.int (own_b (own_fl p6 (1 : Int32)))), .val (.long (own_sel (own_fl p6 (2 : Int32)) q1 q2)), .second, .val (.long (own_sel (own_fl p6 (4 : Int32)) (0 : Int64) q3)), .second, .val (.long q4), .second, .val (.long q5), .second, .val (.long (q4 ^^^ q5)), .second, .unset, .unset, .unset, .unset] [])) _
      refine XS.lload X0.here hx rfl (hb hby at_75) rfl ?_
      show Steps p.tables e below (s₁.setTop (mkF m 77 #[.val (.long q1), .second, .val (.long q2), .second, .val (.long q3), .second, .val (.long q4), .second, .val (.long q5), .second, .val (.int p6), .val (.int (own_b (own_fl p6 (1 : Int32)))), .val (.long (own_sel (own_fl p6 (2 : Int32)) q1 q2)), .second, .val (.long (own_sel (own_fl p6 (4 : Int32)) (0 : Int64) q3)), .second, .val (.long q4), .second, .val (.long q5), .second, .val (.long (q4 ^^^ q5)), .second, .unset, .unset, .unset, .unset] [(.long q4)])) _
      refine XS.lload X0.here hx rfl (hb hby at_77) rfl ?_
      show Steps p.tables e below (s₁.setTop (mkF m 79 #[.val (.long q1), .second, .val (.long q2), .second, .val (.long q3), .second, .val (.long q4), .second, .val (.long q5), .second, .val (.int p6), .val (.int (own_b (own_fl p6 (1 : Int32)))), .val (.long (own_sel (own_fl p6 (2 : Int32)) q1 q2)), .second, .val (.long (own_sel (own_fl p6 (4 : Int32)) (0 : Int64) q3)), .second, .val (.long q4), .second, .val (.long q5), .second, .val (.long (q4 ^^^ q5)), .second, .unset, .unset, .unset, .unset] [(.long q5), (.long q4)])) _
      refine XS.ladd X0.here hx rfl (hb hby at_79) rfl ?_
      show Steps p.tables e below (s₁.setTop (mkF m 80 #[.val (.long q1), .second, .val (.long q2), .second, .val (.long q3), .second, .val (.long q4), .second, .val (.long q5), .second, .val (.int p6), .val (.int (own_b (own_fl p6 (1 : Int32)))), .val (.long (own_sel (own_fl p6 (2 : Int32)) q1 q2)), .second, .val (.long (own_sel (own_fl p6 (4 : Int32)) (0 : Int64) q3)), .second, .val (.long q4), .second, .val (.long q5), .second, .val (.long (q4 ^^^ q5)), .second, .unset, .unset, .unset, .unset] [(.long (q4 + q5))])) _
      refine castTop (congrArg (fun zz => (mkF m 80 #[.val (.long q1), .second, .val (.long q2), .second, .val (.long q3), .second, .val (.long q4), .second, .val (.long q5), .second, .val (.int p6), .val (.int (own_b (own_fl p6 (1 : Int32)))), .val (.long (own_sel (own_fl p6 (2 : Int32)) q1 q2)), .second, .val (.long (own_sel (own_fl p6 (4 : Int32)) (0 : Int64) q3)), .second, .val (.long q4), .second, .val (.long q5), .second, .val (.long (q4 ^^^ q5)), .second, .unset, .unset, .unset, .unset] [(.long zz)])) (by simp [own_sel, own_fl, hc63_8] : (q4 + q5) = (own_sel (own_fl p6 (8 : Int32)) (q5 ^^^ (-1 : Int64)) (q4 + q5)))) ?_
      exact kt
    · show Steps p.tables e below (s₁.setTop (mkF m 63 #[.val (.long q1), .second, .val (.long q2), .second, .val (.long q3), .second, .val (.long q4), .second, .val (.long q5), .second, .val (.int p6), .val (.int (own_b (own_fl p6 (1 : Int32)))), .val (.long (own_sel (own_fl p6 (2 : Int32)) q1 q2)), .second, .val (.long (own_sel (own_fl p6 (4 : Int32)) (0 : Int64) q3)), .second, .val (.long q4), .second, .val (.long q5), .second, .val (.long (q4 ^^^ q5)), .second, .unset, .unset, .unset, .unset] [(.int (p6 &&& (8 : Int32)))])) _
      refine XS.ifNo X0.here hx rfl (hb hby at_63) rfl ((if0 _ _).trans (feq hc63_8).1) ?_
      show Steps p.tables e below (s₁.setTop (mkF m 66 #[.val (.long q1), .second, .val (.long q2), .second, .val (.long q3), .second, .val (.long q4), .second, .val (.long q5), .second, .val (.int p6), .val (.int (own_b (own_fl p6 (1 : Int32)))), .val (.long (own_sel (own_fl p6 (2 : Int32)) q1 q2)), .second, .val (.long (own_sel (own_fl p6 (4 : Int32)) (0 : Int64) q3)), .second, .val (.long q4), .second, .val (.long q5), .second, .val (.long (q4 ^^^ q5)), .second, .unset, .unset, .unset, .unset] [])) _
      refine XS.lload X0.here hx rfl (hb hby at_66) rfl ?_
      show Steps p.tables e below (s₁.setTop (mkF m 68 #[.val (.long q1), .second, .val (.long q2), .second, .val (.long q3), .second, .val (.long q4), .second, .val (.long q5), .second, .val (.int p6), .val (.int (own_b (own_fl p6 (1 : Int32)))), .val (.long (own_sel (own_fl p6 (2 : Int32)) q1 q2)), .second, .val (.long (own_sel (own_fl p6 (4 : Int32)) (0 : Int64) q3)), .second, .val (.long q4), .second, .val (.long q5), .second, .val (.long (q4 ^^^ q5)), .second, .unset, .unset, .unset, .unset] [(.long q5)])) _
      refine X0.ldc2Long hx hown (mvT hZ (hw _ (List.mem_of_getElem? (i := 35) rfl))) (g := (mkF m 68 #[.val (.long q1), .second, .val (.long q2), .second, .val (.long q3), .second, .val (.long q4), .second, .val (.long q5), .second, .val (.int p6), .val (.int (own_b (own_fl p6 (1 : Int32)))), .val (.long (own_sel (own_fl p6 (2 : Int32)) q1 q2)), .second, .val (.long (own_sel (own_fl p6 (4 : Int32)) (0 : Int64) q3)), .second, .val (.long q4), .second, .val (.long q5), .second, .val (.long (q4 ^^^ q5)), .second, .unset, .unset, .unset, .unset] [(.long q5)])) rfl (hb hby at_68) _ ?_
      show Steps p.tables e below (s₁.setTop (mkF m 71 #[.val (.long q1), .second, .val (.long q2), .second, .val (.long q3), .second, .val (.long q4), .second, .val (.long q5), .second, .val (.int p6), .val (.int (own_b (own_fl p6 (1 : Int32)))), .val (.long (own_sel (own_fl p6 (2 : Int32)) q1 q2)), .second, .val (.long (own_sel (own_fl p6 (4 : Int32)) (0 : Int64) q3)), .second, .val (.long q4), .second, .val (.long q5), .second, .val (.long (q4 ^^^ q5)), .second, .unset, .unset, .unset, .unset] [(.long (-1 : Int64)), (.long q5)])) _
      refine XS.lxor X0.here hx rfl (hb hby at_71) rfl ?_
      show Steps p.tables e below (s₁.setTop (mkF m 72 #[.val (.long q1), .second, .val (.long q2), .second, .val (.long q3), .second, .val (.long q4), .second, .val (.long q5), .second, .val (.int p6), .val (.int (own_b (own_fl p6 (1 : Int32)))), .val (.long (own_sel (own_fl p6 (2 : Int32)) q1 q2)), .second, .val (.long (own_sel (own_fl p6 (4 : Int32)) (0 : Int64) q3)), .second, .val (.long q4), .second, .val (.long q5), .second, .val (.long (q4 ^^^ q5)), .second, .unset, .unset, .unset, .unset] [(.long (q5 ^^^ (-1 : Int64)))])) _
      refine XS.goto X0.here hx rfl (pc0 := 72) (pc' := 80) rfl (hb hby at_72) (by decide) (by decide) ?_
      show Steps p.tables e below (s₁.setTop (mkF m 80 #[.val (.long q1), .second, .val (.long q2), .second, .val (.long q3), .second, .val (.long q4), .second, .val (.long q5), .second, .val (.int p6), .val (.int (own_b (own_fl p6 (1 : Int32)))), .val (.long (own_sel (own_fl p6 (2 : Int32)) q1 q2)), .second, .val (.long (own_sel (own_fl p6 (4 : Int32)) (0 : Int64) q3)), .second, .val (.long q4), .second, .val (.long q5), .second, .val (.long (q4 ^^^ q5)), .second, .unset, .unset, .unset, .unset] [(.long (q5 ^^^ (-1 : Int64)))])) _
      refine castTop (congrArg (fun zz => (mkF m 80 #[.val (.long q1), .second, .val (.long q2), .second, .val (.long q3), .second, .val (.long q4), .second, .val (.long q5), .second, .val (.int p6), .val (.int (own_b (own_fl p6 (1 : Int32)))), .val (.long (own_sel (own_fl p6 (2 : Int32)) q1 q2)), .second, .val (.long (own_sel (own_fl p6 (4 : Int32)) (0 : Int64) q3)), .second, .val (.long q4), .second, .val (.long q5), .second, .val (.long (q4 ^^^ q5)), .second, .unset, .unset, .unset, .unset] [(.long zz)])) (by simp [own_sel, own_fl, hc63_8] : (q5 ^^^ (-1 : Int64)) = (own_sel (own_fl p6 (8 : Int32)) (q5 ^^^ (-1 : Int64)) (q4 + q5)))) ?_
      exact kt
  have pr10 : ∀ t, Steps p.tables e below (s₁.setTop (mkF m 82 #[.val (.long q1), .second, .val (.long q2), .second, .val (.long q3), .second, .val (.long q4), .second, .val (.long q5), .second, .val (.int p6), .val (.int (own_b (own_fl p6 (1 : Int32)))), .val (.long (own_sel (own_fl p6 (2 : Int32)) q1 q2)), .second, .val (.long (own_sel (own_fl p6 (4 : Int32)) (0 : Int64) q3)), .second, .val (.long q4), .second, .val (.long q5), .second, .val (.long (q4 ^^^ q5)), .second, .val (.long (own_sel (own_fl p6 (8 : Int32)) (q5 ^^^ (-1 : Int64)) (q4 + q5))), .second, .unset, .unset] [])) t → Steps p.tables e below (s₁.setTop (entryFrame m #[(.long q1), (.long q2), (.long q3), (.long q4), (.long q5), (.int p6)] maxLocals)) t := fun t kt => pre0 t (by
    show Steps p.tables e below (s₁.setTop (mkF m 0 #[.val (.long q1), .second, .val (.long q2), .second, .val (.long q3), .second, .val (.long q4), .second, .val (.long q5), .second, .val (.int p6), .unset, .unset, .unset, .unset, .unset, .unset, .unset, .unset, .unset, .unset, .unset, .unset, .unset, .unset, .unset] [])) _
    refine sg1 _ ?_
    show Steps p.tables e below (s₁.setTop (mkF m 12 #[.val (.long q1), .second, .val (.long q2), .second, .val (.long q3), .second, .val (.long q4), .second, .val (.long q5), .second, .val (.int p6), .unset, .unset, .unset, .unset, .unset, .unset, .unset, .unset, .unset, .unset, .unset, .unset, .unset, .unset, .unset] [(.int (own_b (own_fl p6 (1 : Int32))))])) _
    refine XS.istore X0.here hx rfl (hb hby at_12) rfl (l' := #[.val (.long q1), .second, .val (.long q2), .second, .val (.long q3), .second, .val (.long q4), .second, .val (.long q5), .second, .val (.int p6), .val (.int (own_b (own_fl p6 (1 : Int32)))), .unset, .unset, .unset, .unset, .unset, .unset, .unset, .unset, .unset, .unset, .unset, .unset, .unset, .unset]) rfl ?_
    show Steps p.tables e below (s₁.setTop (mkF m 14 #[.val (.long q1), .second, .val (.long q2), .second, .val (.long q3), .second, .val (.long q4), .second, .val (.long q5), .second, .val (.int p6), .val (.int (own_b (own_fl p6 (1 : Int32)))), .unset, .unset, .unset, .unset, .unset, .unset, .unset, .unset, .unset, .unset, .unset, .unset, .unset, .unset] [])) _
    refine sg3 _ ?_
    show Steps p.tables e below (s₁.setTop (mkF m 26 #[.val (.long q1), .second, .val (.long q2), .second, .val (.long q3), .second, .val (.long q4), .second, .val (.long q5), .second, .val (.int p6), .val (.int (own_b (own_fl p6 (1 : Int32)))), .unset, .unset, .unset, .unset, .unset, .unset, .unset, .unset, .unset, .unset, .unset, .unset, .unset, .unset] [(.long (own_sel (own_fl p6 (2 : Int32)) q1 q2))])) _
    refine XS.lstore X0.here hx rfl (hb hby at_26) rfl (l' := #[.val (.long q1), .second, .val (.long q2), .second, .val (.long q3), .second, .val (.long q4), .second, .val (.long q5), .second, .val (.int p6), .val (.int (own_b (own_fl p6 (1 : Int32)))), .val (.long (own_sel (own_fl p6 (2 : Int32)) q1 q2)), .second, .unset, .unset, .unset, .unset, .unset, .unset, .unset, .unset, .unset, .unset, .unset, .unset]) rfl ?_
    show Steps p.tables e below (s₁.setTop (mkF m 28 #[.val (.long q1), .second, .val (.long q2), .second, .val (.long q3), .second, .val (.long q4), .second, .val (.long q5), .second, .val (.int p6), .val (.int (own_b (own_fl p6 (1 : Int32)))), .val (.long (own_sel (own_fl p6 (2 : Int32)) q1 q2)), .second, .unset, .unset, .unset, .unset, .unset, .unset, .unset, .unset, .unset, .unset, .unset, .unset] [])) _
    refine sg5 _ ?_
    show Steps p.tables e below (s₁.setTop (mkF m 41 #[.val (.long q1), .second, .val (.long q2), .second, .val (.long q3), .second, .val (.long q4), .second, .val (.long q5), .second, .val (.int p6), .val (.int (own_b (own_fl p6 (1 : Int32)))), .val (.long (own_sel (own_fl p6 (2 : Int32)) q1 q2)), .second, .unset, .unset, .unset, .unset, .unset, .unset, .unset, .unset, .unset, .unset, .unset, .unset] [(.long (own_sel (own_fl p6 (4 : Int32)) (0 : Int64) q3))])) _
    refine XS.lstore X0.here hx rfl (hb hby at_41) rfl (l' := #[.val (.long q1), .second, .val (.long q2), .second, .val (.long q3), .second, .val (.long q4), .second, .val (.long q5), .second, .val (.int p6), .val (.int (own_b (own_fl p6 (1 : Int32)))), .val (.long (own_sel (own_fl p6 (2 : Int32)) q1 q2)), .second, .val (.long (own_sel (own_fl p6 (4 : Int32)) (0 : Int64) q3)), .second, .unset, .unset, .unset, .unset, .unset, .unset, .unset, .unset, .unset, .unset]) rfl ?_
    show Steps p.tables e below (s₁.setTop (mkF m 43 #[.val (.long q1), .second, .val (.long q2), .second, .val (.long q3), .second, .val (.long q4), .second, .val (.long q5), .second, .val (.int p6), .val (.int (own_b (own_fl p6 (1 : Int32)))), .val (.long (own_sel (own_fl p6 (2 : Int32)) q1 q2)), .second, .val (.long (own_sel (own_fl p6 (4 : Int32)) (0 : Int64) q3)), .second, .unset, .unset, .unset, .unset, .unset, .unset, .unset, .unset, .unset, .unset] [])) _
    refine XS.lload X0.here hx rfl (hb hby at_43) rfl ?_
    show Steps p.tables e below (s₁.setTop (mkF m 45 #[.val (.long q1), .second, .val (.long q2), .second, .val (.long q3), .second, .val (.long q4), .second, .val (.long q5), .second, .val (.int p6), .val (.int (own_b (own_fl p6 (1 : Int32)))), .val (.long (own_sel (own_fl p6 (2 : Int32)) q1 q2)), .second, .val (.long (own_sel (own_fl p6 (4 : Int32)) (0 : Int64) q3)), .second, .unset, .unset, .unset, .unset, .unset, .unset, .unset, .unset, .unset, .unset] [(.long q4)])) _
    refine XS.lstore X0.here hx rfl (hb hby at_45) rfl (l' := #[.val (.long q1), .second, .val (.long q2), .second, .val (.long q3), .second, .val (.long q4), .second, .val (.long q5), .second, .val (.int p6), .val (.int (own_b (own_fl p6 (1 : Int32)))), .val (.long (own_sel (own_fl p6 (2 : Int32)) q1 q2)), .second, .val (.long (own_sel (own_fl p6 (4 : Int32)) (0 : Int64) q3)), .second, .val (.long q4), .second, .unset, .unset, .unset, .unset, .unset, .unset, .unset, .unset]) rfl ?_
    show Steps p.tables e below (s₁.setTop (mkF m 47 #[.val (.long q1), .second, .val (.long q2), .second, .val (.long q3), .second, .val (.long q4), .second, .val (.long q5), .second, .val (.int p6), .val (.int (own_b (own_fl p6 (1 : Int32)))), .val (.long (own_sel (own_fl p6 (2 : Int32)) q1 q2)), .second, .val (.long (own_sel (own_fl p6 (4 : Int32)) (0 : Int64) q3)), .second, .val (.long q4), .second, .unset, .unset, .unset, .unset, .unset, .unset, .unset, .unset] [])) _
    refine XS.lload X0.here hx rfl (hb hby at_47) rfl ?_
    show Steps p.tables e below (s₁.setTop (mkF m 49 #[.val (.long q1), .second, .val (.long q2), .second, .val (.long q3), .second, .val (.long q4), .second, .val (.long q5), .second, .val (.int p6), .val (.int (own_b (own_fl p6 (1 : Int32)))), .val (.long (own_sel (own_fl p6 (2 : Int32)) q1 q2)), .second, .val (.long (own_sel (own_fl p6 (4 : Int32)) (0 : Int64) q3)), .second, .val (.long q4), .second, .unset, .unset, .unset, .unset, .unset, .unset, .unset, .unset] [(.long q5)])) _
    refine XS.lstore X0.here hx rfl (hb hby at_49) rfl (l' := #[.val (.long q1), .second, .val (.long q2), .second, .val (.long q3), .second, .val (.long q4), .second, .val (.long q5), .second, .val (.int p6), .val (.int (own_b (own_fl p6 (1 : Int32)))), .val (.long (own_sel (own_fl p6 (2 : Int32)) q1 q2)), .second, .val (.long (own_sel (own_fl p6 (4 : Int32)) (0 : Int64) q3)), .second, .val (.long q4), .second, .val (.long q5), .second, .unset, .unset, .unset, .unset, .unset, .unset]) rfl ?_
    show Steps p.tables e below (s₁.setTop (mkF m 51 #[.val (.long q1), .second, .val (.long q2), .second, .val (.long q3), .second, .val (.long q4), .second, .val (.long q5), .second, .val (.int p6), .val (.int (own_b (own_fl p6 (1 : Int32)))), .val (.long (own_sel (own_fl p6 (2 : Int32)) q1 q2)), .second, .val (.long (own_sel (own_fl p6 (4 : Int32)) (0 : Int64) q3)), .second, .val (.long q4), .second, .val (.long q5), .second, .unset, .unset, .unset, .unset, .unset, .unset] [])) _
    refine XS.lload X0.here hx rfl (hb hby at_51) rfl ?_
    show Steps p.tables e below (s₁.setTop (mkF m 53 #[.val (.long q1), .second, .val (.long q2), .second, .val (.long q3), .second, .val (.long q4), .second, .val (.long q5), .second, .val (.int p6), .val (.int (own_b (own_fl p6 (1 : Int32)))), .val (.long (own_sel (own_fl p6 (2 : Int32)) q1 q2)), .second, .val (.long (own_sel (own_fl p6 (4 : Int32)) (0 : Int64) q3)), .second, .val (.long q4), .second, .val (.long q5), .second, .unset, .unset, .unset, .unset, .unset, .unset] [(.long q4)])) _
    refine XS.lload X0.here hx rfl (hb hby at_53) rfl ?_
    show Steps p.tables e below (s₁.setTop (mkF m 55 #[.val (.long q1), .second, .val (.long q2), .second, .val (.long q3), .second, .val (.long q4), .second, .val (.long q5), .second, .val (.int p6), .val (.int (own_b (own_fl p6 (1 : Int32)))), .val (.long (own_sel (own_fl p6 (2 : Int32)) q1 q2)), .second, .val (.long (own_sel (own_fl p6 (4 : Int32)) (0 : Int64) q3)), .second, .val (.long q4), .second, .val (.long q5), .second, .unset, .unset, .unset, .unset, .unset, .unset] [(.long q5), (.long q4)])) _
    refine XS.lxor X0.here hx rfl (hb hby at_55) rfl ?_
    show Steps p.tables e below (s₁.setTop (mkF m 56 #[.val (.long q1), .second, .val (.long q2), .second, .val (.long q3), .second, .val (.long q4), .second, .val (.long q5), .second, .val (.int p6), .val (.int (own_b (own_fl p6 (1 : Int32)))), .val (.long (own_sel (own_fl p6 (2 : Int32)) q1 q2)), .second, .val (.long (own_sel (own_fl p6 (4 : Int32)) (0 : Int64) q3)), .second, .val (.long q4), .second, .val (.long q5), .second, .unset, .unset, .unset, .unset, .unset, .unset] [(.long (q4 ^^^ q5))])) _
    refine XS.lstore X0.here hx rfl (hb hby at_56) rfl (l' := #[.val (.long q1), .second, .val (.long q2), .second, .val (.long q3), .second, .val (.long q4), .second, .val (.long q5), .second, .val (.int p6), .val (.int (own_b (own_fl p6 (1 : Int32)))), .val (.long (own_sel (own_fl p6 (2 : Int32)) q1 q2)), .second, .val (.long (own_sel (own_fl p6 (4 : Int32)) (0 : Int64) q3)), .second, .val (.long q4), .second, .val (.long q5), .second, .val (.long (q4 ^^^ q5)), .second, .unset, .unset, .unset, .unset]) rfl ?_
    show Steps p.tables e below (s₁.setTop (mkF m 58 #[.val (.long q1), .second, .val (.long q2), .second, .val (.long q3), .second, .val (.long q4), .second, .val (.long q5), .second, .val (.int p6), .val (.int (own_b (own_fl p6 (1 : Int32)))), .val (.long (own_sel (own_fl p6 (2 : Int32)) q1 q2)), .second, .val (.long (own_sel (own_fl p6 (4 : Int32)) (0 : Int64) q3)), .second, .val (.long q4), .second, .val (.long q5), .second, .val (.long (q4 ^^^ q5)), .second, .unset, .unset, .unset, .unset] [])) _
    refine sg7 _ ?_
    show Steps p.tables e below (s₁.setTop (mkF m 80 #[.val (.long q1), .second, .val (.long q2), .second, .val (.long q3), .second, .val (.long q4), .second, .val (.long q5), .second, .val (.int p6), .val (.int (own_b (own_fl p6 (1 : Int32)))), .val (.long (own_sel (own_fl p6 (2 : Int32)) q1 q2)), .second, .val (.long (own_sel (own_fl p6 (4 : Int32)) (0 : Int64) q3)), .second, .val (.long q4), .second, .val (.long q5), .second, .val (.long (q4 ^^^ q5)), .second, .unset, .unset, .unset, .unset] [(.long (own_sel (own_fl p6 (8 : Int32)) (q5 ^^^ (-1 : Int64)) (q4 + q5)))])) _
    refine XS.lstore X0.here hx rfl (hb hby at_80) rfl (l' := #[.val (.long q1), .second, .val (.long q2), .second, .val (.long q3), .second, .val (.long q4), .second, .val (.long q5), .second, .val (.int p6), .val (.int (own_b (own_fl p6 (1 : Int32)))), .val (.long (own_sel (own_fl p6 (2 : Int32)) q1 q2)), .second, .val (.long (own_sel (own_fl p6 (4 : Int32)) (0 : Int64) q3)), .second, .val (.long q4), .second, .val (.long q5), .second, .val (.long (q4 ^^^ q5)), .second, .val (.long (own_sel (own_fl p6 (8 : Int32)) (q5 ^^^ (-1 : Int64)) (q4 + q5))), .second, .unset, .unset]) rfl ?_
    show Steps p.tables e below (s₁.setTop (mkF m 82 #[.val (.long q1), .second, .val (.long q2), .second, .val (.long q3), .second, .val (.long q4), .second, .val (.long q5), .second, .val (.int p6), .val (.int (own_b (own_fl p6 (1 : Int32)))), .val (.long (own_sel (own_fl p6 (2 : Int32)) q1 q2)), .second, .val (.long (own_sel (own_fl p6 (4 : Int32)) (0 : Int64) q3)), .second, .val (.long q4), .second, .val (.long q5), .second, .val (.long (q4 ^^^ q5)), .second, .val (.long (own_sel (own_fl p6 (8 : Int32)) (q5 ^^^ (-1 : Int64)) (q4 + q5))), .second, .unset, .unset] [])) _
    exact kt)
  obtain ⟨T9, h9, X9, e9, E9, A9, D9, -, st9⟩ := newO X0 hx hZ hown (hw _ (List.mem_of_getElem? (i := 0) rfl)) (hw _ (List.mem_of_getElem? (i := 1) rfl)) (hw _ (List.mem_of_getElem? (i := 2) rfl)) e0 (g := (mkF m 82 #[.val (.long q1), .second, .val (.long q2), .second, .val (.long q3), .second, .val (.long q4), .second, .val (.long q5), .second, .val (.int p6), .val (.int (own_b (own_fl p6 (1 : Int32)))), .val (.long (own_sel (own_fl p6 (2 : Int32)) q1 q2)), .second, .val (.long (own_sel (own_fl p6 (4 : Int32)) (0 : Int64) q3)), .second, .val (.long q4), .second, .val (.long q5), .second, .val (.long (q4 ^^^ q5)), .second, .val (.long (own_sel (own_fl p6 (8 : Int32)) (q5 ^^^ (-1 : Int64)) (q4 + q5))), .second, .unset, .unset] [])) rfl (hb hby at_82) (by decide) (by decide)
  obtain ⟨b9, g9⟩ : ∃ z, z = h0.size := ⟨_, rfl⟩
  rw [← g9] at A9 D9 st9
  have g_b9 : n0 ≤ b9 := Nat.le_trans Z0 (Nat.le_of_eq g9.symm)
  have Z9 : n0 ≤ h9.size := Nat.le_trans Z0 E9.1
  have F9_counter : Fld Z h9 b9 "com/example/tandemlock/tandemlock/harness/ContendedRun$Result" "counter" "J" (.long (0 : Int64)) := D9 (Or.inr (hw _ (List.mem_of_getElem? (i := 15) rfl))) (ty := .long) (by decide)
  have F9_expected : Fld Z h9 b9 "com/example/tandemlock/tandemlock/harness/ContendedRun$Result" "expected" "J" (.long (0 : Int64)) := D9 (Or.inr (hw _ (List.mem_of_getElem? (i := 17) rfl))) (ty := .long) (by decide)
  have F9_entries : Fld Z h9 b9 "com/example/tandemlock/tandemlock/harness/ContendedRun$Result" "entries" "J" (.long (0 : Int64)) := D9 (Or.inr (hw _ (List.mem_of_getElem? (i := 19) rfl))) (ty := .long) (by decide)
  have F9_overlaps : Fld Z h9 b9 "com/example/tandemlock/tandemlock/harness/ContendedRun$Result" "overlaps" "J" (.long (0 : Int64)) := D9 (Or.inr (hw _ (List.mem_of_getElem? (i := 21) rfl))) (ty := .long) (by decide)
  have F9_largestOvertaking : Fld Z h9 b9 "com/example/tandemlock/tandemlock/harness/ContendedRun$Result" "largestOvertaking" "J" (.long (0 : Int64)) := D9 (Or.inr (hw _ (List.mem_of_getElem? (i := 23) rfl))) (ty := .long) (by decide)
  have F9_lateEntries : Fld Z h9 b9 "com/example/tandemlock/tandemlock/harness/ContendedRun$Result" "lateEntries" "J" (.long (0 : Int64)) := D9 (Or.inr (hw _ (List.mem_of_getElem? (i := 25) rfl))) (ty := .long) (by decide)
  have F9_elapsedNanos : Fld Z h9 b9 "com/example/tandemlock/tandemlock/harness/ContendedRun$Result" "elapsedNanos" "J" (.long (0 : Int64)) := D9 (Or.inr (hw _ (List.mem_of_getElem? (i := 27) rfl))) (ty := .long) (by decide)
  have F9_stalled : Fld Z h9 b9 "com/example/tandemlock/tandemlock/harness/ContendedRun$Result" "stalled" "Z" (.int (0 : Int32)) := D9 (Or.inr (hw _ (List.mem_of_getElem? (i := 29) rfl))) (ty := .boolean) (by decide)
  have pr12 : ∀ t, Steps p.tables e below (T9.setTop (mkF m 101 #[.val (.long q1), .second, .val (.long q2), .second, .val (.long q3), .second, .val (.long q4), .second, .val (.long q5), .second, .val (.int p6), .val (.int (own_b (own_fl p6 (1 : Int32)))), .val (.long (own_sel (own_fl p6 (2 : Int32)) q1 q2)), .second, .val (.long (own_sel (own_fl p6 (4 : Int32)) (0 : Int64) q3)), .second, .val (.long q4), .second, .val (.long q5), .second, .val (.long (q4 ^^^ q5)), .second, .val (.long (own_sel (own_fl p6 (8 : Int32)) (q5 ^^^ (-1 : Int64)) (q4 + q5))), .second, .unset, .unset] [(.int (own_b (own_fl p6 (1 : Int32)))), (.long (own_sel (own_fl p6 (8 : Int32)) (q5 ^^^ (-1 : Int64)) (q4 + q5))), (.long (q4 ^^^ q5)), (.long q5), (.long (own_sel (own_fl p6 (4 : Int32)) (0 : Int64) q3)), (.long q4), (.long (own_sel (own_fl p6 (2 : Int32)) q1 q2)), (.long q1), (.ref b9), (.ref b9)])) t → Steps p.tables e below (s₁.setTop (entryFrame m #[(.long q1), (.long q2), (.long q3), (.long q4), (.long q5), (.int p6)] maxLocals)) t := fun t kt => pr10 t (by
    refine st9 _ ?_
    show Steps p.tables e below (T9.setTop (mkF m 85 #[.val (.long q1), .second, .val (.long q2), .second, .val (.long q3), .second, .val (.long q4), .second, .val (.long q5), .second, .val (.int p6), .val (.int (own_b (own_fl p6 (1 : Int32)))), .val (.long (own_sel (own_fl p6 (2 : Int32)) q1 q2)), .second, .val (.long (own_sel (own_fl p6 (4 : Int32)) (0 : Int64) q3)), .second, .val (.long q4), .second, .val (.long q5), .second, .val (.long (q4 ^^^ q5)), .second, .val (.long (own_sel (own_fl p6 (8 : Int32)) (q5 ^^^ (-1 : Int64)) (q4 + q5))), .second, .unset, .unset] [(.ref b9)])) _
    refine XS.dup X9.here hx rfl (hb hby at_85) rfl rfl ?_
    show Steps p.tables e below (T9.setTop (mkF m 86 #[.val (.long q1), .second, .val (.long q2), .second, .val (.long q3), .second, .val (.long q4), .second, .val (.long q5), .second, .val (.int p6), .val (.int (own_b (own_fl p6 (1 : Int32)))), .val (.long (own_sel (own_fl p6 (2 : Int32)) q1 q2)), .second, .val (.long (own_sel (own_fl p6 (4 : Int32)) (0 : Int64) q3)), .second, .val (.long q4), .second, .val (.long q5), .second, .val (.long (q4 ^^^ q5)), .second, .val (.long (own_sel (own_fl p6 (8 : Int32)) (q5 ^^^ (-1 : Int64)) (q4 + q5))), .second, .unset, .unset] [(.ref b9), (.ref b9)])) _
    refine XS.lloadN X9.here hx rfl (hb hby at_86) rfl ?_
    show Steps p.tables e below (T9.setTop (mkF m 87 #[.val (.long q1), .second, .val (.long q2), .second, .val (.long q3), .second, .val (.long q4), .second, .val (.long q5), .second, .val (.int p6), .val (.int (own_b (own_fl p6 (1 : Int32)))), .val (.long (own_sel (own_fl p6 (2 : Int32)) q1 q2)), .second, .val (.long (own_sel (own_fl p6 (4 : Int32)) (0 : Int64) q3)), .second, .val (.long q4), .second, .val (.long q5), .second, .val (.long (q4 ^^^ q5)), .second, .val (.long (own_sel (own_fl p6 (8 : Int32)) (q5 ^^^ (-1 : Int64)) (q4 + q5))), .second, .unset, .unset] [(.long q1), (.ref b9), (.ref b9)])) _
    refine XS.lload X9.here hx rfl (hb hby at_87) rfl ?_
    show Steps p.tables e below (T9.setTop (mkF m 89 #[.val (.long q1), .second, .val (.long q2), .second, .val (.long q3), .second, .val (.long q4), .second, .val (.long q5), .second, .val (.int p6), .val (.int (own_b (own_fl p6 (1 : Int32)))), .val (.long (own_sel (own_fl p6 (2 : Int32)) q1 q2)), .second, .val (.long (own_sel (own_fl p6 (4 : Int32)) (0 : Int64) q3)), .second, .val (.long q4), .second, .val (.long q5), .second, .val (.long (q4 ^^^ q5)), .second, .val (.long (own_sel (own_fl p6 (8 : Int32)) (q5 ^^^ (-1 : Int64)) (q4 + q5))), .second, .unset, .unset] [(.long (own_sel (own_fl p6 (2 : Int32)) q1 q2)), (.long q1), (.ref b9), (.ref b9)])) _
    refine XS.lload X9.here hx rfl (hb hby at_89) rfl ?_
    show Steps p.tables e below (T9.setTop (mkF m 91 #[.val (.long q1), .second, .val (.long q2), .second, .val (.long q3), .second, .val (.long q4), .second, .val (.long q5), .second, .val (.int p6), .val (.int (own_b (own_fl p6 (1 : Int32)))), .val (.long (own_sel (own_fl p6 (2 : Int32)) q1 q2)), .second, .val (.long (own_sel (own_fl p6 (4 : Int32)) (0 : Int64) q3)), .second, .val (.long q4), .second, .val (.long q5), .second, .val (.long (q4 ^^^ q5)), .second, .val (.long (own_sel (own_fl p6 (8 : Int32)) (q5 ^^^ (-1 : Int64)) (q4 + q5))), .second, .unset, .unset] [(.long q4), (.long (own_sel (own_fl p6 (2 : Int32)) q1 q2)), (.long q1), (.ref b9), (.ref b9)])) _
    refine XS.lload X9.here hx rfl (hb hby at_91) rfl ?_
    show Steps p.tables e below (T9.setTop (mkF m 93 #[.val (.long q1), .second, .val (.long q2), .second, .val (.long q3), .second, .val (.long q4), .second, .val (.long q5), .second, .val (.int p6), .val (.int (own_b (own_fl p6 (1 : Int32)))), .val (.long (own_sel (own_fl p6 (2 : Int32)) q1 q2)), .second, .val (.long (own_sel (own_fl p6 (4 : Int32)) (0 : Int64) q3)), .second, .val (.long q4), .second, .val (.long q5), .second, .val (.long (q4 ^^^ q5)), .second, .val (.long (own_sel (own_fl p6 (8 : Int32)) (q5 ^^^ (-1 : Int64)) (q4 + q5))), .second, .unset, .unset] [(.long (own_sel (own_fl p6 (4 : Int32)) (0 : Int64) q3)), (.long q4), (.long (own_sel (own_fl p6 (2 : Int32)) q1 q2)), (.long q1), (.ref b9), (.ref b9)])) _
    refine XS.lload X9.here hx rfl (hb hby at_93) rfl ?_
    show Steps p.tables e below (T9.setTop (mkF m 95 #[.val (.long q1), .second, .val (.long q2), .second, .val (.long q3), .second, .val (.long q4), .second, .val (.long q5), .second, .val (.int p6), .val (.int (own_b (own_fl p6 (1 : Int32)))), .val (.long (own_sel (own_fl p6 (2 : Int32)) q1 q2)), .second, .val (.long (own_sel (own_fl p6 (4 : Int32)) (0 : Int64) q3)), .second, .val (.long q4), .second, .val (.long q5), .second, .val (.long (q4 ^^^ q5)), .second, .val (.long (own_sel (own_fl p6 (8 : Int32)) (q5 ^^^ (-1 : Int64)) (q4 + q5))), .second, .unset, .unset] [(.long q5), (.long (own_sel (own_fl p6 (4 : Int32)) (0 : Int64) q3)), (.long q4), (.long (own_sel (own_fl p6 (2 : Int32)) q1 q2)), (.long q1), (.ref b9), (.ref b9)])) _
    refine XS.lload X9.here hx rfl (hb hby at_95) rfl ?_
    show Steps p.tables e below (T9.setTop (mkF m 97 #[.val (.long q1), .second, .val (.long q2), .second, .val (.long q3), .second, .val (.long q4), .second, .val (.long q5), .second, .val (.int p6), .val (.int (own_b (own_fl p6 (1 : Int32)))), .val (.long (own_sel (own_fl p6 (2 : Int32)) q1 q2)), .second, .val (.long (own_sel (own_fl p6 (4 : Int32)) (0 : Int64) q3)), .second, .val (.long q4), .second, .val (.long q5), .second, .val (.long (q4 ^^^ q5)), .second, .val (.long (own_sel (own_fl p6 (8 : Int32)) (q5 ^^^ (-1 : Int64)) (q4 + q5))), .second, .unset, .unset] [(.long (q4 ^^^ q5)), (.long q5), (.long (own_sel (own_fl p6 (4 : Int32)) (0 : Int64) q3)), (.long q4), (.long (own_sel (own_fl p6 (2 : Int32)) q1 q2)), (.long q1), (.ref b9), (.ref b9)])) _
    refine XS.lload X9.here hx rfl (hb hby at_97) rfl ?_
    show Steps p.tables e below (T9.setTop (mkF m 99 #[.val (.long q1), .second, .val (.long q2), .second, .val (.long q3), .second, .val (.long q4), .second, .val (.long q5), .second, .val (.int p6), .val (.int (own_b (own_fl p6 (1 : Int32)))), .val (.long (own_sel (own_fl p6 (2 : Int32)) q1 q2)), .second, .val (.long (own_sel (own_fl p6 (4 : Int32)) (0 : Int64) q3)), .second, .val (.long q4), .second, .val (.long q5), .second, .val (.long (q4 ^^^ q5)), .second, .val (.long (own_sel (own_fl p6 (8 : Int32)) (q5 ^^^ (-1 : Int64)) (q4 + q5))), .second, .unset, .unset] [(.long (own_sel (own_fl p6 (8 : Int32)) (q5 ^^^ (-1 : Int64)) (q4 + q5))), (.long (q4 ^^^ q5)), (.long q5), (.long (own_sel (own_fl p6 (4 : Int32)) (0 : Int64) q3)), (.long q4), (.long (own_sel (own_fl p6 (2 : Int32)) q1 q2)), (.long q1), (.ref b9), (.ref b9)])) _
    refine XS.iload X9.here hx rfl (hb hby at_99) rfl ?_
    show Steps p.tables e below (T9.setTop (mkF m 101 #[.val (.long q1), .second, .val (.long q2), .second, .val (.long q3), .second, .val (.long q4), .second, .val (.long q5), .second, .val (.int p6), .val (.int (own_b (own_fl p6 (1 : Int32)))), .val (.long (own_sel (own_fl p6 (2 : Int32)) q1 q2)), .second, .val (.long (own_sel (own_fl p6 (4 : Int32)) (0 : Int64) q3)), .second, .val (.long q4), .second, .val (.long q5), .second, .val (.long (q4 ^^^ q5)), .second, .val (.long (own_sel (own_fl p6 (8 : Int32)) (q5 ^^^ (-1 : Int64)) (q4 + q5))), .second, .unset, .unset] [(.int (own_b (own_fl p6 (1 : Int32)))), (.long (own_sel (own_fl p6 (8 : Int32)) (q5 ^^^ (-1 : Int64)) (q4 + q5))), (.long (q4 ^^^ q5)), (.long q5), (.long (own_sel (own_fl p6 (4 : Int32)) (0 : Int64) q3)), (.long q4), (.long (own_sel (own_fl p6 (2 : Int32)) q1 q2)), (.long q1), (.ref b9), (.ref b9)])) _
    exact kt)
  obtain ⟨_, _, ⟨T11, L11, k11, n11⟩, -, X11, ⟨Lc11, hQ11, l11, y11, z11⟩, st11⟩ := X9.specialBack hx (y := (⟨"com/example/tandemlock/tandemlock/harness/ContendedRun$Result", "<init>", "(JJJJJJJZ)V"⟩ : MethodName)) rfl hown (mvT hZ (hw _ (List.mem_of_getElem? (i := 3) rfl))) (mvT hZ (hw _ (List.mem_of_getElem? (i := 4) rfl))) (mvT hZ (hw _ (List.mem_of_getElem? (i := 5) rfl))) (by decide) (backOf (W := 1) (rm_ini l Z a0 hw [] b9 q1 (own_sel (own_fl p6 (2 : Int32)) q1 q2) q4 (own_sel (own_fl p6 (4 : Int32)) (0 : Int64) q3) q5 (q4 ^^^ q5) (own_sel (own_fl p6 (8 : Int32)) (q5 ^^^ (-1 : Int64)) (q4 + q5)) (own_b (own_fl p6 (1 : Int32))) (.long (0 : Int64)) (.long (0 : Int64)) (.long (0 : Int64)) (.long (0 : Int64)) (.long (0 : Int64)) (.long (0 : Int64)) (.long (0 : Int64)) (.int (0 : Int32)) h9 n0 Z9 A9 F9_counter g_b9 F9_expected F9_entries F9_overlaps F9_largestOvertaking F9_lateEntries F9_elapsedNanos F9_stalled) hZ (hw _ (List.mem_of_getElem? (i := 5) rfl)) (hw _ (List.mem_of_getElem? (i := 2) rfl)) (by decide) (by decide)) (g := (mkF m 101 #[.val (.long q1), .second, .val (.long q2), .second, .val (.long q3), .second, .val (.long q4), .second, .val (.long q5), .second, .val (.int p6), .val (.int (own_b (own_fl p6 (1 : Int32)))), .val (.long (own_sel (own_fl p6 (2 : Int32)) q1 q2)), .second, .val (.long (own_sel (own_fl p6 (4 : Int32)) (0 : Int64) q3)), .second, .val (.long q4), .second, .val (.long q5), .second, .val (.long (q4 ^^^ q5)), .second, .val (.long (own_sel (own_fl p6 (8 : Int32)) (q5 ^^^ (-1 : Int64)) (q4 + q5))), .second, .unset, .unset] [(.int (own_b (own_fl p6 (1 : Int32)))), (.long (own_sel (own_fl p6 (8 : Int32)) (q5 ^^^ (-1 : Int64)) (q4 + q5))), (.long (q4 ^^^ q5)), (.long q5), (.long (own_sel (own_fl p6 (4 : Int32)) (0 : Int64) q3)), (.long q4), (.long (own_sel (own_fl p6 (2 : Int32)) q1 q2)), (.long q1), (.ref b9), (.ref b9)])) rfl (by rw [hml]; rfl) (Steps.refl _) (a := b9) (argsL := [(.long q1), (.long (own_sel (own_fl p6 (2 : Int32)) q1 q2)), (.long q4), (.long (own_sel (own_fl p6 (4 : Int32)) (0 : Int64) q3)), (.long q5), (.long (q4 ^^^ q5)), (.long (own_sel (own_fl p6 (8 : Int32)) (q5 ^^^ (-1 : Int64)) (q4 + q5))), (.int (own_b (own_fl p6 (1 : Int32))))]) (rest := [(.ref b9)]) (lenOf pd_law_0 rfl) rfl (by show 2 * 0 + _ ≤ _; exact Nat.le_of_eq rfl) (hb hby at_101) (fun _ _ => ⟨rfl, e9, (by decide : 1 + 0 ≤ _), (by decide : 8 + 0 ≤ _)⟩)
  dsimp only [Pt.U, Pt.locs, Pt.cells, Pt.slots] at X11 l11 y11 z11 st11 hQ11
  subst l11 y11 z11
  obtain ⟨rfl, N11q, K11, Ex11, Fc11, Fe11, Fo11, Fs11⟩ := hQ11
  rw [own_nb] at Fs11
  have N11 := Fr.app N0 N11q
  have sg13 : ∀ t, Steps p.tables e below (T11.setTop (mkF m 146 #[.val (.long q1), .second, .val (.long q2), .second, .val (.long q3), .second, .val (.long q4), .second, .val (.long q5), .second, .val (.int p6), .val (.int (own_b (own_fl p6 (1 : Int32)))), .val (.long (own_sel (own_fl p6 (2 : Int32)) q1 q2)), .second, .val (.long (own_sel (own_fl p6 (4 : Int32)) (0 : Int64) q3)), .second, .val (.long q4), .second, .val (.long q5), .second, .val (.long (q4 ^^^ q5)), .second, .val (.long (own_sel (own_fl p6 (8 : Int32)) (q5 ^^^ (-1 : Int64)) (q4 + q5))), .second, .val (.ref b9), .val (.int (own_b (own_exc (own_fl p6 (1 : Int32)) (own_sel (own_fl p6 (4 : Int32)) (0 : Int64) q3) q1 (own_sel (own_fl p6 (2 : Int32)) q1 q2))))] [])) t → Steps p.tables e below (T11.setTop (mkF m 106 #[.val (.long q1), .second, .val (.long q2), .second, .val (.long q3), .second, .val (.long q4), .second, .val (.long q5), .second, .val (.int p6), .val (.int (own_b (own_fl p6 (1 : Int32)))), .val (.long (own_sel (own_fl p6 (2 : Int32)) q1 q2)), .second, .val (.long (own_sel (own_fl p6 (4 : Int32)) (0 : Int64) q3)), .second, .val (.long q4), .second, .val (.long q5), .second, .val (.long (q4 ^^^ q5)), .second, .val (.long (own_sel (own_fl p6 (8 : Int32)) (q5 ^^^ (-1 : Int64)) (q4 + q5))), .second, .val (.ref b9), .unset] [])) t := by
    intro t kt
    show Steps p.tables e below (T11.setTop (mkF m 106 #[.val (.long q1), .second, .val (.long q2), .second, .val (.long q3), .second, .val (.long q4), .second, .val (.long q5), .second, .val (.int p6), .val (.int (own_b (own_fl p6 (1 : Int32)))), .val (.long (own_sel (own_fl p6 (2 : Int32)) q1 q2)), .second, .val (.long (own_sel (own_fl p6 (4 : Int32)) (0 : Int64) q3)), .second, .val (.long q4), .second, .val (.long q5), .second, .val (.long (q4 ^^^ q5)), .second, .val (.long (own_sel (own_fl p6 (8 : Int32)) (q5 ^^^ (-1 : Int64)) (q4 + q5))), .second, .val (.ref b9), .unset] [])) _
    refine XS.iload X11.here hx rfl (hb hby at_106) rfl ?_
    by_cases hc108_14 : (own_fl p6 (1 : Int32)) = true
    · show Steps p.tables e below (T11.setTop (mkF m 108 #[.val (.long q1), .second, .val (.long q2), .second, .val (.long q3), .second, .val (.long q4), .second, .val (.long q5), .second, .val (.int p6), .val (.int (own_b (own_fl p6 (1 : Int32)))), .val (.long (own_sel (own_fl p6 (2 : Int32)) q1 q2)), .second, .val (.long (own_sel (own_fl p6 (4 : Int32)) (0 : Int64) q3)), .second, .val (.long q4), .second, .val (.long q5), .second, .val (.long (q4 ^^^ q5)), .second, .val (.long (own_sel (own_fl p6 (8 : Int32)) (q5 ^^^ (-1 : Int64)) (q4 + q5))), .second, .val (.ref b9), .unset] [(.int (own_b (own_fl p6 (1 : Int32))))])) _
      refine XS.ifNo X11.here hx rfl (hb hby at_108) rfl ((if0 _ _).trans (feq (own_b1 hc108_14)).1) ?_
      show Steps p.tables e below (T11.setTop (mkF m 111 #[.val (.long q1), .second, .val (.long q2), .second, .val (.long q3), .second, .val (.long q4), .second, .val (.long q5), .second, .val (.int p6), .val (.int (own_b (own_fl p6 (1 : Int32)))), .val (.long (own_sel (own_fl p6 (2 : Int32)) q1 q2)), .second, .val (.long (own_sel (own_fl p6 (4 : Int32)) (0 : Int64) q3)), .second, .val (.long q4), .second, .val (.long q5), .second, .val (.long (q4 ^^^ q5)), .second, .val (.long (own_sel (own_fl p6 (8 : Int32)) (q5 ^^^ (-1 : Int64)) (q4 + q5))), .second, .val (.ref b9), .unset] [])) _
      refine XS.iconst X11.here hx rfl (hb hby at_111) ?_
      show Steps p.tables e below (T11.setTop (mkF m 112 #[.val (.long q1), .second, .val (.long q2), .second, .val (.long q3), .second, .val (.long q4), .second, .val (.long q5), .second, .val (.int p6), .val (.int (own_b (own_fl p6 (1 : Int32)))), .val (.long (own_sel (own_fl p6 (2 : Int32)) q1 q2)), .second, .val (.long (own_sel (own_fl p6 (4 : Int32)) (0 : Int64) q3)), .second, .val (.long q4), .second, .val (.long q5), .second, .val (.long (q4 ^^^ q5)), .second, .val (.long (own_sel (own_fl p6 (8 : Int32)) (q5 ^^^ (-1 : Int64)) (q4 + q5))), .second, .val (.ref b9), .unset] [(.int (0 : Int32))])) _
      refine XS.istore X11.here hx rfl (hb hby at_112) rfl (l' := #[.val (.long q1), .second, .val (.long q2), .second, .val (.long q3), .second, .val (.long q4), .second, .val (.long q5), .second, .val (.int p6), .val (.int (own_b (own_fl p6 (1 : Int32)))), .val (.long (own_sel (own_fl p6 (2 : Int32)) q1 q2)), .second, .val (.long (own_sel (own_fl p6 (4 : Int32)) (0 : Int64) q3)), .second, .val (.long q4), .second, .val (.long q5), .second, .val (.long (q4 ^^^ q5)), .second, .val (.long (own_sel (own_fl p6 (8 : Int32)) (q5 ^^^ (-1 : Int64)) (q4 + q5))), .second, .val (.ref b9), .val (.int (0 : Int32))]) rfl ?_
      show Steps p.tables e below (T11.setTop (mkF m 114 #[.val (.long q1), .second, .val (.long q2), .second, .val (.long q3), .second, .val (.long q4), .second, .val (.long q5), .second, .val (.int p6), .val (.int (own_b (own_fl p6 (1 : Int32)))), .val (.long (own_sel (own_fl p6 (2 : Int32)) q1 q2)), .second, .val (.long (own_sel (own_fl p6 (4 : Int32)) (0 : Int64) q3)), .second, .val (.long q4), .second, .val (.long q5), .second, .val (.long (q4 ^^^ q5)), .second, .val (.long (own_sel (own_fl p6 (8 : Int32)) (q5 ^^^ (-1 : Int64)) (q4 + q5))), .second, .val (.ref b9), .val (.int (0 : Int32))] [])) _
      refine XS.goto X11.here hx rfl (pc0 := 114) (pc' := 146) rfl (hb hby at_114) (by decide) (by decide) ?_
      show Steps p.tables e below (T11.setTop (mkF m 146 #[.val (.long q1), .second, .val (.long q2), .second, .val (.long q3), .second, .val (.long q4), .second, .val (.long q5), .second, .val (.int p6), .val (.int (own_b (own_fl p6 (1 : Int32)))), .val (.long (own_sel (own_fl p6 (2 : Int32)) q1 q2)), .second, .val (.long (own_sel (own_fl p6 (4 : Int32)) (0 : Int64) q3)), .second, .val (.long q4), .second, .val (.long q5), .second, .val (.long (q4 ^^^ q5)), .second, .val (.long (own_sel (own_fl p6 (8 : Int32)) (q5 ^^^ (-1 : Int64)) (q4 + q5))), .second, .val (.ref b9), .val (.int (0 : Int32))] [])) _
      refine castTop (congrArg (fun zz => (mkF m 146 #[.val (.long q1), .second, .val (.long q2), .second, .val (.long q3), .second, .val (.long q4), .second, .val (.long q5), .second, .val (.int p6), .val (.int (own_b (own_fl p6 (1 : Int32)))), .val (.long (own_sel (own_fl p6 (2 : Int32)) q1 q2)), .second, .val (.long (own_sel (own_fl p6 (4 : Int32)) (0 : Int64) q3)), .second, .val (.long q4), .second, .val (.long q5), .second, .val (.long (q4 ^^^ q5)), .second, .val (.long (own_sel (own_fl p6 (8 : Int32)) (q5 ^^^ (-1 : Int64)) (q4 + q5))), .second, .val (.ref b9), .val (.int zz)] [])) (by rw [show own_exc (own_fl p6 (1 : Int32)) (own_sel (own_fl p6 (4 : Int32)) (0 : Int64) q3) q1 (own_sel (own_fl p6 (2 : Int32)) q1 q2) = false from by simp [own_exc, hc108_14]]; rfl : (0 : Int32) = (own_b (own_exc (own_fl p6 (1 : Int32)) (own_sel (own_fl p6 (4 : Int32)) (0 : Int64) q3) q1 (own_sel (own_fl p6 (2 : Int32)) q1 q2))))) ?_
      exact kt
    · show Steps p.tables e below (T11.setTop (mkF m 108 #[.val (.long q1), .second, .val (.long q2), .second, .val (.long q3), .second, .val (.long q4), .second, .val (.long q5), .second, .val (.int p6), .val (.int (own_b (own_fl p6 (1 : Int32)))), .val (.long (own_sel (own_fl p6 (2 : Int32)) q1 q2)), .second, .val (.long (own_sel (own_fl p6 (4 : Int32)) (0 : Int64) q3)), .second, .val (.long q4), .second, .val (.long q5), .second, .val (.long (q4 ^^^ q5)), .second, .val (.long (own_sel (own_fl p6 (8 : Int32)) (q5 ^^^ (-1 : Int64)) (q4 + q5))), .second, .val (.ref b9), .unset] [(.int (own_b (own_fl p6 (1 : Int32))))])) _
      refine XS.ifYes X11.here hx rfl (pc0 := 108) (pc' := 117) rfl (hb hby at_108) rfl ((if0 _ _).trans (teq (own_b0 hc108_14)).1) (by decide) (by decide) ?_
      show Steps p.tables e below (T11.setTop (mkF m 117 #[.val (.long q1), .second, .val (.long q2), .second, .val (.long q3), .second, .val (.long q4), .second, .val (.long q5), .second, .val (.int p6), .val (.int (own_b (own_fl p6 (1 : Int32)))), .val (.long (own_sel (own_fl p6 (2 : Int32)) q1 q2)), .second, .val (.long (own_sel (own_fl p6 (4 : Int32)) (0 : Int64) q3)), .second, .val (.long q4), .second, .val (.long q5), .second, .val (.long (q4 ^^^ q5)), .second, .val (.long (own_sel (own_fl p6 (8 : Int32)) (q5 ^^^ (-1 : Int64)) (q4 + q5))), .second, .val (.ref b9), .unset] [])) _
      refine XS.lload X11.here hx rfl (hb hby at_117) rfl ?_
      show Steps p.tables e below (T11.setTop (mkF m 119 #[.val (.long q1), .second, .val (.long q2), .second, .val (.long q3), .second, .val (.long q4), .second, .val (.long q5), .second, .val (.int p6), .val (.int (own_b (own_fl p6 (1 : Int32)))), .val (.long (own_sel (own_fl p6 (2 : Int32)) q1 q2)), .second, .val (.long (own_sel (own_fl p6 (4 : Int32)) (0 : Int64) q3)), .second, .val (.long q4), .second, .val (.long q5), .second, .val (.long (q4 ^^^ q5)), .second, .val (.long (own_sel (own_fl p6 (8 : Int32)) (q5 ^^^ (-1 : Int64)) (q4 + q5))), .second, .val (.ref b9), .unset] [(.long (own_sel (own_fl p6 (4 : Int32)) (0 : Int64) q3))])) _
      refine XS.lconst X11.here hx rfl (hb hby at_119) ?_
      show Steps p.tables e below (T11.setTop (mkF m 120 #[.val (.long q1), .second, .val (.long q2), .second, .val (.long q3), .second, .val (.long q4), .second, .val (.long q5), .second, .val (.int p6), .val (.int (own_b (own_fl p6 (1 : Int32)))), .val (.long (own_sel (own_fl p6 (2 : Int32)) q1 q2)), .second, .val (.long (own_sel (own_fl p6 (4 : Int32)) (0 : Int64) q3)), .second, .val (.long q4), .second, .val (.long q5), .second, .val (.long (q4 ^^^ q5)), .second, .val (.long (own_sel (own_fl p6 (8 : Int32)) (q5 ^^^ (-1 : Int64)) (q4 + q5))), .second, .val (.ref b9), .unset] [(.long (0 : Int64)), (.long (own_sel (own_fl p6 (4 : Int32)) (0 : Int64) q3))])) _
      refine XS.lcmp X11.here hx rfl (hb hby at_120) rfl ?_
      by_cases hc121_15 : (own_sel (own_fl p6 (4 : Int32)) (0 : Int64) q3) = (0 : Int64)
      · show Steps p.tables e below (T11.setTop (mkF m 121 #[.val (.long q1), .second, .val (.long q2), .second, .val (.long q3), .second, .val (.long q4), .second, .val (.long q5), .second, .val (.int p6), .val (.int (own_b (own_fl p6 (1 : Int32)))), .val (.long (own_sel (own_fl p6 (2 : Int32)) q1 q2)), .second, .val (.long (own_sel (own_fl p6 (4 : Int32)) (0 : Int64) q3)), .second, .val (.long q4), .second, .val (.long q5), .second, .val (.long (q4 ^^^ q5)), .second, .val (.long (own_sel (own_fl p6 (8 : Int32)) (q5 ^^^ (-1 : Int64)) (q4 + q5))), .second, .val (.ref b9), .unset] [(.int (lcmpW (own_sel (own_fl p6 (4 : Int32)) (0 : Int64) q3) (0 : Int64)))])) _
        refine XS.ifYes X11.here hx rfl (pc0 := 121) (pc' := 130) rfl (hb hby at_121) rfl ((if0 _ _).trans (teq ((lw_eq _ _).mpr hc121_15)).1) (by decide) (by decide) ?_
        show Steps p.tables e below (T11.setTop (mkF m 130 #[.val (.long q1), .second, .val (.long q2), .second, .val (.long q3), .second, .val (.long q4), .second, .val (.long q5), .second, .val (.int p6), .val (.int (own_b (own_fl p6 (1 : Int32)))), .val (.long (own_sel (own_fl p6 (2 : Int32)) q1 q2)), .second, .val (.long (own_sel (own_fl p6 (4 : Int32)) (0 : Int64) q3)), .second, .val (.long q4), .second, .val (.long q5), .second, .val (.long (q4 ^^^ q5)), .second, .val (.long (own_sel (own_fl p6 (8 : Int32)) (q5 ^^^ (-1 : Int64)) (q4 + q5))), .second, .val (.ref b9), .unset] [])) _
        refine XS.lloadN X11.here hx rfl (hb hby at_130) rfl ?_
        show Steps p.tables e below (T11.setTop (mkF m 131 #[.val (.long q1), .second, .val (.long q2), .second, .val (.long q3), .second, .val (.long q4), .second, .val (.long q5), .second, .val (.int p6), .val (.int (own_b (own_fl p6 (1 : Int32)))), .val (.long (own_sel (own_fl p6 (2 : Int32)) q1 q2)), .second, .val (.long (own_sel (own_fl p6 (4 : Int32)) (0 : Int64) q3)), .second, .val (.long q4), .second, .val (.long q5), .second, .val (.long (q4 ^^^ q5)), .second, .val (.long (own_sel (own_fl p6 (8 : Int32)) (q5 ^^^ (-1 : Int64)) (q4 + q5))), .second, .val (.ref b9), .unset] [(.long q1)])) _
        refine XS.lload X11.here hx rfl (hb hby at_131) rfl ?_
        show Steps p.tables e below (T11.setTop (mkF m 133 #[.val (.long q1), .second, .val (.long q2), .second, .val (.long q3), .second, .val (.long q4), .second, .val (.long q5), .second, .val (.int p6), .val (.int (own_b (own_fl p6 (1 : Int32)))), .val (.long (own_sel (own_fl p6 (2 : Int32)) q1 q2)), .second, .val (.long (own_sel (own_fl p6 (4 : Int32)) (0 : Int64) q3)), .second, .val (.long q4), .second, .val (.long q5), .second, .val (.long (q4 ^^^ q5)), .second, .val (.long (own_sel (own_fl p6 (8 : Int32)) (q5 ^^^ (-1 : Int64)) (q4 + q5))), .second, .val (.ref b9), .unset] [(.long (own_sel (own_fl p6 (2 : Int32)) q1 q2)), (.long q1)])) _
        refine XS.lcmp X11.here hx rfl (hb hby at_133) rfl ?_
        by_cases hc134_16 : q1 = (own_sel (own_fl p6 (2 : Int32)) q1 q2)
        · show Steps p.tables e below (T11.setTop (mkF m 134 #[.val (.long q1), .second, .val (.long q2), .second, .val (.long q3), .second, .val (.long q4), .second, .val (.long q5), .second, .val (.int p6), .val (.int (own_b (own_fl p6 (1 : Int32)))), .val (.long (own_sel (own_fl p6 (2 : Int32)) q1 q2)), .second, .val (.long (own_sel (own_fl p6 (4 : Int32)) (0 : Int64) q3)), .second, .val (.long q4), .second, .val (.long q5), .second, .val (.long (q4 ^^^ q5)), .second, .val (.long (own_sel (own_fl p6 (8 : Int32)) (q5 ^^^ (-1 : Int64)) (q4 + q5))), .second, .val (.ref b9), .unset] [(.int (lcmpW q1 (own_sel (own_fl p6 (2 : Int32)) q1 q2)))])) _
          refine XS.ifYes X11.here hx rfl (pc0 := 134) (pc' := 143) rfl (hb hby at_134) rfl ((if0 _ _).trans (teq ((lw_eq _ _).mpr hc134_16)).1) (by decide) (by decide) ?_
          show Steps p.tables e below (T11.setTop (mkF m 143 #[.val (.long q1), .second, .val (.long q2), .second, .val (.long q3), .second, .val (.long q4), .second, .val (.long q5), .second, .val (.int p6), .val (.int (own_b (own_fl p6 (1 : Int32)))), .val (.long (own_sel (own_fl p6 (2 : Int32)) q1 q2)), .second, .val (.long (own_sel (own_fl p6 (4 : Int32)) (0 : Int64) q3)), .second, .val (.long q4), .second, .val (.long q5), .second, .val (.long (q4 ^^^ q5)), .second, .val (.long (own_sel (own_fl p6 (8 : Int32)) (q5 ^^^ (-1 : Int64)) (q4 + q5))), .second, .val (.ref b9), .unset] [])) _
          refine XS.iconst X11.here hx rfl (hb hby at_143) ?_
          show Steps p.tables e below (T11.setTop (mkF m 144 #[.val (.long q1), .second, .val (.long q2), .second, .val (.long q3), .second, .val (.long q4), .second, .val (.long q5), .second, .val (.int p6), .val (.int (own_b (own_fl p6 (1 : Int32)))), .val (.long (own_sel (own_fl p6 (2 : Int32)) q1 q2)), .second, .val (.long (own_sel (own_fl p6 (4 : Int32)) (0 : Int64) q3)), .second, .val (.long q4), .second, .val (.long q5), .second, .val (.long (q4 ^^^ q5)), .second, .val (.long (own_sel (own_fl p6 (8 : Int32)) (q5 ^^^ (-1 : Int64)) (q4 + q5))), .second, .val (.ref b9), .unset] [(.int (1 : Int32))])) _
          refine XS.istore X11.here hx rfl (hb hby at_144) rfl (l' := #[.val (.long q1), .second, .val (.long q2), .second, .val (.long q3), .second, .val (.long q4), .second, .val (.long q5), .second, .val (.int p6), .val (.int (own_b (own_fl p6 (1 : Int32)))), .val (.long (own_sel (own_fl p6 (2 : Int32)) q1 q2)), .second, .val (.long (own_sel (own_fl p6 (4 : Int32)) (0 : Int64) q3)), .second, .val (.long q4), .second, .val (.long q5), .second, .val (.long (q4 ^^^ q5)), .second, .val (.long (own_sel (own_fl p6 (8 : Int32)) (q5 ^^^ (-1 : Int64)) (q4 + q5))), .second, .val (.ref b9), .val (.int (1 : Int32))]) rfl ?_
          show Steps p.tables e below (T11.setTop (mkF m 146 #[.val (.long q1), .second, .val (.long q2), .second, .val (.long q3), .second, .val (.long q4), .second, .val (.long q5), .second, .val (.int p6), .val (.int (own_b (own_fl p6 (1 : Int32)))), .val (.long (own_sel (own_fl p6 (2 : Int32)) q1 q2)), .second, .val (.long (own_sel (own_fl p6 (4 : Int32)) (0 : Int64) q3)), .second, .val (.long q4), .second, .val (.long q5), .second, .val (.long (q4 ^^^ q5)), .second, .val (.long (own_sel (own_fl p6 (8 : Int32)) (q5 ^^^ (-1 : Int64)) (q4 + q5))), .second, .val (.ref b9), .val (.int (1 : Int32))] [])) _
          refine castTop (congrArg (fun zz => (mkF m 146 #[.val (.long q1), .second, .val (.long q2), .second, .val (.long q3), .second, .val (.long q4), .second, .val (.long q5), .second, .val (.int p6), .val (.int (own_b (own_fl p6 (1 : Int32)))), .val (.long (own_sel (own_fl p6 (2 : Int32)) q1 q2)), .second, .val (.long (own_sel (own_fl p6 (4 : Int32)) (0 : Int64) q3)), .second, .val (.long q4), .second, .val (.long q5), .second, .val (.long (q4 ^^^ q5)), .second, .val (.long (own_sel (own_fl p6 (8 : Int32)) (q5 ^^^ (-1 : Int64)) (q4 + q5))), .second, .val (.ref b9), .val (.int zz)] [])) (by rw [own_exct hc108_14 hc121_15 hc134_16]; rfl : (1 : Int32) = (own_b (own_exc (own_fl p6 (1 : Int32)) (own_sel (own_fl p6 (4 : Int32)) (0 : Int64) q3) q1 (own_sel (own_fl p6 (2 : Int32)) q1 q2))))) ?_
          exact kt
        · show Steps p.tables e below (T11.setTop (mkF m 134 #[.val (.long q1), .second, .val (.long q2), .second, .val (.long q3), .second, .val (.long q4), .second, .val (.long q5), .second, .val (.int p6), .val (.int (own_b (own_fl p6 (1 : Int32)))), .val (.long (own_sel (own_fl p6 (2 : Int32)) q1 q2)), .second, .val (.long (own_sel (own_fl p6 (4 : Int32)) (0 : Int64) q3)), .second, .val (.long q4), .second, .val (.long q5), .second, .val (.long (q4 ^^^ q5)), .second, .val (.long (own_sel (own_fl p6 (8 : Int32)) (q5 ^^^ (-1 : Int64)) (q4 + q5))), .second, .val (.ref b9), .unset] [(.int (lcmpW q1 (own_sel (own_fl p6 (2 : Int32)) q1 q2)))])) _
          refine XS.ifNo X11.here hx rfl (hb hby at_134) rfl ((if0 _ _).trans (feq (fun q => hc134_16 ((lw_eq _ _).mp q))).1) ?_
          show Steps p.tables e below (T11.setTop (mkF m 137 #[.val (.long q1), .second, .val (.long q2), .second, .val (.long q3), .second, .val (.long q4), .second, .val (.long q5), .second, .val (.int p6), .val (.int (own_b (own_fl p6 (1 : Int32)))), .val (.long (own_sel (own_fl p6 (2 : Int32)) q1 q2)), .second, .val (.long (own_sel (own_fl p6 (4 : Int32)) (0 : Int64) q3)), .second, .val (.long q4), .second, .val (.long q5), .second, .val (.long (q4 ^^^ q5)), .second, .val (.long (own_sel (own_fl p6 (8 : Int32)) (q5 ^^^ (-1 : Int64)) (q4 + q5))), .second, .val (.ref b9), .unset] [])) _
          refine XS.iconst X11.here hx rfl (hb hby at_137) ?_
          show Steps p.tables e below (T11.setTop (mkF m 138 #[.val (.long q1), .second, .val (.long q2), .second, .val (.long q3), .second, .val (.long q4), .second, .val (.long q5), .second, .val (.int p6), .val (.int (own_b (own_fl p6 (1 : Int32)))), .val (.long (own_sel (own_fl p6 (2 : Int32)) q1 q2)), .second, .val (.long (own_sel (own_fl p6 (4 : Int32)) (0 : Int64) q3)), .second, .val (.long q4), .second, .val (.long q5), .second, .val (.long (q4 ^^^ q5)), .second, .val (.long (own_sel (own_fl p6 (8 : Int32)) (q5 ^^^ (-1 : Int64)) (q4 + q5))), .second, .val (.ref b9), .unset] [(.int (0 : Int32))])) _
          refine XS.istore X11.here hx rfl (hb hby at_138) rfl (l' := #[.val (.long q1), .second, .val (.long q2), .second, .val (.long q3), .second, .val (.long q4), .second, .val (.long q5), .second, .val (.int p6), .val (.int (own_b (own_fl p6 (1 : Int32)))), .val (.long (own_sel (own_fl p6 (2 : Int32)) q1 q2)), .second, .val (.long (own_sel (own_fl p6 (4 : Int32)) (0 : Int64) q3)), .second, .val (.long q4), .second, .val (.long q5), .second, .val (.long (q4 ^^^ q5)), .second, .val (.long (own_sel (own_fl p6 (8 : Int32)) (q5 ^^^ (-1 : Int64)) (q4 + q5))), .second, .val (.ref b9), .val (.int (0 : Int32))]) rfl ?_
          show Steps p.tables e below (T11.setTop (mkF m 140 #[.val (.long q1), .second, .val (.long q2), .second, .val (.long q3), .second, .val (.long q4), .second, .val (.long q5), .second, .val (.int p6), .val (.int (own_b (own_fl p6 (1 : Int32)))), .val (.long (own_sel (own_fl p6 (2 : Int32)) q1 q2)), .second, .val (.long (own_sel (own_fl p6 (4 : Int32)) (0 : Int64) q3)), .second, .val (.long q4), .second, .val (.long q5), .second, .val (.long (q4 ^^^ q5)), .second, .val (.long (own_sel (own_fl p6 (8 : Int32)) (q5 ^^^ (-1 : Int64)) (q4 + q5))), .second, .val (.ref b9), .val (.int (0 : Int32))] [])) _
          refine XS.goto X11.here hx rfl (pc0 := 140) (pc' := 146) rfl (hb hby at_140) (by decide) (by decide) ?_
          show Steps p.tables e below (T11.setTop (mkF m 146 #[.val (.long q1), .second, .val (.long q2), .second, .val (.long q3), .second, .val (.long q4), .second, .val (.long q5), .second, .val (.int p6), .val (.int (own_b (own_fl p6 (1 : Int32)))), .val (.long (own_sel (own_fl p6 (2 : Int32)) q1 q2)), .second, .val (.long (own_sel (own_fl p6 (4 : Int32)) (0 : Int64) q3)), .second, .val (.long q4), .second, .val (.long q5), .second, .val (.long (q4 ^^^ q5)), .second, .val (.long (own_sel (own_fl p6 (8 : Int32)) (q5 ^^^ (-1 : Int64)) (q4 + q5))), .second, .val (.ref b9), .val (.int (0 : Int32))] [])) _
          refine castTop (congrArg (fun zz => (mkF m 146 #[.val (.long q1), .second, .val (.long q2), .second, .val (.long q3), .second, .val (.long q4), .second, .val (.long q5), .second, .val (.int p6), .val (.int (own_b (own_fl p6 (1 : Int32)))), .val (.long (own_sel (own_fl p6 (2 : Int32)) q1 q2)), .second, .val (.long (own_sel (own_fl p6 (4 : Int32)) (0 : Int64) q3)), .second, .val (.long q4), .second, .val (.long q5), .second, .val (.long (q4 ^^^ q5)), .second, .val (.long (own_sel (own_fl p6 (8 : Int32)) (q5 ^^^ (-1 : Int64)) (q4 + q5))), .second, .val (.ref b9), .val (.int zz)] [])) (by rw [show own_exc (own_fl p6 (1 : Int32)) (own_sel (own_fl p6 (4 : Int32)) (0 : Int64) q3) q1 (own_sel (own_fl p6 (2 : Int32)) q1 q2) = false from by simp [own_exc, hc108_14, hc121_15, hc134_16]]; rfl : (0 : Int32) = (own_b (own_exc (own_fl p6 (1 : Int32)) (own_sel (own_fl p6 (4 : Int32)) (0 : Int64) q3) q1 (own_sel (own_fl p6 (2 : Int32)) q1 q2))))) ?_
          exact kt
      · show Steps p.tables e below (T11.setTop (mkF m 121 #[.val (.long q1), .second, .val (.long q2), .second, .val (.long q3), .second, .val (.long q4), .second, .val (.long q5), .second, .val (.int p6), .val (.int (own_b (own_fl p6 (1 : Int32)))), .val (.long (own_sel (own_fl p6 (2 : Int32)) q1 q2)), .second, .val (.long (own_sel (own_fl p6 (4 : Int32)) (0 : Int64) q3)), .second, .val (.long q4), .second, .val (.long q5), .second, .val (.long (q4 ^^^ q5)), .second, .val (.long (own_sel (own_fl p6 (8 : Int32)) (q5 ^^^ (-1 : Int64)) (q4 + q5))), .second, .val (.ref b9), .unset] [(.int (lcmpW (own_sel (own_fl p6 (4 : Int32)) (0 : Int64) q3) (0 : Int64)))])) _
        refine XS.ifNo X11.here hx rfl (hb hby at_121) rfl ((if0 _ _).trans (feq (fun q => hc121_15 ((lw_eq _ _).mp q))).1) ?_
        show Steps p.tables e below (T11.setTop (mkF m 124 #[.val (.long q1), .second, .val (.long q2), .second, .val (.long q3), .second, .val (.long q4), .second, .val (.long q5), .second, .val (.int p6), .val (.int (own_b (own_fl p6 (1 : Int32)))), .val (.long (own_sel (own_fl p6 (2 : Int32)) q1 q2)), .second, .val (.long (own_sel (own_fl p6 (4 : Int32)) (0 : Int64) q3)), .second, .val (.long q4), .second, .val (.long q5), .second, .val (.long (q4 ^^^ q5)), .second, .val (.long (own_sel (own_fl p6 (8 : Int32)) (q5 ^^^ (-1 : Int64)) (q4 + q5))), .second, .val (.ref b9), .unset] [])) _
        refine XS.iconst X11.here hx rfl (hb hby at_124) ?_
        show Steps p.tables e below (T11.setTop (mkF m 125 #[.val (.long q1), .second, .val (.long q2), .second, .val (.long q3), .second, .val (.long q4), .second, .val (.long q5), .second, .val (.int p6), .val (.int (own_b (own_fl p6 (1 : Int32)))), .val (.long (own_sel (own_fl p6 (2 : Int32)) q1 q2)), .second, .val (.long (own_sel (own_fl p6 (4 : Int32)) (0 : Int64) q3)), .second, .val (.long q4), .second, .val (.long q5), .second, .val (.long (q4 ^^^ q5)), .second, .val (.long (own_sel (own_fl p6 (8 : Int32)) (q5 ^^^ (-1 : Int64)) (q4 + q5))), .second, .val (.ref b9), .unset] [(.int (0 : Int32))])) _
        refine XS.istore X11.here hx rfl (hb hby at_125) rfl (l' := #[.val (.long q1), .second, .val (.long q2), .second, .val (.long q3), .second, .val (.long q4), .second, .val (.long q5), .second, .val (.int p6), .val (.int (own_b (own_fl p6 (1 : Int32)))), .val (.long (own_sel (own_fl p6 (2 : Int32)) q1 q2)), .second, .val (.long (own_sel (own_fl p6 (4 : Int32)) (0 : Int64) q3)), .second, .val (.long q4), .second, .val (.long q5), .second, .val (.long (q4 ^^^ q5)), .second, .val (.long (own_sel (own_fl p6 (8 : Int32)) (q5 ^^^ (-1 : Int64)) (q4 + q5))), .second, .val (.ref b9), .val (.int (0 : Int32))]) rfl ?_
        show Steps p.tables e below (T11.setTop (mkF m 127 #[.val (.long q1), .second, .val (.long q2), .second, .val (.long q3), .second, .val (.long q4), .second, .val (.long q5), .second, .val (.int p6), .val (.int (own_b (own_fl p6 (1 : Int32)))), .val (.long (own_sel (own_fl p6 (2 : Int32)) q1 q2)), .second, .val (.long (own_sel (own_fl p6 (4 : Int32)) (0 : Int64) q3)), .second, .val (.long q4), .second, .val (.long q5), .second, .val (.long (q4 ^^^ q5)), .second, .val (.long (own_sel (own_fl p6 (8 : Int32)) (q5 ^^^ (-1 : Int64)) (q4 + q5))), .second, .val (.ref b9), .val (.int (0 : Int32))] [])) _
        refine XS.goto X11.here hx rfl (pc0 := 127) (pc' := 146) rfl (hb hby at_127) (by decide) (by decide) ?_
        show Steps p.tables e below (T11.setTop (mkF m 146 #[.val (.long q1), .second, .val (.long q2), .second, .val (.long q3), .second, .val (.long q4), .second, .val (.long q5), .second, .val (.int p6), .val (.int (own_b (own_fl p6 (1 : Int32)))), .val (.long (own_sel (own_fl p6 (2 : Int32)) q1 q2)), .second, .val (.long (own_sel (own_fl p6 (4 : Int32)) (0 : Int64) q3)), .second, .val (.long q4), .second, .val (.long q5), .second, .val (.long (q4 ^^^ q5)), .second, .val (.long (own_sel (own_fl p6 (8 : Int32)) (q5 ^^^ (-1 : Int64)) (q4 + q5))), .second, .val (.ref b9), .val (.int (0 : Int32))] [])) _
        refine castTop (congrArg (fun zz => (mkF m 146 #[.val (.long q1), .second, .val (.long q2), .second, .val (.long q3), .second, .val (.long q4), .second, .val (.long q5), .second, .val (.int p6), .val (.int (own_b (own_fl p6 (1 : Int32)))), .val (.long (own_sel (own_fl p6 (2 : Int32)) q1 q2)), .second, .val (.long (own_sel (own_fl p6 (4 : Int32)) (0 : Int64) q3)), .second, .val (.long q4), .second, .val (.long q5), .second, .val (.long (q4 ^^^ q5)), .second, .val (.long (own_sel (own_fl p6 (8 : Int32)) (q5 ^^^ (-1 : Int64)) (q4 + q5))), .second, .val (.ref b9), .val (.int zz)] [])) (by rw [show own_exc (own_fl p6 (1 : Int32)) (own_sel (own_fl p6 (4 : Int32)) (0 : Int64) q3) q1 (own_sel (own_fl p6 (2 : Int32)) q1 q2) = false from by simp [own_exc, hc108_14, hc121_15]]; rfl : (0 : Int32) = (own_b (own_exc (own_fl p6 (1 : Int32)) (own_sel (own_fl p6 (4 : Int32)) (0 : Int64) q3) q1 (own_sel (own_fl p6 (2 : Int32)) q1 q2))))) ?_
        exact kt
  have pr18 : ∀ t, Steps p.tables e below (T11.setTop (mkF m 148 #[.val (.long q1), .second, .val (.long q2), .second, .val (.long q3), .second, .val (.long q4), .second, .val (.long q5), .second, .val (.int p6), .val (.int (own_b (own_fl p6 (1 : Int32)))), .val (.long (own_sel (own_fl p6 (2 : Int32)) q1 q2)), .second, .val (.long (own_sel (own_fl p6 (4 : Int32)) (0 : Int64) q3)), .second, .val (.long q4), .second, .val (.long q5), .second, .val (.long (q4 ^^^ q5)), .second, .val (.long (own_sel (own_fl p6 (8 : Int32)) (q5 ^^^ (-1 : Int64)) (q4 + q5))), .second, .val (.ref b9), .val (.int (own_b (own_exc (own_fl p6 (1 : Int32)) (own_sel (own_fl p6 (4 : Int32)) (0 : Int64) q3) q1 (own_sel (own_fl p6 (2 : Int32)) q1 q2))))] [(.ref b9)])) t → Steps p.tables e below (s₁.setTop (entryFrame m #[(.long q1), (.long q2), (.long q3), (.long q4), (.long q5), (.int p6)] maxLocals)) t := fun t kt => pr12 t (by
    refine st11.trans ?_
    show Steps p.tables e below (T11.setTop (mkF m 104 #[.val (.long q1), .second, .val (.long q2), .second, .val (.long q3), .second, .val (.long q4), .second, .val (.long q5), .second, .val (.int p6), .val (.int (own_b (own_fl p6 (1 : Int32)))), .val (.long (own_sel (own_fl p6 (2 : Int32)) q1 q2)), .second, .val (.long (own_sel (own_fl p6 (4 : Int32)) (0 : Int64) q3)), .second, .val (.long q4), .second, .val (.long q5), .second, .val (.long (q4 ^^^ q5)), .second, .val (.long (own_sel (own_fl p6 (8 : Int32)) (q5 ^^^ (-1 : Int64)) (q4 + q5))), .second, .unset, .unset] [(.ref b9)])) _
    refine XS.astore X11.here hx rfl (hb hby at_104) rfl rfl (l' := #[.val (.long q1), .second, .val (.long q2), .second, .val (.long q3), .second, .val (.long q4), .second, .val (.long q5), .second, .val (.int p6), .val (.int (own_b (own_fl p6 (1 : Int32)))), .val (.long (own_sel (own_fl p6 (2 : Int32)) q1 q2)), .second, .val (.long (own_sel (own_fl p6 (4 : Int32)) (0 : Int64) q3)), .second, .val (.long q4), .second, .val (.long q5), .second, .val (.long (q4 ^^^ q5)), .second, .val (.long (own_sel (own_fl p6 (8 : Int32)) (q5 ^^^ (-1 : Int64)) (q4 + q5))), .second, .val (.ref b9), .unset]) rfl ?_
    show Steps p.tables e below (T11.setTop (mkF m 106 #[.val (.long q1), .second, .val (.long q2), .second, .val (.long q3), .second, .val (.long q4), .second, .val (.long q5), .second, .val (.int p6), .val (.int (own_b (own_fl p6 (1 : Int32)))), .val (.long (own_sel (own_fl p6 (2 : Int32)) q1 q2)), .second, .val (.long (own_sel (own_fl p6 (4 : Int32)) (0 : Int64) q3)), .second, .val (.long q4), .second, .val (.long q5), .second, .val (.long (q4 ^^^ q5)), .second, .val (.long (own_sel (own_fl p6 (8 : Int32)) (q5 ^^^ (-1 : Int64)) (q4 + q5))), .second, .val (.ref b9), .unset] [])) _
    refine sg13 _ ?_
    show Steps p.tables e below (T11.setTop (mkF m 146 #[.val (.long q1), .second, .val (.long q2), .second, .val (.long q3), .second, .val (.long q4), .second, .val (.long q5), .second, .val (.int p6), .val (.int (own_b (own_fl p6 (1 : Int32)))), .val (.long (own_sel (own_fl p6 (2 : Int32)) q1 q2)), .second, .val (.long (own_sel (own_fl p6 (4 : Int32)) (0 : Int64) q3)), .second, .val (.long q4), .second, .val (.long q5), .second, .val (.long (q4 ^^^ q5)), .second, .val (.long (own_sel (own_fl p6 (8 : Int32)) (q5 ^^^ (-1 : Int64)) (q4 + q5))), .second, .val (.ref b9), .val (.int (own_b (own_exc (own_fl p6 (1 : Int32)) (own_sel (own_fl p6 (4 : Int32)) (0 : Int64) q3) q1 (own_sel (own_fl p6 (2 : Int32)) q1 q2))))] [])) _
    refine XS.aload X11.here hx rfl (hb hby at_146) rfl rfl ?_
    show Steps p.tables e below (T11.setTop (mkF m 148 #[.val (.long q1), .second, .val (.long q2), .second, .val (.long q3), .second, .val (.long q4), .second, .val (.long q5), .second, .val (.int p6), .val (.int (own_b (own_fl p6 (1 : Int32)))), .val (.long (own_sel (own_fl p6 (2 : Int32)) q1 q2)), .second, .val (.long (own_sel (own_fl p6 (4 : Int32)) (0 : Int64) q3)), .second, .val (.long q4), .second, .val (.long q5), .second, .val (.long (q4 ^^^ q5)), .second, .val (.long (own_sel (own_fl p6 (8 : Int32)) (q5 ^^^ (-1 : Int64)) (q4 + q5))), .second, .val (.ref b9), .val (.int (own_b (own_exc (own_fl p6 (1 : Int32)) (own_sel (own_fl p6 (4 : Int32)) (0 : Int64) q3) q1 (own_sel (own_fl p6 (2 : Int32)) q1 q2))))] [(.ref b9)])) _
    exact kt)
  obtain ⟨cq17, kq17, q17a, q17b, q17c⟩ := isOf hZ rfl Ex11
  obtain ⟨_, _, ⟨T17, L17, k17, n17⟩, -, X17, ⟨Lc17, hQ17, l17, y17, z17⟩, st17⟩ := X11.virtualBack hx (y := (⟨"com/example/tandemlock/tandemlock/harness/ContendedRun$Result", "excludes", "()Z"⟩ : MethodName)) (z := (⟨"com/example/tandemlock/tandemlock/harness/ContendedRun$Result", "excludes", "()Z"⟩ : MethodName)) hown (mvT hZ (hw _ (List.mem_of_getElem? (i := 30) rfl))) (mvT hZ (hw _ (List.mem_of_getElem? (i := 31) rfl))) (notFace_of_selects (args := #[]) (mvT hZ (hw _ (List.mem_of_getElem? (i := 33) rfl)))) (mvT hZ (hw _ (List.mem_of_getElem? (i := 33) rfl))) (mvT hZ (hw _ (List.mem_of_getElem? (i := 32) rfl))) (by decide) (backOf (W := 0) (rm_exc l Z a0 hw [] b9 (own_fl p6 (1 : Int32)) (own_sel (own_fl p6 (4 : Int32)) (0 : Int64) q3) q1 (own_sel (own_fl p6 (2 : Int32)) q1 q2) T11.heap n0 (Nat.le_trans Z9 K11.1) Fs11 Fo11 Fc11 Fe11) hZ (hw _ (List.mem_of_getElem? (i := 34) rfl)) (hw _ (List.mem_of_getElem? (i := 2) rfl)) (by decide) (by decide)) q17a q17c (g := (mkF m 148 #[.val (.long q1), .second, .val (.long q2), .second, .val (.long q3), .second, .val (.long q4), .second, .val (.long q5), .second, .val (.int p6), .val (.int (own_b (own_fl p6 (1 : Int32)))), .val (.long (own_sel (own_fl p6 (2 : Int32)) q1 q2)), .second, .val (.long (own_sel (own_fl p6 (4 : Int32)) (0 : Int64) q3)), .second, .val (.long q4), .second, .val (.long q5), .second, .val (.long (q4 ^^^ q5)), .second, .val (.long (own_sel (own_fl p6 (8 : Int32)) (q5 ^^^ (-1 : Int64)) (q4 + q5))), .second, .val (.ref b9), .val (.int (own_b (own_exc (own_fl p6 (1 : Int32)) (own_sel (own_fl p6 (4 : Int32)) (0 : Int64) q3) q1 (own_sel (own_fl p6 (2 : Int32)) q1 q2))))] [(.ref b9)])) rfl (by rw [hml]; rfl) (Steps.refl _) (argsL := []) (rest := []) (lenOf pd_law_1 rfl) rfl (by show 2 * 0 + _ ≤ _; exact Nat.le_of_eq rfl) (hb hby at_148) (fun _ _ => ⟨rfl, rfl, (by decide : 1 + 0 ≤ _), (by decide : 8 + 0 ≤ _)⟩)
  dsimp only [Pt.U, Pt.locs, Pt.cells, Pt.slots] at X17 l17 y17 z17 st17 hQ17
  subst l17 y17 z17
  obtain ⟨rfl, N17q, e17⟩ := hQ17
  have N17 := Fr.app N11 N17q
  obtain ⟨fs, hr, hrun, hended, hW, hsame⟩ := X17.leave (v := some (.int (nar .boolean (1 : Int32)))) (fun h => by rw [Bd.returns] at h; cases h)
  refine ⟨_, _, pr18 _ ?_, hrun, hended, _, _, rfl, ?_, ⟨_, rfl⟩, hW, hsame.mono (by decide) (by decide)⟩
  · refine st17.trans ?_
    show Steps p.tables e below (T17.setTop (mkF m 151 #[.val (.long q1), .second, .val (.long q2), .second, .val (.long q3), .second, .val (.long q4), .second, .val (.long q5), .second, .val (.int p6), .val (.int (own_b (own_fl p6 (1 : Int32)))), .val (.long (own_sel (own_fl p6 (2 : Int32)) q1 q2)), .second, .val (.long (own_sel (own_fl p6 (4 : Int32)) (0 : Int64) q3)), .second, .val (.long q4), .second, .val (.long q5), .second, .val (.long (q4 ^^^ q5)), .second, .val (.long (own_sel (own_fl p6 (8 : Int32)) (q5 ^^^ (-1 : Int64)) (q4 + q5))), .second, .val (.ref b9), .val (.int (own_b (own_exc (own_fl p6 (1 : Int32)) (own_sel (own_fl p6 (4 : Int32)) (0 : Int64) q3) q1 (own_sel (own_fl p6 (2 : Int32)) q1 q2))))] [(.int (own_b (own_exc (own_fl p6 (1 : Int32)) (own_sel (own_fl p6 (4 : Int32)) (0 : Int64) q3) q1 (own_sel (own_fl p6 (2 : Int32)) q1 q2))))])) _
    refine XS.iload X17.here hx rfl (hb hby at_151) rfl ?_
    show Steps p.tables e below (T17.setTop (mkF m 153 #[.val (.long q1), .second, .val (.long q2), .second, .val (.long q3), .second, .val (.long q4), .second, .val (.long q5), .second, .val (.int p6), .val (.int (own_b (own_fl p6 (1 : Int32)))), .val (.long (own_sel (own_fl p6 (2 : Int32)) q1 q2)), .second, .val (.long (own_sel (own_fl p6 (4 : Int32)) (0 : Int64) q3)), .second, .val (.long q4), .second, .val (.long q5), .second, .val (.long (q4 ^^^ q5)), .second, .val (.long (own_sel (own_fl p6 (8 : Int32)) (q5 ^^^ (-1 : Int64)) (q4 + q5))), .second, .val (.ref b9), .val (.int (own_b (own_exc (own_fl p6 (1 : Int32)) (own_sel (own_fl p6 (4 : Int32)) (0 : Int64) q3) q1 (own_sel (own_fl p6 (2 : Int32)) q1 q2))))] [(.int (own_b (own_exc (own_fl p6 (1 : Int32)) (own_sel (own_fl p6 (4 : Int32)) (0 : Int64) q3) q1 (own_sel (own_fl p6 (2 : Int32)) q1 q2)))), (.int (own_b (own_exc (own_fl p6 (1 : Int32)) (own_sel (own_fl p6 (4 : Int32)) (0 : Int64) q3) q1 (own_sel (own_fl p6 (2 : Int32)) q1 q2))))])) _
    refine XS.icmpNo X17.here hx rfl (hb hby at_153) rfl (teq (rfl : (own_b (own_exc (own_fl p6 (1 : Int32)) (own_sel (own_fl p6 (4 : Int32)) (0 : Int64) q3) q1 (own_sel (own_fl p6 (2 : Int32)) q1 q2))) = (own_b (own_exc (own_fl p6 (1 : Int32)) (own_sel (own_fl p6 (4 : Int32)) (0 : Int64) q3) q1 (own_sel (own_fl p6 (2 : Int32)) q1 q2))))).2 ?_
    show Steps p.tables e below (T17.setTop (mkF m 156 #[.val (.long q1), .second, .val (.long q2), .second, .val (.long q3), .second, .val (.long q4), .second, .val (.long q5), .second, .val (.int p6), .val (.int (own_b (own_fl p6 (1 : Int32)))), .val (.long (own_sel (own_fl p6 (2 : Int32)) q1 q2)), .second, .val (.long (own_sel (own_fl p6 (4 : Int32)) (0 : Int64) q3)), .second, .val (.long q4), .second, .val (.long q5), .second, .val (.long (q4 ^^^ q5)), .second, .val (.long (own_sel (own_fl p6 (8 : Int32)) (q5 ^^^ (-1 : Int64)) (q4 + q5))), .second, .val (.ref b9), .val (.int (own_b (own_exc (own_fl p6 (1 : Int32)) (own_sel (own_fl p6 (4 : Int32)) (0 : Int64) q3) q1 (own_sel (own_fl p6 (2 : Int32)) q1 q2))))] [])) _
    refine XS.iconst X17.here hx rfl (hb hby at_156) ?_
    show Steps p.tables e below (T17.setTop (mkF m 157 #[.val (.long q1), .second, .val (.long q2), .second, .val (.long q3), .second, .val (.long q4), .second, .val (.long q5), .second, .val (.int p6), .val (.int (own_b (own_fl p6 (1 : Int32)))), .val (.long (own_sel (own_fl p6 (2 : Int32)) q1 q2)), .second, .val (.long (own_sel (own_fl p6 (4 : Int32)) (0 : Int64) q3)), .second, .val (.long q4), .second, .val (.long q5), .second, .val (.long (q4 ^^^ q5)), .second, .val (.long (own_sel (own_fl p6 (8 : Int32)) (q5 ^^^ (-1 : Int64)) (q4 + q5))), .second, .val (.ref b9), .val (.int (own_b (own_exc (own_fl p6 (1 : Int32)) (own_sel (own_fl p6 (4 : Int32)) (0 : Int64) q3) q1 (own_sel (own_fl p6 (2 : Int32)) q1 q2))))] [(.int (1 : Int32))])) _
    refine XS.goto X17.here hx rfl (pc0 := 157) (pc' := 161) rfl (hb hby at_157) (by decide) (by decide) ?_
    show Steps p.tables e below (T17.setTop (mkF m 161 #[.val (.long q1), .second, .val (.long q2), .second, .val (.long q3), .second, .val (.long q4), .second, .val (.long q5), .second, .val (.int p6), .val (.int (own_b (own_fl p6 (1 : Int32)))), .val (.long (own_sel (own_fl p6 (2 : Int32)) q1 q2)), .second, .val (.long (own_sel (own_fl p6 (4 : Int32)) (0 : Int64) q3)), .second, .val (.long q4), .second, .val (.long q5), .second, .val (.long (q4 ^^^ q5)), .second, .val (.long (own_sel (own_fl p6 (8 : Int32)) (q5 ^^^ (-1 : Int64)) (q4 + q5))), .second, .val (.ref b9), .val (.int (own_b (own_exc (own_fl p6 (1 : Int32)) (own_sel (own_fl p6 (4 : Int32)) (0 : Int64) q3) q1 (own_sel (own_fl p6 (2 : Int32)) q1 q2))))] [(.int (1 : Int32))])) _
    exact retN X17 hx (t := .boolean) Bd.returns (by simp) (hb hby at_161) hr
  · show Q_law Z q1 q2 q3 q4 q5 p6 h0 n0 _ T17.heap _
    rw [e17]
    exact ⟨(congrArg (fun zz => some (Value.int zz)) (by rfl : nar .boolean (1 : Int32) = (1 : Int32))), N17⟩
set_option maxRecDepth 65536 in
set_option maxHeartbeats 40000000 in
theorem comes_1 {Post : Tables → Env → Array Value → State → Outcome → State → Prop} (hpost : ∀ tb e args s v u, (limb_1_1.after args s (.returned v) u = true ∧ limb_1_2.after args s (.returned v) u = true ∧ True) → FrameEnd s (.returned v) u (Jvm.fieldLocs frame_1_writes args s ++ Jvm.arrayLocs frame_1_arrays args s ++ Jvm.staticLocs frame_1_statics s) 16 128 → Post tb e args s (.returned v) u) :
    ArmFor flags0 classFile x code maxLocals ret World_1 tables_1 room_1 Calls_1 rest_1 Pre_1 Post := by
  intro l hfl _ _ p e ha hc hk s m args below hf hA hF happ hP
  obtain ⟨hcalls, hrest, hpre⟩ := hP
  obtain ⟨-, -, -, hnamed, -, -, -, hat⟩ := (Spec.applies_iff hf).mp happ
  obtain ⟨hg, hn⟩ := and_e (Cond.before_iff.mp (show (Jvm.Cond.and given_1 narrow_1).before args s = true from hpre))
  obtain ⟨hcount, hg1⟩ := and_e hg
  obtain ⟨ga0, hg2⟩ := and_e hg1
  obtain ⟨ga1, hg3⟩ := and_e hg2
  obtain ⟨ga2, hg4⟩ := and_e hg3
  obtain ⟨ga3, hg5⟩ := and_e hg4
  obtain ⟨ga4, hg6⟩ := and_e hg5
  obtain ⟨w0, w1, w2, w3, w4, w5, rfl⟩ : ∃ w0 w1 w2 w3 w4 w5 : Value, args = #[w0, w1, w2, w3, w4, w5] := by
    have hs : args.size = 6 := by simpa [Cond.value, given_1] using hcount
    obtain ⟨L⟩ := args
    match L, hs with
    | [w0, w1, w2, w3, w4, w5], _ => exact ⟨w0, w1, w2, w3, w4, w5, rfl⟩
  have hw := fun d (hd : d ∈ tables_1) => atoms_spec (ws := Jvm.Cond.code x code maxLocals ret :: tables_1) hat d (List.mem_cons_of_mem _ hd)
  obtain ⟨i0, ei0⟩ := isL_v ga0
  obtain rfl : w0 = (.long i0) := Option.some.inj ei0
  obtain ⟨i1, ei1⟩ := isL_v ga1
  obtain rfl : w1 = (.long i1) := Option.some.inj ei1
  obtain ⟨i2, ei2⟩ := isL_v ga2
  obtain rfl : w2 = (.long i2) := Option.some.inj ei2
  obtain ⟨i3, ei3⟩ := isL_v ga3
  obtain rfl : w3 = (.long i3) := Option.some.inj ei3
  obtain ⟨i4, ei4⟩ := isL_v ga4
  obtain rfl : w4 = (.long i4) := Option.some.inj ei4
  obtain ⟨i5, ei5⟩ := is_v hg6
  obtain rfl : w5 = (.int i5) := Option.some.inj ei5
  obtain ⟨n, o, h1, h2, h3, _, L, rfl, ⟨rfl, N⟩, hq⟩ := rm_law l s _ hw tables_1 i0 i1 i2 i3 i4 i5 s.heap s.heap.size (Nat.le_refl _)  p e ha hc hk s m _ below hf ((Spec.applies_iff_loose hf).mp happ).1 ⟨rfl, State.Warmed39.refl s, rfl⟩ trivial
  refine ⟨n, _, h1, h2, h3, hpost _ _ _ _ _ _ ⟨Cond.after_iff.mpr rfl, Cond.after_iff.mpr (eq_i res_at (Term.int_eval (1)) rfl), trivial⟩ ⟨hq.1, hq.2.1, (hq.2.2.sift fun y hy => Or.inr (N y hy)).mono (by decide) (by decide)⟩⟩
theorem main_1_1 : Claimed_1_1 := comes_1 fun _ _ _ _ _ _ h hF => ⟨h.1, hF⟩
theorem main_1_2 : Claimed_1_2 := comes_1 fun _ _ _ _ _ _ h hF => ⟨h.2.1, hF⟩
end Jvm.Pilot.@@N@@
namespace Jvm.Pilot.@@N@@
open Jvm Jvm.ClassFile Sem Op Lib Jvm.Free Jvm.Stand Jvm.Pilot.@@N@@.Jvm.D
/-! MADE BY PROGRAM (witnessworld.py) out of the Statement's table words and the real class files: 10 classes; the members and pool entries that the words name. The judged class is class 1, her method 1. -/
namespace start1
open Jvm.ClassFile
def u (s : String) : CpInfo := .utf8 (stringToUtf16 s)
/-- a pool by its gaps: so many unusable entries, then the entry; so many at the end -/
def gap : Nat → List CpInfo → List CpInfo
  | 0, r => r
  | n + 1, r => .unusable :: gap n r
def poolList (es : List (Nat × CpInfo)) (last : Nat) : List CpInfo := es.foldr (fun e r => gap e.1 (e.2 :: r)) (gap last [])
def pool (es : List (Nat × CpInfo)) (last : Nat) : Array CpInfo := ⟨poolList es last⟩
def fileOf (pool : Array CpInfo) (this : Nat) (attrs : Array Attribute := #[]) (ms : Array MethodInfo := #[]) (fl : Nat := 33) (sup : Nat := 0) (ifs : Array Nat := #[]) (fds : Array FieldInfo := #[]) : ClassFile where
  minorVersion := 0
  majorVersion := 65
  constantPool := pool
  accessFlags := fl
  thisClass := this
  superClass := sup
  interfaces := ifs
  fields := fds
  methods := ms
  attributes := attrs
def plain (name : String) (sup : Option ClassId) : Class where
  name := name
  kind := .ordinary
  loader := none
  accessFlags := 33
  super := sup
  interfaces := #[]
  cf := none
  fields := #[]
  methods := #[]
  instanceTypes := #[]
  staticTypes := #[]
  resolved := #[]
  callSites := []
  init := .initialized
  statics := none
  mirror := none

def pool0 : Array CpInfo := pool [(5, u "<init>"), (0, u "()V"), (1, .class_ 10), (1, u "java/lang/Object")] 113

def k0c0 : Code := { maxStack := 0, maxLocals := 1, code := object_method_1_code, exceptionTable := #[], attributes := #[] }
def k0m0 : Method := { name := "<init>", desc := "()V", sig := { parameters := [], returnType := none }, accessFlags := 1, code := some k0c0 }
/-- java/lang/Object -/
def k0 : Class := { plain "java/lang/Object" none with
  accessFlags := 33
  interfaces := #[]
  cf := some (fileOf pool0 8 #[] #[{ accessFlags := 1, nameIndex := 5, descriptorIndex := 6, attributes := #[] }] 33 0 #[] #[])
  fields := #[]
  methods := #[k0m0]
  instanceTypes := #[]
  staticTypes := #[]
  resolved := Array.replicate 124 none
  statics := none }

def pool1 : Array CpInfo := pool [(2, .class_ 4), (1, u "java/lang/Object"), (0, u "<init>"), (0, u "()V"), (0, .long 18446744073709551615), (1, .class_ 10), (0, u "com/example/tandemlock/tandemlock/harness/ContendedRun$Result"), (0, .methodref 9 12), (0, .nameAndType 5 13), (0, u "(JJJJJJJZ)V"), (0, .methodref 9 15), (0, .nameAndType 16 17), (0, u "excludes"), (0, u "()Z"), (0, .class_ 19), (0, u "com/example/tandemlock/tandemlock/harness/ResultExcludesPinLaw"), (2, u "law"), (0, u "(JJJJJI)Z")] 7

def k1m0 : Method := { name := "<init>", desc := "()V", sig := { parameters := [], returnType := none }, accessFlags := 2, code := none }
def k1c1 : Code := { maxStack := 17, maxLocals := 26, code := code, exceptionTable := #[], attributes := #[] }
def k1m1 : Method := { name := "law", desc := "(JJJJJI)Z", sig := { parameters := [.long, .long, .long, .long, .long, .int], returnType := some .boolean }, accessFlags := 9, code := some k1c1 }
/-- com/example/tandemlock/tandemlock/harness/ResultExcludesPinLaw -/
def k1 : Class := { plain "com/example/tandemlock/tandemlock/harness/ResultExcludesPinLaw" (some 0) with
  accessFlags := 49
  interfaces := #[]
  cf := some (fileOf pool1 18 #[] #[{ accessFlags := 2, nameIndex := 5, descriptorIndex := 6, attributes := #[] }, { accessFlags := 9, nameIndex := 22, descriptorIndex := 23, attributes := #[] }] 49 2 #[] #[])
  fields := #[]
  methods := #[k1m0, k1m1]
  instanceTypes := #[]
  staticTypes := #[]
  resolved := Array.replicate 31 none
  statics := none }

def pool2 : Array CpInfo := pool [(1, .methodref 2 3), (0, .class_ 4), (0, .nameAndType 5 6), (0, u "java/lang/Object"), (0, u "<init>"), (0, u "()V"), (0, .class_ 8), (0, u "java/lang/Record")] 13

def k2c0 : Code := { maxStack := 1, maxLocals := 1, code := jdk_30_method_1_code, exceptionTable := #[], attributes := #[] }
def k2m0 : Method := { name := "<init>", desc := "()V", sig := { parameters := [], returnType := none }, accessFlags := 4, code := some k2c0 }
/-- java/lang/Record -/
def k2 : Class := { plain "java/lang/Record" (some 0) with
  accessFlags := 1057
  interfaces := #[]
  cf := some (fileOf pool2 7 #[] #[{ accessFlags := 4, nameIndex := 5, descriptorIndex := 6, attributes := #[] }] 1057 2 #[] #[])
  fields := #[]
  methods := #[k2m0]
  instanceTypes := #[]
  staticTypes := #[]
  resolved := Array.replicate 22 none
  statics := none }

def pool3 : Array CpInfo := pool [(1, .methodref 2 3), (0, .class_ 4), (0, .nameAndType 5 6), (0, u "java/lang/Record"), (0, u "<init>"), (0, u "()V"), (0, .fieldref 8 9), (0, .class_ 10), (0, .nameAndType 11 12), (0, u "com/example/tandemlock/tandemlock/harness/ContendedRun$Result"), (0, u "counter"), (0, u "J"), (0, .fieldref 8 14), (0, .nameAndType 15 12), (0, u "expected"), (0, .fieldref 8 17), (0, .nameAndType 18 12), (0, u "entries"), (0, .fieldref 8 20), (0, .nameAndType 21 12), (0, u "overlaps"), (0, .fieldref 8 23), (0, .nameAndType 24 12), (0, u "largestOvertaking"), (0, .fieldref 8 26), (0, .nameAndType 27 12), (0, u "lateEntries"), (0, .fieldref 8 29), (0, .nameAndType 30 12), (0, u "elapsedNanos"), (0, .fieldref 8 32), (0, .nameAndType 33 34), (0, u "stalled"), (0, u "Z"), (12, u "(JJJJJJJZ)V"), (3, u "excludes"), (0, u "()Z"), (8, .class_ 62), (0, u "com/example/tandemlock/tandemlock/harness/ContendedRun")] 26

def k3c0 : Code := { maxStack := 3, maxLocals := 16, code := prog_67_method_1_code, exceptionTable := #[], attributes := #[] }
def k3m0 : Method := { name := "<init>", desc := "(JJJJJJJZ)V", sig := { parameters := [.long, .long, .long, .long, .long, .long, .long, .boolean], returnType := none }, accessFlags := 1, code := some k3c0 }
def k3c1 : Code := { maxStack := 4, maxLocals := 1, code := prog_67_method_2_code, exceptionTable := #[], attributes := #[] }
def k3m1 : Method := { name := "excludes", desc := "()Z", sig := { parameters := [], returnType := some .boolean }, accessFlags := 1, code := some k3c1 }
/-- com/example/tandemlock/tandemlock/harness/ContendedRun$Result -/
def k3 : Class := { plain "com/example/tandemlock/tandemlock/harness/ContendedRun$Result" (some 2) with
  accessFlags := 49
  interfaces := #[]
  cf := some (fileOf pool3 8 #[.nestHost 61] #[{ accessFlags := 1, nameIndex := 5, descriptorIndex := 47, attributes := #[] }, { accessFlags := 1, nameIndex := 51, descriptorIndex := 52, attributes := #[] }] 49 2 #[] #[{ accessFlags := 18, nameIndex := 11, descriptorIndex := 12, attributes := #[] }, { accessFlags := 18, nameIndex := 15, descriptorIndex := 12, attributes := #[] }, { accessFlags := 18, nameIndex := 18, descriptorIndex := 12, attributes := #[] }, { accessFlags := 18, nameIndex := 21, descriptorIndex := 12, attributes := #[] }, { accessFlags := 18, nameIndex := 24, descriptorIndex := 12, attributes := #[] }, { accessFlags := 18, nameIndex := 27, descriptorIndex := 12, attributes := #[] }, { accessFlags := 18, nameIndex := 30, descriptorIndex := 12, attributes := #[] }, { accessFlags := 18, nameIndex := 33, descriptorIndex := 34, attributes := #[] }])
  fields := #[{ name := "counter", type := .long, accessFlags := 18, slot := 0, constantValue := 0 }, { name := "expected", type := .long, accessFlags := 18, slot := 1, constantValue := 0 }, { name := "entries", type := .long, accessFlags := 18, slot := 2, constantValue := 0 }, { name := "overlaps", type := .long, accessFlags := 18, slot := 3, constantValue := 0 }, { name := "largestOvertaking", type := .long, accessFlags := 18, slot := 4, constantValue := 0 }, { name := "lateEntries", type := .long, accessFlags := 18, slot := 5, constantValue := 0 }, { name := "elapsedNanos", type := .long, accessFlags := 18, slot := 6, constantValue := 0 }, { name := "stalled", type := .boolean, accessFlags := 18, slot := 7, constantValue := 0 }]
  methods := #[k3m0, k3m1]
  instanceTypes := #[.long, .long, .long, .long, .long, .long, .long, .boolean]
  staticTypes := #[]
  resolved := Array.replicate 89 none
  statics := none }

def pool4 : Array CpInfo := pool [(1, u "java/lang/Cloneable"), (0, .class_ 1), (0, u "java/lang/Object"), (0, .class_ 3)] 3

/-- java/lang/Cloneable -/
def k4 : Class := { plain "java/lang/Cloneable" (some 0) with
  accessFlags := 1537
  interfaces := #[]
  cf := some (fileOf pool4 2 #[] #[] 1537 4 #[] #[])
  fields := #[]
  methods := #[]
  instanceTypes := #[]
  staticTypes := #[]
  resolved := Array.replicate 8 none
  statics := none }

def pool5 : Array CpInfo := pool [(1, u "java/io/Serializable"), (0, .class_ 1), (0, u "java/lang/Object"), (0, .class_ 3)] 3

/-- java/io/Serializable -/
def k5 : Class := { plain "java/io/Serializable" (some 0) with
  accessFlags := 1537
  interfaces := #[]
  cf := some (fileOf pool5 2 #[] #[] 1537 4 #[] #[])
  fields := #[]
  methods := #[]
  instanceTypes := #[]
  staticTypes := #[]
  resolved := Array.replicate 8 none
  statics := none }

/-- the primitive byte -/
def k6 : Class := { plain "byte" none with kind := .primitive 'B', accessFlags := 0x411 }
/-- [B -/
def k7 : Class := { plain "[B" (some 0) with kind := .array 6 .byte, interfaces := #[4, 5], accessFlags := 1041 }

/-- the primitive int -/
def k8 : Class := { plain "int" none with kind := .primitive 'I', accessFlags := 0x411 }
/-- [I -/
def k9 : Class := { plain "[I" (some 0) with kind := .array 8 .int, interfaces := #[4, 5], accessFlags := 1041 }

def heap : Heap := #[]
def classes : Array Class := #[k0, k1, k2, k3, k4, k5, k6, k7, k8, k9]
def interned : List (Array UInt16 × Addr) := []
def slotsUsed : Nat := 0
def theMethod : MethodId := ⟨1, 1⟩
def args0 : Array Value := #[.long 7, .long 7, .long 0, .long 3, .long 4, .int 2]
def aboutOver (below : List Frame) : State where
  vm := { classes := classes, interned := interned.toArray }
  heap := heap
  slotsUsed := slotsUsed
  threads := #[{ frames := .invoking theMethod args0 :: below }]
def below0 : List Frame := [.native { method := ⟨0, 0⟩, args := #[] }]
def about1 : State := aboutOver below0
def p0 : Program := .bare "" "" ""
def e0 : Env := launch0.env 0 0 0
theorem w_frames : about1.frames = Frame.invoking theMethod args0 :: below0 := rfl
set_option maxRecDepth 65536 in
theorem w_args : argsFit about1.vm theMethod args0 = true := by decide +kernel
set_option maxRecDepth 65536 in
theorem w_heap : heapFits about1 = true := by decide +kernel
set_option maxRecDepth 65536 in
theorem w_runnable : about1.curStatus? = some .runnable := by decide +kernel
set_option maxRecDepth 65536 in
theorem w_alone : about1.alone = true := by decide +kernel
set_option maxRecDepth 65536 in
theorem w_named : about1.methodNamed? x = some theMethod := by decide +kernel
set_option maxRecDepth 65536 in
theorem w_hears : about1.hears theMethod below0 = true := by decide +kernel
set_option maxRecDepth 65536 in
theorem w_ripe : about1.ripe theMethod args0 below0 = true := by decide +kernel
theorem w_running : about1.status = .running := rfl
set_option maxRecDepth 65536 in
theorem w_room : about1.hasRoom e0.platform room_1 = true :=
  launch0.hasRoom_least _ room_1 (by decide +kernel) (by decide +kernel) (by decide +kernel) (by decide +kernel) (by decide +kernel) (by decide +kernel)
theorem allAtoms_all (ts : List Jvm.Cond) (a : Array Jvm.Value) (st : Jvm.State) : (allAtoms ts).before a st = ts.all (fun c => c.before a st) := by
  induction ts with
  | nil => rfl
  | cons c t ih =>
    show (Jvm.Cond.and c (allAtoms t)).before a st = _
    rw [Jvm.Cond.before_and, ih, List.all_cons]
def words1 : List Jvm.Cond := Jvm.Cond.code x code maxLocals ret :: tables_1
/-- a 'code' word, met by the world's own term for the bytes: nothing is compared byte by byte -/
theorem code_word {y : MethodName} {bytes : ByteArray} {mx : Nat} {rt : Option FieldType} {a : Array Value} {s : State} {m : MethodId} {meth : Method} {c : Code} (h1 : s.methodNamed? y = some m) (h2 : s.vm.method? m = some meth) (h3 : meth.code = some c) (h4 : c.code = bytes)
    (h5 : (c.maxLocals == mx && c.exceptionTable.isEmpty && decide (c.maxStack ≤ mostOperands) && decide (meth.sig.returnType = rt) && !meth.locks && decide (parseMethodDescriptor y.desc = some meth.sig)) = true) : (Jvm.Cond.code y bytes mx rt).before a s = true := by
  simp only [Bool.and_eq_true, beq_iff_eq, Bool.not_eq_true', decide_eq_true_eq] at h5
  obtain ⟨⟨⟨⟨⟨g1, g2⟩, g3⟩, g4⟩, g5⟩, g6⟩ := h5
  simp [Cond.before, Cond.holds, Cond.value, h1, h2, h3, h4, g1, g2, g3, g4, g5, g6]
def isCode : Jvm.Cond → Bool
  | .code _ _ _ _ => true
  | _ => false
theorem all_split {L : List Jvm.Cond} {P : Jvm.Cond → Bool} (h1 : L.all (fun c => isCode c || P c) = true) (h2 : ∀ c ∈ L.filter isCode, P c = true) : L.all P = true := by
  refine List.all_eq_true.mpr fun c hc => ?_
  have h := List.all_eq_true.mp h1 c hc
  rcases Bool.eq_false_or_eq_true (isCode c) with hi | hi
  · exact h2 c (List.mem_filter.mpr ⟨hc, hi⟩)
  · simpa [hi] using h
set_option maxRecDepth 65536 in
theorem w_c0 : (Jvm.Cond.code x code maxLocals ret).before args0 about1 = true := code_word (m := ⟨1, 1⟩) (meth := k1m1) (c := k1c1) (by decide +kernel) rfl rfl rfl (by decide +kernel)
set_option maxRecDepth 65536 in
theorem w_c1 : (Jvm.Cond.code ({ cls := "com/example/tandemlock/tandemlock/harness/ContendedRun$Result", name := "<init>", desc := "(JJJJJJJZ)V" } : Jvm.MethodName) prog_67_method_1_code (16 : Nat) (Option.none : Option Jvm.ClassFile.FieldType)).before args0 about1 = true := code_word (m := ⟨3, 0⟩) (meth := k3m0) (c := k3c0) (by decide +kernel) rfl rfl rfl (by decide +kernel)
set_option maxRecDepth 65536 in
theorem w_c2 : (Jvm.Cond.code ({ cls := "java/lang/Record", name := "<init>", desc := "()V" } : Jvm.MethodName) jdk_30_method_1_code (1 : Nat) (Option.none : Option Jvm.ClassFile.FieldType)).before args0 about1 = true := code_word (m := ⟨2, 0⟩) (meth := k2m0) (c := k2c0) (by decide +kernel) rfl rfl rfl (by decide +kernel)
set_option maxRecDepth 65536 in
theorem w_c3 : (Jvm.Cond.code ({ cls := "java/lang/Object", name := "<init>", desc := "()V" } : Jvm.MethodName) object_method_1_code (1 : Nat) (Option.none : Option Jvm.ClassFile.FieldType)).before args0 about1 = true := code_word (m := ⟨0, 0⟩) (meth := k0m0) (c := k0c0) (by decide +kernel) rfl rfl rfl (by decide +kernel)
set_option maxRecDepth 65536 in
theorem w_c4 : (Jvm.Cond.code ({ cls := "com/example/tandemlock/tandemlock/harness/ContendedRun$Result", name := "excludes", desc := "()Z" } : Jvm.MethodName) prog_67_method_2_code (1 : Nat) (Option.some Jvm.ClassFile.FieldType.boolean)).before args0 about1 = true := code_word (m := ⟨3, 1⟩) (meth := k3m1) (c := k3c1) (by decide +kernel) rfl rfl rfl (by decide +kernel)
def codes1 : List Jvm.Cond := [Jvm.Cond.code x code maxLocals ret, Jvm.Cond.code ({ cls := "com/example/tandemlock/tandemlock/harness/ContendedRun$Result", name := "<init>", desc := "(JJJJJJJZ)V" } : Jvm.MethodName) prog_67_method_1_code (16 : Nat) (Option.none : Option Jvm.ClassFile.FieldType), Jvm.Cond.code ({ cls := "java/lang/Record", name := "<init>", desc := "()V" } : Jvm.MethodName) jdk_30_method_1_code (1 : Nat) (Option.none : Option Jvm.ClassFile.FieldType), Jvm.Cond.code ({ cls := "java/lang/Object", name := "<init>", desc := "()V" } : Jvm.MethodName) object_method_1_code (1 : Nat) (Option.none : Option Jvm.ClassFile.FieldType), Jvm.Cond.code ({ cls := "com/example/tandemlock/tandemlock/harness/ContendedRun$Result", name := "excludes", desc := "()Z" } : Jvm.MethodName) prog_67_method_2_code (1 : Nat) (Option.some Jvm.ClassFile.FieldType.boolean)]
set_option maxRecDepth 65536 in
theorem codes_eq : words1.filter isCode = codes1 := rfl
theorem w_codes : ∀ c ∈ words1.filter isCode, c.before args0 about1 = true := by
  rw [codes_eq]
  intro c hc
  simp only [codes1, List.mem_cons, List.not_mem_nil, or_false] at hc
  rcases hc with rfl | rfl | rfl | rfl | rfl
  · exact w_c0
  · exact w_c1
  · exact w_c2
  · exact w_c3
  · exact w_c4
set_option maxRecDepth 65536 in
theorem w_t1 : (words1.take 24).all (fun c => isCode c || c.before args0 about1) = true := by decide +kernel
set_option maxRecDepth 65536 in
theorem w_t2 : (words1.drop 24).all (fun c => isCode c || c.before args0 about1) = true := by decide +kernel
theorem w_tables : (allAtoms (Jvm.Cond.code x code maxLocals ret :: tables_1)).before args0 about1 = true := by
  rw [allAtoms_all]
  show words1.all (fun c => c.before args0 about1) = true
  refine all_split ?_ w_codes
  rw [← List.take_append_drop 24 words1, List.all_append, w_t1, w_t2]
  rfl
set_option maxRecDepth 65536 in
theorem w_case : (Jvm.Cond.and given_1 narrow_1).before args0 about1 = true := by decide +kernel
theorem w_applies : (headSpec (Jvm.Cond.code x code maxLocals ret :: tables_1) room_1).applies x e0.platform about1 = true :=
  (Spec.applies_iff w_frames).mpr ⟨w_running, w_runnable, w_alone, w_named, w_hears, w_ripe, w_room, w_tables⟩
theorem atStart : AtStart classFile x code maxLocals ret World_1 tables_1 room_1 Calls_1 rest_1 Pre_1 launch0 p0 e0 about1 theMethod args0 below0 :=
  ⟨lists_1, trivial, launch0.admits_env _ _ _, launch0.least_env, fairChoices_fair.cas, fairChoices_fair.clock, w_frames, w_args, w_heap, w_applies, trivial, trivial, w_case⟩
end start1
theorem witness_1 : WitnessClaimed_1 := ⟨start1.p0, start1.e0, start1.about1, start1.theMethod, start1.args0, start1.below0, start1.atStart⟩
end Jvm.Pilot.@@N@@
