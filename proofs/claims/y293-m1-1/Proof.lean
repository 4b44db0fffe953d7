import JvmDerived
import JvmDerived.Pilot.@@N@@Statement
import JvmDerived.Pilot.@@N@@Code
set_option linter.unusedVariables false
set_option linter.unusedSimpArgs false
namespace Jvm.RoadKit
open Sem ClassFile Op Lib Jvm.Stand Jvm.Free Jvm.LawKit
section New
variable {p : Program} {l : Launch} {e : Env} {R : Room} {s : State} {m : MethodId} {args : Array Value} {below : List Frame} {meth : Method} {c : Code} {T : State} {locs : List Loc} {cells slots : Nat}
theorem retI (X : Stand p l e R s m args below meth c T locs cells slots) (hx : p.tables.exec = Jvm.exec) {pc : Nat} {Ls : Array Slot} {z : Int32} {rest : List Value} (hret : meth.sig.returnType = some .int) (hd : decode c.code pc = .ok (.ireturn, 1)) {fs : List Frame}
    (hl : ∀ (f : JFrame) (acts : List Action), f.method = m → f.locked = none → f.entered = [] → (doReturn e (T.setTop f) acts (some (.int z))).1 = T.setFrames fs) : Steps p.tables e below (T.setTop (mkF m pc Ls (.int z :: rest))) (T.setFrames fs) := by
  have hm' : T.vm.method? m = some meth := X.method'
  have hn : narrow .int (.int z) = .int z := rfl
  show Steps p.tables e below (T.setTop { method := m, pc := pc, locals := Ls, stack := _ :: rest, locked := none }) _
  jvm_step X.here [X.here.top, hx, hd, hm', hret, hn]
  first | (intro acts; rw [hl _ acts rfl rfl rfl]) | rw [hl _ _ rfl rfl rfl]
  exact Steps.refl _
end New
end Jvm.RoadKit
namespace Jvm.Pilot.@@N@@
open Jvm Jvm.ClassFile Sem Op Lib Jvm.Free Jvm.Stand Jvm.LawKit Jvm.RoadKit Bundle Jvm.Pilot.@@N@@.Jvm.D
def own_b (b : Bool) : Int32 := if b = true then 1 else 0
theorem own_b0 {b : Bool} (h : ¬ (b = true)) : own_b b = 0 := if_neg h
theorem own_b1 {b : Bool} (h : b = true) : ¬ own_b b = 0 := by subst h; decide
theorem own_nb (b : Bool) : nar .boolean (own_b b) = own_b b := by cases b <;> decide
def own_us (x : Int64) : Int64 := x ^^^ ((x.toUInt64 >>> ((33 : Int32) &&& 0x3f).toInt64.toUInt64).toInt64)
theorem own_us_bv (x : Int64) : (own_us x).toBitVec = x.toBitVec ^^^ (x.toBitVec >>> 33) := by
  have h : ((33 : Int32) &&& 0x3f).toInt64.toUInt64 = 33 := by decide
  unfold own_us
  rw [h]
  simp [Int64.toBitVec_xor, UInt64.toBitVec_shiftRight]
theorem own_us_us (x : Int64) : own_us (own_us x) = x := by
  apply Int64.toBitVec_inj.mp
  rw [own_us_bv, own_us_bv]
  generalize x.toBitVec = b
  ext i hi
  simp only [BitVec.getElem_xor, BitVec.getElem_ushiftRight, BitVec.getLsbD_xor, BitVec.getLsbD_ushiftRight]
  have : b.getLsbD (33 + (33 + i)) = false := BitVec.getLsbD_of_ge _ _ (by omega)
  rw [this]
  cases b[i] <;> cases b.getLsbD (33 + i) <;> rfl
def own_st (a x : Int64) : Int64 := x * (2 - a * x)
def own_inv (a : Int64) : Int64 := own_st a (own_st a (own_st a (own_st a (own_st a a))))
def own_mix (a : Int64) : Int64 := own_us (own_us (own_us a * (-49064778989728563 : Int64)) * (-4265267296055464877 : Int64))
def own_unmix (y : Int64) : Int64 := own_us (own_us (own_us y * own_inv (-4265267296055464877 : Int64)) * own_inv (-49064778989728563 : Int64))
theorem own_i2 : (-4265267296055464877 : Int64) * own_inv (-4265267296055464877 : Int64) = 1 := by decide
theorem own_i1 : (-49064778989728563 : Int64) * own_inv (-49064778989728563 : Int64) = 1 := by decide
theorem own_undo (a : Int64) : own_unmix (own_mix a) = a := by
  unfold own_unmix own_mix
  rw [own_us_us, Int64.mul_assoc, own_i2, Int64.mul_one, own_us_us, Int64.mul_assoc, own_i1, Int64.mul_one, own_us_us]
theorem d_mix_0 : decode prog_108_method_9_code 0 = .ok (.lload_n 0, 1) := by decide +kernel
theorem d_mix_1 : decode prog_108_method_9_code 1 = .ok (.lstore_n 2, 1) := by decide +kernel
theorem d_mix_2 : decode prog_108_method_9_code 2 = .ok (.lload_n 2, 1) := by decide +kernel
theorem d_mix_3 : decode prog_108_method_9_code 3 = .ok (.lload_n 2, 1) := by decide +kernel
theorem d_mix_4 : decode prog_108_method_9_code 4 = .ok (.bipush 33, 2) := by decide +kernel
theorem d_mix_6 : decode prog_108_method_9_code 6 = .ok (.lushr, 1) := by decide +kernel
theorem d_mix_7 : decode prog_108_method_9_code 7 = .ok (.lxor, 1) := by decide +kernel
theorem d_mix_8 : decode prog_108_method_9_code 8 = .ok (.lstore_n 2, 1) := by decide +kernel
theorem d_mix_9 : decode prog_108_method_9_code 9 = .ok (.lload_n 2, 1) := by decide +kernel
theorem d_mix_10 : decode prog_108_method_9_code 10 = .ok (.ldc2_w 63, 3) := by decide +kernel
theorem d_mix_13 : decode prog_108_method_9_code 13 = .ok (.lmul, 1) := by decide +kernel
theorem d_mix_14 : decode prog_108_method_9_code 14 = .ok (.lstore_n 2, 1) := by decide +kernel
theorem d_mix_15 : decode prog_108_method_9_code 15 = .ok (.lload_n 2, 1) := by decide +kernel
theorem d_mix_16 : decode prog_108_method_9_code 16 = .ok (.lload_n 2, 1) := by decide +kernel
theorem d_mix_17 : decode prog_108_method_9_code 17 = .ok (.bipush 33, 2) := by decide +kernel
theorem d_mix_19 : decode prog_108_method_9_code 19 = .ok (.lushr, 1) := by decide +kernel
theorem d_mix_20 : decode prog_108_method_9_code 20 = .ok (.lxor, 1) := by decide +kernel
theorem d_mix_21 : decode prog_108_method_9_code 21 = .ok (.lstore_n 2, 1) := by decide +kernel
theorem d_mix_22 : decode prog_108_method_9_code 22 = .ok (.lload_n 2, 1) := by decide +kernel
theorem d_mix_23 : decode prog_108_method_9_code 23 = .ok (.ldc2_w 65, 3) := by decide +kernel
theorem d_mix_26 : decode prog_108_method_9_code 26 = .ok (.lmul, 1) := by decide +kernel
theorem d_mix_27 : decode prog_108_method_9_code 27 = .ok (.lstore_n 2, 1) := by decide +kernel
theorem d_mix_28 : decode prog_108_method_9_code 28 = .ok (.lload_n 2, 1) := by decide +kernel
theorem d_mix_29 : decode prog_108_method_9_code 29 = .ok (.lload_n 2, 1) := by decide +kernel
theorem d_mix_30 : decode prog_108_method_9_code 30 = .ok (.bipush 33, 2) := by decide +kernel
theorem d_mix_32 : decode prog_108_method_9_code 32 = .ok (.lushr, 1) := by decide +kernel
theorem d_mix_33 : decode prog_108_method_9_code 33 = .ok (.lxor, 1) := by decide +kernel
theorem d_mix_34 : decode prog_108_method_9_code 34 = .ok (.lreturn, 1) := by decide +kernel
theorem pn_mix : plainName "com/example/fixpoint/fixpoint/engine/RowKey" = true := by first | (simp [plainName, overriddenIn]; done) | decide +kernel
theorem ef_mix (m : MethodId) (q1 : Int64) : entryFrame m #[(.long q1)] 4 = mkF m 0 #[.val (.long q1), .second, .unset, .unset] [] := by first | (simp [entryFrame, mkF, argsToLocals, Value.category]; done) | rfl
def Q_mix (Z : State) (q1 : Int64) (h0 : Heap) (n0 : Nat) (v : Option Value) (h : Heap) (L : List Loc) : Prop := v = some (.long (own_mix q1)) ∧ Fr n0 L ∧ h = h0
set_option maxRecDepth 65536 in
set_option maxHeartbeats 40000000 in
theorem rm_mix (l : Launch) (Z : State) (a0 : Array Value) (hw : ∀ d ∈ tables_1, d.before a0 Z = true) (ws : List Jvm.Cond) (q1 : Int64) (h0 : Heap) (n0 : Nat) (Z0 : n0 ≤ h0.size) :
    MetFree l (⟨"com/example/fixpoint/fixpoint/engine/RowKey", "mix", "(J)J"⟩ : MethodName) (head1 (Jvm.Cond.code (⟨"com/example/fixpoint/fixpoint/engine/RowKey", "mix", "(J)J"⟩ : MethodName) prog_108_method_9_code 4 (some .long) :: ws) ({ frames := 0, cells := 0, slots := 0, locals := 0 } : Room)) (fun a U => a = #[(.long q1)] ∧ Z.Warmed39 U.vm ∧ U.heap = h0) (fun _ _ _ _ _ => True) (fun _ U o U' => ∃ v L, o = .returned v ∧ Q_mix Z q1 h0 n0 v U'.heap L ∧ FrameEnd U o U' L ({ frames := 0, cells := 0, slots := 0, locals := 0 } : Room).cells ({ frames := 0, cells := 0, slots := 0, locals := 0 } : Room).slots) := by
  refine MetFree.of_bodySF (plainFor_of_name pn_mix) hisR ?_
  intro p e s m args below meth c s₁ Bd hml0 hP hK
  obtain ⟨rfl, hZ, hh⟩ := hP
  have hx := Bd.exec
  have hby := Bd.bytes
  have hml : c.maxLocals = 4 := hml0
  have hown : s.vm.findClass "com/example/fixpoint/fixpoint/engine/RowKey" = some m.cls := findClass_of_methodNamed Bd.named
  have hnm := (name_of_methodNamed Bd.named Bd.method).1
  have X0 : Stand p l e ({ frames := 0, cells := 0, slots := 0, locals := 0 } : Room) s m #[(.long q1)] below meth c s₁ [] 0 0 := Stand.of_body Bd
  have e0 : s₁.heap = h0 := by rw [← hh, Bd.state]; rfl
  have N0 := Fr.nil n0
  have pre0 : ∀ t, Steps p.tables e below (s₁.setTop (mkF m 0 #[.val (.long q1), .second, .unset, .unset] [])) t → Steps p.tables e below (s₁.setTop (entryFrame m #[(.long q1)] 4)) t := fun t k => castTop (ef_mix m q1) k
  obtain ⟨fs, hr, hrun, hended, hW, hsame⟩ := X0.leave (v := some (.long (own_mix q1))) (fun h => by rw [Bd.returns] at h; cases h)
  refine ⟨_, _, pre0 _ ?_, hrun, hended, _, _, rfl, ?_, ⟨_, rfl⟩, hW, hsame.mono (by decide) (by decide)⟩
  · show Steps p.tables e below (s₁.setTop (mkF m 0 #[.val (.long q1), .second, .unset, .unset] [])) _
    refine XS.lloadN X0.here hx rfl (hb hby d_mix_0) rfl ?_
    show Steps p.tables e below (s₁.setTop (mkF m 1 #[.val (.long q1), .second, .unset, .unset] [(.long q1)])) _
    refine XS.lstoreN X0.here hx rfl (hb hby d_mix_1) rfl (l' := #[.val (.long q1), .second, .val (.long q1), .second]) rfl ?_
    show Steps p.tables e below (s₁.setTop (mkF m 2 #[.val (.long q1), .second, .val (.long q1), .second] [])) _
    refine XS.lloadN X0.here hx rfl (hb hby d_mix_2) rfl ?_
    show Steps p.tables e below (s₁.setTop (mkF m 3 #[.val (.long q1), .second, .val (.long q1), .second] [(.long q1)])) _
    refine XS.lloadN X0.here hx rfl (hb hby d_mix_3) rfl ?_
    show Steps p.tables e below (s₁.setTop (mkF m 4 #[.val (.long q1), .second, .val (.long q1), .second] [(.long q1), (.long q1)])) _
    refine XS.bipush X0.here hx rfl (hb hby d_mix_4) ?_
    show Steps p.tables e below (s₁.setTop (mkF m 6 #[.val (.long q1), .second, .val (.long q1), .second] [(.int (33 : Int32)), (.long q1), (.long q1)])) _
    refine XS.lushr X0.here hx rfl (hb hby d_mix_6) rfl ?_
    show Steps p.tables e below (s₁.setTop (mkF m 7 #[.val (.long q1), .second, .val (.long q1), .second] [(.long ((q1.toUInt64 >>> ((33 : Int32) &&& 0x3f).toInt64.toUInt64).toInt64)), (.long q1)])) _
    refine XS.lxor X0.here hx rfl (hb hby d_mix_7) rfl ?_
    show Steps p.tables e below (s₁.setTop (mkF m 8 #[.val (.long q1), .second, .val (.long q1), .second] [(.long (q1 ^^^ ((q1.toUInt64 >>> ((33 : Int32) &&& 0x3f).toInt64.toUInt64).toInt64)))])) _
    refine XS.lstoreN X0.here hx rfl (hb hby d_mix_8) rfl (l' := #[.val (.long q1), .second, .val (.long (own_us q1)), .second]) rfl ?_
    show Steps p.tables e below (s₁.setTop (mkF m 9 #[.val (.long q1), .second, .val (.long (own_us q1)), .second] [])) _
    refine XS.lloadN X0.here hx rfl (hb hby d_mix_9) rfl ?_
    show Steps p.tables e below (s₁.setTop (mkF m 10 #[.val (.long q1), .second, .val (.long (own_us q1)), .second] [(.long (own_us q1))])) _
    refine X0.ldc2Long hx hown (mvT hZ (hw _ (List.mem_of_getElem? (i := 4) rfl))) (g := (mkF m 10 #[.val (.long q1), .second, .val (.long (own_us q1)), .second] [(.long (own_us q1))])) rfl (hb hby d_mix_10) _ ?_
    show Steps p.tables e below (s₁.setTop (mkF m 13 #[.val (.long q1), .second, .val (.long (own_us q1)), .second] [(.long (-49064778989728563 : Int64)), (.long (own_us q1))])) _
    refine XS.lmul X0.here hx rfl (hb hby d_mix_13) rfl ?_
    show Steps p.tables e below (s₁.setTop (mkF m 14 #[.val (.long q1), .second, .val (.long (own_us q1)), .second] [(.long ((own_us q1) * (-49064778989728563 : Int64)))])) _
    refine XS.lstoreN X0.here hx rfl (hb hby d_mix_14) rfl (l' := #[.val (.long q1), .second, .val (.long ((own_us q1) * (-49064778989728563 : Int64))), .second]) rfl ?_
    show Steps p.tables e below (s₁.setTop (mkF m 15 #[.val (.long q1), .second, .val (.long ((own_us q1) * (-49064778989728563 : Int64))), .second] [])) _
    refine XS.lloadN X0.here hx rfl (hb hby d_mix_15) rfl ?_
    show Steps p.tables e below (s₁.setTop (mkF m 16 #[.val (.long q1), .second, .val (.long ((own_us q1) * (-49064778989728563 : Int64))), .second] [(.long ((own_us q1) * (-49064778989728563 : Int64)))])) _
    refine XS.lloadN X0.here hx rfl (hb hby d_mix_16) rfl ?_
    show Steps p.tables e below (s₁.setTop (mkF m 17 #[.val (.long q1), .second, .val (.long ((own_us q1) * (-49064778989728563 : Int64))), .second] [(.long ((own_us q1) * (-49064778989728563 : Int64))), (.long ((own_us q1) * (-49064778989728563 : Int64)))])) _
    refine XS.bipush X0.here hx rfl (hb hby d_mix_17) ?_
    show Steps p.tables e below (s₁.setTop (mkF m 19 #[.val (.long q1), .second, .val (.long ((own_us q1) * (-49064778989728563 : Int64))), .second] [(.int (33 : Int32)), (.long ((own_us q1) * (-49064778989728563 : Int64))), (.long ((own_us q1) * (-49064778989728563 : Int64)))])) _
    refine XS.lushr X0.here hx rfl (hb hby d_mix_19) rfl ?_
    show Steps p.tables e below (s₁.setTop (mkF m 20 #[.val (.long q1), .second, .val (.long ((own_us q1) * (-49064778989728563 : Int64))), .second] [(.long ((((own_us q1) * (-49064778989728563 : Int64)).toUInt64 >>> ((33 : Int32) &&& 0x3f).toInt64.toUInt64).toInt64)), (.long ((own_us q1) * (-49064778989728563 : Int64)))])) _
    refine XS.lxor X0.here hx rfl (hb hby d_mix_20) rfl ?_
    show Steps p.tables e below (s₁.setTop (mkF m 21 #[.val (.long q1), .second, .val (.long ((own_us q1) * (-49064778989728563 : Int64))), .second] [(.long (((own_us q1) * (-49064778989728563 : Int64)) ^^^ ((((own_us q1) * (-49064778989728563 : Int64)).toUInt64 >>> ((33 : Int32) &&& 0x3f).toInt64.toUInt64).toInt64)))])) _
    refine XS.lstoreN X0.here hx rfl (hb hby d_mix_21) rfl (l' := #[.val (.long q1), .second, .val (.long (own_us (own_us q1 * (-49064778989728563 : Int64)))), .second]) rfl ?_
    show Steps p.tables e below (s₁.setTop (mkF m 22 #[.val (.long q1), .second, .val (.long (own_us (own_us q1 * (-49064778989728563 : Int64)))), .second] [])) _
    refine XS.lloadN X0.here hx rfl (hb hby d_mix_22) rfl ?_
    show Steps p.tables e below (s₁.setTop (mkF m 23 #[.val (.long q1), .second, .val (.long (own_us (own_us q1 * (-49064778989728563 : Int64)))), .second] [(.long (own_us (own_us q1 * (-49064778989728563 : Int64))))])) _
    refine X0.ldc2Long hx hown (mvT hZ (hw _ (List.mem_of_getElem? (i := 5) rfl))) (g := (mkF m 23 #[.val (.long q1), .second, .val (.long (own_us (own_us q1 * (-49064778989728563 : Int64)))), .second] [(.long (own_us (own_us q1 * (-49064778989728563 : Int64))))])) rfl (hb hby d_mix_23) _ ?_
    show Steps p.tables e below (s₁.setTop (mkF m 26 #[.val (.long q1), .second, .val (.long (own_us (own_us q1 * (-49064778989728563 : Int64)))), .second] [(.long (-4265267296055464877 : Int64)), (.long (own_us (own_us q1 * (-49064778989728563 : Int64))))])) _
    refine XS.lmul X0.here hx rfl (hb hby d_mix_26) rfl ?_
    show Steps p.tables e below (s₁.setTop (mkF m 27 #[.val (.long q1), .second, .val (.long (own_us (own_us q1 * (-49064778989728563 : Int64)))), .second] [(.long ((own_us (own_us q1 * (-49064778989728563 : Int64))) * (-4265267296055464877 : Int64)))])) _
    refine XS.lstoreN X0.here hx rfl (hb hby d_mix_27) rfl (l' := #[.val (.long q1), .second, .val (.long ((own_us (own_us q1 * (-49064778989728563 : Int64))) * (-4265267296055464877 : Int64))), .second]) rfl ?_
    show Steps p.tables e below (s₁.setTop (mkF m 28 #[.val (.long q1), .second, .val (.long ((own_us (own_us q1 * (-49064778989728563 : Int64))) * (-4265267296055464877 : Int64))), .second] [])) _
    refine XS.lloadN X0.here hx rfl (hb hby d_mix_28) rfl ?_
    show Steps p.tables e below (s₁.setTop (mkF m 29 #[.val (.long q1), .second, .val (.long ((own_us (own_us q1 * (-49064778989728563 : Int64))) * (-4265267296055464877 : Int64))), .second] [(.long ((own_us (own_us q1 * (-49064778989728563 : Int64))) * (-4265267296055464877 : Int64)))])) _
    refine XS.lloadN X0.here hx rfl (hb hby d_mix_29) rfl ?_
    show Steps p.tables e below (s₁.setTop (mkF m 30 #[.val (.long q1), .second, .val (.long ((own_us (own_us q1 * (-49064778989728563 : Int64))) * (-4265267296055464877 : Int64))), .second] [(.long ((own_us (own_us q1 * (-49064778989728563 : Int64))) * (-4265267296055464877 : Int64))), (.long ((own_us (own_us q1 * (-49064778989728563 : Int64))) * (-4265267296055464877 : Int64)))])) _
    refine XS.bipush X0.here hx rfl (hb hby d_mix_30) ?_
    show Steps p.tables e below (s₁.setTop (mkF m 32 #[.val (.long q1), .second, .val (.long ((own_us (own_us q1 * (-49064778989728563 : Int64))) * (-4265267296055464877 : Int64))), .second] [(.int (33 : Int32)), (.long ((own_us (own_us q1 * (-49064778989728563 : Int64))) * (-4265267296055464877 : Int64))), (.long ((own_us (own_us q1 * (-49064778989728563 : Int64))) * (-4265267296055464877 : Int64)))])) _
    refine XS.lushr X0.here hx rfl (hb hby d_mix_32) rfl ?_
    show Steps p.tables e below (s₁.setTop (mkF m 33 #[.val (.long q1), .second, .val (.long ((own_us (own_us q1 * (-49064778989728563 : Int64))) * (-4265267296055464877 : Int64))), .second] [(.long ((((own_us (own_us q1 * (-49064778989728563 : Int64))) * (-4265267296055464877 : Int64)).toUInt64 >>> ((33 : Int32) &&& 0x3f).toInt64.toUInt64).toInt64)), (.long ((own_us (own_us q1 * (-49064778989728563 : Int64))) * (-4265267296055464877 : Int64)))])) _
    refine XS.lxor X0.here hx rfl (hb hby d_mix_33) rfl ?_
    show Steps p.tables e below (s₁.setTop (mkF m 34 #[.val (.long q1), .second, .val (.long ((own_us (own_us q1 * (-49064778989728563 : Int64))) * (-4265267296055464877 : Int64))), .second] [(.long (own_mix q1))])) _
    exact X0.lreturnOut hx Bd.returns (hb hby d_mix_34) hr
  · show Q_mix Z q1 h0 n0 _ s₁.heap _
    rw [e0]
    exact ⟨rfl, N0, rfl⟩
theorem d_ush_0 : decode method_3_code 0 = .ok (.lload_n 0, 1) := by decide +kernel
theorem d_ush_1 : decode method_3_code 1 = .ok (.lload_n 0, 1) := by decide +kernel
theorem d_ush_2 : decode method_3_code 2 = .ok (.bipush 33, 2) := by decide +kernel
theorem d_ush_4 : decode method_3_code 4 = .ok (.lushr, 1) := by decide +kernel
theorem d_ush_5 : decode method_3_code 5 = .ok (.lxor, 1) := by decide +kernel
theorem d_ush_6 : decode method_3_code 6 = .ok (.lreturn, 1) := by decide +kernel
theorem pn_ush : plainName "com/example/fixpoint/fixpoint/engine/RowKeyMixPinLaw" = true := by first | (simp [plainName, overriddenIn]; done) | decide +kernel
theorem ef_ush (m : MethodId) (q1 : Int64) : entryFrame m #[(.long q1)] 2 = mkF m 0 #[.val (.long q1), .second] [] := by first | (simp [entryFrame, mkF, argsToLocals, Value.category]; done) | rfl
def Q_ush (Z : State) (q1 : Int64) (h0 : Heap) (n0 : Nat) (v : Option Value) (h : Heap) (L : List Loc) : Prop := v = some (.long (own_us q1)) ∧ Fr n0 L ∧ h = h0
set_option maxRecDepth 65536 in
set_option maxHeartbeats 40000000 in
theorem rm_ush (l : Launch) (Z : State) (a0 : Array Value) (hw : ∀ d ∈ tables_1, d.before a0 Z = true) (ws : List Jvm.Cond) (q1 : Int64) (h0 : Heap) (n0 : Nat) (Z0 : n0 ≤ h0.size) :
    MetFree l (⟨"com/example/fixpoint/fixpoint/engine/RowKeyMixPinLaw", "unshift", "(J)J"⟩ : MethodName) (head1 (Jvm.Cond.code (⟨"com/example/fixpoint/fixpoint/engine/RowKeyMixPinLaw", "unshift", "(J)J"⟩ : MethodName) method_3_code 2 (some .long) :: ws) ({ frames := 0, cells := 0, slots := 0, locals := 0 } : Room)) (fun a U => a = #[(.long q1)] ∧ Z.Warmed39 U.vm ∧ U.heap = h0) (fun _ _ _ _ _ => True) (fun _ U o U' => ∃ v L, o = .returned v ∧ Q_ush Z q1 h0 n0 v U'.heap L ∧ FrameEnd U o U' L ({ frames := 0, cells := 0, slots := 0, locals := 0 } : Room).cells ({ frames := 0, cells := 0, slots := 0, locals := 0 } : Room).slots) := by
  refine MetFree.of_bodySF (plainFor_of_name pn_ush) hisR ?_
  intro p e s m args below meth c s₁ Bd hml0 hP hK
  obtain ⟨rfl, hZ, hh⟩ := hP
  have hx := Bd.exec
  have hby := Bd.bytes
  have hml : c.maxLocals = 2 := hml0
  have hown : s.vm.findClass "com/example/fixpoint/fixpoint/engine/RowKeyMixPinLaw" = some m.cls := findClass_of_methodNamed Bd.named
  have hnm := (name_of_methodNamed Bd.named Bd.method).1
  have X0 : Stand p l e ({ frames := 0, cells := 0, slots := 0, locals := 0 } : Room) s m #[(.long q1)] below meth c s₁ [] 0 0 := Stand.of_body Bd
  have e0 : s₁.heap = h0 := by rw [← hh, Bd.state]; rfl
  have N0 := Fr.nil n0
  have pre0 : ∀ t, Steps p.tables e below (s₁.setTop (mkF m 0 #[.val (.long q1), .second] [])) t → Steps p.tables e below (s₁.setTop (entryFrame m #[(.long q1)] 2)) t := fun t k => castTop (ef_ush m q1) k
  obtain ⟨fs, hr, hrun, hended, hW, hsame⟩ := X0.leave (v := some (.long (own_us q1))) (fun h => by rw [Bd.returns] at h; cases h)
  refine ⟨_, _, pre0 _ ?_, hrun, hended, _, _, rfl, ?_, ⟨_, rfl⟩, hW, hsame.mono (by decide) (by decide)⟩
  · show Steps p.tables e below (s₁.setTop (mkF m 0 #[.val (.long q1), .second] [])) _
    refine XS.lloadN X0.here hx rfl (hb hby d_ush_0) rfl ?_
    show Steps p.tables e below (s₁.setTop (mkF m 1 #[.val (.long q1), .second] [(.long q1)])) _
    refine XS.lloadN X0.here hx rfl (hb hby d_ush_1) rfl ?_
    show Steps p.tables e below (s₁.setTop (mkF m 2 #[.val (.long q1), .second] [(.long q1), (.long q1)])) _
    refine XS.bipush X0.here hx rfl (hb hby d_ush_2) ?_
    show Steps p.tables e below (s₁.setTop (mkF m 4 #[.val (.long q1), .second] [(.int (33 : Int32)), (.long q1), (.long q1)])) _
    refine XS.lushr X0.here hx rfl (hb hby d_ush_4) rfl ?_
    show Steps p.tables e below (s₁.setTop (mkF m 5 #[.val (.long q1), .second] [(.long ((q1.toUInt64 >>> ((33 : Int32) &&& 0x3f).toInt64.toUInt64).toInt64)), (.long q1)])) _
    refine XS.lxor X0.here hx rfl (hb hby d_ush_5) rfl ?_
    show Steps p.tables e below (s₁.setTop (mkF m 6 #[.val (.long q1), .second] [(.long (own_us q1))])) _
    exact X0.lreturnOut hx Bd.returns (hb hby d_ush_6) hr
  · show Q_ush Z q1 h0 n0 _ s₁.heap _
    rw [e0]
    exact ⟨rfl, N0, rfl⟩
theorem d_inv_0 : decode method_2_code 0 = .ok (.lload_n 0, 1) := by decide +kernel
theorem d_inv_1 : decode method_2_code 1 = .ok (.lstore_n 2, 1) := by decide +kernel
theorem d_inv_2 : decode method_2_code 2 = .ok (.lload_n 2, 1) := by decide +kernel
theorem d_inv_3 : decode method_2_code 3 = .ok (.ldc2_w 7, 3) := by decide +kernel
theorem d_inv_6 : decode method_2_code 6 = .ok (.lload_n 0, 1) := by decide +kernel
theorem d_inv_7 : decode method_2_code 7 = .ok (.lload_n 2, 1) := by decide +kernel
theorem d_inv_8 : decode method_2_code 8 = .ok (.lmul, 1) := by decide +kernel
theorem d_inv_9 : decode method_2_code 9 = .ok (.lsub, 1) := by decide +kernel
theorem d_inv_10 : decode method_2_code 10 = .ok (.lmul, 1) := by decide +kernel
theorem d_inv_11 : decode method_2_code 11 = .ok (.lstore_n 2, 1) := by decide +kernel
theorem d_inv_12 : decode method_2_code 12 = .ok (.lload_n 2, 1) := by decide +kernel
theorem d_inv_13 : decode method_2_code 13 = .ok (.ldc2_w 7, 3) := by decide +kernel
theorem d_inv_16 : decode method_2_code 16 = .ok (.lload_n 0, 1) := by decide +kernel
theorem d_inv_17 : decode method_2_code 17 = .ok (.lload_n 2, 1) := by decide +kernel
theorem d_inv_18 : decode method_2_code 18 = .ok (.lmul, 1) := by decide +kernel
theorem d_inv_19 : decode method_2_code 19 = .ok (.lsub, 1) := by decide +kernel
theorem d_inv_20 : decode method_2_code 20 = .ok (.lmul, 1) := by decide +kernel
theorem d_inv_21 : decode method_2_code 21 = .ok (.lstore_n 2, 1) := by decide +kernel
theorem d_inv_22 : decode method_2_code 22 = .ok (.lload_n 2, 1) := by decide +kernel
theorem d_inv_23 : decode method_2_code 23 = .ok (.ldc2_w 7, 3) := by decide +kernel
theorem d_inv_26 : decode method_2_code 26 = .ok (.lload_n 0, 1) := by decide +kernel
theorem d_inv_27 : decode method_2_code 27 = .ok (.lload_n 2, 1) := by decide +kernel
theorem d_inv_28 : decode method_2_code 28 = .ok (.lmul, 1) := by decide +kernel
theorem d_inv_29 : decode method_2_code 29 = .ok (.lsub, 1) := by decide +kernel
theorem d_inv_30 : decode method_2_code 30 = .ok (.lmul, 1) := by decide +kernel
theorem d_inv_31 : decode method_2_code 31 = .ok (.lstore_n 2, 1) := by decide +kernel
theorem d_inv_32 : decode method_2_code 32 = .ok (.lload_n 2, 1) := by decide +kernel
theorem d_inv_33 : decode method_2_code 33 = .ok (.ldc2_w 7, 3) := by decide +kernel
theorem d_inv_36 : decode method_2_code 36 = .ok (.lload_n 0, 1) := by decide +kernel
theorem d_inv_37 : decode method_2_code 37 = .ok (.lload_n 2, 1) := by decide +kernel
theorem d_inv_38 : decode method_2_code 38 = .ok (.lmul, 1) := by decide +kernel
theorem d_inv_39 : decode method_2_code 39 = .ok (.lsub, 1) := by decide +kernel
theorem d_inv_40 : decode method_2_code 40 = .ok (.lmul, 1) := by decide +kernel
theorem d_inv_41 : decode method_2_code 41 = .ok (.lstore_n 2, 1) := by decide +kernel
theorem d_inv_42 : decode method_2_code 42 = .ok (.lload_n 2, 1) := by decide +kernel
theorem d_inv_43 : decode method_2_code 43 = .ok (.ldc2_w 7, 3) := by decide +kernel
theorem d_inv_46 : decode method_2_code 46 = .ok (.lload_n 0, 1) := by decide +kernel
theorem d_inv_47 : decode method_2_code 47 = .ok (.lload_n 2, 1) := by decide +kernel
theorem d_inv_48 : decode method_2_code 48 = .ok (.lmul, 1) := by decide +kernel
theorem d_inv_49 : decode method_2_code 49 = .ok (.lsub, 1) := by decide +kernel
theorem d_inv_50 : decode method_2_code 50 = .ok (.lmul, 1) := by decide +kernel
theorem d_inv_51 : decode method_2_code 51 = .ok (.lstore_n 2, 1) := by decide +kernel
theorem d_inv_52 : decode method_2_code 52 = .ok (.lload_n 2, 1) := by decide +kernel
theorem d_inv_53 : decode method_2_code 53 = .ok (.lreturn, 1) := by decide +kernel
theorem pn_inv : plainName "com/example/fixpoint/fixpoint/engine/RowKeyMixPinLaw" = true := by first | (simp [plainName, overriddenIn]; done) | decide +kernel
theorem ef_inv (m : MethodId) (q1 : Int64) : entryFrame m #[(.long q1)] 4 = mkF m 0 #[.val (.long q1), .second, .unset, .unset] [] := by first | (simp [entryFrame, mkF, argsToLocals, Value.category]; done) | rfl
def Q_inv (Z : State) (q1 : Int64) (h0 : Heap) (n0 : Nat) (v : Option Value) (h : Heap) (L : List Loc) : Prop := v = some (.long (own_inv q1)) ∧ Fr n0 L ∧ h = h0
set_option maxRecDepth 65536 in
set_option maxHeartbeats 40000000 in
theorem rm_inv (l : Launch) (Z : State) (a0 : Array Value) (hw : ∀ d ∈ tables_1, d.before a0 Z = true) (ws : List Jvm.Cond) (q1 : Int64) (h0 : Heap) (n0 : Nat) (Z0 : n0 ≤ h0.size) :
    MetFree l (⟨"com/example/fixpoint/fixpoint/engine/RowKeyMixPinLaw", "inverse", "(J)J"⟩ : MethodName) (head1 (Jvm.Cond.code (⟨"com/example/fixpoint/fixpoint/engine/RowKeyMixPinLaw", "inverse", "(J)J"⟩ : MethodName) method_2_code 4 (some .long) :: ws) ({ frames := 0, cells := 0, slots := 0, locals := 0 } : Room)) (fun a U => a = #[(.long q1)] ∧ Z.Warmed39 U.vm ∧ U.heap = h0) (fun _ _ _ _ _ => True) (fun _ U o U' => ∃ v L, o = .returned v ∧ Q_inv Z q1 h0 n0 v U'.heap L ∧ FrameEnd U o U' L ({ frames := 0, cells := 0, slots := 0, locals := 0 } : Room).cells ({ frames := 0, cells := 0, slots := 0, locals := 0 } : Room).slots) := by
  refine MetFree.of_bodySF (plainFor_of_name pn_inv) hisR ?_
  intro p e s m args below meth c s₁ Bd hml0 hP hK
  obtain ⟨rfl, hZ, hh⟩ := hP
  have hx := Bd.exec
  have hby := Bd.bytes
  have hml : c.maxLocals = 4 := hml0
  have hown : s.vm.findClass "com/example/fixpoint/fixpoint/engine/RowKeyMixPinLaw" = some m.cls := findClass_of_methodNamed Bd.named
  have hnm := (name_of_methodNamed Bd.named Bd.method).1
  have X0 : Stand p l e ({ frames := 0, cells := 0, slots := 0, locals := 0 } : Room) s m #[(.long q1)] below meth c s₁ [] 0 0 := Stand.of_body Bd
  have e0 : s₁.heap = h0 := by rw [← hh, Bd.state]; rfl
  have N0 := Fr.nil n0
  have pre0 : ∀ t, Steps p.tables e below (s₁.setTop (mkF m 0 #[.val (.long q1), .second, .unset, .unset] [])) t → Steps p.tables e below (s₁.setTop (entryFrame m #[(.long q1)] 4)) t := fun t k => castTop (ef_inv m q1) k
  obtain ⟨fs, hr, hrun, hended, hW, hsame⟩ := X0.leave (v := some (.long (own_inv q1))) (fun h => by rw [Bd.returns] at h; cases h)
  refine ⟨_, _, pre0 _ ?_, hrun, hended, _, _, rfl, ?_, ⟨_, rfl⟩, hW, hsame.mono (by decide) (by decide)⟩
  · show Steps p.tables e below (s₁.setTop (mkF m 0 #[.val (.long q1), .second, .unset, .unset] [])) _
    refine XS.lloadN X0.here hx rfl (hb hby d_inv_0) rfl ?_
    show Steps p.tables e below (s₁.setTop (mkF m 1 #[.val (.long q1), .second, .unset, .unset] [(.long q1)])) _
    refine XS.lstoreN X0.here hx rfl (hb hby d_inv_1) rfl (l' := #[.val (.long q1), .second, .val (.long q1), .second]) rfl ?_
    show Steps p.tables e below (s₁.setTop (mkF m 2 #[.val (.long q1), .second, .val (.long q1), .second] [])) _
    refine XS.lloadN X0.here hx rfl (hb hby d_inv_2) rfl ?_
    show Steps p.tables e below (s₁.setTop (mkF m 3 #[.val (.long q1), .second, .val (.long q1), .second] [(.long q1)])) _
    refine X0.ldc2Long hx hown (mvT hZ (hw _ (List.mem_of_getElem? (i := 17) rfl))) (g := (mkF m 3 #[.val (.long q1), .second, .val (.long q1), .second] [(.long q1)])) rfl (hb hby d_inv_3) _ ?_
    show Steps p.tables e below (s₁.setTop (mkF m 6 #[.val (.long q1), .second, .val (.long q1), .second] [(.long (2 : Int64)), (.long q1)])) _
    refine XS.lloadN X0.here hx rfl (hb hby d_inv_6) rfl ?_
    show Steps p.tables e below (s₁.setTop (mkF m 7 #[.val (.long q1), .second, .val (.long q1), .second] [(.long q1), (.long (2 : Int64)), (.long q1)])) _
    refine XS.lloadN X0.here hx rfl (hb hby d_inv_7) rfl ?_
    show Steps p.tables e below (s₁.setTop (mkF m 8 #[.val (.long q1), .second, .val (.long q1), .second] [(.long q1), (.long q1), (.long (2 : Int64)), (.long q1)])) _
    refine XS.lmul X0.here hx rfl (hb hby d_inv_8) rfl ?_
    show Steps p.tables e below (s₁.setTop (mkF m 9 #[.val (.long q1), .second, .val (.long q1), .second] [(.long (q1 * q1)), (.long (2 : Int64)), (.long q1)])) _
    refine XS.lsub X0.here hx rfl (hb hby d_inv_9) rfl ?_
    show Steps p.tables e below (s₁.setTop (mkF m 10 #[.val (.long q1), .second, .val (.long q1), .second] [(.long ((2 : Int64) - (q1 * q1))), (.long q1)])) _
    refine XS.lmul X0.here hx rfl (hb hby d_inv_10) rfl ?_
    show Steps p.tables e below (s₁.setTop (mkF m 11 #[.val (.long q1), .second, .val (.long q1), .second] [(.long (q1 * ((2 : Int64) - (q1 * q1))))])) _
    refine XS.lstoreN X0.here hx rfl (hb hby d_inv_11) rfl (l' := #[.val (.long q1), .second, .val (.long (own_st q1 q1)), .second]) rfl ?_
    show Steps p.tables e below (s₁.setTop (mkF m 12 #[.val (.long q1), .second, .val (.long (own_st q1 q1)), .second] [])) _
    refine XS.lloadN X0.here hx rfl (hb hby d_inv_12) rfl ?_
    show Steps p.tables e below (s₁.setTop (mkF m 13 #[.val (.long q1), .second, .val (.long (own_st q1 q1)), .second] [(.long (own_st q1 q1))])) _
    refine X0.ldc2Long hx hown (mvT hZ (hw _ (List.mem_of_getElem? (i := 17) rfl))) (g := (mkF m 13 #[.val (.long q1), .second, .val (.long (own_st q1 q1)), .second] [(.long (own_st q1 q1))])) rfl (hb hby d_inv_13) _ ?_
    show Steps p.tables e below (s₁.setTop (mkF m 16 #[.val (.long q1), .second, .val (.long (own_st q1 q1)), .second] [(.long (2 : Int64)), (.long (own_st q1 q1))])) _
    refine XS.lloadN X0.here hx rfl (hb hby d_inv_16) rfl ?_
    show Steps p.tables e below (s₁.setTop (mkF m 17 #[.val (.long q1), .second, .val (.long (own_st q1 q1)), .second] [(.long q1), (.long (2 : Int64)), (.long (own_st q1 q1))])) _
    refine XS.lloadN X0.here hx rfl (hb hby d_inv_17) rfl ?_
    show Steps p.tables e below (s₁.setTop (mkF m 18 #[.val (.long q1), .second, .val (.long (own_st q1 q1)), .second] [(.long (own_st q1 q1)), (.long q1), (.long (2 : Int64)), (.long (own_st q1 q1))])) _
    refine XS.lmul X0.here hx rfl (hb hby d_inv_18) rfl ?_
    show Steps p.tables e below (s₁.setTop (mkF m 19 #[.val (.long q1), .second, .val (.long (own_st q1 q1)), .second] [(.long (q1 * (own_st q1 q1))), (.long (2 : Int64)), (.long (own_st q1 q1))])) _
    refine XS.lsub X0.here hx rfl (hb hby d_inv_19) rfl ?_
    show Steps p.tables e below (s₁.setTop (mkF m 20 #[.val (.long q1), .second, .val (.long (own_st q1 q1)), .second] [(.long ((2 : Int64) - (q1 * (own_st q1 q1)))), (.long (own_st q1 q1))])) _
    refine XS.lmul X0.here hx rfl (hb hby d_inv_20) rfl ?_
    show Steps p.tables e below (s₁.setTop (mkF m 21 #[.val (.long q1), .second, .val (.long (own_st q1 q1)), .second] [(.long ((own_st q1 q1) * ((2 : Int64) - (q1 * (own_st q1 q1)))))])) _
    refine XS.lstoreN X0.here hx rfl (hb hby d_inv_21) rfl (l' := #[.val (.long q1), .second, .val (.long (own_st q1 (own_st q1 q1))), .second]) rfl ?_
    show Steps p.tables e below (s₁.setTop (mkF m 22 #[.val (.long q1), .second, .val (.long (own_st q1 (own_st q1 q1))), .second] [])) _
    refine XS.lloadN X0.here hx rfl (hb hby d_inv_22) rfl ?_
    show Steps p.tables e below (s₁.setTop (mkF m 23 #[.val (.long q1), .second, .val (.long (own_st q1 (own_st q1 q1))), .second] [(.long (own_st q1 (own_st q1 q1)))])) _
    refine X0.ldc2Long hx hown (mvT hZ (hw _ (List.mem_of_getElem? (i := 17) rfl))) (g := (mkF m 23 #[.val (.long q1), .second, .val (.long (own_st q1 (own_st q1 q1))), .second] [(.long (own_st q1 (own_st q1 q1)))])) rfl (hb hby d_inv_23) _ ?_
    show Steps p.tables e below (s₁.setTop (mkF m 26 #[.val (.long q1), .second, .val (.long (own_st q1 (own_st q1 q1))), .second] [(.long (2 : Int64)), (.long (own_st q1 (own_st q1 q1)))])) _
    refine XS.lloadN X0.here hx rfl (hb hby d_inv_26) rfl ?_
    show Steps p.tables e below (s₁.setTop (mkF m 27 #[.val (.long q1), .second, .val (.long (own_st q1 (own_st q1 q1))), .second] [(.long q1), (.long (2 : Int64)), (.long (own_st q1 (own_st q1 q1)))])) _
    refine XS.lloadN X0.here hx rfl (hb hby d_inv_27) rfl ?_
    show Steps p.tables e below (s₁.setTop (mkF m 28 #[.val (.long q1), .second, .val (.long (own_st q1 (own_st q1 q1))), .second] [(.long (own_st q1 (own_st q1 q1))), (.long q1), (.long (2 : Int64)), (.long (own_st q1 (own_st q1 q1)))])) _
    refine XS.lmul X0.here hx rfl (hb hby d_inv_28) rfl ?_
    show Steps p.tables e below (s₁.setTop (mkF m 29 #[.val (.long q1), .second, .val (.long (own_st q1 (own_st q1 q1))), .second] [(.long (q1 * (own_st q1 (own_st q1 q1)))), (.long (2 : Int64)), (.long (own_st q1 (own_st q1 q1)))])) _
    refine XS.lsub X0.here hx rfl (hb hby d_inv_29) rfl ?_
    show Steps p.tables e below (s₁.setTop (mkF m 30 #[.val (.long q1), .second, .val (.long (own_st q1 (own_st q1 q1))), .second] [(.long ((2 : Int64) - (q1 * (own_st q1 (own_st q1 q1))))), (.long (own_st q1 (own_st q1 q1)))])) _
    refine XS.lmul X0.here hx rfl (hb hby d_inv_30) rfl ?_
    show Steps p.tables e below (s₁.setTop (mkF m 31 #[.val (.long q1), .second, .val (.long (own_st q1 (own_st q1 q1))), .second] [(.long ((own_st q1 (own_st q1 q1)) * ((2 : Int64) - (q1 * (own_st q1 (own_st q1 q1))))))])) _
    refine XS.lstoreN X0.here hx rfl (hb hby d_inv_31) rfl (l' := #[.val (.long q1), .second, .val (.long (own_st q1 (own_st q1 (own_st q1 q1)))), .second]) rfl ?_
    show Steps p.tables e below (s₁.setTop (mkF m 32 #[.val (.long q1), .second, .val (.long (own_st q1 (own_st q1 (own_st q1 q1)))), .second] [])) _
    refine XS.lloadN X0.here hx rfl (hb hby d_inv_32) rfl ?_
    show Steps p.tables e below (s₁.setTop (mkF m 33 #[.val (.long q1), .second, .val (.long (own_st q1 (own_st q1 (own_st q1 q1)))), .second] [(.long (own_st q1 (own_st q1 (own_st q1 q1))))])) _
    refine X0.ldc2Long hx hown (mvT hZ (hw _ (List.mem_of_getElem? (i := 17) rfl))) (g := (mkF m 33 #[.val (.long q1), .second, .val (.long (own_st q1 (own_st q1 (own_st q1 q1)))), .second] [(.long (own_st q1 (own_st q1 (own_st q1 q1))))])) rfl (hb hby d_inv_33) _ ?_
    show Steps p.tables e below (s₁.setTop (mkF m 36 #[.val (.long q1), .second, .val (.long (own_st q1 (own_st q1 (own_st q1 q1)))), .second] [(.long (2 : Int64)), (.long (own_st q1 (own_st q1 (own_st q1 q1))))])) _
    refine XS.lloadN X0.here hx rfl (hb hby d_inv_36) rfl ?_
    show Steps p.tables e below (s₁.setTop (mkF m 37 #[.val (.long q1), .second, .val (.long (own_st q1 (own_st q1 (own_st q1 q1)))), .second] [(.long q1), (.long (2 : Int64)), (.long (own_st q1 (own_st q1 (own_st q1 q1))))])) _
    refine XS.lloadN X0.here hx rfl (hb hby d_inv_37) rfl ?_
    show Steps p.tables e below (s₁.setTop (mkF m 38 #[.val (.long q1), .second, .val (.long (own_st q1 (own_st q1 (own_st q1 q1)))), .second] [(.long (own_st q1 (own_st q1 (own_st q1 q1)))), (.long q1), (.long (2 : Int64)), (.long (own_st q1 (own_st q1 (own_st q1 q1))))])) _
    refine XS.lmul X0.here hx rfl (hb hby d_inv_38) rfl ?_
    show Steps p.tables e below (s₁.setTop (mkF m 39 #[.val (.long q1), .second, .val (.long (own_st q1 (own_st q1 (own_st q1 q1)))), .second] [(.long (q1 * (own_st q1 (own_st q1 (own_st q1 q1))))), (.long (2 : Int64)), (.long (own_st q1 (own_st q1 (own_st q1 q1))))])) _
    refine XS.lsub X0.here hx rfl (hb hby d_inv_39) rfl ?_
    show Steps p.tables e below (s₁.setTop (mkF m 40 #[.val (.long q1), .second, .val (.long (own_st q1 (own_st q1 (own_st q1 q1)))), .second] [(.long ((2 : Int64) - (q1 * (own_st q1 (own_st q1 (own_st q1 q1)))))), (.long (own_st q1 (own_st q1 (own_st q1 q1))))])) _
    refine XS.lmul X0.here hx rfl (hb hby d_inv_40) rfl ?_
    show Steps p.tables e below (s₁.setTop (mkF m 41 #[.val (.long q1), .second, .val (.long (own_st q1 (own_st q1 (own_st q1 q1)))), .second] [(.long ((own_st q1 (own_st q1 (own_st q1 q1))) * ((2 : Int64) - (q1 * (own_st q1 (own_st q1 (own_st q1 q1)))))))])) _
    refine XS.lstoreN X0.here hx rfl (hb hby d_inv_41) rfl (l' := #[.val (.long q1), .second, .val (.long (own_st q1 (own_st q1 (own_st q1 (own_st q1 q1))))), .second]) rfl ?_
    show Steps p.tables e below (s₁.setTop (mkF m 42 #[.val (.long q1), .second, .val (.long (own_st q1 (own_st q1 (own_st q1 (own_st q1 q1))))), .second] [])) _
    refine XS.lloadN X0.here hx rfl (hb hby d_inv_42) rfl ?_
    show Steps p.tables e below (s₁.setTop (mkF m 43 #[.val (.long q1), .second, .val (.long (own_st q1 (own_st q1 (own_st q1 (own_st q1 q1))))), .second] [(.long (own_st q1 (own_st q1 (own_st q1 (own_st q1 q1)))))])) _
    refine X0.ldc2Long hx hown (mvT hZ (hw _ (List.mem_of_getElem? (i := 17) rfl))) (g := (mkF m 43 #[.val (.long q1), .second, .val (.long (own_st q1 (own_st q1 (own_st q1 (own_st q1 q1))))), .second] [(.long (own_st q1 (own_st q1 (own_st q1 (own_st q1 q1)))))])) rfl (hb hby d_inv_43) _ ?_
    show Steps p.tables e below (s₁.setTop (mkF m 46 #[.val (.long q1), .second, .val (.long (own_st q1 (own_st q1 (own_st q1 (own_st q1 q1))))), .second] [(.long (2 : Int64)), (.long (own_st q1 (own_st q1 (own_st q1 (own_st q1 q1)))))])) _
    refine XS.lloadN X0.here hx rfl (hb hby d_inv_46) rfl ?_
    show Steps p.tables e below (s₁.setTop (mkF m 47 #[.val (.long q1), .second, .val (.long (own_st q1 (own_st q1 (own_st q1 (own_st q1 q1))))), .second] [(.long q1), (.long (2 : Int64)), (.long (own_st q1 (own_st q1 (own_st q1 (own_st q1 q1)))))])) _
    refine XS.lloadN X0.here hx rfl (hb hby d_inv_47) rfl ?_
    show Steps p.tables e below (s₁.setTop (mkF m 48 #[.val (.long q1), .second, .val (.long (own_st q1 (own_st q1 (own_st q1 (own_st q1 q1))))), .second] [(.long (own_st q1 (own_st q1 (own_st q1 (own_st q1 q1))))), (.long q1), (.long (2 : Int64)), (.long (own_st q1 (own_st q1 (own_st q1 (own_st q1 q1)))))])) _
    refine XS.lmul X0.here hx rfl (hb hby d_inv_48) rfl ?_
    show Steps p.tables e below (s₁.setTop (mkF m 49 #[.val (.long q1), .second, .val (.long (own_st q1 (own_st q1 (own_st q1 (own_st q1 q1))))), .second] [(.long (q1 * (own_st q1 (own_st q1 (own_st q1 (own_st q1 q1)))))), (.long (2 : Int64)), (.long (own_st q1 (own_st q1 (own_st q1 (own_st q1 q1)))))])) _
    refine XS.lsub X0.here hx rfl (hb hby d_inv_49) rfl ?_
    show Steps p.tables e below (s₁.setTop (mkF m 50 #[.val (.long q1), .second, .val (.long (own_st q1 (own_st q1 (own_st q1 (own_st q1 q1))))), .second] [(.long ((2 : Int64) - (q1 * (own_st q1 (own_st q1 (own_st q1 (own_st q1 q1))))))), (.long (own_st q1 (own_st q1 (own_st q1 (own_st q1 q1)))))])) _
    refine XS.lmul X0.here hx rfl (hb hby d_inv_50) rfl ?_
    show Steps p.tables e below (s₁.setTop (mkF m 51 #[.val (.long q1), .second, .val (.long (own_st q1 (own_st q1 (own_st q1 (own_st q1 q1))))), .second] [(.long ((own_st q1 (own_st q1 (own_st q1 (own_st q1 q1)))) * ((2 : Int64) - (q1 * (own_st q1 (own_st q1 (own_st q1 (own_st q1 q1))))))))])) _
    refine XS.lstoreN X0.here hx rfl (hb hby d_inv_51) rfl (l' := #[.val (.long q1), .second, .val (.long (own_inv q1)), .second]) rfl ?_
    show Steps p.tables e below (s₁.setTop (mkF m 52 #[.val (.long q1), .second, .val (.long (own_inv q1)), .second] [])) _
    refine XS.lloadN X0.here hx rfl (hb hby d_inv_52) rfl ?_
    show Steps p.tables e below (s₁.setTop (mkF m 53 #[.val (.long q1), .second, .val (.long (own_inv q1)), .second] [(.long (own_inv q1))])) _
    exact X0.lreturnOut hx Bd.returns (hb hby d_inv_53) hr
  · show Q_inv Z q1 h0 n0 _ s₁.heap _
    rw [e0]
    exact ⟨rfl, N0, rfl⟩
theorem d_unm_0 : decode method_4_code 0 = .ok (.lload_n 0, 1) := by decide +kernel
theorem d_unm_1 : decode method_4_code 1 = .ok (.invokestatic 9, 3) := by decide +kernel
theorem d_unm_4 : decode method_4_code 4 = .ok (.lstore_n 2, 1) := by decide +kernel
theorem d_unm_5 : decode method_4_code 5 = .ok (.lload_n 2, 1) := by decide +kernel
theorem d_unm_6 : decode method_4_code 6 = .ok (.ldc2_w 15, 3) := by decide +kernel
theorem d_unm_9 : decode method_4_code 9 = .ok (.invokestatic 17, 3) := by decide +kernel
theorem d_unm_12 : decode method_4_code 12 = .ok (.lmul, 1) := by decide +kernel
theorem d_unm_13 : decode method_4_code 13 = .ok (.lstore_n 2, 1) := by decide +kernel
theorem d_unm_14 : decode method_4_code 14 = .ok (.lload_n 2, 1) := by decide +kernel
theorem d_unm_15 : decode method_4_code 15 = .ok (.invokestatic 9, 3) := by decide +kernel
theorem d_unm_18 : decode method_4_code 18 = .ok (.lstore_n 2, 1) := by decide +kernel
theorem d_unm_19 : decode method_4_code 19 = .ok (.lload_n 2, 1) := by decide +kernel
theorem d_unm_20 : decode method_4_code 20 = .ok (.ldc2_w 20, 3) := by decide +kernel
theorem d_unm_23 : decode method_4_code 23 = .ok (.invokestatic 17, 3) := by decide +kernel
theorem d_unm_26 : decode method_4_code 26 = .ok (.lmul, 1) := by decide +kernel
theorem d_unm_27 : decode method_4_code 27 = .ok (.lstore_n 2, 1) := by decide +kernel
theorem d_unm_28 : decode method_4_code 28 = .ok (.lload_n 2, 1) := by decide +kernel
theorem d_unm_29 : decode method_4_code 29 = .ok (.invokestatic 9, 3) := by decide +kernel
theorem d_unm_32 : decode method_4_code 32 = .ok (.lreturn, 1) := by decide +kernel
theorem pn_unm : plainName "com/example/fixpoint/fixpoint/engine/RowKeyMixPinLaw" = true := by first | (simp [plainName, overriddenIn]; done) | decide +kernel
theorem pd_unm_0 : parseMethodDescriptor "(J)J" = some ⟨[.long], some .long⟩ := by decide +kernel
theorem ef_unm (m : MethodId) (q1 : Int64) : entryFrame m #[(.long q1)] 4 = mkF m 0 #[.val (.long q1), .second, .unset, .unset] [] := by first | (simp [entryFrame, mkF, argsToLocals, Value.category]; done) | rfl
def Q_unm (Z : State) (q1 : Int64) (h0 : Heap) (n0 : Nat) (v : Option Value) (h : Heap) (L : List Loc) : Prop := v = some (.long (own_unmix q1)) ∧ Fr n0 L ∧ h = h0
set_option maxRecDepth 65536 in
set_option maxHeartbeats 40000000 in
theorem rm_unm (l : Launch) (Z : State) (a0 : Array Value) (hw : ∀ d ∈ tables_1, d.before a0 Z = true) (ws : List Jvm.Cond) (q1 : Int64) (h0 : Heap) (n0 : Nat) (Z0 : n0 ≤ h0.size) :
    MetFree l (⟨"com/example/fixpoint/fixpoint/engine/RowKeyMixPinLaw", "unmix", "(J)J"⟩ : MethodName) (head1 (Jvm.Cond.code (⟨"com/example/fixpoint/fixpoint/engine/RowKeyMixPinLaw", "unmix", "(J)J"⟩ : MethodName) method_4_code 4 (some .long) :: ws) ({ frames := 1, cells := 0, slots := 0, locals := 17 } : Room)) (fun a U => a = #[(.long q1)] ∧ Z.Warmed39 U.vm ∧ U.heap = h0) (fun _ _ _ _ _ => True) (fun _ U o U' => ∃ v L, o = .returned v ∧ Q_unm Z q1 h0 n0 v U'.heap L ∧ FrameEnd U o U' L ({ frames := 1, cells := 0, slots := 0, locals := 17 } : Room).cells ({ frames := 1, cells := 0, slots := 0, locals := 17 } : Room).slots) := by
  refine MetFree.of_bodySF (plainFor_of_name pn_unm) hisR ?_
  intro p e s m args below meth c s₁ Bd hml0 hP hK
  obtain ⟨rfl, hZ, hh⟩ := hP
  have hx := Bd.exec
  have hby := Bd.bytes
  have hml : c.maxLocals = 4 := hml0
  have hown : s.vm.findClass "com/example/fixpoint/fixpoint/engine/RowKeyMixPinLaw" = some m.cls := findClass_of_methodNamed Bd.named
  have hnm := (name_of_methodNamed Bd.named Bd.method).1
  have X0 : Stand p l e ({ frames := 1, cells := 0, slots := 0, locals := 17 } : Room) s m #[(.long q1)] below meth c s₁ [] 0 0 := Stand.of_body Bd
  have e0 : s₁.heap = h0 := by rw [← hh, Bd.state]; rfl
  have N0 := Fr.nil n0
  have pre0 : ∀ t, Steps p.tables e below (s₁.setTop (mkF m 0 #[.val (.long q1), .second, .unset, .unset] [])) t → Steps p.tables e below (s₁.setTop (entryFrame m #[(.long q1)] 4)) t := fun t k => castTop (ef_unm m q1) k
  have pr2 : ∀ t, Steps p.tables e below (s₁.setTop (mkF m 1 #[.val (.long q1), .second, .unset, .unset] [(.long q1)])) t → Steps p.tables e below (s₁.setTop (entryFrame m #[(.long q1)] 4)) t := fun t kt => pre0 t (by
    show Steps p.tables e below (s₁.setTop (mkF m 0 #[.val (.long q1), .second, .unset, .unset] [])) _
    refine XS.lloadN X0.here hx rfl (hb hby d_unm_0) rfl ?_
    show Steps p.tables e below (s₁.setTop (mkF m 1 #[.val (.long q1), .second, .unset, .unset] [(.long q1)])) _
    exact kt)
  obtain ⟨_, _, ⟨T1, L1, k1, n1⟩, -, X1, ⟨Lc1, hQ1, l1, y1, z1⟩, st1⟩ := Jvm.LawKit.callS X0 hx (y := (⟨"com/example/fixpoint/fixpoint/engine/RowKeyMixPinLaw", "unshift", "(J)J"⟩ : MethodName)) hown (mvT hZ (hw _ (List.mem_of_getElem? (i := 10) rfl))) (mvT hZ (hw _ (List.mem_of_getElem? (i := 11) rfl))) (mvT hZ (hw _ (List.mem_of_getElem? (i := 8) rfl))) (mvT hZ (hw _ (List.mem_of_getElem? (i := 12) rfl))) (by decide) (backOf (W := 0) (rm_ush l Z a0 hw [] q1 h0 n0 Z0 ) hZ (hw _ (List.mem_of_getElem? (i := 12) rfl)) (hw _ (List.mem_of_getElem? (i := 8) rfl)) (by decide) (by decide)) (g := (mkF m 1 #[.val (.long q1), .second, .unset, .unset] [(.long q1)])) rfl (by rw [hml]; rfl) (argsL := [(.long q1)]) (rest := []) (lenOf pd_unm_0 rfl) rfl (by show 2 * 0 + _ ≤ _; exact Nat.le_of_eq rfl) (hb hby d_unm_1) (fun _ _ => ⟨rfl, e0, (by decide : 0 + 0 ≤ _), (by decide : 0 + 0 ≤ _)⟩)
  dsimp only [Pt.U, Pt.locs, Pt.cells, Pt.slots] at X1 l1 y1 z1 st1 hQ1
  subst l1 y1 z1
  obtain ⟨rfl, N1q, e1⟩ := hQ1
  have N1 := Fr.app N0 N1q
  have pr4 : ∀ t, Steps p.tables e below (T1.setTop (mkF m 9 #[.val (.long q1), .second, .val (.long (own_us q1)), .second] [(.long (-4265267296055464877 : Int64)), (.long (own_us q1))])) t → Steps p.tables e below (s₁.setTop (entryFrame m #[(.long q1)] 4)) t := fun t kt => pr2 t (by
    refine st1 _ ?_
    show Steps p.tables e below (T1.setTop (mkF m 4 #[.val (.long q1), .second, .unset, .unset] [(.long (own_us q1))])) _
    refine XS.lstoreN X1.here hx rfl (hb hby d_unm_4) rfl (l' := #[.val (.long q1), .second, .val (.long (own_us q1)), .second]) rfl ?_
    show Steps p.tables e below (T1.setTop (mkF m 5 #[.val (.long q1), .second, .val (.long (own_us q1)), .second] [])) _
    refine XS.lloadN X1.here hx rfl (hb hby d_unm_5) rfl ?_
    show Steps p.tables e below (T1.setTop (mkF m 6 #[.val (.long q1), .second, .val (.long (own_us q1)), .second] [(.long (own_us q1))])) _
    refine X1.ldc2Long hx hown (mvT hZ (hw _ (List.mem_of_getElem? (i := 13) rfl))) (g := (mkF m 6 #[.val (.long q1), .second, .val (.long (own_us q1)), .second] [(.long (own_us q1))])) rfl (hb hby d_unm_6) _ ?_
    show Steps p.tables e below (T1.setTop (mkF m 9 #[.val (.long q1), .second, .val (.long (own_us q1)), .second] [(.long (-4265267296055464877 : Int64)), (.long (own_us q1))])) _
    exact kt)
  obtain ⟨_, _, ⟨T3, L3, k3, n3⟩, -, X3, ⟨Lc3, hQ3, l3, y3, z3⟩, st3⟩ := Jvm.LawKit.callS X1 hx (y := (⟨"com/example/fixpoint/fixpoint/engine/RowKeyMixPinLaw", "inverse", "(J)J"⟩ : MethodName)) hown (mvT hZ (hw _ (List.mem_of_getElem? (i := 14) rfl))) (mvT hZ (hw _ (List.mem_of_getElem? (i := 15) rfl))) (mvT hZ (hw _ (List.mem_of_getElem? (i := 8) rfl))) (mvT hZ (hw _ (List.mem_of_getElem? (i := 16) rfl))) (by decide) (backOf (W := 2) (rm_inv l Z a0 hw [] (-4265267296055464877 : Int64) h0 n0 Z0 ) hZ (hw _ (List.mem_of_getElem? (i := 16) rfl)) (hw _ (List.mem_of_getElem? (i := 8) rfl)) (by decide) (by decide)) (g := (mkF m 9 #[.val (.long q1), .second, .val (.long (own_us q1)), .second] [(.long (-4265267296055464877 : Int64)), (.long (own_us q1))])) rfl (by rw [hml]; rfl) (argsL := [(.long (-4265267296055464877 : Int64))]) (rest := [(.long (own_us q1))]) (lenOf pd_unm_0 rfl) rfl (by show 2 * 0 + _ ≤ _; exact Nat.le_of_eq rfl) (hb hby d_unm_9) (fun _ _ => ⟨rfl, e1, (by decide : 0 + 0 ≤ _), (by decide : 0 + 0 ≤ _)⟩)
  dsimp only [Pt.U, Pt.locs, Pt.cells, Pt.slots] at X3 l3 y3 z3 st3 hQ3
  subst l3 y3 z3
  obtain ⟨rfl, N3q, e3⟩ := hQ3
  have N3 := Fr.app N1 N3q
  have pr6 : ∀ t, Steps p.tables e below (T3.setTop (mkF m 15 #[.val (.long q1), .second, .val (.long ((own_us q1) * (own_inv (-4265267296055464877 : Int64)))), .second] [(.long ((own_us q1) * (own_inv (-4265267296055464877 : Int64))))])) t → Steps p.tables e below (s₁.setTop (entryFrame m #[(.long q1)] 4)) t := fun t kt => pr4 t (by
    refine st3 _ ?_
    show Steps p.tables e below (T3.setTop (mkF m 12 #[.val (.long q1), .second, .val (.long (own_us q1)), .second] [(.long (own_inv (-4265267296055464877 : Int64))), (.long (own_us q1))])) _
    refine XS.lmul X3.here hx rfl (hb hby d_unm_12) rfl ?_
    show Steps p.tables e below (T3.setTop (mkF m 13 #[.val (.long q1), .second, .val (.long (own_us q1)), .second] [(.long ((own_us q1) * (own_inv (-4265267296055464877 : Int64))))])) _
    refine XS.lstoreN X3.here hx rfl (hb hby d_unm_13) rfl (l' := #[.val (.long q1), .second, .val (.long ((own_us q1) * (own_inv (-4265267296055464877 : Int64)))), .second]) rfl ?_
    show Steps p.tables e below (T3.setTop (mkF m 14 #[.val (.long q1), .second, .val (.long ((own_us q1) * (own_inv (-4265267296055464877 : Int64)))), .second] [])) _
    refine XS.lloadN X3.here hx rfl (hb hby d_unm_14) rfl ?_
    show Steps p.tables e below (T3.setTop (mkF m 15 #[.val (.long q1), .second, .val (.long ((own_us q1) * (own_inv (-4265267296055464877 : Int64)))), .second] [(.long ((own_us q1) * (own_inv (-4265267296055464877 : Int64))))])) _
    exact kt)
  obtain ⟨_, _, ⟨T5, L5, k5, n5⟩, -, X5, ⟨Lc5, hQ5, l5, y5, z5⟩, st5⟩ := Jvm.LawKit.callS X3 hx (y := (⟨"com/example/fixpoint/fixpoint/engine/RowKeyMixPinLaw", "unshift", "(J)J"⟩ : MethodName)) hown (mvT hZ (hw _ (List.mem_of_getElem? (i := 10) rfl))) (mvT hZ (hw _ (List.mem_of_getElem? (i := 11) rfl))) (mvT hZ (hw _ (List.mem_of_getElem? (i := 8) rfl))) (mvT hZ (hw _ (List.mem_of_getElem? (i := 12) rfl))) (by decide) (backOf (W := 0) (rm_ush l Z a0 hw [] ((own_us q1) * (own_inv (-4265267296055464877 : Int64))) h0 n0 Z0 ) hZ (hw _ (List.mem_of_getElem? (i := 12) rfl)) (hw _ (List.mem_of_getElem? (i := 8) rfl)) (by decide) (by decide)) (g := (mkF m 15 #[.val (.long q1), .second, .val (.long ((own_us q1) * (own_inv (-4265267296055464877 : Int64)))), .second] [(.long ((own_us q1) * (own_inv (-4265267296055464877 : Int64))))])) rfl (by rw [hml]; rfl) (argsL := [(.long ((own_us q1) * (own_inv (-4265267296055464877 : Int64))))]) (rest := []) (lenOf pd_unm_0 rfl) rfl (by show 2 * 0 + _ ≤ _; exact Nat.le_of_eq rfl) (hb hby d_unm_15) (fun _ _ => ⟨rfl, e3, (by decide : 0 + 0 ≤ _), (by decide : 0 + 0 ≤ _)⟩)
  dsimp only [Pt.U, Pt.locs, Pt.cells, Pt.slots] at X5 l5 y5 z5 st5 hQ5
  subst l5 y5 z5
  obtain ⟨rfl, N5q, e5⟩ := hQ5
  have N5 := Fr.app N3 N5q
  have pr8 : ∀ t, Steps p.tables e below (T5.setTop (mkF m 23 #[.val (.long q1), .second, .val (.long (own_us ((own_us q1) * (own_inv (-4265267296055464877 : Int64))))), .second] [(.long (-49064778989728563 : Int64)), (.long (own_us ((own_us q1) * (own_inv (-4265267296055464877 : Int64)))))])) t → Steps p.tables e below (s₁.setTop (entryFrame m #[(.long q1)] 4)) t := fun t kt => pr6 t (by
    refine st5 _ ?_
    show Steps p.tables e below (T5.setTop (mkF m 18 #[.val (.long q1), .second, .val (.long ((own_us q1) * (own_inv (-4265267296055464877 : Int64)))), .second] [(.long (own_us ((own_us q1) * (own_inv (-4265267296055464877 : Int64)))))])) _
    refine XS.lstoreN X5.here hx rfl (hb hby d_unm_18) rfl (l' := #[.val (.long q1), .second, .val (.long (own_us ((own_us q1) * (own_inv (-4265267296055464877 : Int64))))), .second]) rfl ?_
    show Steps p.tables e below (T5.setTop (mkF m 19 #[.val (.long q1), .second, .val (.long (own_us ((own_us q1) * (own_inv (-4265267296055464877 : Int64))))), .second] [])) _
    refine XS.lloadN X5.here hx rfl (hb hby d_unm_19) rfl ?_
    show Steps p.tables e below (T5.setTop (mkF m 20 #[.val (.long q1), .second, .val (.long (own_us ((own_us q1) * (own_inv (-4265267296055464877 : Int64))))), .second] [(.long (own_us ((own_us q1) * (own_inv (-4265267296055464877 : Int64)))))])) _
    refine X5.ldc2Long hx hown (mvT hZ (hw _ (List.mem_of_getElem? (i := 18) rfl))) (g := (mkF m 20 #[.val (.long q1), .second, .val (.long (own_us ((own_us q1) * (own_inv (-4265267296055464877 : Int64))))), .second] [(.long (own_us ((own_us q1) * (own_inv (-4265267296055464877 : Int64)))))])) rfl (hb hby d_unm_20) _ ?_
    show Steps p.tables e below (T5.setTop (mkF m 23 #[.val (.long q1), .second, .val (.long (own_us ((own_us q1) * (own_inv (-4265267296055464877 : Int64))))), .second] [(.long (-49064778989728563 : Int64)), (.long (own_us ((own_us q1) * (own_inv (-4265267296055464877 : Int64)))))])) _
    exact kt)
  obtain ⟨_, _, ⟨T7, L7, k7, n7⟩, -, X7, ⟨Lc7, hQ7, l7, y7, z7⟩, st7⟩ := Jvm.LawKit.callS X5 hx (y := (⟨"com/example/fixpoint/fixpoint/engine/RowKeyMixPinLaw", "inverse", "(J)J"⟩ : MethodName)) hown (mvT hZ (hw _ (List.mem_of_getElem? (i := 14) rfl))) (mvT hZ (hw _ (List.mem_of_getElem? (i := 15) rfl))) (mvT hZ (hw _ (List.mem_of_getElem? (i := 8) rfl))) (mvT hZ (hw _ (List.mem_of_getElem? (i := 16) rfl))) (by decide) (backOf (W := 2) (rm_inv l Z a0 hw [] (-49064778989728563 : Int64) h0 n0 Z0 ) hZ (hw _ (List.mem_of_getElem? (i := 16) rfl)) (hw _ (List.mem_of_getElem? (i := 8) rfl)) (by decide) (by decide)) (g := (mkF m 23 #[.val (.long q1), .second, .val (.long (own_us ((own_us q1) * (own_inv (-4265267296055464877 : Int64))))), .second] [(.long (-49064778989728563 : Int64)), (.long (own_us ((own_us q1) * (own_inv (-4265267296055464877 : Int64)))))])) rfl (by rw [hml]; rfl) (argsL := [(.long (-49064778989728563 : Int64))]) (rest := [(.long (own_us ((own_us q1) * (own_inv (-4265267296055464877 : Int64)))))]) (lenOf pd_unm_0 rfl) rfl (by show 2 * 0 + _ ≤ _; exact Nat.le_of_eq rfl) (hb hby d_unm_23) (fun _ _ => ⟨rfl, e5, (by decide : 0 + 0 ≤ _), (by decide : 0 + 0 ≤ _)⟩)
  dsimp only [Pt.U, Pt.locs, Pt.cells, Pt.slots] at X7 l7 y7 z7 st7 hQ7
  subst l7 y7 z7
  obtain ⟨rfl, N7q, e7⟩ := hQ7
  have N7 := Fr.app N5 N7q
  have pr10 : ∀ t, Steps p.tables e below (T7.setTop (mkF m 29 #[.val (.long q1), .second, .val (.long ((own_us ((own_us q1) * (own_inv (-4265267296055464877 : Int64)))) * (own_inv (-49064778989728563 : Int64)))), .second] [(.long ((own_us ((own_us q1) * (own_inv (-4265267296055464877 : Int64)))) * (own_inv (-49064778989728563 : Int64))))])) t → Steps p.tables e below (s₁.setTop (entryFrame m #[(.long q1)] 4)) t := fun t kt => pr8 t (by
    refine st7 _ ?_
    show Steps p.tables e below (T7.setTop (mkF m 26 #[.val (.long q1), .second, .val (.long (own_us ((own_us q1) * (own_inv (-4265267296055464877 : Int64))))), .second] [(.long (own_inv (-49064778989728563 : Int64))), (.long (own_us ((own_us q1) * (own_inv (-4265267296055464877 : Int64)))))])) _
    refine XS.lmul X7.here hx rfl (hb hby d_unm_26) rfl ?_
    show Steps p.tables e below (T7.setTop (mkF m 27 #[.val (.long q1), .second, .val (.long (own_us ((own_us q1) * (own_inv (-4265267296055464877 : Int64))))), .second] [(.long ((own_us ((own_us q1) * (own_inv (-4265267296055464877 : Int64)))) * (own_inv (-49064778989728563 : Int64))))])) _
    refine XS.lstoreN X7.here hx rfl (hb hby d_unm_27) rfl (l' := #[.val (.long q1), .second, .val (.long ((own_us ((own_us q1) * (own_inv (-4265267296055464877 : Int64)))) * (own_inv (-49064778989728563 : Int64)))), .second]) rfl ?_
    show Steps p.tables e below (T7.setTop (mkF m 28 #[.val (.long q1), .second, .val (.long ((own_us ((own_us q1) * (own_inv (-4265267296055464877 : Int64)))) * (own_inv (-49064778989728563 : Int64)))), .second] [])) _
    refine XS.lloadN X7.here hx rfl (hb hby d_unm_28) rfl ?_
    show Steps p.tables e below (T7.setTop (mkF m 29 #[.val (.long q1), .second, .val (.long ((own_us ((own_us q1) * (own_inv (-4265267296055464877 : Int64)))) * (own_inv (-49064778989728563 : Int64)))), .second] [(.long ((own_us ((own_us q1) * (own_inv (-4265267296055464877 : Int64)))) * (own_inv (-49064778989728563 : Int64))))])) _
    exact kt)
  obtain ⟨_, _, ⟨T9, L9, k9, n9⟩, -, X9, ⟨Lc9, hQ9, l9, y9, z9⟩, st9⟩ := Jvm.LawKit.callS X7 hx (y := (⟨"com/example/fixpoint/fixpoint/engine/RowKeyMixPinLaw", "unshift", "(J)J"⟩ : MethodName)) hown (mvT hZ (hw _ (List.mem_of_getElem? (i := 10) rfl))) (mvT hZ (hw _ (List.mem_of_getElem? (i := 11) rfl))) (mvT hZ (hw _ (List.mem_of_getElem? (i := 8) rfl))) (mvT hZ (hw _ (List.mem_of_getElem? (i := 12) rfl))) (by decide) (backOf (W := 0) (rm_ush l Z a0 hw [] ((own_us ((own_us q1) * (own_inv (-4265267296055464877 : Int64)))) * (own_inv (-49064778989728563 : Int64))) h0 n0 Z0 ) hZ (hw _ (List.mem_of_getElem? (i := 12) rfl)) (hw _ (List.mem_of_getElem? (i := 8) rfl)) (by decide) (by decide)) (g := (mkF m 29 #[.val (.long q1), .second, .val (.long ((own_us ((own_us q1) * (own_inv (-4265267296055464877 : Int64)))) * (own_inv (-49064778989728563 : Int64)))), .second] [(.long ((own_us ((own_us q1) * (own_inv (-4265267296055464877 : Int64)))) * (own_inv (-49064778989728563 : Int64))))])) rfl (by rw [hml]; rfl) (argsL := [(.long ((own_us ((own_us q1) * (own_inv (-4265267296055464877 : Int64)))) * (own_inv (-49064778989728563 : Int64))))]) (rest := []) (lenOf pd_unm_0 rfl) rfl (by show 2 * 0 + _ ≤ _; exact Nat.le_of_eq rfl) (hb hby d_unm_29) (fun _ _ => ⟨rfl, e7, (by decide : 0 + 0 ≤ _), (by decide : 0 + 0 ≤ _)⟩)
  dsimp only [Pt.U, Pt.locs, Pt.cells, Pt.slots] at X9 l9 y9 z9 st9 hQ9
  subst l9 y9 z9
  obtain ⟨rfl, N9q, e9⟩ := hQ9
  have N9 := Fr.app N7 N9q
  obtain ⟨fs, hr, hrun, hended, hW, hsame⟩ := X9.leave (v := some (.long (own_unmix q1))) (fun h => by rw [Bd.returns] at h; cases h)
  refine ⟨_, _, pr10 _ ?_, hrun, hended, _, _, rfl, ?_, ⟨_, rfl⟩, hW, hsame.mono (by decide) (by decide)⟩
  · refine st9 _ ?_
    show Steps p.tables e below (T9.setTop (mkF m 32 #[.val (.long q1), .second, .val (.long ((own_us ((own_us q1) * (own_inv (-4265267296055464877 : Int64)))) * (own_inv (-49064778989728563 : Int64)))), .second] [(.long (own_unmix q1))])) _
    exact X9.lreturnOut hx Bd.returns (hb hby d_unm_32) hr
  · show Q_unm Z q1 h0 n0 _ T9.heap _
    rw [e9]
    exact ⟨rfl, N9, rfl⟩
theorem pn_law : plainName "com/example/fixpoint/fixpoint/engine/RowKeyMixPinLaw" = true := by first | (simp [plainName, overriddenIn]; done) | decide +kernel
theorem pd_law_0 : parseMethodDescriptor "(J)J" = some ⟨[.long], some .long⟩ := by decide +kernel
theorem ef_law (m : MethodId) (q1 : Int64) : entryFrame m #[(.long q1)] maxLocals = mkF m 0 #[.val (.long q1), .second, .unset, .unset] [] := by first | (simp [entryFrame, mkF, argsToLocals, Value.category, maxLocals]; done) | rfl
def Q_law (Z : State) (q1 : Int64) (h0 : Heap) (n0 : Nat) (v : Option Value) (h : Heap) (L : List Loc) : Prop := v = some (.int (1 : Int32)) ∧ Fr n0 L
set_option maxRecDepth 65536 in
set_option maxHeartbeats 40000000 in
theorem rm_law (l : Launch) (Z : State) (a0 : Array Value) (hw : ∀ d ∈ tables_1, d.before a0 Z = true) (ws : List Jvm.Cond) (q1 : Int64) (h0 : Heap) (n0 : Nat) (Z0 : n0 ≤ h0.size) :
    MetFree l x (head1 (Jvm.Cond.code x code maxLocals ret :: ws) room_1) (fun a U => a = #[(.long q1)] ∧ Z.Warmed39 U.vm ∧ U.heap = h0) (fun _ _ _ _ _ => True) (fun _ U o U' => ∃ v L, o = .returned v ∧ Q_law Z q1 h0 n0 v U'.heap L ∧ FrameEnd U o U' L room_1.cells room_1.slots) := by
  refine MetFree.of_bodySF (plainFor_of_name pn_law) hisR ?_
  intro p e s m args below meth c s₁ Bd hml0 hP hK
  obtain ⟨rfl, hZ, hh⟩ := hP
  have hx := Bd.exec
  have hby := Bd.bytes
  have hml : c.maxLocals = 4 := hml0
  have hown : s.vm.findClass "com/example/fixpoint/fixpoint/engine/RowKeyMixPinLaw" = some m.cls := findClass_of_methodNamed Bd.named
  have hnm := (name_of_methodNamed Bd.named Bd.method).1
  have X0 : Stand p l e room_1 s m #[(.long q1)] below meth c s₁ [] 0 0 := Stand.of_body Bd
  have e0 : s₁.heap = h0 := by rw [← hh, Bd.state]; rfl
  have N0 := Fr.nil n0
  have pre0 : ∀ t, Steps p.tables e below (s₁.setTop (mkF m 0 #[.val (.long q1), .second, .unset, .unset] [])) t → Steps p.tables e below (s₁.setTop (entryFrame m #[(.long q1)] maxLocals)) t := fun t k => castTop (ef_law m q1) k
  have pr2 : ∀ t, Steps p.tables e below (s₁.setTop (mkF m 1 #[.val (.long q1), .second, .unset, .unset] [(.long q1)])) t → Steps p.tables e below (s₁.setTop (entryFrame m #[(.long q1)] maxLocals)) t := fun t kt => pre0 t (by
    show Steps p.tables e below (s₁.setTop (mkF m 0 #[.val (.long q1), .second, .unset, .unset] [])) _
    refine XS.lloadN X0.here hx rfl (hb hby at_0) rfl ?_
    show Steps p.tables e below (s₁.setTop (mkF m 1 #[.val (.long q1), .second, .unset, .unset] [(.long q1)])) _
    exact kt)
  obtain ⟨_, _, ⟨T1, L1, k1, n1⟩, -, X1, ⟨Lc1, hQ1, l1, y1, z1⟩, st1⟩ := Jvm.LawKit.callS X0 hx (y := (⟨"com/example/fixpoint/fixpoint/engine/RowKey", "mix", "(J)J"⟩ : MethodName)) hown (mvT hZ (hw _ (List.mem_of_getElem? (i := 0) rfl))) (mvT hZ (hw _ (List.mem_of_getElem? (i := 1) rfl))) (mvT hZ (hw _ (List.mem_of_getElem? (i := 2) rfl))) (mvT hZ (hw _ (List.mem_of_getElem? (i := 3) rfl))) (by decide) (backOf (W := 0) (rm_mix l Z a0 hw [] q1 h0 n0 Z0 ) hZ (hw _ (List.mem_of_getElem? (i := 3) rfl)) (hw _ (List.mem_of_getElem? (i := 2) rfl)) (by decide) (by decide)) (g := (mkF m 1 #[.val (.long q1), .second, .unset, .unset] [(.long q1)])) rfl (by rw [hml]; rfl) (argsL := [(.long q1)]) (rest := []) (lenOf pd_law_0 rfl) rfl (by show 2 * 0 + _ ≤ _; exact Nat.le_of_eq rfl) (hb hby at_1) (fun _ _ => ⟨rfl, e0, (by decide : 0 + 0 ≤ _), (by decide : 0 + 0 ≤ _)⟩)
  dsimp only [Pt.U, Pt.locs, Pt.cells, Pt.slots] at X1 l1 y1 z1 st1 hQ1
  subst l1 y1 z1
  obtain ⟨rfl, N1q, e1⟩ := hQ1
  have N1 := Fr.app N0 N1q
  have pr4 : ∀ t, Steps p.tables e below (T1.setTop (mkF m 6 #[.val (.long q1), .second, .val (.long (own_mix q1)), .second] [(.long (own_mix q1))])) t → Steps p.tables e below (s₁.setTop (entryFrame m #[(.long q1)] maxLocals)) t := fun t kt => pr2 t (by
    refine st1 _ ?_
    show Steps p.tables e below (T1.setTop (mkF m 4 #[.val (.long q1), .second, .unset, .unset] [(.long (own_mix q1))])) _
    refine XS.lstoreN X1.here hx rfl (hb hby at_4) rfl (l' := #[.val (.long q1), .second, .val (.long (own_mix q1)), .second]) rfl ?_
    show Steps p.tables e below (T1.setTop (mkF m 5 #[.val (.long q1), .second, .val (.long (own_mix q1)), .second] [])) _
    refine XS.lloadN X1.here hx rfl (hb hby at_5) rfl ?_
    show Steps p.tables e below (T1.setTop (mkF m 6 #[.val (.long q1), .second, .val (.long (own_mix q1)), .second] [(.long (own_mix q1))])) _
    exact kt)
  obtain ⟨_, _, ⟨T3, L3, k3, n3⟩, -, X3, ⟨Lc3, hQ3, l3, y3, z3⟩, st3⟩ := Jvm.LawKit.callS X1 hx (y := (⟨"com/example/fixpoint/fixpoint/engine/RowKeyMixPinLaw", "unmix", "(J)J"⟩ : MethodName)) hown (mvT hZ (hw _ (List.mem_of_getElem? (i := 6) rfl))) (mvT hZ (hw _ (List.mem_of_getElem? (i := 7) rfl))) (mvT hZ (hw _ (List.mem_of_getElem? (i := 8) rfl))) (mvT hZ (hw _ (List.mem_of_getElem? (i := 9) rfl))) (by decide) (backOf (W := 0) (rm_unm l Z a0 hw [] (own_mix q1) h0 n0 Z0 ) hZ (hw _ (List.mem_of_getElem? (i := 9) rfl)) (hw _ (List.mem_of_getElem? (i := 8) rfl)) (by decide) (by decide)) (g := (mkF m 6 #[.val (.long q1), .second, .val (.long (own_mix q1)), .second] [(.long (own_mix q1))])) rfl (by rw [hml]; rfl) (argsL := [(.long (own_mix q1))]) (rest := []) (lenOf pd_law_0 rfl) rfl (by show 2 * 0 + _ ≤ _; exact Nat.le_of_eq rfl) (hb hby at_6) (fun _ _ => ⟨rfl, e1, (by decide : 0 + 0 ≤ _), (by decide : 0 + 0 ≤ _)⟩)
  dsimp only [Pt.U, Pt.locs, Pt.cells, Pt.slots] at X3 l3 y3 z3 st3 hQ3
  subst l3 y3 z3
  obtain ⟨rfl, N3q, e3⟩ := hQ3
  have N3 := Fr.app N1 N3q
  obtain ⟨fs, hr, hrun, hended, hW, hsame⟩ := X3.leave (v := some (.int (nar .boolean (1 : Int32)))) (fun h => by rw [Bd.returns] at h; cases h)
  refine ⟨_, _, pr4 _ ?_, hrun, hended, _, _, rfl, ?_, ⟨_, rfl⟩, hW, hsame.mono (by decide) (by decide)⟩
  · refine st3 _ ?_
    show Steps p.tables e below (T3.setTop (mkF m 9 #[.val (.long q1), .second, .val (.long (own_mix q1)), .second] [(.long (own_unmix (own_mix q1)))])) _
    refine XS.lloadN X3.here hx rfl (hb hby at_9) rfl ?_
    show Steps p.tables e below (T3.setTop (mkF m 10 #[.val (.long q1), .second, .val (.long (own_mix q1)), .second] [(.long q1), (.long (own_unmix (own_mix q1)))])) _
    refine XS.lcmp X3.here hx rfl (hb hby at_10) rfl ?_
    show Steps p.tables e below (T3.setTop (mkF m 11 #[.val (.long q1), .second, .val (.long (own_mix q1)), .second] [(.int (lcmpW (own_unmix (own_mix q1)) q1))])) _
    refine XS.ifNo X3.here hx rfl (hb hby at_11) rfl ((if0 _ _).trans (teq ((lw_eq _ _).mpr (own_undo q1 : (own_unmix (own_mix q1)) = q1))).2) ?_
    show Steps p.tables e below (T3.setTop (mkF m 14 #[.val (.long q1), .second, .val (.long (own_mix q1)), .second] [])) _
    refine XS.iconst X3.here hx rfl (hb hby at_14) ?_
    show Steps p.tables e below (T3.setTop (mkF m 15 #[.val (.long q1), .second, .val (.long (own_mix q1)), .second] [(.int (1 : Int32))])) _
    refine XS.goto X3.here hx rfl (pc0 := 15) (pc' := 19) rfl (hb hby at_15) (by decide) (by decide) ?_
    show Steps p.tables e below (T3.setTop (mkF m 19 #[.val (.long q1), .second, .val (.long (own_mix q1)), .second] [(.int (1 : Int32))])) _
    exact retN X3 hx (t := .boolean) Bd.returns (by simp) (hb hby at_19) hr
  · show Q_law Z q1 h0 n0 _ T3.heap _
    rw [e3]
    exact ⟨(congrArg (fun zz => some (Value.int zz)) (by rfl : nar .boolean (1 : Int32) = (1 : Int32))), N3⟩
set_option maxRecDepth 65536 in
set_option maxHeartbeats 40000000 in
theorem comes_1 {Post : Tables → Env → Array Value → State → Outcome → State → Prop} (hpost : ∀ tb e args s v u, (limb_1_1.after args s (.returned v) u = true ∧ limb_1_2.after args s (.returned v) u = true ∧ True) → FrameEnd s (.returned v) u (Jvm.fieldLocs frame_1_writes args s ++ Jvm.arrayLocs frame_1_arrays args s ++ Jvm.staticLocs frame_1_statics s) 0 0 → Post tb e args s (.returned v) u) :
    ArmFor flags0 classFile x code maxLocals ret World_1 tables_1 room_1 Calls_1 rest_1 Pre_1 Post := by
  intro l hfl _ _ p e ha hc hk s m args below hf hA hF happ hP
  obtain ⟨hcalls, hrest, hpre⟩ := hP
  obtain ⟨-, -, -, hnamed, -, -, -, hat⟩ := (Spec.applies_iff hf).mp happ
  obtain ⟨hg, hn⟩ := and_e (Cond.before_iff.mp (show (Jvm.Cond.and given_1 narrow_1).before args s = true from hpre))
  obtain ⟨hcount, hg1⟩ := and_e hg
  obtain ⟨w0, rfl⟩ : ∃ w0 : Value, args = #[w0] := by
    have hs : args.size = 1 := by simpa [Cond.value, given_1] using hcount
    obtain ⟨L⟩ := args
    match L, hs with
    | [w0], _ => exact ⟨w0, rfl⟩
  have hw := fun d (hd : d ∈ tables_1) => atoms_spec (ws := Jvm.Cond.code x code maxLocals ret :: tables_1) hat d (List.mem_cons_of_mem _ hd)
  obtain ⟨i0, ei0⟩ := isL_v hg1
  obtain rfl : w0 = (.long i0) := Option.some.inj ei0
  obtain ⟨n, o, h1, h2, h3, _, L, rfl, ⟨rfl, N⟩, hq⟩ := rm_law l s _ hw tables_1 i0 s.heap s.heap.size (Nat.le_refl _)  p e ha hc hk s m _ below hf ((Spec.applies_iff_loose hf).mp happ).1 ⟨rfl, State.Warmed39.refl s, rfl⟩ trivial
  refine ⟨n, _, h1, h2, h3, hpost _ _ _ _ _ _ ⟨Cond.after_iff.mpr rfl, Cond.after_iff.mpr (eq_i res_at (Term.int_eval (1)) rfl), trivial⟩ ⟨hq.1, hq.2.1, (hq.2.2.sift fun y hy => Or.inr (N y hy)).mono (by decide) (by decide)⟩⟩
theorem main_1_1 : Claimed_1_1 := comes_1 fun _ _ _ _ _ _ h hF => ⟨h.1, hF⟩
theorem main_1_2 : Claimed_1_2 := comes_1 fun _ _ _ _ _ _ h hF => ⟨h.2.1, hF⟩
end Jvm.Pilot.@@N@@
namespace Jvm.Pilot.@@N@@
open Jvm Jvm.ClassFile Sem Op Lib Jvm.Free Jvm.Stand Jvm.Pilot.@@N@@.Jvm.D
/-! MADE BY PROGRAM (witnessworld.py) out of the Statement's table words and the real class files: 7 classes; the members and pool entries that the words name. The judged class is class 1, her method 4. -/
namespace start1
open Jvm.ClassFile
def u (s : String) : CpInfo := .utf8 (stringToUtf16 s)
/-- a pool by its gaps: so many unusable entries, then the entry; so many at the end -/
def gap : Nat → List CpInfo → List CpInfo
  | 0, r => r
  | n + 1, r => .unusable :: gap n r
def poolList (es : List (Nat × CpInfo)) (last : Nat) : List CpInfo := es.foldr (fun e r => gap e.1 (e.2 :: r)) (gap last [])
def pool (es : List (Nat × CpInfo)) (last : Nat) : Array CpInfo := ⟨poolList es last⟩
def fileOf (pool : Array CpInfo) (this : Nat) (attrs : Array Attribute := #[]) (ms : Array MethodInfo := #[]) (fl : Nat := 33) (sup : Nat := 0) (ifs : Array Nat := #[]) (fds : Array FieldInfo := #[]) : ClassFile where
  minorVersion := 0
  majorVersion := 65
  constantPool := pool
  accessFlags := fl
  thisClass := this
  superClass := sup
  interfaces := ifs
  fields := fds
  methods := ms
  attributes := attrs
def plain (name : String) (sup : Option ClassId) : Class where
  name := name
  kind := .ordinary
  loader := none
  accessFlags := 33
  super := sup
  interfaces := #[]
  cf := none
  fields := #[]
  methods := #[]
  instanceTypes := #[]
  staticTypes := #[]
  resolved := #[]
  callSites := []
  init := .initialized
  statics := none
  mirror := none

def pool0 : Array CpInfo := pool [(5, u "<init>"), (0, u "()V"), (1, .class_ 10), (1, u "java/lang/Object")] 113

def k0m0 : Method := { name := "<init>", desc := "()V", sig := { parameters := [], returnType := none }, accessFlags := 1, code := none }
/-- java/lang/Object -/
def k0 : Class := { plain "java/lang/Object" none with
  accessFlags := 33
  interfaces := #[]
  cf := some (fileOf pool0 8 #[] #[{ accessFlags := 1, nameIndex := 5, descriptorIndex := 6, attributes := #[] }] 33 0 #[] #[])
  fields := #[]
  methods := #[k0m0]
  instanceTypes := #[]
  staticTypes := #[]
  resolved := Array.replicate 124 none
  statics := none }

def pool1 : Array CpInfo := pool [(2, .class_ 4), (1, u "java/lang/Object"), (0, u "<init>"), (0, u "()V"), (0, .long 2), (1, .methodref 10 11), (0, .class_ 12), (0, .nameAndType 13 14), (0, u "com/example/fixpoint/fixpoint/engine/RowKeyMixPinLaw"), (0, u "unshift"), (0, u "(J)J"), (0, .long 14181476777654086739), (1, .methodref 10 18), (0, .nameAndType 19 14), (0, u "inverse"), (0, .long 18397679294719823053), (1, .methodref 23 24), (0, .class_ 25), (0, .nameAndType 26 14), (0, u "com/example/fixpoint/fixpoint/engine/RowKey"), (0, u "mix"), (0, .methodref 10 28), (0, .nameAndType 29 14), (0, u "unmix"), (2, u "law"), (0, u "(J)Z")] 3

def k1m0 : Method := { name := "<init>", desc := "()V", sig := { parameters := [], returnType := none }, accessFlags := 2, code := none }
def k1c1 : Code := { maxStack := 8, maxLocals := 4, code := method_2_code, exceptionTable := #[], attributes := #[] }
def k1m1 : Method := { name := "inverse", desc := "(J)J", sig := { parameters := [.long], returnType := some .long }, accessFlags := 10, code := some k1c1 }
def k1c2 : Code := { maxStack := 5, maxLocals := 2, code := method_3_code, exceptionTable := #[], attributes := #[] }
def k1m2 : Method := { name := "unshift", desc := "(J)J", sig := { parameters := [.long], returnType := some .long }, accessFlags := 10, code := some k1c2 }
def k1c3 : Code := { maxStack := 4, maxLocals := 4, code := method_4_code, exceptionTable := #[], attributes := #[] }
def k1m3 : Method := { name := "unmix", desc := "(J)J", sig := { parameters := [.long], returnType := some .long }, accessFlags := 10, code := some k1c3 }
def k1c4 : Code := { maxStack := 4, maxLocals := 4, code := code, exceptionTable := #[], attributes := #[] }
def k1m4 : Method := { name := "law", desc := "(J)Z", sig := { parameters := [.long], returnType := some .boolean }, accessFlags := 9, code := some k1c4 }
/-- com/example/fixpoint/fixpoint/engine/RowKeyMixPinLaw -/
def k1 : Class := { plain "com/example/fixpoint/fixpoint/engine/RowKeyMixPinLaw" (some 0) with
  accessFlags := 49
  interfaces := #[]
  cf := some (fileOf pool1 10 #[] #[{ accessFlags := 2, nameIndex := 5, descriptorIndex := 6, attributes := #[] }, { accessFlags := 10, nameIndex := 19, descriptorIndex := 14, attributes := #[] }, { accessFlags := 10, nameIndex := 13, descriptorIndex := 14, attributes := #[] }, { accessFlags := 10, nameIndex := 29, descriptorIndex := 14, attributes := #[] }, { accessFlags := 9, nameIndex := 32, descriptorIndex := 33, attributes := #[] }] 49 2 #[] #[])
  fields := #[]
  methods := #[k1m0, k1m1, k1m2, k1m3, k1m4]
  instanceTypes := #[]
  staticTypes := #[]
  resolved := Array.replicate 37 none
  statics := none }

def pool2 : Array CpInfo := pool [(2, .class_ 4), (1, u "java/lang/Object"), (3, .class_ 10), (1, u "com/example/fixpoint/fixpoint/engine/RowKey"), (0, u "values"), (0, u "[Ljava/lang/Object;"), (2, u "hash"), (3, u "I"), (43, .long 18397679294719823053), (1, .long 14181476777654086739), (1, u "BYTES"), (14, u "mix"), (0, u "(J)J")] 2

def k2c0 : Code := { maxStack := 5, maxLocals := 4, code := prog_108_method_9_code, exceptionTable := #[], attributes := #[] }
def k2m0 : Method := { name := "mix", desc := "(J)J", sig := { parameters := [.long], returnType := some .long }, accessFlags := 8, code := some k2c0 }
/-- com/example/fixpoint/fixpoint/engine/RowKey -/
def k2 : Class := { plain "com/example/fixpoint/fixpoint/engine/RowKey" (some 0) with
  accessFlags := 32
  interfaces := #[]
  cf := some (fileOf pool2 8 #[] #[{ accessFlags := 8, nameIndex := 82, descriptorIndex := 83, attributes := #[] }] 32 2 #[] #[{ accessFlags := 24, nameIndex := 67, descriptorIndex := 19, attributes := #[] }, { accessFlags := 18, nameIndex := 11, descriptorIndex := 12, attributes := #[] }, { accessFlags := 18, nameIndex := 15, descriptorIndex := 19, attributes := #[] }])
  fields := #[{ name := "BYTES", type := .int, accessFlags := 24, slot := 0, constantValue := 0 }, { name := "values", type := (.array (.object "java/lang/Object")), accessFlags := 18, slot := 0, constantValue := 0 }, { name := "hash", type := .int, accessFlags := 18, slot := 1, constantValue := 0 }]
  methods := #[k2m0]
  instanceTypes := #[(.array (.object "java/lang/Object")), .int]
  staticTypes := #[.int]
  resolved := Array.replicate 86 none
  statics := none }

def pool3 : Array CpInfo := pool [(1, u "java/lang/Cloneable"), (0, .class_ 1), (0, u "java/lang/Object"), (0, .class_ 3)] 3

/-- java/lang/Cloneable -/
def k3 : Class := { plain "java/lang/Cloneable" (some 0) with
  accessFlags := 1537
  interfaces := #[]
  cf := some (fileOf pool3 2 #[] #[] 1537 4 #[] #[])
  fields := #[]
  methods := #[]
  instanceTypes := #[]
  staticTypes := #[]
  resolved := Array.replicate 8 none
  statics := none }

def pool4 : Array CpInfo := pool [(1, u "java/io/Serializable"), (0, .class_ 1), (0, u "java/lang/Object"), (0, .class_ 3)] 3

/-- java/io/Serializable -/
def k4 : Class := { plain "java/io/Serializable" (some 0) with
  accessFlags := 1537
  interfaces := #[]
  cf := some (fileOf pool4 2 #[] #[] 1537 4 #[] #[])
  fields := #[]
  methods := #[]
  instanceTypes := #[]
  staticTypes := #[]
  resolved := Array.replicate 8 none
  statics := none }

/-- the primitive byte -/
def k5 : Class := { plain "byte" none with kind := .primitive 'B', accessFlags := 0x411 }
/-- [B -/
def k6 : Class := { plain "[B" (some 0) with kind := .array 5 .byte, interfaces := #[3, 4], accessFlags := 1041 }

def heap : Heap := #[]
def classes : Array Class := #[k0, k1, k2, k3, k4, k5, k6]
def interned : List (Array UInt16 × Addr) := []
def slotsUsed : Nat := 0
def theMethod : MethodId := ⟨1, 4⟩
def args0 : Array Value := #[.long 5]
def aboutOver (below : List Frame) : State where
  vm := { classes := classes, interned := interned.toArray }
  heap := heap
  slotsUsed := slotsUsed
  threads := #[{ frames := .invoking theMethod args0 :: below }]
def below0 : List Frame := [.native { method := ⟨0, 0⟩, args := #[] }]
def about1 : State := aboutOver below0
def p0 : Program := .bare "" "" ""
def e0 : Env := launch0.env 0 0 0
theorem w_frames : about1.frames = Frame.invoking theMethod args0 :: below0 := rfl
set_option maxRecDepth 65536 in
theorem w_args : argsFit about1.vm theMethod args0 = true := by decide +kernel
set_option maxRecDepth 65536 in
theorem w_heap : heapFits about1 = true := by decide +kernel
set_option maxRecDepth 65536 in
theorem w_runnable : about1.curStatus? = some .runnable := by decide +kernel
set_option maxRecDepth 65536 in
theorem w_alone : about1.alone = true := by decide +kernel
set_option maxRecDepth 65536 in
theorem w_named : about1.methodNamed? x = some theMethod := by decide +kernel
set_option maxRecDepth 65536 in
theorem w_hears : about1.hears theMethod below0 = true := by decide +kernel
set_option maxRecDepth 65536 in
theorem w_ripe : about1.ripe theMethod args0 below0 = true := by decide +kernel
theorem w_running : about1.status = .running := rfl
set_option maxRecDepth 65536 in
theorem w_room : about1.hasRoom e0.platform room_1 = true :=
  launch0.hasRoom_least _ room_1 (by decide +kernel) (by decide +kernel) (by decide +kernel) (by decide +kernel) (by decide +kernel) (by decide +kernel)
theorem allAtoms_all (ts : List Jvm.Cond) (a : Array Jvm.Value) (st : Jvm.State) : (allAtoms ts).before a st = ts.all (fun c => c.before a st) := by
  induction ts with
  | nil => rfl
  | cons c t ih =>
    show (Jvm.Cond.and c (allAtoms t)).before a st = _
    rw [Jvm.Cond.before_and, ih, List.all_cons]
def words1 : List Jvm.Cond := Jvm.Cond.code x code maxLocals ret :: tables_1
/-- a 'code' word, met by the world's own term for the bytes: nothing is compared byte by byte -/
theorem code_word {y : MethodName} {bytes : ByteArray} {mx : Nat} {rt : Option FieldType} {a : Array Value} {s : State} {m : MethodId} {meth : Method} {c : Code} (h1 : s.methodNamed? y = some m) (h2 : s.vm.method? m = some meth) (h3 : meth.code = some c) (h4 : c.code = bytes)
    (h5 : (c.maxLocals == mx && c.exceptionTable.isEmpty && decide (c.maxStack ≤ mostOperands) && decide (meth.sig.returnType = rt) && !meth.locks && decide (parseMethodDescriptor y.desc = some meth.sig)) = true) : (Jvm.Cond.code y bytes mx rt).before a s = true := by
  simp only [Bool.and_eq_true, beq_iff_eq, Bool.not_eq_true', decide_eq_true_eq] at h5
  obtain ⟨⟨⟨⟨⟨g1, g2⟩, g3⟩, g4⟩, g5⟩, g6⟩ := h5
  simp [Cond.before, Cond.holds, Cond.value, h1, h2, h3, h4, g1, g2, g3, g4, g5, g6]
def isCode : Jvm.Cond → Bool
  | .code _ _ _ _ => true
  | _ => false
theorem all_split {L : List Jvm.Cond} {P : Jvm.Cond → Bool} (h1 : L.all (fun c => isCode c || P c) = true) (h2 : ∀ c ∈ L.filter isCode, P c = true) : L.all P = true := by
  refine List.all_eq_true.mpr fun c hc => ?_
  have h := List.all_eq_true.mp h1 c hc
  rcases Bool.eq_false_or_eq_true (isCode c) with hi | hi
  · exact h2 c (List.mem_filter.mpr ⟨hc, hi⟩)
  · simpa [hi] using h
set_option maxRecDepth 65536 in
theorem w_c0 : (Jvm.Cond.code x code maxLocals ret).before args0 about1 = true := code_word (m := ⟨1, 4⟩) (meth := k1m4) (c := k1c4) (by decide +kernel) rfl rfl rfl (by decide +kernel)
set_option maxRecDepth 65536 in
theorem w_c1 : (Jvm.Cond.code ({ cls := "com/example/fixpoint/fixpoint/engine/RowKey", name := "mix", desc := "(J)J" } : Jvm.MethodName) prog_108_method_9_code (4 : Nat) (Option.some Jvm.ClassFile.FieldType.long)).before args0 about1 = true := code_word (m := ⟨2, 0⟩) (meth := k2m0) (c := k2c0) (by decide +kernel) rfl rfl rfl (by decide +kernel)
set_option maxRecDepth 65536 in
theorem w_c2 : (Jvm.Cond.code ({ cls := "com/example/fixpoint/fixpoint/engine/RowKeyMixPinLaw", name := "unmix", desc := "(J)J" } : Jvm.MethodName) method_4_code (4 : Nat) (Option.some Jvm.ClassFile.FieldType.long)).before args0 about1 = true := code_word (m := ⟨1, 3⟩) (meth := k1m3) (c := k1c3) (by decide +kernel) rfl rfl rfl (by decide +kernel)
set_option maxRecDepth 65536 in
theorem w_c3 : (Jvm.Cond.code ({ cls := "com/example/fixpoint/fixpoint/engine/RowKeyMixPinLaw", name := "unshift", desc := "(J)J" } : Jvm.MethodName) method_3_code (2 : Nat) (Option.some Jvm.ClassFile.FieldType.long)).before args0 about1 = true := code_word (m := ⟨1, 2⟩) (meth := k1m2) (c := k1c2) (by decide +kernel) rfl rfl rfl (by decide +kernel)
set_option maxRecDepth 65536 in
theorem w_c4 : (Jvm.Cond.code ({ cls := "com/example/fixpoint/fixpoint/engine/RowKeyMixPinLaw", name := "inverse", desc := "(J)J" } : Jvm.MethodName) method_2_code (4 : Nat) (Option.some Jvm.ClassFile.FieldType.long)).before args0 about1 = true := code_word (m := ⟨1, 1⟩) (meth := k1m1) (c := k1c1) (by decide +kernel) rfl rfl rfl (by decide +kernel)
def codes1 : List Jvm.Cond := [Jvm.Cond.code x code maxLocals ret, Jvm.Cond.code ({ cls := "com/example/fixpoint/fixpoint/engine/RowKey", name := "mix", desc := "(J)J" } : Jvm.MethodName) prog_108_method_9_code (4 : Nat) (Option.some Jvm.ClassFile.FieldType.long), Jvm.Cond.code ({ cls := "com/example/fixpoint/fixpoint/engine/RowKeyMixPinLaw", name := "unmix", desc := "(J)J" } : Jvm.MethodName) method_4_code (4 : Nat) (Option.some Jvm.ClassFile.FieldType.long), Jvm.Cond.code ({ cls := "com/example/fixpoint/fixpoint/engine/RowKeyMixPinLaw", name := "unshift", desc := "(J)J" } : Jvm.MethodName) method_3_code (2 : Nat) (Option.some Jvm.ClassFile.FieldType.long), Jvm.Cond.code ({ cls := "com/example/fixpoint/fixpoint/engine/RowKeyMixPinLaw", name := "inverse", desc := "(J)J" } : Jvm.MethodName) method_2_code (4 : Nat) (Option.some Jvm.ClassFile.FieldType.long)]
set_option maxRecDepth 65536 in
theorem codes_eq : words1.filter isCode = codes1 := rfl
theorem w_codes : ∀ c ∈ words1.filter isCode, c.before args0 about1 = true := by
  rw [codes_eq]
  intro c hc
  simp only [codes1, List.mem_cons, List.not_mem_nil, or_false] at hc
  rcases hc with rfl | rfl | rfl | rfl | rfl
  · exact w_c0
  · exact w_c1
  · exact w_c2
  · exact w_c3
  · exact w_c4
set_option maxRecDepth 65536 in
theorem w_t1 : words1.all (fun c => isCode c || c.before args0 about1) = true := by decide +kernel
theorem w_tables : (allAtoms (Jvm.Cond.code x code maxLocals ret :: tables_1)).before args0 about1 = true := by
  rw [allAtoms_all]
  show words1.all (fun c => c.before args0 about1) = true
  refine all_split ?_ w_codes
  rw [w_t1]
set_option maxRecDepth 65536 in
theorem w_case : (Jvm.Cond.and given_1 narrow_1).before args0 about1 = true := by decide +kernel
theorem w_applies : (headSpec (Jvm.Cond.code x code maxLocals ret :: tables_1) room_1).applies x e0.platform about1 = true :=
  (Spec.applies_iff w_frames).mpr ⟨w_running, w_runnable, w_alone, w_named, w_hears, w_ripe, w_room, w_tables⟩
theorem atStart : AtStart classFile x code maxLocals ret World_1 tables_1 room_1 Calls_1 rest_1 Pre_1 launch0 p0 e0 about1 theMethod args0 below0 :=
  ⟨lists_1, trivial, launch0.admits_env _ _ _, launch0.least_env, fairChoices_fair.cas, fairChoices_fair.clock, w_frames, w_args, w_heap, w_applies, trivial, trivial, w_case⟩
end start1
theorem witness_1 : WitnessClaimed_1 := ⟨start1.p0, start1.e0, start1.about1, start1.theMethod, start1.args0, start1.below0, start1.atStart⟩
end Jvm.Pilot.@@N@@
