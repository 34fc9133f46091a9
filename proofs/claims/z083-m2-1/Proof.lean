import JvmDerived
import JvmDerived.Pilot.@@N@@Statement
import JvmDerived.Pilot.@@N@@Code
set_option linter.unusedVariables false
set_option linter.unusedSimpArgs false
@@BLOCK:NumsL.lean.txt@@
namespace Jvm.RoadKit
open Sem ClassFile Op Lib Jvm.Stand Jvm.Free Jvm.LawKit
section New
variable {p : Program} {l : Launch} {e : Env} {R : Room} {s : State} {m : MethodId} {args : Array Value} {below : List Frame} {meth : Method} {c : Code} {T : State} {locs : List Loc} {cells slots : Nat}
theorem retI (X : Stand p l e R s m args below meth c T locs cells slots) (hx : p.tables.exec = Jvm.exec) {pc : Nat} {Ls : Array Slot} {z : Int32} {rest : List Value} (hret : meth.sig.returnType = some .int) (hd : decode c.code pc = .ok (.ireturn, 1)) {fs : List Frame}
    (hl : ∀ (f : JFrame) (acts : List Action), f.method = m → f.locked = none → f.entered = [] → (doReturn e (T.setTop f) acts (some (.int z))).1 = T.setFrames fs) : Steps p.tables e below (T.setTop (mkF m pc Ls (.int z :: rest))) (T.setFrames fs) := by
  have hm' : T.vm.method? m = some meth := X.method'
  have hn : narrow .int (.int z) = .int z := rfl
  show Steps p.tables e below (T.setTop { method := m, pc := pc, locals := Ls, stack := _ :: rest, locked := none }) _
  jvm_step X.here [X.here.top, hx, hd, hm', hret, hn]
  first | (intro acts; rw [hl _ acts rfl rfl rfl]) | rw [hl _ _ rfl rfl rfl]
  exact Steps.refl _
end New
end Jvm.RoadKit
namespace Jvm.Pilot.@@N@@
open Jvm Jvm.ClassFile Sem Op Lib Jvm.Free Jvm.Stand Jvm.LawKit Jvm.RoadKit Bundle Jvm.Pilot.@@N@@.Jvm.D

def own_share (q1 : Int64) (p2 : Int32) : Int64 := (((q1 / (100 : Int64)) * (p2.toInt64)) + ((((q1 - (q1 / (100 : Int64)) * (100 : Int64)) * (p2.toInt64)) + (99 : Int64)) / (100 : Int64)))
def own_p (p2 : Int32) : Int32 := ((1 : Int32) + ((p2 &&& (2147483647 : Int32)) - ((p2 &&& (2147483647 : Int32)) / (100 : Int32)) * (100 : Int32)))
theorem own_p_bounds (p2 : Int32) : 1 ≤ (own_p p2).toInt ∧ (own_p p2).toInt ≤ 100 := by
  have em : (p2 &&& (2147483647 : Int32)).toInt = p2.toInt % 2 ^ 31 := Jvm.Kit.i32_mask p2 (2147483647 : Int32) (k := 31) (by decide) (by decide)
  have e1 : (1 : Int32).toInt = 1 := by decide
  have e100 : (100 : Int32).toInt = 100 := by decide
  have er : ((p2 &&& (2147483647 : Int32)) - ((p2 &&& (2147483647 : Int32)) / (100 : Int32)) * (100 : Int32)).toInt = (p2.toInt % 2 ^ 31) % 100 := by
    rw [irem_eq_mod, Jvm.Kit.i32_rem_nonneg (by omega), em, e100]
  unfold own_p
  rw [Jvm.Kit.i32_add (by rw [er, e1]; omega) (by rw [er, e1]; omega), er, e1]
  omega
theorem own_b_nonneg (q1 : Int64) : 0 ≤ (q1 &&& (9223372036854775807 : Int64)).toInt := by
  have em : (q1 &&& (9223372036854775807 : Int64)).toInt = q1.toInt % 2 ^ 63 := Jvm.Kit.i64_mask q1 (9223372036854775807 : Int64) (k := 63) (by decide) (by decide)
  omega
/-- the share, its parts, and the two differences, as plain integers -/
theorem own_ints (b : Int64) (p : Int32) (hb : 0 ≤ b.toInt) (hp : 1 ≤ p.toInt ∧ p.toInt ≤ 100) :
    (own_share b p - ((b / (100 : Int64)) * p.toInt64)).toInt = ((b.toInt % 100) * p.toInt + 99) / 100 ∧
    (((100 : Int64) * own_share b p) - (b * p.toInt64)).toInt = 100 * (((b.toInt % 100) * p.toInt + 99) / 100) - (b.toInt % 100) * p.toInt ∧
    0 ≤ (b.toInt % 100) * p.toInt ∧ (b.toInt % 100) * p.toInt ≤ 100 * (b.toInt % 100) := by
  have b2 := b.toInt_lt
  have p64 : p.toInt64.toInt = p.toInt := Jvm.Kit.i64_of_i32 p
  have e100 : (100 : Int64).toInt = 100 := by decide
  have e99 : (99 : Int64).toInt = 99 := by decide
  have dq : (b / (100 : Int64)).toInt = b.toInt / 100 := by
    rw [Jvm.Kit.i64_div (by rw [e100]; omega), e100, Int.tdiv_eq_ediv_of_nonneg (by omega)]
  have dr : (b - (b / (100 : Int64)) * (100 : Int64)).toInt = b.toInt % 100 := by
    rw [Jvm.Kit.i64_rem_nonneg (by omega), e100]
  have q0 : 0 ≤ b.toInt / 100 := by omega
  have r0 : 0 ≤ b.toInt % 100 := by omega
  have m0 : 0 ≤ (b.toInt / 100) * p.toInt := Int.mul_nonneg q0 (by omega)
  have m1 : (b.toInt / 100) * p.toInt ≤ (b.toInt / 100) * 100 := Int.mul_le_mul_of_nonneg_left hp.2 q0
  have k0 : 0 ≤ (b.toInt % 100) * p.toInt := Int.mul_nonneg r0 (by omega)
  have k1 : (b.toInt % 100) * p.toInt ≤ (b.toInt % 100) * 100 := Int.mul_le_mul_of_nonneg_left hp.2 r0
  have f1 : ((b / (100 : Int64)) * p.toInt64).toInt = (b.toInt / 100) * p.toInt := by
    rw [Jvm.Kit.i64_mul (by rw [dq, p64]; omega) (by rw [dq, p64]; omega), dq, p64]
  have f2 : ((b - (b / (100 : Int64)) * (100 : Int64)) * p.toInt64).toInt = (b.toInt % 100) * p.toInt := by
    rw [Jvm.Kit.i64_mul (by rw [dr, p64]; omega) (by rw [dr, p64]; omega), dr, p64]
  have f3 : (((b - (b / (100 : Int64)) * (100 : Int64)) * p.toInt64) + (99 : Int64)).toInt = (b.toInt % 100) * p.toInt + 99 := by
    rw [Jvm.Kit.i64_add (by rw [f2, e99]; omega) (by rw [f2, e99]; omega), f2, e99]
  have f4 : ((((b - (b / (100 : Int64)) * (100 : Int64)) * p.toInt64) + (99 : Int64)) / (100 : Int64)).toInt = ((b.toInt % 100) * p.toInt + 99) / 100 := by
    rw [Jvm.Kit.i64_div (by rw [f3, e100]; omega), f3, e100, Int.tdiv_eq_ediv_of_nonneg (by omega)]
  have f5 : (own_share b p).toInt = (b.toInt / 100) * p.toInt + ((b.toInt % 100) * p.toInt + 99) / 100 := by
    unfold own_share
    rw [Jvm.Kit.i64_add (by rw [f1, f4]; omega) (by rw [f1, f4]; omega), f1, f4]
  refine ⟨?_, ?_, k0, by omega⟩
  · rw [Jvm.Kit.i64_sub (by rw [f5, f1]; omega) (by rw [f5, f1]; omega), f5, f1]; omega
  · have hbp : b.toInt * p.toInt = 100 * ((b.toInt / 100) * p.toInt) + (b.toInt % 100) * p.toInt := by
      have e : b.toInt = 100 * (b.toInt / 100) + b.toInt % 100 := by omega
      calc b.toInt * p.toInt = (100 * (b.toInt / 100) + b.toInt % 100) * p.toInt := by rw [← e]
        _ = 100 * ((b.toInt / 100) * p.toInt) + (b.toInt % 100) * p.toInt := by rw [Int.add_mul, Int.mul_assoc]
    rw [Int64.toInt_sub, Int64.toInt_mul, Int64.toInt_mul, e100, p64, f5, Int.sub_bmod_bmod, Int.bmod_sub_bmod, hbp]
    rw [show 100 * (b.toInt / 100 * p.toInt + (b.toInt % 100 * p.toInt + 99) / 100) - (100 * (b.toInt / 100 * p.toInt) + b.toInt % 100 * p.toInt) = 100 * (((b.toInt % 100) * p.toInt + 99) / 100) - (b.toInt % 100) * p.toInt by omega]
    exact Jvm.Kit.bmod64 (by omega) (by omega)
theorem own_laws (q1 : Int64) (p2 : Int32) : ¬ (lcmpW ((own_share (q1 &&& (9223372036854775807 : Int64)) (own_p p2)) - (((q1 &&& (9223372036854775807 : Int64)) / (100 : Int64)) * ((own_p p2).toInt64))) (0 : Int64) < (0 : Int32)) ∧ ¬ ((0 : Int32) < lcmpW ((own_share (q1 &&& (9223372036854775807 : Int64)) (own_p p2)) - (((q1 &&& (9223372036854775807 : Int64)) / (100 : Int64)) * ((own_p p2).toInt64))) (100 : Int64)) ∧ ¬ (lcmpW (((100 : Int64) * (own_share (q1 &&& (9223372036854775807 : Int64)) (own_p p2))) - ((q1 &&& (9223372036854775807 : Int64)) * ((own_p p2).toInt64))) (0 : Int64) < (0 : Int32)) ∧ lcmpW (((100 : Int64) * (own_share (q1 &&& (9223372036854775807 : Int64)) (own_p p2))) - ((q1 &&& (9223372036854775807 : Int64)) * ((own_p p2).toInt64))) (100 : Int64) < (0 : Int32) := by
  have e0 : (0 : Int64).toInt = 0 := by decide
  have e100 : (100 : Int64).toInt = 100 := by decide
  obtain ⟨h1, h2, h3, h4⟩ := own_ints (q1 &&& (9223372036854775807 : Int64)) (own_p p2) (own_b_nonneg q1) (own_p_bounds p2)
  rw [lw_lt, lw_gt, lw_lt, lw_lt, Int64.lt_iff_toInt_lt, Int64.lt_iff_toInt_lt, Int64.lt_iff_toInt_lt, Int64.lt_iff_toInt_lt, h1, h2, e0, e100]
  omega
theorem d1_0 : decode prog_18_method_4_code 0 = .ok (.lload_n 0, 1) := by decide +kernel
theorem d1_1 : decode prog_18_method_4_code 1 = .ok (.ldc2_w 20, 3) := by decide +kernel
theorem d1_4 : decode prog_18_method_4_code 4 = .ok (.ldiv, 1) := by decide +kernel
theorem d1_5 : decode prog_18_method_4_code 5 = .ok (.iload_n 2, 1) := by decide +kernel
theorem d1_6 : decode prog_18_method_4_code 6 = .ok (.i2l, 1) := by decide +kernel
theorem d1_7 : decode prog_18_method_4_code 7 = .ok (.lmul, 1) := by decide +kernel
theorem d1_8 : decode prog_18_method_4_code 8 = .ok (.lload_n 0, 1) := by decide +kernel
theorem d1_9 : decode prog_18_method_4_code 9 = .ok (.ldc2_w 20, 3) := by decide +kernel
theorem d1_12 : decode prog_18_method_4_code 12 = .ok (.lrem, 1) := by decide +kernel
theorem d1_13 : decode prog_18_method_4_code 13 = .ok (.iload_n 2, 1) := by decide +kernel
theorem d1_14 : decode prog_18_method_4_code 14 = .ok (.i2l, 1) := by decide +kernel
theorem d1_15 : decode prog_18_method_4_code 15 = .ok (.lmul, 1) := by decide +kernel
theorem d1_16 : decode prog_18_method_4_code 16 = .ok (.ldc2_w 22, 3) := by decide +kernel
theorem d1_19 : decode prog_18_method_4_code 19 = .ok (.ladd, 1) := by decide +kernel
theorem d1_20 : decode prog_18_method_4_code 20 = .ok (.ldc2_w 20, 3) := by decide +kernel
theorem d1_23 : decode prog_18_method_4_code 23 = .ok (.ldiv, 1) := by decide +kernel
theorem d1_24 : decode prog_18_method_4_code 24 = .ok (.ladd, 1) := by decide +kernel
theorem d1_25 : decode prog_18_method_4_code 25 = .ok (.lreturn, 1) := by decide +kernel
theorem pn_1 : plainName "com/example/consulta/consulta/uws/Budget" = true := by first | (simp [plainName, overriddenIn]; done) | decide +kernel
theorem ef_1 (m : MethodId) (x0 : Int64) (x1 : Int32) : entryFrame m #[(.long x0), (.int x1)] 3 = mkF m 0 #[.val (.long x0), .second, .val (.int x1)] [] := by first | (simp [entryFrame, mkF, argsToLocals, Value.category]; done) | rfl
def Q1 (Z : State) (q1 : Int64) (p2 : Int32) (h0 : Heap) (n0 : Nat) (v : Option Value) (h : Heap) (L : List Loc) : Prop := v = some (.long (own_share q1 p2)) ∧ Fr n0 L ∧ h = h0
set_option maxRecDepth 65536 in
set_option maxHeartbeats 40000000 in
theorem rm1 (l : Launch) (Z : State) (a0 : Array Value) (hw : ∀ d ∈ tables_1, d.before a0 Z = true) (ws : List Jvm.Cond) (q1 : Int64) (p2 : Int32) (h0 : Heap) (n0 : Nat) (Z0 : n0 ≤ h0.size) (hnz4 : ¬ ((100 : Int64) = (0 : Int64))) (hnz12 : ¬ ((100 : Int64) = (0 : Int64))) (hnz23 : ¬ ((100 : Int64) = (0 : Int64))) :
    MetFree l (⟨"com/example/consulta/consulta/uws/Budget", "shareOf", "(JI)J"⟩ : MethodName) (head1 (Jvm.Cond.code (⟨"com/example/consulta/consulta/uws/Budget", "shareOf", "(JI)J"⟩ : MethodName) prog_18_method_4_code 3 (some .long) :: ws) ({ frames := 0, cells := 0, slots := 0, locals := 0 } : Room)) (fun a U => a = #[(.long q1), (.int p2)] ∧ Z.Warmed39 U.vm ∧ U.heap = h0) (fun _ _ _ _ _ => True) (fun _ U o U' => ∃ v L, o = .returned v ∧ Q1 Z q1 p2 h0 n0 v U'.heap L ∧ FrameEnd U o U' L ({ frames := 0, cells := 0, slots := 0, locals := 0 } : Room).cells ({ frames := 0, cells := 0, slots := 0, locals := 0 } : Room).slots) := by
  refine MetFree.of_bodySF (plainFor_of_name pn_1) hisR ?_
  intro p e s m args below meth c s₁ Bd hml0 hP hK
  obtain ⟨rfl, hZ, hh⟩ := hP
  have hx := Bd.exec
  have hby := Bd.bytes
  have hml : c.maxLocals = 3 := hml0
  have hown : s.vm.findClass "com/example/consulta/consulta/uws/Budget" = some m.cls := findClass_of_methodNamed Bd.named
  have hnm := (name_of_methodNamed Bd.named Bd.method).1
  have X0 : Stand p l e ({ frames := 0, cells := 0, slots := 0, locals := 0 } : Room) s m #[(.long q1), (.int p2)] below meth c s₁ [] 0 0 := Stand.of_body Bd
  have e0 : s₁.heap = h0 := by rw [← hh, Bd.state]; rfl
  have N0 := Fr.nil n0
  have pre0 : ∀ t, Steps p.tables e below (s₁.setTop (mkF m 0 #[.val (.long q1), .second, .val (.int p2)] [])) t → Steps p.tables e below (s₁.setTop (entryFrame m #[(.long q1), (.int p2)] 3)) t := fun t k => castTop (ef_1 m q1 p2) k

  obtain ⟨fs, hr, hrun, hended, hW, hsame⟩ := X0.leave (v := some (.long (((q1 / (100 : Int64)) * (p2.toInt64)) + ((((q1 - (q1 / (100 : Int64)) * (100 : Int64)) * (p2.toInt64)) + (99 : Int64)) / (100 : Int64))))) (fun h => by rw [Bd.returns] at h; cases h)
  refine ⟨_, _, pre0 _ ?_, hrun, hended, _, _, rfl, ?_, ⟨_, rfl⟩, hW, hsame.mono (by decide) (by decide)⟩
  · show Steps p.tables e below (s₁.setTop (mkF m 0 #[.val (.long q1), .second, .val (.int p2)] [])) _
    refine XS.lloadN X0.here hx rfl (hb hby d1_0) rfl ?_
    show Steps p.tables e below (s₁.setTop (mkF m 1 #[.val (.long q1), .second, .val (.int p2)] [(.long q1)])) _
    refine X0.ldc2Long hx hown (mvT hZ (hw _ (List.mem_of_getElem? (i := 6) rfl))) (g := (mkF m 1 #[.val (.long q1), .second, .val (.int p2)] [(.long q1)])) rfl (hb hby d1_1) _ ?_
    show Steps p.tables e below (s₁.setTop (mkF m 4 #[.val (.long q1), .second, .val (.int p2)] [(.long (100 : Int64)), (.long q1)])) _
    refine XS.ldiv X0.here hx rfl (hb hby d1_4) rfl hnz4 ?_
    show Steps p.tables e below (s₁.setTop (mkF m 5 #[.val (.long q1), .second, .val (.int p2)] [(.long (q1 / (100 : Int64)))])) _
    refine XS.iloadN X0.here hx rfl (hb hby d1_5) rfl ?_
    show Steps p.tables e below (s₁.setTop (mkF m 6 #[.val (.long q1), .second, .val (.int p2)] [(.int p2), (.long (q1 / (100 : Int64)))])) _
    refine XS.i2l X0.here hx rfl (hb hby d1_6) rfl ?_
    show Steps p.tables e below (s₁.setTop (mkF m 7 #[.val (.long q1), .second, .val (.int p2)] [(.long (p2.toInt64)), (.long (q1 / (100 : Int64)))])) _
    refine XS.lmul X0.here hx rfl (hb hby d1_7) rfl ?_
    show Steps p.tables e below (s₁.setTop (mkF m 8 #[.val (.long q1), .second, .val (.int p2)] [(.long ((q1 / (100 : Int64)) * (p2.toInt64)))])) _
    refine XS.lloadN X0.here hx rfl (hb hby d1_8) rfl ?_
    show Steps p.tables e below (s₁.setTop (mkF m 9 #[.val (.long q1), .second, .val (.int p2)] [(.long q1), (.long ((q1 / (100 : Int64)) * (p2.toInt64)))])) _
    refine X0.ldc2Long hx hown (mvT hZ (hw _ (List.mem_of_getElem? (i := 6) rfl))) (g := (mkF m 9 #[.val (.long q1), .second, .val (.int p2)] [(.long q1), (.long ((q1 / (100 : Int64)) * (p2.toInt64)))])) rfl (hb hby d1_9) _ ?_
    show Steps p.tables e below (s₁.setTop (mkF m 12 #[.val (.long q1), .second, .val (.int p2)] [(.long (100 : Int64)), (.long q1), (.long ((q1 / (100 : Int64)) * (p2.toInt64)))])) _
    refine XS.lrem X0.here hx rfl (hb hby d1_12) rfl hnz12 ?_
    show Steps p.tables e below (s₁.setTop (mkF m 13 #[.val (.long q1), .second, .val (.int p2)] [(.long (q1 - (q1 / (100 : Int64)) * (100 : Int64))), (.long ((q1 / (100 : Int64)) * (p2.toInt64)))])) _
    refine XS.iloadN X0.here hx rfl (hb hby d1_13) rfl ?_
    show Steps p.tables e below (s₁.setTop (mkF m 14 #[.val (.long q1), .second, .val (.int p2)] [(.int p2), (.long (q1 - (q1 / (100 : Int64)) * (100 : Int64))), (.long ((q1 / (100 : Int64)) * (p2.toInt64)))])) _
    refine XS.i2l X0.here hx rfl (hb hby d1_14) rfl ?_
    show Steps p.tables e below (s₁.setTop (mkF m 15 #[.val (.long q1), .second, .val (.int p2)] [(.long (p2.toInt64)), (.long (q1 - (q1 / (100 : Int64)) * (100 : Int64))), (.long ((q1 / (100 : Int64)) * (p2.toInt64)))])) _
    refine XS.lmul X0.here hx rfl (hb hby d1_15) rfl ?_
    show Steps p.tables e below (s₁.setTop (mkF m 16 #[.val (.long q1), .second, .val (.int p2)] [(.long ((q1 - (q1 / (100 : Int64)) * (100 : Int64)) * (p2.toInt64))), (.long ((q1 / (100 : Int64)) * (p2.toInt64)))])) _
    refine X0.ldc2Long hx hown (mvT hZ (hw _ (List.mem_of_getElem? (i := 7) rfl))) (g := (mkF m 16 #[.val (.long q1), .second, .val (.int p2)] [(.long ((q1 - (q1 / (100 : Int64)) * (100 : Int64)) * (p2.toInt64))), (.long ((q1 / (100 : Int64)) * (p2.toInt64)))])) rfl (hb hby d1_16) _ ?_
    show Steps p.tables e below (s₁.setTop (mkF m 19 #[.val (.long q1), .second, .val (.int p2)] [(.long (99 : Int64)), (.long ((q1 - (q1 / (100 : Int64)) * (100 : Int64)) * (p2.toInt64))), (.long ((q1 / (100 : Int64)) * (p2.toInt64)))])) _
    refine XS.ladd X0.here hx rfl (hb hby d1_19) rfl ?_
    show Steps p.tables e below (s₁.setTop (mkF m 20 #[.val (.long q1), .second, .val (.int p2)] [(.long (((q1 - (q1 / (100 : Int64)) * (100 : Int64)) * (p2.toInt64)) + (99 : Int64))), (.long ((q1 / (100 : Int64)) * (p2.toInt64)))])) _
    refine X0.ldc2Long hx hown (mvT hZ (hw _ (List.mem_of_getElem? (i := 6) rfl))) (g := (mkF m 20 #[.val (.long q1), .second, .val (.int p2)] [(.long (((q1 - (q1 / (100 : Int64)) * (100 : Int64)) * (p2.toInt64)) + (99 : Int64))), (.long ((q1 / (100 : Int64)) * (p2.toInt64)))])) rfl (hb hby d1_20) _ ?_
    show Steps p.tables e below (s₁.setTop (mkF m 23 #[.val (.long q1), .second, .val (.int p2)] [(.long (100 : Int64)), (.long (((q1 - (q1 / (100 : Int64)) * (100 : Int64)) * (p2.toInt64)) + (99 : Int64))), (.long ((q1 / (100 : Int64)) * (p2.toInt64)))])) _
    refine XS.ldiv X0.here hx rfl (hb hby d1_23) rfl hnz23 ?_
    show Steps p.tables e below (s₁.setTop (mkF m 24 #[.val (.long q1), .second, .val (.int p2)] [(.long ((((q1 - (q1 / (100 : Int64)) * (100 : Int64)) * (p2.toInt64)) + (99 : Int64)) / (100 : Int64))), (.long ((q1 / (100 : Int64)) * (p2.toInt64)))])) _
    refine XS.ladd X0.here hx rfl (hb hby d1_24) rfl ?_
    show Steps p.tables e below (s₁.setTop (mkF m 25 #[.val (.long q1), .second, .val (.int p2)] [(.long (((q1 / (100 : Int64)) * (p2.toInt64)) + ((((q1 - (q1 / (100 : Int64)) * (100 : Int64)) * (p2.toInt64)) + (99 : Int64)) / (100 : Int64))))])) _
    jvm_step X0.here [X0.here.top, hx, (hb hby d1_25), X0.method', Bd.returns, narrow]
    first | (intro acts; rw [hr _ acts rfl rfl rfl]) | rw [hr _ _ rfl rfl rfl]
    exact Steps.refl _
  · show Q1 Z q1 p2 h0 n0 _ s₁.heap _
    rw [e0]
    exact ⟨rfl, N0, rfl⟩
theorem pn_0 : plainName "com/example/consulta/consulta/uws/BudgetShareOfPinLaw" = true := by first | (simp [plainName, overriddenIn]; done) | decide +kernel
theorem pd_0_0 : parseMethodDescriptor "(JI)J" = some ⟨[.long, .int], some .long⟩ := by decide +kernel
theorem ef_0 (m : MethodId) (x0 : Int64) (x1 : Int32) : entryFrame m #[(.long x0), (.int x1)] maxLocals = mkF m 0 #[.val (.long x0), .second, .val (.int x1), .unset, .unset, .unset, .unset, .unset, .unset, .unset, .unset, .unset] [] := by first | (simp [entryFrame, mkF, argsToLocals, Value.category, maxLocals]; done) | rfl
def Q0 (Z : State) (q1 : Int64) (p2 : Int32) (h0 : Heap) (n0 : Nat) (v : Option Value) (h : Heap) (L : List Loc) : Prop := v = some (.int (1 : Int32)) ∧ Fr n0 L
set_option maxRecDepth 65536 in
set_option maxHeartbeats 40000000 in
theorem rm0 (l : Launch) (Z : State) (a0 : Array Value) (hw : ∀ d ∈ tables_1, d.before a0 Z = true) (ws : List Jvm.Cond) (q1 : Int64) (p2 : Int32) (h0 : Heap) (n0 : Nat) (Z0 : n0 ≤ h0.size) (hnz13 : ¬ ((100 : Int32) = (0 : Int32))) (hnz31 : ¬ ((100 : Int64) = (0 : Int64))) :
    MetFree l x (head1 (Jvm.Cond.code x code maxLocals ret :: ws) room_1) (fun a U => a = #[(.long q1), (.int p2)] ∧ Z.Warmed39 U.vm ∧ U.heap = h0) (fun _ _ _ _ _ => True) (fun _ U o U' => ∃ v L, o = .returned v ∧ Q0 Z q1 p2 h0 n0 v U'.heap L ∧ FrameEnd U o U' L room_1.cells room_1.slots) := by
  refine MetFree.of_bodySF (plainFor_of_name pn_0) hisR ?_
  intro p e s m args below meth c s₁ Bd hml0 hP hK
  obtain ⟨rfl, hZ, hh⟩ := hP
  have hx := Bd.exec
  have hby := Bd.bytes
  have hml : c.maxLocals = 12 := hml0
  have hown : s.vm.findClass "com/example/consulta/consulta/uws/BudgetShareOfPinLaw" = some m.cls := findClass_of_methodNamed Bd.named
  have hnm := (name_of_methodNamed Bd.named Bd.method).1
  have X0 : Stand p l e room_1 s m #[(.long q1), (.int p2)] below meth c s₁ [] 0 0 := Stand.of_body Bd
  have e0 : s₁.heap = h0 := by rw [← hh, Bd.state]; rfl
  have N0 := Fr.nil n0
  have hlaws := own_laws q1 p2
  have pre0 : ∀ t, Steps p.tables e below (s₁.setTop (mkF m 0 #[.val (.long q1), .second, .val (.int p2), .unset, .unset, .unset, .unset, .unset, .unset, .unset, .unset, .unset] [])) t → Steps p.tables e below (s₁.setTop (entryFrame m #[(.long q1), (.int p2)] maxLocals)) t := fun t k => castTop (ef_0 m q1 p2) k
  obtain ⟨_, _, ⟨T3, L3, k3, n3⟩, -, X3, ⟨Lc3, hQ3, l3, y3, z3⟩, st3⟩ := Jvm.LawKit.callS X0 hx (y := (⟨"com/example/consulta/consulta/uws/Budget", "shareOf", "(JI)J"⟩ : MethodName)) hown (mvT hZ (hw _ (List.mem_of_getElem? (i := 2) rfl))) (mvT hZ (hw _ (List.mem_of_getElem? (i := 3) rfl))) (mvT hZ (hw _ (List.mem_of_getElem? (i := 4) rfl))) (mvT hZ (hw _ (List.mem_of_getElem? (i := 5) rfl))) (by decide) (backOf (W := 0) (rm1 l Z a0 hw [] (q1 &&& (9223372036854775807 : Int64)) (own_p p2) h0 n0 Z0 (by decide) (by decide) (by decide)) hZ (hw _ (List.mem_of_getElem? (i := 5) rfl)) (hw _ (List.mem_of_getElem? (i := 4) rfl)) (by decide) (by decide)) (g := (mkF m 20 #[.val (.long q1), .second, .val (.int p2), .val (.long (q1 &&& (9223372036854775807 : Int64))), .second, .val (.int (own_p p2)), .unset, .unset, .unset, .unset, .unset, .unset] [(.int (own_p p2)), (.long (q1 &&& (9223372036854775807 : Int64)))])) rfl (by rw [hml]; rfl) (argsL := [(.long (q1 &&& (9223372036854775807 : Int64))), (.int (own_p p2))]) (rest := []) (lenOf pd_0_0 rfl) rfl (by show 2 * 0 + _ ≤ _; exact Nat.le_of_eq rfl) (hb hby at_20) (fun _ _ => ⟨rfl, e0, (by decide : 0 + 0 ≤ _), (by decide : 0 + 0 ≤ _)⟩)
  dsimp only [Pt.U, Pt.locs, Pt.cells, Pt.slots] at X3 l3 y3 z3 st3 hQ3
  subst l3 y3 z3
  obtain ⟨rfl, N3q, e3q⟩ := hQ3
  have N3 := Fr.app N0 N3q
  obtain ⟨fs, hr, hrun, hended, hW, hsame⟩ := X3.leave (v := some (.int (1 : Int32))) (fun h => by rw [Bd.returns] at h; cases h)
  refine ⟨_, _, pre0 _ ?_, hrun, hended, _, _, rfl, ?_, ⟨_, rfl⟩, hW, hsame.mono (by decide) (by decide)⟩
  · show Steps p.tables e below (s₁.setTop (mkF m 0 #[.val (.long q1), .second, .val (.int p2), .unset, .unset, .unset, .unset, .unset, .unset, .unset, .unset, .unset] [])) _
    refine XS.lloadN X0.here hx rfl (hb hby at_0) rfl ?_
    show Steps p.tables e below (s₁.setTop (mkF m 1 #[.val (.long q1), .second, .val (.int p2), .unset, .unset, .unset, .unset, .unset, .unset, .unset, .unset, .unset] [(.long q1)])) _
    refine X0.ldc2Long hx hown (mvT hZ (hw _ (List.mem_of_getElem? (i := 0) rfl))) (g := (mkF m 1 #[.val (.long q1), .second, .val (.int p2), .unset, .unset, .unset, .unset, .unset, .unset, .unset, .unset, .unset] [(.long q1)])) rfl (hb hby at_1) _ ?_
    show Steps p.tables e below (s₁.setTop (mkF m 4 #[.val (.long q1), .second, .val (.int p2), .unset, .unset, .unset, .unset, .unset, .unset, .unset, .unset, .unset] [(.long (9223372036854775807 : Int64)), (.long q1)])) _
    refine XS.land X0.here hx rfl (hb hby at_4) rfl ?_
    show Steps p.tables e below (s₁.setTop (mkF m 5 #[.val (.long q1), .second, .val (.int p2), .unset, .unset, .unset, .unset, .unset, .unset, .unset, .unset, .unset] [(.long (q1 &&& (9223372036854775807 : Int64)))])) _
    refine XS.lstoreN X0.here hx rfl (hb hby at_5) rfl (l' := #[.val (.long q1), .second, .val (.int p2), .val (.long (q1 &&& (9223372036854775807 : Int64))), .second, .unset, .unset, .unset, .unset, .unset, .unset, .unset]) rfl ?_
    show Steps p.tables e below (s₁.setTop (mkF m 6 #[.val (.long q1), .second, .val (.int p2), .val (.long (q1 &&& (9223372036854775807 : Int64))), .second, .unset, .unset, .unset, .unset, .unset, .unset, .unset] [])) _
    refine XS.iconst X0.here hx rfl (hb hby at_6) ?_
    show Steps p.tables e below (s₁.setTop (mkF m 7 #[.val (.long q1), .second, .val (.int p2), .val (.long (q1 &&& (9223372036854775807 : Int64))), .second, .unset, .unset, .unset, .unset, .unset, .unset, .unset] [(.int (1 : Int32))])) _
    refine XS.iloadN X0.here hx rfl (hb hby at_7) rfl ?_
    show Steps p.tables e below (s₁.setTop (mkF m 8 #[.val (.long q1), .second, .val (.int p2), .val (.long (q1 &&& (9223372036854775807 : Int64))), .second, .unset, .unset, .unset, .unset, .unset, .unset, .unset] [(.int p2), (.int (1 : Int32))])) _
    refine X0.ldcInt hx hown (mvT hZ (hw _ (List.mem_of_getElem? (i := 1) rfl))) (g := (mkF m 8 #[.val (.long q1), .second, .val (.int p2), .val (.long (q1 &&& (9223372036854775807 : Int64))), .second, .unset, .unset, .unset, .unset, .unset, .unset, .unset] [(.int p2), (.int (1 : Int32))])) rfl (hb hby at_8) _ ?_
    show Steps p.tables e below (s₁.setTop (mkF m 10 #[.val (.long q1), .second, .val (.int p2), .val (.long (q1 &&& (9223372036854775807 : Int64))), .second, .unset, .unset, .unset, .unset, .unset, .unset, .unset] [(.int (2147483647 : Int32)), (.int p2), (.int (1 : Int32))])) _
    refine XS.iand X0.here hx rfl (hb hby at_10) rfl ?_
    show Steps p.tables e below (s₁.setTop (mkF m 11 #[.val (.long q1), .second, .val (.int p2), .val (.long (q1 &&& (9223372036854775807 : Int64))), .second, .unset, .unset, .unset, .unset, .unset, .unset, .unset] [(.int (p2 &&& (2147483647 : Int32))), (.int (1 : Int32))])) _
    refine XS.bipush X0.here hx rfl (hb hby at_11) ?_
    show Steps p.tables e below (s₁.setTop (mkF m 13 #[.val (.long q1), .second, .val (.int p2), .val (.long (q1 &&& (9223372036854775807 : Int64))), .second, .unset, .unset, .unset, .unset, .unset, .unset, .unset] [(.int (100 : Int32)), (.int (p2 &&& (2147483647 : Int32))), (.int (1 : Int32))])) _
    refine XS.irem X0.here hx rfl (hb hby at_13) rfl hnz13 ?_
    show Steps p.tables e below (s₁.setTop (mkF m 14 #[.val (.long q1), .second, .val (.int p2), .val (.long (q1 &&& (9223372036854775807 : Int64))), .second, .unset, .unset, .unset, .unset, .unset, .unset, .unset] [(.int ((p2 &&& (2147483647 : Int32)) - ((p2 &&& (2147483647 : Int32)) / (100 : Int32)) * (100 : Int32))), (.int (1 : Int32))])) _
    refine XS.iadd X0.here hx rfl (hb hby at_14) rfl ?_
    show Steps p.tables e below (s₁.setTop (mkF m 15 #[.val (.long q1), .second, .val (.int p2), .val (.long (q1 &&& (9223372036854775807 : Int64))), .second, .unset, .unset, .unset, .unset, .unset, .unset, .unset] [(.int (own_p p2))])) _
    refine XS.istore X0.here hx rfl (hb hby at_15) rfl (l' := #[.val (.long q1), .second, .val (.int p2), .val (.long (q1 &&& (9223372036854775807 : Int64))), .second, .val (.int (own_p p2)), .unset, .unset, .unset, .unset, .unset, .unset]) rfl ?_
    show Steps p.tables e below (s₁.setTop (mkF m 17 #[.val (.long q1), .second, .val (.int p2), .val (.long (q1 &&& (9223372036854775807 : Int64))), .second, .val (.int (own_p p2)), .unset, .unset, .unset, .unset, .unset, .unset] [])) _
    refine XS.lloadN X0.here hx rfl (hb hby at_17) rfl ?_
    show Steps p.tables e below (s₁.setTop (mkF m 18 #[.val (.long q1), .second, .val (.int p2), .val (.long (q1 &&& (9223372036854775807 : Int64))), .second, .val (.int (own_p p2)), .unset, .unset, .unset, .unset, .unset, .unset] [(.long (q1 &&& (9223372036854775807 : Int64)))])) _
    refine XS.iload X0.here hx rfl (hb hby at_18) rfl ?_
    show Steps p.tables e below (s₁.setTop (mkF m 20 #[.val (.long q1), .second, .val (.int p2), .val (.long (q1 &&& (9223372036854775807 : Int64))), .second, .val (.int (own_p p2)), .unset, .unset, .unset, .unset, .unset, .unset] [(.int (own_p p2)), (.long (q1 &&& (9223372036854775807 : Int64)))])) _
    refine st3 _ ?_
    show Steps p.tables e below (T3.setTop (mkF m 23 #[.val (.long q1), .second, .val (.int p2), .val (.long (q1 &&& (9223372036854775807 : Int64))), .second, .val (.int (own_p p2)), .unset, .unset, .unset, .unset, .unset, .unset] [(.long (own_share (q1 &&& (9223372036854775807 : Int64)) (own_p p2)))])) _
    refine XS.lstore X3.here hx rfl (hb hby at_23) rfl (l' := #[.val (.long q1), .second, .val (.int p2), .val (.long (q1 &&& (9223372036854775807 : Int64))), .second, .val (.int (own_p p2)), .val (.long (own_share (q1 &&& (9223372036854775807 : Int64)) (own_p p2))), .second, .unset, .unset, .unset, .unset]) rfl ?_
    show Steps p.tables e below (T3.setTop (mkF m 25 #[.val (.long q1), .second, .val (.int p2), .val (.long (q1 &&& (9223372036854775807 : Int64))), .second, .val (.int (own_p p2)), .val (.long (own_share (q1 &&& (9223372036854775807 : Int64)) (own_p p2))), .second, .unset, .unset, .unset, .unset] [])) _
    refine XS.lload X3.here hx rfl (hb hby at_25) rfl ?_
    show Steps p.tables e below (T3.setTop (mkF m 27 #[.val (.long q1), .second, .val (.int p2), .val (.long (q1 &&& (9223372036854775807 : Int64))), .second, .val (.int (own_p p2)), .val (.long (own_share (q1 &&& (9223372036854775807 : Int64)) (own_p p2))), .second, .unset, .unset, .unset, .unset] [(.long (own_share (q1 &&& (9223372036854775807 : Int64)) (own_p p2)))])) _
    refine XS.lloadN X3.here hx rfl (hb hby at_27) rfl ?_
    show Steps p.tables e below (T3.setTop (mkF m 28 #[.val (.long q1), .second, .val (.int p2), .val (.long (q1 &&& (9223372036854775807 : Int64))), .second, .val (.int (own_p p2)), .val (.long (own_share (q1 &&& (9223372036854775807 : Int64)) (own_p p2))), .second, .unset, .unset, .unset, .unset] [(.long (q1 &&& (9223372036854775807 : Int64))), (.long (own_share (q1 &&& (9223372036854775807 : Int64)) (own_p p2)))])) _
    refine X3.ldc2Long hx hown (mvT hZ (hw _ (List.mem_of_getElem? (i := 8) rfl))) (g := (mkF m 28 #[.val (.long q1), .second, .val (.int p2), .val (.long (q1 &&& (9223372036854775807 : Int64))), .second, .val (.int (own_p p2)), .val (.long (own_share (q1 &&& (9223372036854775807 : Int64)) (own_p p2))), .second, .unset, .unset, .unset, .unset] [(.long (q1 &&& (9223372036854775807 : Int64))), (.long (own_share (q1 &&& (9223372036854775807 : Int64)) (own_p p2)))])) rfl (hb hby at_28) _ ?_
    show Steps p.tables e below (T3.setTop (mkF m 31 #[.val (.long q1), .second, .val (.int p2), .val (.long (q1 &&& (9223372036854775807 : Int64))), .second, .val (.int (own_p p2)), .val (.long (own_share (q1 &&& (9223372036854775807 : Int64)) (own_p p2))), .second, .unset, .unset, .unset, .unset] [(.long (100 : Int64)), (.long (q1 &&& (9223372036854775807 : Int64))), (.long (own_share (q1 &&& (9223372036854775807 : Int64)) (own_p p2)))])) _
    refine XS.ldiv X3.here hx rfl (hb hby at_31) rfl hnz31 ?_
    show Steps p.tables e below (T3.setTop (mkF m 32 #[.val (.long q1), .second, .val (.int p2), .val (.long (q1 &&& (9223372036854775807 : Int64))), .second, .val (.int (own_p p2)), .val (.long (own_share (q1 &&& (9223372036854775807 : Int64)) (own_p p2))), .second, .unset, .unset, .unset, .unset] [(.long ((q1 &&& (9223372036854775807 : Int64)) / (100 : Int64))), (.long (own_share (q1 &&& (9223372036854775807 : Int64)) (own_p p2)))])) _
    refine XS.iload X3.here hx rfl (hb hby at_32) rfl ?_
    show Steps p.tables e below (T3.setTop (mkF m 34 #[.val (.long q1), .second, .val (.int p2), .val (.long (q1 &&& (9223372036854775807 : Int64))), .second, .val (.int (own_p p2)), .val (.long (own_share (q1 &&& (9223372036854775807 : Int64)) (own_p p2))), .second, .unset, .unset, .unset, .unset] [(.int (own_p p2)), (.long ((q1 &&& (9223372036854775807 : Int64)) / (100 : Int64))), (.long (own_share (q1 &&& (9223372036854775807 : Int64)) (own_p p2)))])) _
    refine XS.i2l X3.here hx rfl (hb hby at_34) rfl ?_
    show Steps p.tables e below (T3.setTop (mkF m 35 #[.val (.long q1), .second, .val (.int p2), .val (.long (q1 &&& (9223372036854775807 : Int64))), .second, .val (.int (own_p p2)), .val (.long (own_share (q1 &&& (9223372036854775807 : Int64)) (own_p p2))), .second, .unset, .unset, .unset, .unset] [(.long ((own_p p2).toInt64)), (.long ((q1 &&& (9223372036854775807 : Int64)) / (100 : Int64))), (.long (own_share (q1 &&& (9223372036854775807 : Int64)) (own_p p2)))])) _
    refine XS.lmul X3.here hx rfl (hb hby at_35) rfl ?_
    show Steps p.tables e below (T3.setTop (mkF m 36 #[.val (.long q1), .second, .val (.int p2), .val (.long (q1 &&& (9223372036854775807 : Int64))), .second, .val (.int (own_p p2)), .val (.long (own_share (q1 &&& (9223372036854775807 : Int64)) (own_p p2))), .second, .unset, .unset, .unset, .unset] [(.long (((q1 &&& (9223372036854775807 : Int64)) / (100 : Int64)) * ((own_p p2).toInt64))), (.long (own_share (q1 &&& (9223372036854775807 : Int64)) (own_p p2)))])) _
    refine XS.lsub X3.here hx rfl (hb hby at_36) rfl ?_
    show Steps p.tables e below (T3.setTop (mkF m 37 #[.val (.long q1), .second, .val (.int p2), .val (.long (q1 &&& (9223372036854775807 : Int64))), .second, .val (.int (own_p p2)), .val (.long (own_share (q1 &&& (9223372036854775807 : Int64)) (own_p p2))), .second, .unset, .unset, .unset, .unset] [(.long ((own_share (q1 &&& (9223372036854775807 : Int64)) (own_p p2)) - (((q1 &&& (9223372036854775807 : Int64)) / (100 : Int64)) * ((own_p p2).toInt64))))])) _
    refine XS.lstore X3.here hx rfl (hb hby at_37) rfl (l' := #[.val (.long q1), .second, .val (.int p2), .val (.long (q1 &&& (9223372036854775807 : Int64))), .second, .val (.int (own_p p2)), .val (.long (own_share (q1 &&& (9223372036854775807 : Int64)) (own_p p2))), .second, .val (.long ((own_share (q1 &&& (9223372036854775807 : Int64)) (own_p p2)) - (((q1 &&& (9223372036854775807 : Int64)) / (100 : Int64)) * ((own_p p2).toInt64)))), .second, .unset, .unset]) rfl ?_
    show Steps p.tables e below (T3.setTop (mkF m 39 #[.val (.long q1), .second, .val (.int p2), .val (.long (q1 &&& (9223372036854775807 : Int64))), .second, .val (.int (own_p p2)), .val (.long (own_share (q1 &&& (9223372036854775807 : Int64)) (own_p p2))), .second, .val (.long ((own_share (q1 &&& (9223372036854775807 : Int64)) (own_p p2)) - (((q1 &&& (9223372036854775807 : Int64)) / (100 : Int64)) * ((own_p p2).toInt64)))), .second, .unset, .unset] [])) _
    refine XS.lload X3.here hx rfl (hb hby at_39) rfl ?_
    show Steps p.tables e below (T3.setTop (mkF m 41 #[.val (.long q1), .second, .val (.int p2), .val (.long (q1 &&& (9223372036854775807 : Int64))), .second, .val (.int (own_p p2)), .val (.long (own_share (q1 &&& (9223372036854775807 : Int64)) (own_p p2))), .second, .val (.long ((own_share (q1 &&& (9223372036854775807 : Int64)) (own_p p2)) - (((q1 &&& (9223372036854775807 : Int64)) / (100 : Int64)) * ((own_p p2).toInt64)))), .second, .unset, .unset] [(.long ((own_share (q1 &&& (9223372036854775807 : Int64)) (own_p p2)) - (((q1 &&& (9223372036854775807 : Int64)) / (100 : Int64)) * ((own_p p2).toInt64))))])) _
    refine XS.lconst X3.here hx rfl (hb hby at_41) ?_
    show Steps p.tables e below (T3.setTop (mkF m 42 #[.val (.long q1), .second, .val (.int p2), .val (.long (q1 &&& (9223372036854775807 : Int64))), .second, .val (.int (own_p p2)), .val (.long (own_share (q1 &&& (9223372036854775807 : Int64)) (own_p p2))), .second, .val (.long ((own_share (q1 &&& (9223372036854775807 : Int64)) (own_p p2)) - (((q1 &&& (9223372036854775807 : Int64)) / (100 : Int64)) * ((own_p p2).toInt64)))), .second, .unset, .unset] [(.long (0 : Int64)), (.long ((own_share (q1 &&& (9223372036854775807 : Int64)) (own_p p2)) - (((q1 &&& (9223372036854775807 : Int64)) / (100 : Int64)) * ((own_p p2).toInt64))))])) _
    refine XS.lcmp X3.here hx rfl (hb hby at_42) rfl ?_
    show Steps p.tables e below (T3.setTop (mkF m 43 #[.val (.long q1), .second, .val (.int p2), .val (.long (q1 &&& (9223372036854775807 : Int64))), .second, .val (.int (own_p p2)), .val (.long (own_share (q1 &&& (9223372036854775807 : Int64)) (own_p p2))), .second, .val (.long ((own_share (q1 &&& (9223372036854775807 : Int64)) (own_p p2)) - (((q1 &&& (9223372036854775807 : Int64)) / (100 : Int64)) * ((own_p p2).toInt64)))), .second, .unset, .unset] [(.int (lcmpW ((own_share (q1 &&& (9223372036854775807 : Int64)) (own_p p2)) - (((q1 &&& (9223372036854775807 : Int64)) / (100 : Int64)) * ((own_p p2).toInt64))) (0 : Int64)))])) _
    refine XS.ifNo X3.here hx rfl (hb hby at_43) rfl ((if0 _ _).trans (flt (hlaws.1 : ¬ ((lcmpW ((own_share (q1 &&& (9223372036854775807 : Int64)) (own_p p2)) - (((q1 &&& (9223372036854775807 : Int64)) / (100 : Int64)) * ((own_p p2).toInt64))) (0 : Int64)) < (0 : Int32)))).1) ?_
    show Steps p.tables e below (T3.setTop (mkF m 46 #[.val (.long q1), .second, .val (.int p2), .val (.long (q1 &&& (9223372036854775807 : Int64))), .second, .val (.int (own_p p2)), .val (.long (own_share (q1 &&& (9223372036854775807 : Int64)) (own_p p2))), .second, .val (.long ((own_share (q1 &&& (9223372036854775807 : Int64)) (own_p p2)) - (((q1 &&& (9223372036854775807 : Int64)) / (100 : Int64)) * ((own_p p2).toInt64)))), .second, .unset, .unset] [])) _
    refine XS.lload X3.here hx rfl (hb hby at_46) rfl ?_
    show Steps p.tables e below (T3.setTop (mkF m 48 #[.val (.long q1), .second, .val (.int p2), .val (.long (q1 &&& (9223372036854775807 : Int64))), .second, .val (.int (own_p p2)), .val (.long (own_share (q1 &&& (9223372036854775807 : Int64)) (own_p p2))), .second, .val (.long ((own_share (q1 &&& (9223372036854775807 : Int64)) (own_p p2)) - (((q1 &&& (9223372036854775807 : Int64)) / (100 : Int64)) * ((own_p p2).toInt64)))), .second, .unset, .unset] [(.long ((own_share (q1 &&& (9223372036854775807 : Int64)) (own_p p2)) - (((q1 &&& (9223372036854775807 : Int64)) / (100 : Int64)) * ((own_p p2).toInt64))))])) _
    refine X3.ldc2Long hx hown (mvT hZ (hw _ (List.mem_of_getElem? (i := 8) rfl))) (g := (mkF m 48 #[.val (.long q1), .second, .val (.int p2), .val (.long (q1 &&& (9223372036854775807 : Int64))), .second, .val (.int (own_p p2)), .val (.long (own_share (q1 &&& (9223372036854775807 : Int64)) (own_p p2))), .second, .val (.long ((own_share (q1 &&& (9223372036854775807 : Int64)) (own_p p2)) - (((q1 &&& (9223372036854775807 : Int64)) / (100 : Int64)) * ((own_p p2).toInt64)))), .second, .unset, .unset] [(.long ((own_share (q1 &&& (9223372036854775807 : Int64)) (own_p p2)) - (((q1 &&& (9223372036854775807 : Int64)) / (100 : Int64)) * ((own_p p2).toInt64))))])) rfl (hb hby at_48) _ ?_
    show Steps p.tables e below (T3.setTop (mkF m 51 #[.val (.long q1), .second, .val (.int p2), .val (.long (q1 &&& (9223372036854775807 : Int64))), .second, .val (.int (own_p p2)), .val (.long (own_share (q1 &&& (9223372036854775807 : Int64)) (own_p p2))), .second, .val (.long ((own_share (q1 &&& (9223372036854775807 : Int64)) (own_p p2)) - (((q1 &&& (9223372036854775807 : Int64)) / (100 : Int64)) * ((own_p p2).toInt64)))), .second, .unset, .unset] [(.long (100 : Int64)), (.long ((own_share (q1 &&& (9223372036854775807 : Int64)) (own_p p2)) - (((q1 &&& (9223372036854775807 : Int64)) / (100 : Int64)) * ((own_p p2).toInt64))))])) _
    refine XS.lcmp X3.here hx rfl (hb hby at_51) rfl ?_
    show Steps p.tables e below (T3.setTop (mkF m 52 #[.val (.long q1), .second, .val (.int p2), .val (.long (q1 &&& (9223372036854775807 : Int64))), .second, .val (.int (own_p p2)), .val (.long (own_share (q1 &&& (9223372036854775807 : Int64)) (own_p p2))), .second, .val (.long ((own_share (q1 &&& (9223372036854775807 : Int64)) (own_p p2)) - (((q1 &&& (9223372036854775807 : Int64)) / (100 : Int64)) * ((own_p p2).toInt64)))), .second, .unset, .unset] [(.int (lcmpW ((own_share (q1 &&& (9223372036854775807 : Int64)) (own_p p2)) - (((q1 &&& (9223372036854775807 : Int64)) / (100 : Int64)) * ((own_p p2).toInt64))) (100 : Int64)))])) _
    refine XS.ifYes X3.here hx rfl (pc0 := 52) (pc' := 57) rfl (hb hby at_52) rfl ((if0 _ _).trans (flt (hlaws.2.1 : ¬ ((0 : Int32) < (lcmpW ((own_share (q1 &&& (9223372036854775807 : Int64)) (own_p p2)) - (((q1 &&& (9223372036854775807 : Int64)) / (100 : Int64)) * ((own_p p2).toInt64))) (100 : Int64))))).2.2.2) (by decide) (by decide) ?_
    show Steps p.tables e below (T3.setTop (mkF m 57 #[.val (.long q1), .second, .val (.int p2), .val (.long (q1 &&& (9223372036854775807 : Int64))), .second, .val (.int (own_p p2)), .val (.long (own_share (q1 &&& (9223372036854775807 : Int64)) (own_p p2))), .second, .val (.long ((own_share (q1 &&& (9223372036854775807 : Int64)) (own_p p2)) - (((q1 &&& (9223372036854775807 : Int64)) / (100 : Int64)) * ((own_p p2).toInt64)))), .second, .unset, .unset] [])) _
    refine X3.ldc2Long hx hown (mvT hZ (hw _ (List.mem_of_getElem? (i := 8) rfl))) (g := (mkF m 57 #[.val (.long q1), .second, .val (.int p2), .val (.long (q1 &&& (9223372036854775807 : Int64))), .second, .val (.int (own_p p2)), .val (.long (own_share (q1 &&& (9223372036854775807 : Int64)) (own_p p2))), .second, .val (.long ((own_share (q1 &&& (9223372036854775807 : Int64)) (own_p p2)) - (((q1 &&& (9223372036854775807 : Int64)) / (100 : Int64)) * ((own_p p2).toInt64)))), .second, .unset, .unset] [])) rfl (hb hby at_57) _ ?_
    show Steps p.tables e below (T3.setTop (mkF m 60 #[.val (.long q1), .second, .val (.int p2), .val (.long (q1 &&& (9223372036854775807 : Int64))), .second, .val (.int (own_p p2)), .val (.long (own_share (q1 &&& (9223372036854775807 : Int64)) (own_p p2))), .second, .val (.long ((own_share (q1 &&& (9223372036854775807 : Int64)) (own_p p2)) - (((q1 &&& (9223372036854775807 : Int64)) / (100 : Int64)) * ((own_p p2).toInt64)))), .second, .unset, .unset] [(.long (100 : Int64))])) _
    refine XS.lload X3.here hx rfl (hb hby at_60) rfl ?_
    show Steps p.tables e below (T3.setTop (mkF m 62 #[.val (.long q1), .second, .val (.int p2), .val (.long (q1 &&& (9223372036854775807 : Int64))), .second, .val (.int (own_p p2)), .val (.long (own_share (q1 &&& (9223372036854775807 : Int64)) (own_p p2))), .second, .val (.long ((own_share (q1 &&& (9223372036854775807 : Int64)) (own_p p2)) - (((q1 &&& (9223372036854775807 : Int64)) / (100 : Int64)) * ((own_p p2).toInt64)))), .second, .unset, .unset] [(.long (own_share (q1 &&& (9223372036854775807 : Int64)) (own_p p2))), (.long (100 : Int64))])) _
    refine XS.lmul X3.here hx rfl (hb hby at_62) rfl ?_
    show Steps p.tables e below (T3.setTop (mkF m 63 #[.val (.long q1), .second, .val (.int p2), .val (.long (q1 &&& (9223372036854775807 : Int64))), .second, .val (.int (own_p p2)), .val (.long (own_share (q1 &&& (9223372036854775807 : Int64)) (own_p p2))), .second, .val (.long ((own_share (q1 &&& (9223372036854775807 : Int64)) (own_p p2)) - (((q1 &&& (9223372036854775807 : Int64)) / (100 : Int64)) * ((own_p p2).toInt64)))), .second, .unset, .unset] [(.long ((100 : Int64) * (own_share (q1 &&& (9223372036854775807 : Int64)) (own_p p2))))])) _
    refine XS.lloadN X3.here hx rfl (hb hby at_63) rfl ?_
    show Steps p.tables e below (T3.setTop (mkF m 64 #[.val (.long q1), .second, .val (.int p2), .val (.long (q1 &&& (9223372036854775807 : Int64))), .second, .val (.int (own_p p2)), .val (.long (own_share (q1 &&& (9223372036854775807 : Int64)) (own_p p2))), .second, .val (.long ((own_share (q1 &&& (9223372036854775807 : Int64)) (own_p p2)) - (((q1 &&& (9223372036854775807 : Int64)) / (100 : Int64)) * ((own_p p2).toInt64)))), .second, .unset, .unset] [(.long (q1 &&& (9223372036854775807 : Int64))), (.long ((100 : Int64) * (own_share (q1 &&& (9223372036854775807 : Int64)) (own_p p2))))])) _
    refine XS.iload X3.here hx rfl (hb hby at_64) rfl ?_
    show Steps p.tables e below (T3.setTop (mkF m 66 #[.val (.long q1), .second, .val (.int p2), .val (.long (q1 &&& (9223372036854775807 : Int64))), .second, .val (.int (own_p p2)), .val (.long (own_share (q1 &&& (9223372036854775807 : Int64)) (own_p p2))), .second, .val (.long ((own_share (q1 &&& (9223372036854775807 : Int64)) (own_p p2)) - (((q1 &&& (9223372036854775807 : Int64)) / (100 : Int64)) * ((own_p p2).toInt64)))), .second, .unset, .unset] [(.int (own_p p2)), (.long (q1 &&& (9223372036854775807 : Int64))), (.long ((100 : Int64) * (own_share (q1 &&& (9223372036854775807 : Int64)) (own_p p2))))])) _
    refine XS.i2l X3.here hx rfl (hb hby at_66) rfl ?_
    show Steps p.tables e below (T3.setTop (mkF m 67 #[.val (.long q1), .second, .val (.int p2), .val (.long (q1 &&& (9223372036854775807 : Int64))), .second, .val (.int (own_p p2)), .val (.long (own_share (q1 &&& (9223372036854775807 : Int64)) (own_p p2))), .second, .val (.long ((own_share (q1 &&& (9223372036854775807 : Int64)) (own_p p2)) - (((q1 &&& (9223372036854775807 : Int64)) / (100 : Int64)) * ((own_p p2).toInt64)))), .second, .unset, .unset] [(.long ((own_p p2).toInt64)), (.long (q1 &&& (9223372036854775807 : Int64))), (.long ((100 : Int64) * (own_share (q1 &&& (9223372036854775807 : Int64)) (own_p p2))))])) _
    refine XS.lmul X3.here hx rfl (hb hby at_67) rfl ?_
    show Steps p.tables e below (T3.setTop (mkF m 68 #[.val (.long q1), .second, .val (.int p2), .val (.long (q1 &&& (9223372036854775807 : Int64))), .second, .val (.int (own_p p2)), .val (.long (own_share (q1 &&& (9223372036854775807 : Int64)) (own_p p2))), .second, .val (.long ((own_share (q1 &&& (9223372036854775807 : Int64)) (own_p p2)) - (((q1 &&& (9223372036854775807 : Int64)) / (100 : Int64)) * ((own_p p2).toInt64)))), .second, .unset, .unset] [(.long ((q1 &&& (9223372036854775807 : Int64)) * ((own_p p2).toInt64))), (.long ((100 : Int64) * (own_share (q1 &&& (9223372036854775807 : Int64)) (own_p p2))))])) _
    refine XS.lsub X3.here hx rfl (hb hby at_68) rfl ?_
    show Steps p.tables e below (T3.setTop (mkF m 69 #[.val (.long q1), .second, .val (.int p2), .val (.long (q1 &&& (9223372036854775807 : Int64))), .second, .val (.int (own_p p2)), .val (.long (own_share (q1 &&& (9223372036854775807 : Int64)) (own_p p2))), .second, .val (.long ((own_share (q1 &&& (9223372036854775807 : Int64)) (own_p p2)) - (((q1 &&& (9223372036854775807 : Int64)) / (100 : Int64)) * ((own_p p2).toInt64)))), .second, .unset, .unset] [(.long (((100 : Int64) * (own_share (q1 &&& (9223372036854775807 : Int64)) (own_p p2))) - ((q1 &&& (9223372036854775807 : Int64)) * ((own_p p2).toInt64))))])) _
    refine XS.lstore X3.here hx rfl (hb hby at_69) rfl (l' := #[.val (.long q1), .second, .val (.int p2), .val (.long (q1 &&& (9223372036854775807 : Int64))), .second, .val (.int (own_p p2)), .val (.long (own_share (q1 &&& (9223372036854775807 : Int64)) (own_p p2))), .second, .val (.long ((own_share (q1 &&& (9223372036854775807 : Int64)) (own_p p2)) - (((q1 &&& (9223372036854775807 : Int64)) / (100 : Int64)) * ((own_p p2).toInt64)))), .second, .val (.long (((100 : Int64) * (own_share (q1 &&& (9223372036854775807 : Int64)) (own_p p2))) - ((q1 &&& (9223372036854775807 : Int64)) * ((own_p p2).toInt64)))), .second]) rfl ?_
    show Steps p.tables e below (T3.setTop (mkF m 71 #[.val (.long q1), .second, .val (.int p2), .val (.long (q1 &&& (9223372036854775807 : Int64))), .second, .val (.int (own_p p2)), .val (.long (own_share (q1 &&& (9223372036854775807 : Int64)) (own_p p2))), .second, .val (.long ((own_share (q1 &&& (9223372036854775807 : Int64)) (own_p p2)) - (((q1 &&& (9223372036854775807 : Int64)) / (100 : Int64)) * ((own_p p2).toInt64)))), .second, .val (.long (((100 : Int64) * (own_share (q1 &&& (9223372036854775807 : Int64)) (own_p p2))) - ((q1 &&& (9223372036854775807 : Int64)) * ((own_p p2).toInt64)))), .second] [])) _
    refine XS.lload X3.here hx rfl (hb hby at_71) rfl ?_
    show Steps p.tables e below (T3.setTop (mkF m 73 #[.val (.long q1), .second, .val (.int p2), .val (.long (q1 &&& (9223372036854775807 : Int64))), .second, .val (.int (own_p p2)), .val (.long (own_share (q1 &&& (9223372036854775807 : Int64)) (own_p p2))), .second, .val (.long ((own_share (q1 &&& (9223372036854775807 : Int64)) (own_p p2)) - (((q1 &&& (9223372036854775807 : Int64)) / (100 : Int64)) * ((own_p p2).toInt64)))), .second, .val (.long (((100 : Int64) * (own_share (q1 &&& (9223372036854775807 : Int64)) (own_p p2))) - ((q1 &&& (9223372036854775807 : Int64)) * ((own_p p2).toInt64)))), .second] [(.long (((100 : Int64) * (own_share (q1 &&& (9223372036854775807 : Int64)) (own_p p2))) - ((q1 &&& (9223372036854775807 : Int64)) * ((own_p p2).toInt64))))])) _
    refine XS.lconst X3.here hx rfl (hb hby at_73) ?_
    show Steps p.tables e below (T3.setTop (mkF m 74 #[.val (.long q1), .second, .val (.int p2), .val (.long (q1 &&& (9223372036854775807 : Int64))), .second, .val (.int (own_p p2)), .val (.long (own_share (q1 &&& (9223372036854775807 : Int64)) (own_p p2))), .second, .val (.long ((own_share (q1 &&& (9223372036854775807 : Int64)) (own_p p2)) - (((q1 &&& (9223372036854775807 : Int64)) / (100 : Int64)) * ((own_p p2).toInt64)))), .second, .val (.long (((100 : Int64) * (own_share (q1 &&& (9223372036854775807 : Int64)) (own_p p2))) - ((q1 &&& (9223372036854775807 : Int64)) * ((own_p p2).toInt64)))), .second] [(.long (0 : Int64)), (.long (((100 : Int64) * (own_share (q1 &&& (9223372036854775807 : Int64)) (own_p p2))) - ((q1 &&& (9223372036854775807 : Int64)) * ((own_p p2).toInt64))))])) _
    refine XS.lcmp X3.here hx rfl (hb hby at_74) rfl ?_
    show Steps p.tables e below (T3.setTop (mkF m 75 #[.val (.long q1), .second, .val (.int p2), .val (.long (q1 &&& (9223372036854775807 : Int64))), .second, .val (.int (own_p p2)), .val (.long (own_share (q1 &&& (9223372036854775807 : Int64)) (own_p p2))), .second, .val (.long ((own_share (q1 &&& (9223372036854775807 : Int64)) (own_p p2)) - (((q1 &&& (9223372036854775807 : Int64)) / (100 : Int64)) * ((own_p p2).toInt64)))), .second, .val (.long (((100 : Int64) * (own_share (q1 &&& (9223372036854775807 : Int64)) (own_p p2))) - ((q1 &&& (9223372036854775807 : Int64)) * ((own_p p2).toInt64)))), .second] [(.int (lcmpW (((100 : Int64) * (own_share (q1 &&& (9223372036854775807 : Int64)) (own_p p2))) - ((q1 &&& (9223372036854775807 : Int64)) * ((own_p p2).toInt64))) (0 : Int64)))])) _
    refine XS.ifNo X3.here hx rfl (hb hby at_75) rfl ((if0 _ _).trans (flt (hlaws.2.2.1 : ¬ ((lcmpW (((100 : Int64) * (own_share (q1 &&& (9223372036854775807 : Int64)) (own_p p2))) - ((q1 &&& (9223372036854775807 : Int64)) * ((own_p p2).toInt64))) (0 : Int64)) < (0 : Int32)))).1) ?_
    show Steps p.tables e below (T3.setTop (mkF m 78 #[.val (.long q1), .second, .val (.int p2), .val (.long (q1 &&& (9223372036854775807 : Int64))), .second, .val (.int (own_p p2)), .val (.long (own_share (q1 &&& (9223372036854775807 : Int64)) (own_p p2))), .second, .val (.long ((own_share (q1 &&& (9223372036854775807 : Int64)) (own_p p2)) - (((q1 &&& (9223372036854775807 : Int64)) / (100 : Int64)) * ((own_p p2).toInt64)))), .second, .val (.long (((100 : Int64) * (own_share (q1 &&& (9223372036854775807 : Int64)) (own_p p2))) - ((q1 &&& (9223372036854775807 : Int64)) * ((own_p p2).toInt64)))), .second] [])) _
    refine XS.lload X3.here hx rfl (hb hby at_78) rfl ?_
    show Steps p.tables e below (T3.setTop (mkF m 80 #[.val (.long q1), .second, .val (.int p2), .val (.long (q1 &&& (9223372036854775807 : Int64))), .second, .val (.int (own_p p2)), .val (.long (own_share (q1 &&& (9223372036854775807 : Int64)) (own_p p2))), .second, .val (.long ((own_share (q1 &&& (9223372036854775807 : Int64)) (own_p p2)) - (((q1 &&& (9223372036854775807 : Int64)) / (100 : Int64)) * ((own_p p2).toInt64)))), .second, .val (.long (((100 : Int64) * (own_share (q1 &&& (9223372036854775807 : Int64)) (own_p p2))) - ((q1 &&& (9223372036854775807 : Int64)) * ((own_p p2).toInt64)))), .second] [(.long (((100 : Int64) * (own_share (q1 &&& (9223372036854775807 : Int64)) (own_p p2))) - ((q1 &&& (9223372036854775807 : Int64)) * ((own_p p2).toInt64))))])) _
    refine X3.ldc2Long hx hown (mvT hZ (hw _ (List.mem_of_getElem? (i := 8) rfl))) (g := (mkF m 80 #[.val (.long q1), .second, .val (.int p2), .val (.long (q1 &&& (9223372036854775807 : Int64))), .second, .val (.int (own_p p2)), .val (.long (own_share (q1 &&& (9223372036854775807 : Int64)) (own_p p2))), .second, .val (.long ((own_share (q1 &&& (9223372036854775807 : Int64)) (own_p p2)) - (((q1 &&& (9223372036854775807 : Int64)) / (100 : Int64)) * ((own_p p2).toInt64)))), .second, .val (.long (((100 : Int64) * (own_share (q1 &&& (9223372036854775807 : Int64)) (own_p p2))) - ((q1 &&& (9223372036854775807 : Int64)) * ((own_p p2).toInt64)))), .second] [(.long (((100 : Int64) * (own_share (q1 &&& (9223372036854775807 : Int64)) (own_p p2))) - ((q1 &&& (9223372036854775807 : Int64)) * ((own_p p2).toInt64))))])) rfl (hb hby at_80) _ ?_
    show Steps p.tables e below (T3.setTop (mkF m 83 #[.val (.long q1), .second, .val (.int p2), .val (.long (q1 &&& (9223372036854775807 : Int64))), .second, .val (.int (own_p p2)), .val (.long (own_share (q1 &&& (9223372036854775807 : Int64)) (own_p p2))), .second, .val (.long ((own_share (q1 &&& (9223372036854775807 : Int64)) (own_p p2)) - (((q1 &&& (9223372036854775807 : Int64)) / (100 : Int64)) * ((own_p p2).toInt64)))), .second, .val (.long (((100 : Int64) * (own_share (q1 &&& (9223372036854775807 : Int64)) (own_p p2))) - ((q1 &&& (9223372036854775807 : Int64)) * ((own_p p2).toInt64)))), .second] [(.long (100 : Int64)), (.long (((100 : Int64) * (own_share (q1 &&& (9223372036854775807 : Int64)) (own_p p2))) - ((q1 &&& (9223372036854775807 : Int64)) * ((own_p p2).toInt64))))])) _
    refine XS.lcmp X3.here hx rfl (hb hby at_83) rfl ?_
    show Steps p.tables e below (T3.setTop (mkF m 84 #[.val (.long q1), .second, .val (.int p2), .val (.long (q1 &&& (9223372036854775807 : Int64))), .second, .val (.int (own_p p2)), .val (.long (own_share (q1 &&& (9223372036854775807 : Int64)) (own_p p2))), .second, .val (.long ((own_share (q1 &&& (9223372036854775807 : Int64)) (own_p p2)) - (((q1 &&& (9223372036854775807 : Int64)) / (100 : Int64)) * ((own_p p2).toInt64)))), .second, .val (.long (((100 : Int64) * (own_share (q1 &&& (9223372036854775807 : Int64)) (own_p p2))) - ((q1 &&& (9223372036854775807 : Int64)) * ((own_p p2).toInt64)))), .second] [(.int (lcmpW (((100 : Int64) * (own_share (q1 &&& (9223372036854775807 : Int64)) (own_p p2))) - ((q1 &&& (9223372036854775807 : Int64)) * ((own_p p2).toInt64))) (100 : Int64)))])) _
    refine XS.ifNo X3.here hx rfl (hb hby at_84) rfl ((if0 _ _).trans (tlt (hlaws.2.2.2 : (lcmpW (((100 : Int64) * (own_share (q1 &&& (9223372036854775807 : Int64)) (own_p p2))) - ((q1 &&& (9223372036854775807 : Int64)) * ((own_p p2).toInt64))) (100 : Int64)) < (0 : Int32))).2.1) ?_
    show Steps p.tables e below (T3.setTop (mkF m 87 #[.val (.long q1), .second, .val (.int p2), .val (.long (q1 &&& (9223372036854775807 : Int64))), .second, .val (.int (own_p p2)), .val (.long (own_share (q1 &&& (9223372036854775807 : Int64)) (own_p p2))), .second, .val (.long ((own_share (q1 &&& (9223372036854775807 : Int64)) (own_p p2)) - (((q1 &&& (9223372036854775807 : Int64)) / (100 : Int64)) * ((own_p p2).toInt64)))), .second, .val (.long (((100 : Int64) * (own_share (q1 &&& (9223372036854775807 : Int64)) (own_p p2))) - ((q1 &&& (9223372036854775807 : Int64)) * ((own_p p2).toInt64)))), .second] [])) _
    refine XS.iconst X3.here hx rfl (hb hby at_87) ?_
    show Steps p.tables e below (T3.setTop (mkF m 88 #[.val (.long q1), .second, .val (.int p2), .val (.long (q1 &&& (9223372036854775807 : Int64))), .second, .val (.int (own_p p2)), .val (.long (own_share (q1 &&& (9223372036854775807 : Int64)) (own_p p2))), .second, .val (.long ((own_share (q1 &&& (9223372036854775807 : Int64)) (own_p p2)) - (((q1 &&& (9223372036854775807 : Int64)) / (100 : Int64)) * ((own_p p2).toInt64)))), .second, .val (.long (((100 : Int64) * (own_share (q1 &&& (9223372036854775807 : Int64)) (own_p p2))) - ((q1 &&& (9223372036854775807 : Int64)) * ((own_p p2).toInt64)))), .second] [(.int (1 : Int32))])) _
    refine XS.goto X3.here hx rfl (pc0 := 88) (pc' := 92) rfl (hb hby at_88) (by decide) (by decide) ?_
    show Steps p.tables e below (T3.setTop (mkF m 92 #[.val (.long q1), .second, .val (.int p2), .val (.long (q1 &&& (9223372036854775807 : Int64))), .second, .val (.int (own_p p2)), .val (.long (own_share (q1 &&& (9223372036854775807 : Int64)) (own_p p2))), .second, .val (.long ((own_share (q1 &&& (9223372036854775807 : Int64)) (own_p p2)) - (((q1 &&& (9223372036854775807 : Int64)) / (100 : Int64)) * ((own_p p2).toInt64)))), .second, .val (.long (((100 : Int64) * (own_share (q1 &&& (9223372036854775807 : Int64)) (own_p p2))) - ((q1 &&& (9223372036854775807 : Int64)) * ((own_p p2).toInt64)))), .second] [(.int (1 : Int32))])) _
    exact retN X3 hx (t := .boolean) Bd.returns (by simp) (hb hby at_92) hr
  · show Q0 Z q1 p2 h0 n0 _ T3.heap _
    exact ⟨rfl, N3⟩
set_option maxRecDepth 65536 in
set_option maxHeartbeats 40000000 in
theorem comes_1 {Post : Tables → Env → Array Value → State → Outcome → State → Prop} (hpost : ∀ tb e args s v u, (limb_1_1.after args s (.returned v) u = true ∧ limb_1_2.after args s (.returned v) u = true ∧ True) → FrameEnd s (.returned v) u (Jvm.fieldLocs frame_1_writes args s ++ Jvm.arrayLocs frame_1_arrays args s ++ Jvm.staticLocs frame_1_statics s) 0 0 → Post tb e args s (.returned v) u) :
    ArmFor flags0 classFile x code maxLocals ret World_1 tables_1 room_1 Calls_1 rest_1 Pre_1 Post := by
  intro l hfl _ _ p e ha hc hk s m args below hf hA hF happ hP
  obtain ⟨hcalls, hrest, hpre⟩ := hP
  obtain ⟨-, -, -, hnamed, -, -, -, hat⟩ := (Spec.applies_iff hf).mp happ
  obtain ⟨hg, hn⟩ := and_e (Cond.before_iff.mp (show (Jvm.Cond.and given_1 narrow_1).before args s = true from hpre))
  obtain ⟨g4, g5⟩ := and_e hg
  obtain ⟨g6, g7⟩ := and_e g5
  obtain ⟨w0, w1, rfl⟩ : ∃ w0 w1 : Value, args = #[w0, w1] := by
    have hs : args.size = 2 := by simpa [Cond.value, given_1] using g4
    obtain ⟨L⟩ := args
    match L, hs with
    | [w0, w1], _ => exact ⟨w0, w1, rfl⟩
  have hw := fun d (hd : d ∈ tables_1) => atoms_spec (ws := Jvm.Cond.code x code maxLocals ret :: tables_1) hat d (List.mem_cons_of_mem _ hd)
  have hfit : Fit s := fun {y c} hc i hi => by
    obtain ⟨ha, rfl⟩ := Array.getElem?_eq_some_iff.mp hc
    have q := List.all_eq_true.mp ((Array.all_eq_true_iff_forall_mem.mp hF) _ (Array.getElem_mem ha)) i (List.mem_range.mpr hi)
    simpa [Array.getElem?_eq_getElem hi] using q
  obtain ⟨i0, ei0⟩ := isL_v g6
  obtain rfl : w0 = (.long i0) := Option.some.inj ei0
  obtain ⟨i1, ei1⟩ := is_v g7
  obtain rfl : w1 = (.int i1) := Option.some.inj ei1
  obtain ⟨n, o, h1, h2, h3, _, L, rfl, ⟨rfl, N⟩, hq⟩ := rm0 l s _ hw tables_1 i0 i1 s.heap s.heap.size (Nat.le_refl _) (by decide) (by decide) p e ha hc hk s m _ below hf ((Spec.applies_iff_loose hf).mp happ).1 ⟨rfl, State.Warmed39.refl s, rfl⟩ trivial
  refine ⟨n, _, h1, h2, h3, hpost _ _ _ _ _ _ ⟨Cond.after_iff.mpr rfl, Cond.after_iff.mpr (eq_i res_at (Term.int_eval (1)) rfl), trivial⟩ ⟨hq.1, hq.2.1, (hq.2.2.sift fun y hy => Or.inr (N y hy)).mono (by decide) (by decide)⟩⟩
theorem main_1_1 : Claimed_1_1 := comes_1 fun _ _ _ _ _ _ h hF => ⟨h.1, hF⟩
theorem main_1_2 : Claimed_1_2 := comes_1 fun _ _ _ _ _ _ h hF => ⟨h.2.1, hF⟩
end Jvm.Pilot.@@N@@
namespace Jvm.Pilot.@@N@@
open Jvm Jvm.ClassFile Sem Op Lib Jvm.Free Jvm.Stand Jvm.Pilot.@@N@@.Jvm.D
/-! MADE BY PROGRAM (witnessworld.py) out of the Statement's table words and the real class files: 9 classes; the members and pool entries that the words name. The judged class is class 1, her method 1. -/
namespace start1
open Jvm.ClassFile
def u (s : String) : CpInfo := .utf8 (stringToUtf16 s)
/-- a pool by its gaps: so many unusable entries, then the entry; so many at the end -/
def gap : Nat → List CpInfo → List CpInfo
  | 0, r => r
  | n + 1, r => .unusable :: gap n r
def poolList (es : List (Nat × CpInfo)) (last : Nat) : List CpInfo := es.foldr (fun e r => gap e.1 (e.2 :: r)) (gap last [])
def pool (es : List (Nat × CpInfo)) (last : Nat) : Array CpInfo := ⟨poolList es last⟩
def fileOf (pool : Array CpInfo) (this : Nat) (attrs : Array Attribute := #[]) (ms : Array MethodInfo := #[]) (fl : Nat := 33) (sup : Nat := 0) (ifs : Array Nat := #[]) (fds : Array FieldInfo := #[]) : ClassFile where
  minorVersion := 0
  majorVersion := 65
  constantPool := pool
  accessFlags := fl
  thisClass := this
  superClass := sup
  interfaces := ifs
  fields := fds
  methods := ms
  attributes := attrs
def plain (name : String) (sup : Option ClassId) : Class where
  name := name
  kind := .ordinary
  loader := none
  accessFlags := 33
  super := sup
  interfaces := #[]
  cf := none
  fields := #[]
  methods := #[]
  instanceTypes := #[]
  staticTypes := #[]
  resolved := #[]
  callSites := []
  init := .initialized
  statics := none
  mirror := none

def pool0 : Array CpInfo := pool [(5, u "<init>"), (0, u "()V"), (1, .class_ 10), (1, u "java/lang/Object")] 113

def k0m0 : Method := { name := "<init>", desc := "()V", sig := { parameters := [], returnType := none }, accessFlags := 1, code := none }
/-- java/lang/Object -/
def k0 : Class := { plain "java/lang/Object" none with
  accessFlags := 33
  interfaces := #[]
  cf := some (fileOf pool0 8 #[] #[{ accessFlags := 1, nameIndex := 5, descriptorIndex := 6, attributes := #[] }] 33 0 #[] #[])
  fields := #[]
  methods := #[k0m0]
  instanceTypes := #[]
  staticTypes := #[]
  resolved := Array.replicate 124 none
  statics := none }

def pool1 : Array CpInfo := pool [(2, .class_ 4), (1, u "java/lang/Object"), (0, u "<init>"), (0, u "()V"), (2, .long 9223372036854775807), (1, .integer 2147483647), (0, .methodref 13 14), (0, .class_ 15), (0, .nameAndType 16 17), (0, u "com/example/consulta/consulta/uws/Budget"), (0, u "shareOf"), (0, u "(JI)J"), (0, .long 100), (1, .class_ 21), (0, u "com/example/consulta/consulta/uws/BudgetShareOfPinLaw"), (2, u "law"), (0, u "(JI)Z")] 3

def k1m0 : Method := { name := "<init>", desc := "()V", sig := { parameters := [], returnType := none }, accessFlags := 1, code := none }
def k1c1 : Code := { maxStack := 6, maxLocals := 12, code := code, exceptionTable := #[], attributes := #[] }
def k1m1 : Method := { name := "law", desc := "(JI)Z", sig := { parameters := [.long, .int], returnType := some .boolean }, accessFlags := 9, code := some k1c1 }
/-- com/example/consulta/consulta/uws/BudgetShareOfPinLaw -/
def k1 : Class := { plain "com/example/consulta/consulta/uws/BudgetShareOfPinLaw" (some 0) with
  accessFlags := 49
  interfaces := #[]
  cf := some (fileOf pool1 20 #[] #[{ accessFlags := 1, nameIndex := 5, descriptorIndex := 6, attributes := #[] }, { accessFlags := 9, nameIndex := 24, descriptorIndex := 25, attributes := #[] }] 49 2 #[] #[])
  fields := #[]
  methods := #[k1m0, k1m1]
  instanceTypes := #[]
  staticTypes := #[]
  resolved := Array.replicate 29 none
  statics := none }

def pool2 : Array CpInfo := pool [(2, .class_ 4), (1, u "com/example/consulta/consulta/uws/Budget"), (3, .class_ 10), (1, u "java/lang/Object"), (3, u "limit"), (0, u "J"), (2, u "whole"), (0, u "Lcom/example/consulta/consulta/uws/Budget;"), (0, .long 100), (1, .long 99), (3, u "taken"), (15, u "shareOf"), (0, u "(JI)J")] 9

def k2c0 : Code := { maxStack := 6, maxLocals := 3, code := prog_18_method_4_code, exceptionTable := #[], attributes := #[] }
def k2m0 : Method := { name := "shareOf", desc := "(JI)J", sig := { parameters := [.long, .int], returnType := some .long }, accessFlags := 9, code := some k2c0 }
/-- com/example/consulta/consulta/uws/Budget -/
def k2 : Class := { plain "com/example/consulta/consulta/uws/Budget" (some 0) with
  accessFlags := 33
  interfaces := #[]
  cf := some (fileOf pool2 2 #[] #[{ accessFlags := 9, nameIndex := 42, descriptorIndex := 43, attributes := #[] }] 33 8 #[] #[{ accessFlags := 18, nameIndex := 14, descriptorIndex := 15, attributes := #[] }, { accessFlags := 18, nameIndex := 18, descriptorIndex := 19, attributes := #[] }, { accessFlags := 2, nameIndex := 26, descriptorIndex := 15, attributes := #[] }])
  fields := #[{ name := "limit", type := .long, accessFlags := 18, slot := 0, constantValue := 0 }, { name := "whole", type := (.object "com/example/consulta/consulta/uws/Budget"), accessFlags := 18, slot := 1, constantValue := 0 }, { name := "taken", type := .long, accessFlags := 2, slot := 2, constantValue := 0 }]
  methods := #[k2m0]
  instanceTypes := #[.long, (.object "com/example/consulta/consulta/uws/Budget"), .long]
  staticTypes := #[]
  resolved := Array.replicate 53 none
  statics := none }

def pool3 : Array CpInfo := pool [(1, u "java/lang/Cloneable"), (0, .class_ 1), (0, u "java/lang/Object"), (0, .class_ 3)] 3

/-- java/lang/Cloneable -/
def k3 : Class := { plain "java/lang/Cloneable" (some 0) with
  accessFlags := 1537
  interfaces := #[]
  cf := some (fileOf pool3 2 #[] #[] 1537 4 #[] #[])
  fields := #[]
  methods := #[]
  instanceTypes := #[]
  staticTypes := #[]
  resolved := Array.replicate 8 none
  statics := none }

def pool4 : Array CpInfo := pool [(1, u "java/io/Serializable"), (0, .class_ 1), (0, u "java/lang/Object"), (0, .class_ 3)] 3

/-- java/io/Serializable -/
def k4 : Class := { plain "java/io/Serializable" (some 0) with
  accessFlags := 1537
  interfaces := #[]
  cf := some (fileOf pool4 2 #[] #[] 1537 4 #[] #[])
  fields := #[]
  methods := #[]
  instanceTypes := #[]
  staticTypes := #[]
  resolved := Array.replicate 8 none
  statics := none }

/-- the primitive byte -/
def k5 : Class := { plain "byte" none with kind := .primitive 'B', accessFlags := 0x411 }
/-- [B -/
def k6 : Class := { plain "[B" (some 0) with kind := .array 5 .byte, interfaces := #[3, 4], accessFlags := 1041 }

/-- the primitive int -/
def k7 : Class := { plain "int" none with kind := .primitive 'I', accessFlags := 0x411 }
/-- [I -/
def k8 : Class := { plain "[I" (some 0) with kind := .array 7 .int, interfaces := #[3, 4], accessFlags := 1041 }

def heap : Heap := #[]
def classes : Array Class := #[k0, k1, k2, k3, k4, k5, k6, k7, k8]
def interned : List (Array UInt16 × Addr) := []
def slotsUsed : Nat := 0
def theMethod : MethodId := ⟨1, 1⟩
def args0 : Array Value := #[.long 1000, .int 7]
def aboutOver (below : List Frame) : State where
  vm := { classes := classes, interned := interned.toArray }
  heap := heap
  slotsUsed := slotsUsed
  threads := #[{ frames := .invoking theMethod args0 :: below }]
def below0 : List Frame := [.native { method := ⟨0, 0⟩, args := #[] }]
def about1 : State := aboutOver below0
def p0 : Program := .bare "" "" ""
def e0 : Env := launch0.env 0 0 0
theorem w_frames : about1.frames = Frame.invoking theMethod args0 :: below0 := rfl
set_option maxRecDepth 65536 in
theorem w_args : argsFit about1.vm theMethod args0 = true := by decide +kernel
set_option maxRecDepth 65536 in
theorem w_heap : heapFits about1 = true := by decide +kernel
set_option maxRecDepth 65536 in
theorem w_runnable : about1.curStatus? = some .runnable := by decide +kernel
set_option maxRecDepth 65536 in
theorem w_alone : about1.alone = true := by decide +kernel
set_option maxRecDepth 65536 in
theorem w_named : about1.methodNamed? x = some theMethod := by decide +kernel
set_option maxRecDepth 65536 in
theorem w_hears : about1.hears theMethod below0 = true := by decide +kernel
set_option maxRecDepth 65536 in
theorem w_ripe : about1.ripe theMethod args0 below0 = true := by decide +kernel
theorem w_running : about1.status = .running := rfl
set_option maxRecDepth 65536 in
theorem w_room : about1.hasRoom e0.platform room_1 = true :=
  launch0.hasRoom_least _ room_1 (by decide +kernel) (by decide +kernel) (by decide +kernel) (by decide +kernel) (by decide +kernel) (by decide +kernel)
theorem allAtoms_all (ts : List Jvm.Cond) (a : Array Jvm.Value) (st : Jvm.State) : (allAtoms ts).before a st = ts.all (fun c => c.before a st) := by
  induction ts with
  | nil => rfl
  | cons c t ih =>
    show (Jvm.Cond.and c (allAtoms t)).before a st = _
    rw [Jvm.Cond.before_and, ih, List.all_cons]
def words1 : List Jvm.Cond := Jvm.Cond.code x code maxLocals ret :: tables_1
/-- a 'code' word, met by the world's own term for the bytes: nothing is compared byte by byte -/
theorem code_word {y : MethodName} {bytes : ByteArray} {mx : Nat} {rt : Option FieldType} {a : Array Value} {s : State} {m : MethodId} {meth : Method} {c : Code} (h1 : s.methodNamed? y = some m) (h2 : s.vm.method? m = some meth) (h3 : meth.code = some c) (h4 : c.code = bytes)
    (h5 : (c.maxLocals == mx && c.exceptionTable.isEmpty && decide (c.maxStack ≤ mostOperands) && decide (meth.sig.returnType = rt) && !meth.locks && decide (parseMethodDescriptor y.desc = some meth.sig)) = true) : (Jvm.Cond.code y bytes mx rt).before a s = true := by
  simp only [Bool.and_eq_true, beq_iff_eq, Bool.not_eq_true', decide_eq_true_eq] at h5
  obtain ⟨⟨⟨⟨⟨g1, g2⟩, g3⟩, g4⟩, g5⟩, g6⟩ := h5
  simp [Cond.before, Cond.holds, Cond.value, h1, h2, h3, h4, g1, g2, g3, g4, g5, g6]
def isCode : Jvm.Cond → Bool
  | .code _ _ _ _ => true
  | _ => false
theorem all_split {L : List Jvm.Cond} {P : Jvm.Cond → Bool} (h1 : L.all (fun c => isCode c || P c) = true) (h2 : ∀ c ∈ L.filter isCode, P c = true) : L.all P = true := by
  refine List.all_eq_true.mpr fun c hc => ?_
  have h := List.all_eq_true.mp h1 c hc
  rcases Bool.eq_false_or_eq_true (isCode c) with hi | hi
  · exact h2 c (List.mem_filter.mpr ⟨hc, hi⟩)
  · simpa [hi] using h
set_option maxRecDepth 65536 in
theorem w_c0 : (Jvm.Cond.code x code maxLocals ret).before args0 about1 = true := code_word (m := ⟨1, 1⟩) (meth := k1m1) (c := k1c1) (by decide +kernel) rfl rfl rfl (by decide +kernel)
set_option maxRecDepth 65536 in
theorem w_c1 : (Jvm.Cond.code ({ cls := "com/example/consulta/consulta/uws/Budget", name := "shareOf", desc := "(JI)J" } : Jvm.MethodName) prog_18_method_4_code (3 : Nat) (Option.some Jvm.ClassFile.FieldType.long)).before args0 about1 = true := code_word (m := ⟨2, 0⟩) (meth := k2m0) (c := k2c0) (by decide +kernel) rfl rfl rfl (by decide +kernel)
def codes1 : List Jvm.Cond := [Jvm.Cond.code x code maxLocals ret, Jvm.Cond.code ({ cls := "com/example/consulta/consulta/uws/Budget", name := "shareOf", desc := "(JI)J" } : Jvm.MethodName) prog_18_method_4_code (3 : Nat) (Option.some Jvm.ClassFile.FieldType.long)]
set_option maxRecDepth 65536 in
theorem codes_eq : words1.filter isCode = codes1 := rfl
theorem w_codes : ∀ c ∈ words1.filter isCode, c.before args0 about1 = true := by
  rw [codes_eq]
  intro c hc
  simp only [codes1, List.mem_cons, List.not_mem_nil, or_false] at hc
  rcases hc with rfl | rfl
  · exact w_c0
  · exact w_c1
set_option maxRecDepth 65536 in
theorem w_t1 : words1.all (fun c => isCode c || c.before args0 about1) = true := by decide +kernel
theorem w_tables : (allAtoms (Jvm.Cond.code x code maxLocals ret :: tables_1)).before args0 about1 = true := by
  rw [allAtoms_all]
  show words1.all (fun c => c.before args0 about1) = true
  refine all_split ?_ w_codes
  rw [w_t1]
set_option maxRecDepth 65536 in
theorem w_case : (Jvm.Cond.and given_1 narrow_1).before args0 about1 = true := by decide +kernel
theorem w_applies : (headSpec (Jvm.Cond.code x code maxLocals ret :: tables_1) room_1).applies x e0.platform about1 = true :=
  (Spec.applies_iff w_frames).mpr ⟨w_running, w_runnable, w_alone, w_named, w_hears, w_ripe, w_room, w_tables⟩
theorem atStart : AtStart classFile x code maxLocals ret World_1 tables_1 room_1 Calls_1 rest_1 Pre_1 launch0 p0 e0 about1 theMethod args0 below0 :=
  ⟨lists_1, trivial, launch0.admits_env _ _ _, launch0.least_env, fairChoices_fair.cas, fairChoices_fair.clock, w_frames, w_args, w_heap, w_applies, trivial, trivial, w_case⟩
end start1
theorem witness_1 : WitnessClaimed_1 := ⟨start1.p0, start1.e0, start1.about1, start1.theMethod, start1.args0, start1.below0, start1.atStart⟩
end Jvm.Pilot.@@N@@
