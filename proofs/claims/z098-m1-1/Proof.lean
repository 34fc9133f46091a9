import JvmDerived
import JvmDerived.Pilot.@@N@@Statement
import JvmDerived.Pilot.@@N@@Code
set_option linter.unusedVariables false
set_option linter.unusedSimpArgs false
@@BLOCK:NumsL.lean.txt@@
namespace Jvm.RoadKit
open Sem ClassFile Op Lib Jvm.Stand Jvm.Free Jvm.LawKit
section New
variable {p : Program} {l : Launch} {e : Env} {R : Room} {s : State} {m : MethodId} {args : Array Value} {below : List Frame} {meth : Method} {c : Code} {T : State} {locs : List Loc} {cells slots : Nat}
theorem retI (X : Stand p l e R s m args below meth c T locs cells slots) (hx : p.tables.exec = Jvm.exec) {pc : Nat} {Ls : Array Slot} {z : Int32} {rest : List Value} (hret : meth.sig.returnType = some .int) (hd : decode c.code pc = .ok (.ireturn, 1)) {fs : List Frame}
    (hl : ∀ (f : JFrame) (acts : List Action), f.method = m → f.locked = none → f.entered = [] → (doReturn e (T.setTop f) acts (some (.int z))).1 = T.setFrames fs) : Steps p.tables e below (T.setTop (mkF m pc Ls (.int z :: rest))) (T.setFrames fs) := by
  have hm' : T.vm.method? m = some meth := X.method'
  have hn : narrow .int (.int z) = .int z := rfl
  show Steps p.tables e below (T.setTop { method := m, pc := pc, locals := Ls, stack := _ :: rest, locked := none }) _
  jvm_step X.here [X.here.top, hx, hd, hm', hret, hn]
  first | (intro acts; rw [hl _ acts rfl rfl rfl]) | rw [hl _ _ rfl rfl rfl]
  exact Steps.refl _
theorem retL (X : Stand p l e R s m args below meth c T locs cells slots) (hx : p.tables.exec = Jvm.exec) {pc : Nat} {Ls : Array Slot} {z : Int64} {rest : List Value} (hret : meth.sig.returnType = some .long) (hd : decode c.code pc = .ok (.lreturn, 1)) {fs : List Frame}
    (hl : ∀ (f : JFrame) (acts : List Action), f.method = m → f.locked = none → f.entered = [] → (doReturn e (T.setTop f) acts (some (.long z))).1 = T.setFrames fs) : Steps p.tables e below (T.setTop (mkF m pc Ls (.long z :: rest))) (T.setFrames fs) := by
  have hm' : T.vm.method? m = some meth := X.method'
  show Steps p.tables e below (T.setTop { method := m, pc := pc, locals := Ls, stack := _ :: rest, locked := none }) _
  jvm_step X.here [X.here.top, hx, hd, hm', hret, narrow]
  first | (intro acts; rw [hl _ acts rfl rfl rfl]) | rw [hl _ _ rfl rfl rfl]
  exact Steps.refl _
end New
end Jvm.RoadKit
namespace Jvm.Pilot.@@N@@
open Jvm Jvm.ClassFile Sem Op Lib Jvm.Free Jvm.Stand Jvm.LawKit Jvm.RoadKit Bundle Jvm.Pilot.@@N@@.Jvm.D

def own_maxI (a b : Int32) : Int32 := if a < b then b else a
def own_maxL (a b : Int64) : Int64 := if a < b then b else a
def own_minL (a b : Int64) : Int64 := if b < a then b else a
def own_bs (c : Int64) (n b : Int32) : Int64 := (c / n.toInt64) + (if b.toInt64 < (c - (c / n.toInt64) * n.toInt64) then (1 : Int32) else (0 : Int32)).toInt64
def own_exp (c : Int64) (n b : Int32) : Int64 := (((c - (1 : Int64)) - b.toInt64) / n.toInt64) + (1 : Int64)
theorem own_maxI_t {a b : Int32} (h : a < b) : own_maxI a b = b := if_pos h
theorem own_maxI_f {a b : Int32} (h : ¬ (a < b)) : own_maxI a b = a := if_neg h
theorem own_maxL_t {a b : Int64} (h : lcmpW a b < (0 : Int32)) : own_maxL a b = b := if_pos ((lw_lt _ _).mp h)
theorem own_maxL_f {a b : Int64} (h : ¬ (lcmpW a b < (0 : Int32))) : own_maxL a b = a := if_neg (fun q => h ((lw_lt _ _).mpr q))
theorem own_minL_t {a b : Int64} (h : (0 : Int32) < lcmpW a b) : own_minL a b = b := if_pos ((lw_gt _ _).mp h)
theorem own_minL_f {a b : Int64} (h : ¬ ((0 : Int32) < lcmpW a b)) : own_minL a b = a := if_neg (fun q => h ((lw_gt _ _).mpr q))
theorem own_bs_f {c : Int64} {n b : Int32} (h : lcmpW b.toInt64 (c - (c / n.toInt64) * n.toInt64) < (0 : Int32)) : own_bs c n b = (c / n.toInt64) + (1 : Int32).toInt64 := by
  unfold own_bs; rw [if_pos ((lw_lt _ _).mp h)]
theorem own_bs_t {c : Int64} {n b : Int32} (h : ¬ (lcmpW b.toInt64 (c - (c / n.toInt64) * n.toInt64) < (0 : Int32))) : own_bs c n b = (c / n.toInt64) + (0 : Int32).toInt64 := by
  unfold own_bs; rw [if_neg (fun q => h ((lw_lt _ _).mpr q))]
theorem own_plain (c n b : Int) (hn : 2 ≤ n) (hc : n ≤ c) (hb0 : 0 ≤ b) (hb : b < n) : c / n + (if b < c % n then 1 else 0) = (c - 1 - b) / n + 1 := by
  have e : c = c % n + n * (c / n) := (Int.emod_add_mul_ediv c n).symm
  have r0 := Int.emod_nonneg c (show n ≠ 0 by omega)
  have r1 := Int.emod_lt_of_pos c (show 0 < n by omega)
  generalize c / n = q at *
  generalize c % n = r at *
  subst e
  split
  · have h : r + n * q - 1 - b = (r - 1 - b) + n * q := by omega
    rw [h, Int.add_mul_ediv_left _ _ (show n ≠ 0 by omega), Int.ediv_eq_zero_of_lt (by omega) (by omega)]
    omega
  · have h : r + n * q - 1 - b = (r - 1 - b + n) + n * (q - 1) := by rw [Int.mul_sub, Int.mul_one]; omega
    rw [h, Int.add_mul_ediv_left _ _ (show n ≠ 0 by omega), Int.ediv_eq_zero_of_lt (by omega) (by omega)]
    omega
theorem own_main (c : Int64) (n b : Int32) (hn : 2 ≤ n.toInt) (hc : n.toInt ≤ c.toInt) (hb0 : 0 ≤ b.toInt) (hb : b.toInt < n.toInt) : own_bs c n b = own_exp c n b := by
  have c2 := c.toInt_lt
  have n64 : n.toInt64.toInt = n.toInt := Jvm.Kit.i64_of_i32 n
  have b64 : b.toInt64.toInt = b.toInt := Jvm.Kit.i64_of_i32 b
  have e1 : (1 : Int64).toInt = 1 := rfl
  have p := own_plain c.toInt n.toInt b.toInt hn hc hb0 hb
  have dq : (c / n.toInt64).toInt = c.toInt / n.toInt := by
    rw [Jvm.Kit.i64_div (by omega), n64, Int.tdiv_eq_ediv_of_nonneg (by omega)]
  have dr : (c - (c / n.toInt64) * n.toInt64).toInt = c.toInt % n.toInt := by
    rw [Jvm.Kit.i64_rem_nonneg (by omega), n64]
  have s1 : (c - (1 : Int64)).toInt = c.toInt - 1 := by
    rw [Jvm.Kit.i64_sub (by rw [e1]; omega) (by rw [e1]; omega), e1]
  have s2 : ((c - (1 : Int64)) - b.toInt64).toInt = c.toInt - 1 - b.toInt := by
    rw [Jvm.Kit.i64_sub (by rw [s1, b64]; omega) (by rw [s1, b64]; omega), s1, b64]
  have s3 : (((c - (1 : Int64)) - b.toInt64) / n.toInt64).toInt = (c.toInt - 1 - b.toInt) / n.toInt := by
    rw [Jvm.Kit.i64_div (by rw [s2]; omega), s2, n64, Int.tdiv_eq_ediv_of_nonneg (by omega)]
  have q0 : 0 ≤ c.toInt / n.toInt := Int.ediv_nonneg (by omega) (by omega)
  have q1 : c.toInt / n.toInt ≤ c.toInt / 2 := by
    have h1 := Int.emod_add_mul_ediv c.toInt n.toInt
    have h2 := Int.emod_nonneg c.toInt (show n.toInt ≠ 0 by omega)
    have h3 : 2 * (c.toInt / n.toInt) ≤ n.toInt * (c.toInt / n.toInt) := Int.mul_le_mul_of_nonneg_right hn q0
    omega
  refine Int64.toInt_inj.mp ?_
  unfold own_bs own_exp
  by_cases hlt : b.toInt64 < (c - (c / n.toInt64) * n.toInt64)
  · have hlt' := hlt
    rw [Int64.lt_iff_toInt_lt, b64, dr] at hlt'
    rw [if_pos hlt'] at p
    rw [if_pos hlt]
    have eo : ((1 : Int32).toInt64).toInt = 1 := by decide
    rw [Jvm.Kit.i64_add (by rw [dq, eo]; omega) (by rw [dq, eo]; omega), Jvm.Kit.i64_add (by rw [s3, e1]; omega) (by rw [s3, e1]; omega), dq, s3, eo, e1]
    exact p
  · have hlt' := hlt
    rw [Int64.lt_iff_toInt_lt, b64, dr] at hlt'
    rw [if_neg hlt'] at p
    rw [if_neg hlt]
    have eo : ((0 : Int32).toInt64).toInt = 0 := by decide
    rw [Jvm.Kit.i64_add (by rw [dq, eo]; omega) (by rw [dq, eo]; omega), Jvm.Kit.i64_add (by rw [s3, e1]; omega) (by rw [s3, e1]; omega), dq, s3, eo, e1]
    exact p
theorem own_eq (c : Int64) (n b : Int32) (hn : 2 ≤ n.toInt) (hc : n.toInt ≤ c.toInt) (hb0 : 0 ≤ b.toInt) (hb : b.toInt < n.toInt) : lcmpW (own_bs c n b) (own_exp c n b) = (0 : Int32) :=
  (lw_eq _ _).mpr (own_main c n b hn hc hb0 hb)
/-! the values that the law makes: n, calls, warmup, b -/
theorem own_maskI (p : Int32) : (p &&& (2147483647 : Int32)).toInt = p.toInt % 2 ^ 31 := Jvm.Kit.i32_mask p (2147483647 : Int32) (k := 31) (by decide) (by decide)
theorem own_maskL (p : Int64) : (p &&& (9223372036854775807 : Int64)).toInt = p.toInt % 2 ^ 63 := Jvm.Kit.i64_mask p (9223372036854775807 : Int64) (k := 63) (by decide) (by decide)
theorem own_nS (p : Int32) : 2 ≤ ((2 : Int32) + (p &&& (7 : Int32))).toInt ∧ ((2 : Int32) + (p &&& (7 : Int32))).toInt ≤ 9 := by
  have e : (p &&& (7 : Int32)).toInt = p.toInt % 2 ^ 3 := Jvm.Kit.i32_mask p 7 (k := 3) (by decide) (by decide)
  have e2 : (2 : Int32).toInt = 2 := rfl
  rw [Jvm.Kit.i32_add (by rw [e2]; omega) (by rw [e2]; omega), e2]
  omega
theorem own_nG (p : Int32) : 2 ≤ (own_maxI (2 : Int32) (p &&& (2147483647 : Int32))).toInt := by
  have e2 : (2 : Int32).toInt = 2 := rfl
  unfold own_maxI
  split
  · rename_i h
    rw [Int32.lt_iff_toInt_lt, e2] at h; omega
  · rw [e2]; omega
theorem own_cS (n : Int32) (q : Int64) (hn : 2 ≤ n.toInt) (hn9 : n.toInt ≤ 9) : n.toInt ≤ (n.toInt64 + (q &&& (63 : Int64))).toInt := by
  have e : (q &&& (63 : Int64)).toInt = q.toInt % 2 ^ 6 := Jvm.Kit.i64_mask q 63 (k := 6) (by decide) (by decide)
  have n64 : n.toInt64.toInt = n.toInt := Jvm.Kit.i64_of_i32 n
  rw [Jvm.Kit.i64_add (by rw [n64]; omega) (by rw [n64]; omega), n64]
  omega
theorem own_cG (n : Int32) (q : Int64) (hn : 2 ≤ n.toInt) : n.toInt ≤ (own_maxL n.toInt64 (q &&& (9223372036854775807 : Int64))).toInt := by
  have n64 : n.toInt64.toInt = n.toInt := Jvm.Kit.i64_of_i32 n
  unfold own_maxL
  split
  · rename_i h
    rw [Int64.lt_iff_toInt_lt, n64] at h; omega
  · rw [n64]; omega
theorem own_mc (c : Int64) (hc : 0 ≤ c.toInt) : ((9223372036854775807 : Int64) - c).toInt = 9223372036854775807 - c.toInt := by
  have c2 := c.toInt_lt
  have e : ((9223372036854775807 : Int64)).toInt = 9223372036854775807 := by decide
  rw [Jvm.Kit.i64_sub (by rw [e]; omega) (by rw [e]; omega), e]
theorem own_w0 (c q : Int64) (hc : 0 ≤ c.toInt) : ¬ (lcmpW (own_minL (q &&& (9223372036854775807 : Int64)) ((9223372036854775807 : Int64) - c)) (0 : Int64) < (0 : Int32)) := by
  have c2 := c.toInt_lt
  have e0 : (0 : Int64).toInt = 0 := rfl
  have em := own_maskL q
  have ec := own_mc c hc
  rw [lw_lt, Int64.lt_iff_toInt_lt, e0]
  unfold own_minL
  split
  · rw [ec]; omega
  · rw [em]; omega
theorem own_w1 (c q : Int64) : ¬ ((0 : Int32) < lcmpW (own_minL (q &&& (9223372036854775807 : Int64)) ((9223372036854775807 : Int64) - c)) ((9223372036854775807 : Int64) - c)) := by
  rw [lw_gt]
  unfold own_minL
  split
  · rename_i h; exact fun q => absurd q (Int64.lt_irrefl)
  · rename_i h; exact h
theorem own_n2 (n : Int32) (hn : 2 ≤ n.toInt) : ¬ (n < (2 : Int32)) := by
  have e2 : (2 : Int32).toInt = 2 := rfl
  rw [Int32.lt_iff_toInt_lt, e2]; omega
theorem own_cn (c : Int64) (n : Int32) (hc : n.toInt ≤ c.toInt) : ¬ (lcmpW c n.toInt64 < (0 : Int32)) := by
  have n64 : n.toInt64.toInt = n.toInt := Jvm.Kit.i64_of_i32 n
  rw [lw_lt, Int64.lt_iff_toInt_lt, n64]; omega
theorem own_nz (n : Int32) (hn : 2 ≤ n.toInt) : ¬ (n = (0 : Int32)) := fun h => by
  rw [h] at hn; revert hn; decide
theorem own_nzL (n : Int32) (hn : 2 ≤ n.toInt) : ¬ (n.toInt64 = (0 : Int64)) := fun h => by
  have n64 : n.toInt64.toInt = n.toInt := Jvm.Kit.i64_of_i32 n
  have e0 : (0 : Int64).toInt = 0 := rfl
  rw [h, e0] at n64; omega
theorem own_b (p n : Int32) (hn : 2 ≤ n.toInt) : 0 ≤ ((p &&& (2147483647 : Int32)) - ((p &&& (2147483647 : Int32)) / n) * n).toInt ∧ ((p &&& (2147483647 : Int32)) - ((p &&& (2147483647 : Int32)) / n) * n).toInt < n.toInt := by
  have e := own_maskI p
  rw [irem_eq_mod, Jvm.Kit.i32_rem_nonneg (by omega)]
  exact ⟨Int.emod_nonneg _ (by omega), Int.emod_lt_of_pos _ (by omega)⟩
theorem own_b1 (n : Int32) (hn : 2 ≤ n.toInt) : 0 ≤ (n - (1 : Int32)).toInt ∧ (n - (1 : Int32)).toInt < n.toInt := by
  have n2 := n.toInt_lt
  have e : (1 : Int32).toInt = 1 := rfl
  rw [Jvm.Kit.i32_sub (by rw [e]; omega) (by rw [e]; omega), e]; omega
theorem own_b0 (n : Int32) (hn : 2 ≤ n.toInt) : 0 ≤ (0 : Int32).toInt ∧ (0 : Int32).toInt < n.toInt := by
  have e : (0 : Int32).toInt = 0 := rfl
  rw [e]; omega
theorem d1_0 : decode jdk_29_method_65_code 0 = .ok (.iload_n 0, 1) := by decide +kernel
theorem d1_1 : decode jdk_29_method_65_code 1 = .ok (.iload_n 1, 1) := by decide +kernel
theorem d1_2 : decode jdk_29_method_65_code 2 = .ok (.if_icmp .lt 7, 3) := by decide +kernel
theorem d1_9 : decode jdk_29_method_65_code 9 = .ok (.iload_n 1, 1) := by decide +kernel
theorem d1_10 : decode jdk_29_method_65_code 10 = .ok (.ireturn, 1) := by decide +kernel
theorem ef_1 (m : MethodId) (x0 : Int32) (x1 : Int32) : entryFrame m #[(.int x0), (.int x1)] 2 = mkF m 0 #[.val (.int x0), .val (.int x1)] [] := by first | (simp [entryFrame, mkF, argsToLocals, Value.category]; done) | rfl
def Q1 (Z : State) (p1 : Int32) (p2 : Int32) (h0 : Heap) (n0 : Nat) (v : Option Value) (h : Heap) (L : List Loc) : Prop := v = some (.int (own_maxI p1 p2)) ∧ Fr n0 L ∧ h = h0
set_option maxRecDepth 65536 in
set_option maxHeartbeats 40000000 in
theorem rm1t (l : Launch) (Z : State) (a0 : Array Value) (hw : ∀ d ∈ tables_1, d.before a0 Z = true) (ws : List Jvm.Cond) (p1 : Int32) (p2 : Int32) (h0 : Heap) (n0 : Nat) (Z0 : n0 ≤ h0.size) (hc2 : p1 < p2) :
    MetFree l (⟨"java/lang/Math", "max", "(II)I"⟩ : MethodName) (head1 (Jvm.Cond.code (⟨"java/lang/Math", "max", "(II)I"⟩ : MethodName) jdk_29_method_65_code 2 (some .int) :: ws) ({ frames := 0, cells := 0, slots := 0, locals := 0 } : Room)) (fun a U => a = #[(.int p1), (.int p2)] ∧ Z.Warmed39 U.vm ∧ U.heap = h0) (fun _ _ _ _ _ => True) (fun _ U o U' => ∃ v L, o = .returned v ∧ Q1 Z p1 p2 h0 n0 v U'.heap L ∧ FrameEnd U o U' L ({ frames := 0, cells := 0, slots := 0, locals := 0 } : Room).cells ({ frames := 0, cells := 0, slots := 0, locals := 0 } : Room).slots) := by
  refine MetFree.of_bodySF (Jvm.Free.JP.mathPlain rfl (by decide +kernel)) hisR ?_
  intro p e s m args below meth c s₁ Bd hml0 hP hK
  obtain ⟨rfl, hZ, hh⟩ := hP
  have hx := Bd.exec
  have hby := Bd.bytes
  have hml : c.maxLocals = 2 := hml0
  have hown : s.vm.findClass "java/lang/Math" = some m.cls := findClass_of_methodNamed Bd.named
  have hnm := (name_of_methodNamed Bd.named Bd.method).1
  have X0 : Stand p l e ({ frames := 0, cells := 0, slots := 0, locals := 0 } : Room) s m #[(.int p1), (.int p2)] below meth c s₁ [] 0 0 := Stand.of_body Bd
  have e0 : s₁.heap = h0 := by rw [← hh, Bd.state]; rfl
  have N0 := Fr.nil n0
  have pre0 : ∀ t, Steps p.tables e below (s₁.setTop (mkF m 0 #[.val (.int p1), .val (.int p2)] [])) t → Steps p.tables e below (s₁.setTop (entryFrame m #[(.int p1), (.int p2)] 2)) t := fun t k => castTop (ef_1 m p1 p2) k

  obtain ⟨fs, hr, hrun, hended, hW, hsame⟩ := X0.leave (v := some (.int p2)) (fun h => by rw [Bd.returns] at h; cases h)
  refine ⟨_, _, pre0 _ ?_, hrun, hended, _, _, rfl, ?_, ⟨_, rfl⟩, hW, hsame.mono (by decide) (by decide)⟩
  · show Steps p.tables e below (s₁.setTop (mkF m 0 #[.val (.int p1), .val (.int p2)] [])) _
    refine XS.iloadN X0.here hx rfl (hb hby d1_0) rfl ?_
    show Steps p.tables e below (s₁.setTop (mkF m 1 #[.val (.int p1), .val (.int p2)] [(.int p1)])) _
    refine XS.iloadN X0.here hx rfl (hb hby d1_1) rfl ?_
    show Steps p.tables e below (s₁.setTop (mkF m 2 #[.val (.int p1), .val (.int p2)] [(.int p2), (.int p1)])) _
    refine XS.icmpYes X0.here hx rfl (pc0 := 2) (pc' := 9) rfl (hb hby d1_2) rfl (tlt hc2).1 (by decide) (by decide) ?_
    show Steps p.tables e below (s₁.setTop (mkF m 9 #[.val (.int p1), .val (.int p2)] [])) _
    refine XS.iloadN X0.here hx rfl (hb hby d1_9) rfl ?_
    show Steps p.tables e below (s₁.setTop (mkF m 10 #[.val (.int p1), .val (.int p2)] [(.int p2)])) _
    exact retI X0 hx Bd.returns (hb hby d1_10) hr
  · show Q1 Z p1 p2 h0 n0 _ s₁.heap _
    rw [e0]
    exact ⟨congrArg (fun z => some (Value.int z)) (own_maxI_t hc2).symm, N0, rfl⟩
theorem d1_5 : decode jdk_29_method_65_code 5 = .ok (.iload_n 0, 1) := by decide +kernel
theorem d1_6 : decode jdk_29_method_65_code 6 = .ok (.goto 4, 3) := by decide +kernel
set_option maxRecDepth 65536 in
set_option maxHeartbeats 40000000 in
theorem rm1f (l : Launch) (Z : State) (a0 : Array Value) (hw : ∀ d ∈ tables_1, d.before a0 Z = true) (ws : List Jvm.Cond) (p1 : Int32) (p2 : Int32) (h0 : Heap) (n0 : Nat) (Z0 : n0 ≤ h0.size) (hc2 : ¬ (p1 < p2)) :
    MetFree l (⟨"java/lang/Math", "max", "(II)I"⟩ : MethodName) (head1 (Jvm.Cond.code (⟨"java/lang/Math", "max", "(II)I"⟩ : MethodName) jdk_29_method_65_code 2 (some .int) :: ws) ({ frames := 0, cells := 0, slots := 0, locals := 0 } : Room)) (fun a U => a = #[(.int p1), (.int p2)] ∧ Z.Warmed39 U.vm ∧ U.heap = h0) (fun _ _ _ _ _ => True) (fun _ U o U' => ∃ v L, o = .returned v ∧ Q1 Z p1 p2 h0 n0 v U'.heap L ∧ FrameEnd U o U' L ({ frames := 0, cells := 0, slots := 0, locals := 0 } : Room).cells ({ frames := 0, cells := 0, slots := 0, locals := 0 } : Room).slots) := by
  refine MetFree.of_bodySF (Jvm.Free.JP.mathPlain rfl (by decide +kernel)) hisR ?_
  intro p e s m args below meth c s₁ Bd hml0 hP hK
  obtain ⟨rfl, hZ, hh⟩ := hP
  have hx := Bd.exec
  have hby := Bd.bytes
  have hml : c.maxLocals = 2 := hml0
  have hown : s.vm.findClass "java/lang/Math" = some m.cls := findClass_of_methodNamed Bd.named
  have hnm := (name_of_methodNamed Bd.named Bd.method).1
  have X0 : Stand p l e ({ frames := 0, cells := 0, slots := 0, locals := 0 } : Room) s m #[(.int p1), (.int p2)] below meth c s₁ [] 0 0 := Stand.of_body Bd
  have e0 : s₁.heap = h0 := by rw [← hh, Bd.state]; rfl
  have N0 := Fr.nil n0
  have pre0 : ∀ t, Steps p.tables e below (s₁.setTop (mkF m 0 #[.val (.int p1), .val (.int p2)] [])) t → Steps p.tables e below (s₁.setTop (entryFrame m #[(.int p1), (.int p2)] 2)) t := fun t k => castTop (ef_1 m p1 p2) k

  obtain ⟨fs, hr, hrun, hended, hW, hsame⟩ := X0.leave (v := some (.int p1)) (fun h => by rw [Bd.returns] at h; cases h)
  refine ⟨_, _, pre0 _ ?_, hrun, hended, _, _, rfl, ?_, ⟨_, rfl⟩, hW, hsame.mono (by decide) (by decide)⟩
  · show Steps p.tables e below (s₁.setTop (mkF m 0 #[.val (.int p1), .val (.int p2)] [])) _
    refine XS.iloadN X0.here hx rfl (hb hby d1_0) rfl ?_
    show Steps p.tables e below (s₁.setTop (mkF m 1 #[.val (.int p1), .val (.int p2)] [(.int p1)])) _
    refine XS.iloadN X0.here hx rfl (hb hby d1_1) rfl ?_
    show Steps p.tables e below (s₁.setTop (mkF m 2 #[.val (.int p1), .val (.int p2)] [(.int p2), (.int p1)])) _
    refine XS.icmpNo X0.here hx rfl (hb hby d1_2) rfl (flt hc2).1 ?_
    show Steps p.tables e below (s₁.setTop (mkF m 5 #[.val (.int p1), .val (.int p2)] [])) _
    refine XS.iloadN X0.here hx rfl (hb hby d1_5) rfl ?_
    show Steps p.tables e below (s₁.setTop (mkF m 6 #[.val (.int p1), .val (.int p2)] [(.int p1)])) _
    refine XS.goto X0.here hx rfl (pc0 := 6) (pc' := 10) rfl (hb hby d1_6) (by decide) (by decide) ?_
    show Steps p.tables e below (s₁.setTop (mkF m 10 #[.val (.int p1), .val (.int p2)] [(.int p1)])) _
    exact retI X0 hx Bd.returns (hb hby d1_10) hr
  · show Q1 Z p1 p2 h0 n0 _ s₁.heap _
    rw [e0]
    exact ⟨congrArg (fun z => some (Value.int z)) (own_maxI_f hc2).symm, N0, rfl⟩
theorem rm1 (l : Launch) (Z : State) (a0 : Array Value) (hw : ∀ d ∈ tables_1, d.before a0 Z = true) (ws : List Jvm.Cond) (p1 : Int32) (p2 : Int32) (h0 : Heap) (n0 : Nat) (Z0 : n0 ≤ h0.size) :
    MetFree l (⟨"java/lang/Math", "max", "(II)I"⟩ : MethodName) (head1 (Jvm.Cond.code (⟨"java/lang/Math", "max", "(II)I"⟩ : MethodName) jdk_29_method_65_code 2 (some .int) :: ws) ({ frames := 0, cells := 0, slots := 0, locals := 0 } : Room)) (fun a U => a = #[(.int p1), (.int p2)] ∧ Z.Warmed39 U.vm ∧ U.heap = h0) (fun _ _ _ _ _ => True) (fun _ U o U' => ∃ v L, o = .returned v ∧ Q1 Z p1 p2 h0 n0 v U'.heap L ∧ FrameEnd U o U' L ({ frames := 0, cells := 0, slots := 0, locals := 0 } : Room).cells ({ frames := 0, cells := 0, slots := 0, locals := 0 } : Room).slots) := by
  by_cases hcase : p1 < p2
  · exact rm1t l Z a0 hw ws p1 p2 h0 n0 Z0 hcase
  · exact rm1f l Z a0 hw ws p1 p2 h0 n0 Z0 hcase
theorem d2_0 : decode jdk_29_method_66_code 0 = .ok (.lload_n 0, 1) := by decide +kernel
theorem d2_1 : decode jdk_29_method_66_code 1 = .ok (.lload_n 2, 1) := by decide +kernel
theorem d2_2 : decode jdk_29_method_66_code 2 = .ok (.lcmp, 1) := by decide +kernel
theorem d2_3 : decode jdk_29_method_66_code 3 = .ok (.ifCond .lt 7, 3) := by decide +kernel
theorem d2_10 : decode jdk_29_method_66_code 10 = .ok (.lload_n 2, 1) := by decide +kernel
theorem d2_11 : decode jdk_29_method_66_code 11 = .ok (.lreturn, 1) := by decide +kernel
theorem ef_2 (m : MethodId) (x0 : Int64) (x1 : Int64) : entryFrame m #[(.long x0), (.long x1)] 4 = mkF m 0 #[.val (.long x0), .second, .val (.long x1), .second] [] := by first | (simp [entryFrame, mkF, argsToLocals, Value.category]; done) | rfl
def Q2 (Z : State) (q1 : Int64) (q2 : Int64) (h0 : Heap) (n0 : Nat) (v : Option Value) (h : Heap) (L : List Loc) : Prop := v = some (.long (own_maxL q1 q2)) ∧ Fr n0 L ∧ h = h0
set_option maxRecDepth 65536 in
set_option maxHeartbeats 40000000 in
theorem rm2t (l : Launch) (Z : State) (a0 : Array Value) (hw : ∀ d ∈ tables_1, d.before a0 Z = true) (ws : List Jvm.Cond) (q1 : Int64) (q2 : Int64) (h0 : Heap) (n0 : Nat) (Z0 : n0 ≤ h0.size) (hc3 : (lcmpW q1 q2) < (0 : Int32)) :
    MetFree l (⟨"java/lang/Math", "max", "(JJ)J"⟩ : MethodName) (head1 (Jvm.Cond.code (⟨"java/lang/Math", "max", "(JJ)J"⟩ : MethodName) jdk_29_method_66_code 4 (some .long) :: ws) ({ frames := 0, cells := 0, slots := 0, locals := 0 } : Room)) (fun a U => a = #[(.long q1), (.long q2)] ∧ Z.Warmed39 U.vm ∧ U.heap = h0) (fun _ _ _ _ _ => True) (fun _ U o U' => ∃ v L, o = .returned v ∧ Q2 Z q1 q2 h0 n0 v U'.heap L ∧ FrameEnd U o U' L ({ frames := 0, cells := 0, slots := 0, locals := 0 } : Room).cells ({ frames := 0, cells := 0, slots := 0, locals := 0 } : Room).slots) := by
  refine MetFree.of_bodySF (Jvm.Free.JP.mathPlain rfl (by decide +kernel)) hisR ?_
  intro p e s m args below meth c s₁ Bd hml0 hP hK
  obtain ⟨rfl, hZ, hh⟩ := hP
  have hx := Bd.exec
  have hby := Bd.bytes
  have hml : c.maxLocals = 4 := hml0
  have hown : s.vm.findClass "java/lang/Math" = some m.cls := findClass_of_methodNamed Bd.named
  have hnm := (name_of_methodNamed Bd.named Bd.method).1
  have X0 : Stand p l e ({ frames := 0, cells := 0, slots := 0, locals := 0 } : Room) s m #[(.long q1), (.long q2)] below meth c s₁ [] 0 0 := Stand.of_body Bd
  have e0 : s₁.heap = h0 := by rw [← hh, Bd.state]; rfl
  have N0 := Fr.nil n0
  have pre0 : ∀ t, Steps p.tables e below (s₁.setTop (mkF m 0 #[.val (.long q1), .second, .val (.long q2), .second] [])) t → Steps p.tables e below (s₁.setTop (entryFrame m #[(.long q1), (.long q2)] 4)) t := fun t k => castTop (ef_2 m q1 q2) k

  obtain ⟨fs, hr, hrun, hended, hW, hsame⟩ := X0.leave (v := some (.long q2)) (fun h => by rw [Bd.returns] at h; cases h)
  refine ⟨_, _, pre0 _ ?_, hrun, hended, _, _, rfl, ?_, ⟨_, rfl⟩, hW, hsame.mono (by decide) (by decide)⟩
  · show Steps p.tables e below (s₁.setTop (mkF m 0 #[.val (.long q1), .second, .val (.long q2), .second] [])) _
    refine XS.lloadN X0.here hx rfl (hb hby d2_0) rfl ?_
    show Steps p.tables e below (s₁.setTop (mkF m 1 #[.val (.long q1), .second, .val (.long q2), .second] [(.long q1)])) _
    refine XS.lloadN X0.here hx rfl (hb hby d2_1) rfl ?_
    show Steps p.tables e below (s₁.setTop (mkF m 2 #[.val (.long q1), .second, .val (.long q2), .second] [(.long q2), (.long q1)])) _
    refine XS.lcmp X0.here hx rfl (hb hby d2_2) rfl ?_
    show Steps p.tables e below (s₁.setTop (mkF m 3 #[.val (.long q1), .second, .val (.long q2), .second] [(.int (lcmpW q1 q2))])) _
    refine XS.ifYes X0.here hx rfl (pc0 := 3) (pc' := 10) rfl (hb hby d2_3) rfl ((if0 _ _).trans (tlt hc3).1) (by decide) (by decide) ?_
    show Steps p.tables e below (s₁.setTop (mkF m 10 #[.val (.long q1), .second, .val (.long q2), .second] [])) _
    refine XS.lloadN X0.here hx rfl (hb hby d2_10) rfl ?_
    show Steps p.tables e below (s₁.setTop (mkF m 11 #[.val (.long q1), .second, .val (.long q2), .second] [(.long q2)])) _
    exact retL X0 hx Bd.returns (hb hby d2_11) hr
  · show Q2 Z q1 q2 h0 n0 _ s₁.heap _
    rw [e0]
    exact ⟨congrArg (fun z => some (Value.long z)) (own_maxL_t hc3).symm, N0, rfl⟩
theorem d2_6 : decode jdk_29_method_66_code 6 = .ok (.lload_n 0, 1) := by decide +kernel
theorem d2_7 : decode jdk_29_method_66_code 7 = .ok (.goto 4, 3) := by decide +kernel
set_option maxRecDepth 65536 in
set_option maxHeartbeats 40000000 in
theorem rm2f (l : Launch) (Z : State) (a0 : Array Value) (hw : ∀ d ∈ tables_1, d.before a0 Z = true) (ws : List Jvm.Cond) (q1 : Int64) (q2 : Int64) (h0 : Heap) (n0 : Nat) (Z0 : n0 ≤ h0.size) (hc3 : ¬ ((lcmpW q1 q2) < (0 : Int32))) :
    MetFree l (⟨"java/lang/Math", "max", "(JJ)J"⟩ : MethodName) (head1 (Jvm.Cond.code (⟨"java/lang/Math", "max", "(JJ)J"⟩ : MethodName) jdk_29_method_66_code 4 (some .long) :: ws) ({ frames := 0, cells := 0, slots := 0, locals := 0 } : Room)) (fun a U => a = #[(.long q1), (.long q2)] ∧ Z.Warmed39 U.vm ∧ U.heap = h0) (fun _ _ _ _ _ => True) (fun _ U o U' => ∃ v L, o = .returned v ∧ Q2 Z q1 q2 h0 n0 v U'.heap L ∧ FrameEnd U o U' L ({ frames := 0, cells := 0, slots := 0, locals := 0 } : Room).cells ({ frames := 0, cells := 0, slots := 0, locals := 0 } : Room).slots) := by
  refine MetFree.of_bodySF (Jvm.Free.JP.mathPlain rfl (by decide +kernel)) hisR ?_
  intro p e s m args below meth c s₁ Bd hml0 hP hK
  obtain ⟨rfl, hZ, hh⟩ := hP
  have hx := Bd.exec
  have hby := Bd.bytes
  have hml : c.maxLocals = 4 := hml0
  have hown : s.vm.findClass "java/lang/Math" = some m.cls := findClass_of_methodNamed Bd.named
  have hnm := (name_of_methodNamed Bd.named Bd.method).1
  have X0 : Stand p l e ({ frames := 0, cells := 0, slots := 0, locals := 0 } : Room) s m #[(.long q1), (.long q2)] below meth c s₁ [] 0 0 := Stand.of_body Bd
  have e0 : s₁.heap = h0 := by rw [← hh, Bd.state]; rfl
  have N0 := Fr.nil n0
  have pre0 : ∀ t, Steps p.tables e below (s₁.setTop (mkF m 0 #[.val (.long q1), .second, .val (.long q2), .second] [])) t → Steps p.tables e below (s₁.setTop (entryFrame m #[(.long q1), (.long q2)] 4)) t := fun t k => castTop (ef_2 m q1 q2) k

  obtain ⟨fs, hr, hrun, hended, hW, hsame⟩ := X0.leave (v := some (.long q1)) (fun h => by rw [Bd.returns] at h; cases h)
  refine ⟨_, _, pre0 _ ?_, hrun, hended, _, _, rfl, ?_, ⟨_, rfl⟩, hW, hsame.mono (by decide) (by decide)⟩
  · show Steps p.tables e below (s₁.setTop (mkF m 0 #[.val (.long q1), .second, .val (.long q2), .second] [])) _
    refine XS.lloadN X0.here hx rfl (hb hby d2_0) rfl ?_
    show Steps p.tables e below (s₁.setTop (mkF m 1 #[.val (.long q1), .second, .val (.long q2), .second] [(.long q1)])) _
    refine XS.lloadN X0.here hx rfl (hb hby d2_1) rfl ?_
    show Steps p.tables e below (s₁.setTop (mkF m 2 #[.val (.long q1), .second, .val (.long q2), .second] [(.long q2), (.long q1)])) _
    refine XS.lcmp X0.here hx rfl (hb hby d2_2) rfl ?_
    show Steps p.tables e below (s₁.setTop (mkF m 3 #[.val (.long q1), .second, .val (.long q2), .second] [(.int (lcmpW q1 q2))])) _
    refine XS.ifNo X0.here hx rfl (hb hby d2_3) rfl ((if0 _ _).trans (flt hc3).1) ?_
    show Steps p.tables e below (s₁.setTop (mkF m 6 #[.val (.long q1), .second, .val (.long q2), .second] [])) _
    refine XS.lloadN X0.here hx rfl (hb hby d2_6) rfl ?_
    show Steps p.tables e below (s₁.setTop (mkF m 7 #[.val (.long q1), .second, .val (.long q2), .second] [(.long q1)])) _
    refine XS.goto X0.here hx rfl (pc0 := 7) (pc' := 11) rfl (hb hby d2_7) (by decide) (by decide) ?_
    show Steps p.tables e below (s₁.setTop (mkF m 11 #[.val (.long q1), .second, .val (.long q2), .second] [(.long q1)])) _
    exact retL X0 hx Bd.returns (hb hby d2_11) hr
  · show Q2 Z q1 q2 h0 n0 _ s₁.heap _
    rw [e0]
    exact ⟨congrArg (fun z => some (Value.long z)) (own_maxL_f hc3).symm, N0, rfl⟩
theorem rm2 (l : Launch) (Z : State) (a0 : Array Value) (hw : ∀ d ∈ tables_1, d.before a0 Z = true) (ws : List Jvm.Cond) (q1 : Int64) (q2 : Int64) (h0 : Heap) (n0 : Nat) (Z0 : n0 ≤ h0.size) :
    MetFree l (⟨"java/lang/Math", "max", "(JJ)J"⟩ : MethodName) (head1 (Jvm.Cond.code (⟨"java/lang/Math", "max", "(JJ)J"⟩ : MethodName) jdk_29_method_66_code 4 (some .long) :: ws) ({ frames := 0, cells := 0, slots := 0, locals := 0 } : Room)) (fun a U => a = #[(.long q1), (.long q2)] ∧ Z.Warmed39 U.vm ∧ U.heap = h0) (fun _ _ _ _ _ => True) (fun _ U o U' => ∃ v L, o = .returned v ∧ Q2 Z q1 q2 h0 n0 v U'.heap L ∧ FrameEnd U o U' L ({ frames := 0, cells := 0, slots := 0, locals := 0 } : Room).cells ({ frames := 0, cells := 0, slots := 0, locals := 0 } : Room).slots) := by
  by_cases hcase : (lcmpW q1 q2) < (0 : Int32)
  · exact rm2t l Z a0 hw ws q1 q2 h0 n0 Z0 hcase
  · exact rm2f l Z a0 hw ws q1 q2 h0 n0 Z0 hcase
theorem d3_0 : decode jdk_29_method_70_code 0 = .ok (.lload_n 0, 1) := by decide +kernel
theorem d3_1 : decode jdk_29_method_70_code 1 = .ok (.lload_n 2, 1) := by decide +kernel
theorem d3_2 : decode jdk_29_method_70_code 2 = .ok (.lcmp, 1) := by decide +kernel
theorem d3_3 : decode jdk_29_method_70_code 3 = .ok (.ifCond .gt 7, 3) := by decide +kernel
theorem d3_10 : decode jdk_29_method_70_code 10 = .ok (.lload_n 2, 1) := by decide +kernel
theorem d3_11 : decode jdk_29_method_70_code 11 = .ok (.lreturn, 1) := by decide +kernel
theorem ef_3 (m : MethodId) (x0 : Int64) (x1 : Int64) : entryFrame m #[(.long x0), (.long x1)] 4 = mkF m 0 #[.val (.long x0), .second, .val (.long x1), .second] [] := by first | (simp [entryFrame, mkF, argsToLocals, Value.category]; done) | rfl
def Q3 (Z : State) (q1 : Int64) (q2 : Int64) (h0 : Heap) (n0 : Nat) (v : Option Value) (h : Heap) (L : List Loc) : Prop := v = some (.long (own_minL q1 q2)) ∧ Fr n0 L ∧ h = h0
set_option maxRecDepth 65536 in
set_option maxHeartbeats 40000000 in
theorem rm3t (l : Launch) (Z : State) (a0 : Array Value) (hw : ∀ d ∈ tables_1, d.before a0 Z = true) (ws : List Jvm.Cond) (q1 : Int64) (q2 : Int64) (h0 : Heap) (n0 : Nat) (Z0 : n0 ≤ h0.size) (hc3 : (0 : Int32) < (lcmpW q1 q2)) :
    MetFree l (⟨"java/lang/Math", "min", "(JJ)J"⟩ : MethodName) (head1 (Jvm.Cond.code (⟨"java/lang/Math", "min", "(JJ)J"⟩ : MethodName) jdk_29_method_70_code 4 (some .long) :: ws) ({ frames := 0, cells := 0, slots := 0, locals := 0 } : Room)) (fun a U => a = #[(.long q1), (.long q2)] ∧ Z.Warmed39 U.vm ∧ U.heap = h0) (fun _ _ _ _ _ => True) (fun _ U o U' => ∃ v L, o = .returned v ∧ Q3 Z q1 q2 h0 n0 v U'.heap L ∧ FrameEnd U o U' L ({ frames := 0, cells := 0, slots := 0, locals := 0 } : Room).cells ({ frames := 0, cells := 0, slots := 0, locals := 0 } : Room).slots) := by
  refine MetFree.of_bodySF (Jvm.Free.JP.mathPlain rfl (by decide +kernel)) hisR ?_
  intro p e s m args below meth c s₁ Bd hml0 hP hK
  obtain ⟨rfl, hZ, hh⟩ := hP
  have hx := Bd.exec
  have hby := Bd.bytes
  have hml : c.maxLocals = 4 := hml0
  have hown : s.vm.findClass "java/lang/Math" = some m.cls := findClass_of_methodNamed Bd.named
  have hnm := (name_of_methodNamed Bd.named Bd.method).1
  have X0 : Stand p l e ({ frames := 0, cells := 0, slots := 0, locals := 0 } : Room) s m #[(.long q1), (.long q2)] below meth c s₁ [] 0 0 := Stand.of_body Bd
  have e0 : s₁.heap = h0 := by rw [← hh, Bd.state]; rfl
  have N0 := Fr.nil n0
  have pre0 : ∀ t, Steps p.tables e below (s₁.setTop (mkF m 0 #[.val (.long q1), .second, .val (.long q2), .second] [])) t → Steps p.tables e below (s₁.setTop (entryFrame m #[(.long q1), (.long q2)] 4)) t := fun t k => castTop (ef_3 m q1 q2) k

  obtain ⟨fs, hr, hrun, hended, hW, hsame⟩ := X0.leave (v := some (.long q2)) (fun h => by rw [Bd.returns] at h; cases h)
  refine ⟨_, _, pre0 _ ?_, hrun, hended, _, _, rfl, ?_, ⟨_, rfl⟩, hW, hsame.mono (by decide) (by decide)⟩
  · show Steps p.tables e below (s₁.setTop (mkF m 0 #[.val (.long q1), .second, .val (.long q2), .second] [])) _
    refine XS.lloadN X0.here hx rfl (hb hby d3_0) rfl ?_
    show Steps p.tables e below (s₁.setTop (mkF m 1 #[.val (.long q1), .second, .val (.long q2), .second] [(.long q1)])) _
    refine XS.lloadN X0.here hx rfl (hb hby d3_1) rfl ?_
    show Steps p.tables e below (s₁.setTop (mkF m 2 #[.val (.long q1), .second, .val (.long q2), .second] [(.long q2), (.long q1)])) _
    refine XS.lcmp X0.here hx rfl (hb hby d3_2) rfl ?_
    show Steps p.tables e below (s₁.setTop (mkF m 3 #[.val (.long q1), .second, .val (.long q2), .second] [(.int (lcmpW q1 q2))])) _
    refine XS.ifYes X0.here hx rfl (pc0 := 3) (pc' := 10) rfl (hb hby d3_3) rfl ((if0 _ _).trans (tlt hc3).2.2.1) (by decide) (by decide) ?_
    show Steps p.tables e below (s₁.setTop (mkF m 10 #[.val (.long q1), .second, .val (.long q2), .second] [])) _
    refine XS.lloadN X0.here hx rfl (hb hby d3_10) rfl ?_
    show Steps p.tables e below (s₁.setTop (mkF m 11 #[.val (.long q1), .second, .val (.long q2), .second] [(.long q2)])) _
    exact retL X0 hx Bd.returns (hb hby d3_11) hr
  · show Q3 Z q1 q2 h0 n0 _ s₁.heap _
    rw [e0]
    exact ⟨congrArg (fun z => some (Value.long z)) (own_minL_t hc3).symm, N0, rfl⟩
theorem d3_6 : decode jdk_29_method_70_code 6 = .ok (.lload_n 0, 1) := by decide +kernel
theorem d3_7 : decode jdk_29_method_70_code 7 = .ok (.goto 4, 3) := by decide +kernel
set_option maxRecDepth 65536 in
set_option maxHeartbeats 40000000 in
theorem rm3f (l : Launch) (Z : State) (a0 : Array Value) (hw : ∀ d ∈ tables_1, d.before a0 Z = true) (ws : List Jvm.Cond) (q1 : Int64) (q2 : Int64) (h0 : Heap) (n0 : Nat) (Z0 : n0 ≤ h0.size) (hc3 : ¬ ((0 : Int32) < (lcmpW q1 q2))) :
    MetFree l (⟨"java/lang/Math", "min", "(JJ)J"⟩ : MethodName) (head1 (Jvm.Cond.code (⟨"java/lang/Math", "min", "(JJ)J"⟩ : MethodName) jdk_29_method_70_code 4 (some .long) :: ws) ({ frames := 0, cells := 0, slots := 0, locals := 0 } : Room)) (fun a U => a = #[(.long q1), (.long q2)] ∧ Z.Warmed39 U.vm ∧ U.heap = h0) (fun _ _ _ _ _ => True) (fun _ U o U' => ∃ v L, o = .returned v ∧ Q3 Z q1 q2 h0 n0 v U'.heap L ∧ FrameEnd U o U' L ({ frames := 0, cells := 0, slots := 0, locals := 0 } : Room).cells ({ frames := 0, cells := 0, slots := 0, locals := 0 } : Room).slots) := by
  refine MetFree.of_bodySF (Jvm.Free.JP.mathPlain rfl (by decide +kernel)) hisR ?_
  intro p e s m args below meth c s₁ Bd hml0 hP hK
  obtain ⟨rfl, hZ, hh⟩ := hP
  have hx := Bd.exec
  have hby := Bd.bytes
  have hml : c.maxLocals = 4 := hml0
  have hown : s.vm.findClass "java/lang/Math" = some m.cls := findClass_of_methodNamed Bd.named
  have hnm := (name_of_methodNamed Bd.named Bd.method).1
  have X0 : Stand p l e ({ frames := 0, cells := 0, slots := 0, locals := 0 } : Room) s m #[(.long q1), (.long q2)] below meth c s₁ [] 0 0 := Stand.of_body Bd
  have e0 : s₁.heap = h0 := by rw [← hh, Bd.state]; rfl
  have N0 := Fr.nil n0
  have pre0 : ∀ t, Steps p.tables e below (s₁.setTop (mkF m 0 #[.val (.long q1), .second, .val (.long q2), .second] [])) t → Steps p.tables e below (s₁.setTop (entryFrame m #[(.long q1), (.long q2)] 4)) t := fun t k => castTop (ef_3 m q1 q2) k

  obtain ⟨fs, hr, hrun, hended, hW, hsame⟩ := X0.leave (v := some (.long q1)) (fun h => by rw [Bd.returns] at h; cases h)
  refine ⟨_, _, pre0 _ ?_, hrun, hended, _, _, rfl, ?_, ⟨_, rfl⟩, hW, hsame.mono (by decide) (by decide)⟩
  · show Steps p.tables e below (s₁.setTop (mkF m 0 #[.val (.long q1), .second, .val (.long q2), .second] [])) _
    refine XS.lloadN X0.here hx rfl (hb hby d3_0) rfl ?_
    show Steps p.tables e below (s₁.setTop (mkF m 1 #[.val (.long q1), .second, .val (.long q2), .second] [(.long q1)])) _
    refine XS.lloadN X0.here hx rfl (hb hby d3_1) rfl ?_
    show Steps p.tables e below (s₁.setTop (mkF m 2 #[.val (.long q1), .second, .val (.long q2), .second] [(.long q2), (.long q1)])) _
    refine XS.lcmp X0.here hx rfl (hb hby d3_2) rfl ?_
    show Steps p.tables e below (s₁.setTop (mkF m 3 #[.val (.long q1), .second, .val (.long q2), .second] [(.int (lcmpW q1 q2))])) _
    refine XS.ifNo X0.here hx rfl (hb hby d3_3) rfl ((if0 _ _).trans (flt hc3).2.2.1) ?_
    show Steps p.tables e below (s₁.setTop (mkF m 6 #[.val (.long q1), .second, .val (.long q2), .second] [])) _
    refine XS.lloadN X0.here hx rfl (hb hby d3_6) rfl ?_
    show Steps p.tables e below (s₁.setTop (mkF m 7 #[.val (.long q1), .second, .val (.long q2), .second] [(.long q1)])) _
    refine XS.goto X0.here hx rfl (pc0 := 7) (pc' := 11) rfl (hb hby d3_7) (by decide) (by decide) ?_
    show Steps p.tables e below (s₁.setTop (mkF m 11 #[.val (.long q1), .second, .val (.long q2), .second] [(.long q1)])) _
    exact retL X0 hx Bd.returns (hb hby d3_11) hr
  · show Q3 Z q1 q2 h0 n0 _ s₁.heap _
    rw [e0]
    exact ⟨congrArg (fun z => some (Value.long z)) (own_minL_f hc3).symm, N0, rfl⟩
theorem rm3 (l : Launch) (Z : State) (a0 : Array Value) (hw : ∀ d ∈ tables_1, d.before a0 Z = true) (ws : List Jvm.Cond) (q1 : Int64) (q2 : Int64) (h0 : Heap) (n0 : Nat) (Z0 : n0 ≤ h0.size) :
    MetFree l (⟨"java/lang/Math", "min", "(JJ)J"⟩ : MethodName) (head1 (Jvm.Cond.code (⟨"java/lang/Math", "min", "(JJ)J"⟩ : MethodName) jdk_29_method_70_code 4 (some .long) :: ws) ({ frames := 0, cells := 0, slots := 0, locals := 0 } : Room)) (fun a U => a = #[(.long q1), (.long q2)] ∧ Z.Warmed39 U.vm ∧ U.heap = h0) (fun _ _ _ _ _ => True) (fun _ U o U' => ∃ v L, o = .returned v ∧ Q3 Z q1 q2 h0 n0 v U'.heap L ∧ FrameEnd U o U' L ({ frames := 0, cells := 0, slots := 0, locals := 0 } : Room).cells ({ frames := 0, cells := 0, slots := 0, locals := 0 } : Room).slots) := by
  by_cases hcase : (0 : Int32) < (lcmpW q1 q2)
  · exact rm3t l Z a0 hw ws q1 q2 h0 n0 Z0 hcase
  · exact rm3f l Z a0 hw ws q1 q2 h0 n0 Z0 hcase
theorem d5_0 : decode jdk_30_method_1_code 0 = .ok (.aload_n 0, 1) := by decide +kernel
theorem d5_1 : decode jdk_30_method_1_code 1 = .ok (.invokespecial 1, 3) := by decide +kernel
theorem d5_4 : decode jdk_30_method_1_code 4 = .ok (.return_, 1) := by decide +kernel
theorem pn_5 : plainName "java/lang/Record" = true := by first | (simp [plainName, overriddenIn]; done) | decide +kernel
theorem ef_5 (m : MethodId) (x0 : Addr) : entryFrame m #[(.ref x0)] 1 = mkF m 0 #[.val (.ref x0)] [] := by first | (simp [entryFrame, mkF, argsToLocals, Value.category]; done) | rfl
def Q5 (Z : State) (a1 : Addr) (h0 : Heap) (n0 : Nat) (v : Option Value) (h : Heap) (L : List Loc) : Prop := v = none ∧ Fr n0 L ∧ h = h0
set_option maxRecDepth 65536 in
set_option maxHeartbeats 40000000 in
theorem rm5 (l : Launch) (Z : State) (a0 : Array Value) (hw : ∀ d ∈ tables_1, d.before a0 Z = true) (ws : List Jvm.Cond) (a1 : Addr) (h0 : Heap) (n0 : Nat) (Z0 : n0 ≤ h0.size) :
    MetFree l (⟨"java/lang/Record", "<init>", "()V"⟩ : MethodName) (head1 (Jvm.Cond.code (⟨"java/lang/Record", "<init>", "()V"⟩ : MethodName) jdk_30_method_1_code 1 none :: ws) ({ frames := 1, cells := 0, slots := 0, locals := 12 } : Room)) (fun a U => a = #[(.ref a1)] ∧ Z.Warmed39 U.vm ∧ U.heap = h0) (fun _ _ _ _ _ => True) (fun _ U o U' => ∃ v L, o = .returned v ∧ Q5 Z a1 h0 n0 v U'.heap L ∧ FrameEnd U o U' L ({ frames := 1, cells := 0, slots := 0, locals := 12 } : Room).cells ({ frames := 1, cells := 0, slots := 0, locals := 12 } : Room).slots) := by
  refine MetFree.of_bodySF (plainFor_of_name pn_5) hisR ?_
  intro p e s m args below meth c s₁ Bd hml0 hP hK
  obtain ⟨rfl, hZ, hh⟩ := hP
  have hx := Bd.exec
  have hby := Bd.bytes
  have hml : c.maxLocals = 1 := hml0
  have hown : s.vm.findClass "java/lang/Record" = some m.cls := findClass_of_methodNamed Bd.named
  have hnm := (name_of_methodNamed Bd.named Bd.method).1
  have X0 : Stand p l e ({ frames := 1, cells := 0, slots := 0, locals := 12 } : Room) s m #[(.ref a1)] below meth c s₁ [] 0 0 := Stand.of_body Bd
  have e0 : s₁.heap = h0 := by rw [← hh, Bd.state]; rfl
  have N0 := Fr.nil n0
  have pre0 : ∀ t, Steps p.tables e below (s₁.setTop (mkF m 0 #[.val (.ref a1)] [])) t → Steps p.tables e below (s₁.setTop (entryFrame m #[(.ref a1)] 1)) t := fun t k => castTop (ef_5 m a1) k
  obtain ⟨T2, X2, e2, st2⟩ := initO X0 hx hZ hown (hw _ (List.mem_of_getElem? (i := 23) rfl)) (hw _ (List.mem_of_getElem? (i := 24) rfl)) (hw _ (List.mem_of_getElem? (i := 25) rfl)) e0 (g := (mkF m 1 #[.val (.ref a1)] [(.ref a1)])) rfl (by rw [hml]; rfl) rfl (hb hby d5_1) (by decide) (W := 0) (by show 2 * 0 + _ ≤ _; exact Nat.le_of_eq rfl) (by decide)
  obtain ⟨fs, hr, hrun, hended, hW, hsame⟩ := X2.leave (v := none) (fun _ => rfl)
  refine ⟨_, _, pre0 _ ?_, hrun, hended, _, _, rfl, ?_, ⟨_, rfl⟩, hW, hsame.mono (by decide) (by decide)⟩
  · show Steps p.tables e below (s₁.setTop (mkF m 0 #[.val (.ref a1)] [])) _
    refine XS.aloadN X0.here hx rfl (hb hby d5_0) rfl rfl ?_
    show Steps p.tables e below (s₁.setTop (mkF m 1 #[.val (.ref a1)] [(.ref a1)])) _
    refine st2 _ ?_
    show Steps p.tables e below (T2.setTop (mkF m 4 #[.val (.ref a1)] [])) _
    exact X2.returnOut hx Bd.returns (hb hby d5_4) hr
  · show Q5 Z a1 h0 n0 _ T2.heap _
    rw [e2]
    exact ⟨rfl, N0, rfl⟩
theorem d4_0 : decode prog_23_method_1_code 0 = .ok (.aload_n 0, 1) := by decide +kernel
theorem d4_1 : decode prog_23_method_1_code 1 = .ok (.invokespecial 1, 3) := by decide +kernel
theorem d4_4 : decode prog_23_method_1_code 4 = .ok (.lload_n 1, 1) := by decide +kernel
theorem d4_5 : decode prog_23_method_1_code 5 = .ok (.lconst 0, 1) := by decide +kernel
theorem d4_6 : decode prog_23_method_1_code 6 = .ok (.lcmp, 1) := by decide +kernel
theorem d4_7 : decode prog_23_method_1_code 7 = .ok (.ifCond .lt 27, 3) := by decide +kernel
theorem d4_10 : decode prog_23_method_1_code 10 = .ok (.iload 5, 2) := by decide +kernel
theorem d4_12 : decode prog_23_method_1_code 12 = .ok (.iconst 2, 1) := by decide +kernel
theorem d4_13 : decode prog_23_method_1_code 13 = .ok (.if_icmp .lt 21, 3) := by decide +kernel
theorem d4_16 : decode prog_23_method_1_code 16 = .ok (.lload_n 3, 1) := by decide +kernel
theorem d4_17 : decode prog_23_method_1_code 17 = .ok (.iload 5, 2) := by decide +kernel
theorem d4_19 : decode prog_23_method_1_code 19 = .ok (.i2l, 1) := by decide +kernel
theorem d4_20 : decode prog_23_method_1_code 20 = .ok (.lcmp, 1) := by decide +kernel
theorem d4_21 : decode prog_23_method_1_code 21 = .ok (.ifCond .lt 13, 3) := by decide +kernel
theorem d4_24 : decode prog_23_method_1_code 24 = .ok (.lload_n 1, 1) := by decide +kernel
theorem d4_25 : decode prog_23_method_1_code 25 = .ok (.ldc2_w 9, 3) := by decide +kernel
theorem d4_28 : decode prog_23_method_1_code 28 = .ok (.lload_n 3, 1) := by decide +kernel
theorem d4_29 : decode prog_23_method_1_code 29 = .ok (.lsub, 1) := by decide +kernel
theorem d4_30 : decode prog_23_method_1_code 30 = .ok (.lcmp, 1) := by decide +kernel
theorem d4_31 : decode prog_23_method_1_code 31 = .ok (.ifCond .le 20, 3) := by decide +kernel
theorem d4_51 : decode prog_23_method_1_code 51 = .ok (.aload_n 0, 1) := by decide +kernel
theorem d4_52 : decode prog_23_method_1_code 52 = .ok (.lload_n 1, 1) := by decide +kernel
theorem d4_53 : decode prog_23_method_1_code 53 = .ok (.putfield 20, 3) := by decide +kernel
theorem d4_56 : decode prog_23_method_1_code 56 = .ok (.aload_n 0, 1) := by decide +kernel
theorem d4_57 : decode prog_23_method_1_code 57 = .ok (.lload_n 3, 1) := by decide +kernel
theorem d4_58 : decode prog_23_method_1_code 58 = .ok (.putfield 26, 3) := by decide +kernel
theorem d4_61 : decode prog_23_method_1_code 61 = .ok (.aload_n 0, 1) := by decide +kernel
theorem d4_62 : decode prog_23_method_1_code 62 = .ok (.iload 5, 2) := by decide +kernel
theorem d4_64 : decode prog_23_method_1_code 64 = .ok (.putfield 29, 3) := by decide +kernel
theorem d4_67 : decode prog_23_method_1_code 67 = .ok (.return_, 1) := by decide +kernel
theorem pn_4 : plainName "com/example/lambdagate/lambdagate/RunLength" = true := by first | (simp [plainName, overriddenIn]; done) | decide +kernel
theorem pd_4_3 : parseMethodDescriptor "()V" = some ⟨[], none⟩ := by decide +kernel
theorem ef_4 (m : MethodId) (x0 : Addr) (x1 : Int64) (x2 : Int64) (x3 : Int32) : entryFrame m #[(.ref x0), (.long x1), (.long x2), (.int x3)] 6 = mkF m 0 #[.val (.ref x0), .val (.long x1), .second, .val (.long x2), .second, .val (.int x3)] [] := by first | (simp [entryFrame, mkF, argsToLocals, Value.category]; done) | rfl
def Q4 (Z : State) (a1 : Addr) (q2 : Int64) (q3 : Int64) (p4 : Int32) (u_warmup_a1 : Value) (u_calls_a1 : Value) (u_batches_a1 : Value) (h0 : Heap) (n0 : Nat) (v : Option Value) (h : Heap) (L : List Loc) : Prop := v = none ∧ Fr n0 L ∧ Keep h0 h [a1] ∧ Exa Z h a1 "com/example/lambdagate/lambdagate/RunLength" ∧ Fld Z h a1 "com/example/lambdagate/lambdagate/RunLength" "calls" "J" (.long q3) ∧ Fld Z h a1 "com/example/lambdagate/lambdagate/RunLength" "batches" "I" (.int p4)
set_option maxRecDepth 65536 in
set_option maxHeartbeats 40000000 in
theorem rm4 (l : Launch) (Z : State) (a0 : Array Value) (hw : ∀ d ∈ tables_1, d.before a0 Z = true) (ws : List Jvm.Cond) (a1 : Addr) (q2 : Int64) (q3 : Int64) (p4 : Int32) (u_warmup_a1 : Value) (u_calls_a1 : Value) (u_batches_a1 : Value) (h0 : Heap) (n0 : Nat) (Z0 : n0 ≤ h0.size) (E_a1 : Exa Z h0 a1 "com/example/lambdagate/lambdagate/RunLength") (F_warmup_a1 : Fld Z h0 a1 "com/example/lambdagate/lambdagate/RunLength" "warmup" "J" u_warmup_a1) (g_a1 : n0 ≤ a1) (F_calls_a1 : Fld Z h0 a1 "com/example/lambdagate/lambdagate/RunLength" "calls" "J" u_calls_a1) (F_batches_a1 : Fld Z h0 a1 "com/example/lambdagate/lambdagate/RunLength" "batches" "I" u_batches_a1) (hc7 : ¬ ((lcmpW q2 (0 : Int64)) < (0 : Int32))) (hc13 : ¬ (p4 < (2 : Int32))) (hc21 : ¬ ((lcmpW q3 (p4.toInt64)) < (0 : Int32))) (hc31 : ¬ ((0 : Int32) < (lcmpW q2 ((9223372036854775807 : Int64) - q3)))) :
    MetFree l (⟨"com/example/lambdagate/lambdagate/RunLength", "<init>", "(JJI)V"⟩ : MethodName) (head1 (Jvm.Cond.code (⟨"com/example/lambdagate/lambdagate/RunLength", "<init>", "(JJI)V"⟩ : MethodName) prog_23_method_1_code 6 none :: ws) ({ frames := 2, cells := 0, slots := 0, locals := 24 } : Room)) (fun a U => a = #[(.ref a1), (.long q2), (.long q3), (.int p4)] ∧ Z.Warmed39 U.vm ∧ U.heap = h0) (fun _ _ _ _ _ => True) (fun _ U o U' => ∃ v L, o = .returned v ∧ Q4 Z a1 q2 q3 p4 u_warmup_a1 u_calls_a1 u_batches_a1 h0 n0 v U'.heap L ∧ FrameEnd U o U' L ({ frames := 2, cells := 0, slots := 0, locals := 24 } : Room).cells ({ frames := 2, cells := 0, slots := 0, locals := 24 } : Room).slots) := by
  refine MetFree.of_bodySF (plainFor_of_name pn_4) hisR ?_
  intro p e s m args below meth c s₁ Bd hml0 hP hK
  obtain ⟨rfl, hZ, hh⟩ := hP
  have hx := Bd.exec
  have hby := Bd.bytes
  have hml : c.maxLocals = 6 := hml0
  have hown : s.vm.findClass "com/example/lambdagate/lambdagate/RunLength" = some m.cls := findClass_of_methodNamed Bd.named
  have hnm := (name_of_methodNamed Bd.named Bd.method).1
  have X0 : Stand p l e ({ frames := 2, cells := 0, slots := 0, locals := 24 } : Room) s m #[(.ref a1), (.long q2), (.long q3), (.int p4)] below meth c s₁ [] 0 0 := Stand.of_body Bd
  have e0 : s₁.heap = h0 := by rw [← hh, Bd.state]; rfl
  have N0 := Fr.nil n0
  have pre0 : ∀ t, Steps p.tables e below (s₁.setTop (mkF m 0 #[.val (.ref a1), .val (.long q2), .second, .val (.long q3), .second, .val (.int p4)] [])) t → Steps p.tables e below (s₁.setTop (entryFrame m #[(.ref a1), (.long q2), (.long q3), (.int p4)] 6)) t := fun t k => castTop (ef_4 m a1 q2 q3 p4) k
  obtain ⟨_, _, ⟨T5, L5, k5, n5⟩, -, X5, ⟨Lc5, hQ5, l5, y5, z5⟩, st5⟩ := X0.specialBack hx (y := (⟨"java/lang/Record", "<init>", "()V"⟩ : MethodName)) rfl hown (mvT hZ (hw _ (List.mem_of_getElem? (i := 18) rfl))) (mvT hZ (hw _ (List.mem_of_getElem? (i := 19) rfl))) (mvT hZ (hw _ (List.mem_of_getElem? (i := 22) rfl))) (by decide) (backOf (W := 0) (rm5 l Z a0 hw [] a1 h0 n0 Z0) hZ (hw _ (List.mem_of_getElem? (i := 22) rfl)) (hw _ (List.mem_of_getElem? (i := 21) rfl)) (by decide) (by decide)) (g := (mkF m 1 #[.val (.ref a1), .val (.long q2), .second, .val (.long q3), .second, .val (.int p4)] [(.ref a1)])) rfl (by rw [hml]; rfl) (Steps.refl _) (a := a1) (argsL := []) (rest := []) (lenOf pd_4_3 rfl) rfl (by show 2 * 0 + _ ≤ _; exact Nat.le_of_eq rfl) (hb hby d4_1) (fun _ _ => ⟨rfl, e0, (by decide : 0 + 0 ≤ _), (by decide : 0 + 0 ≤ _)⟩)
  dsimp only [Pt.U, Pt.locs, Pt.cells, Pt.slots] at X5 l5 y5 z5 st5 hQ5
  subst l5 y5 z5
  obtain ⟨rfl, N5q, e5q⟩ := hQ5
  have N5 := Fr.app N0 N5q
  have K5 : Keep h0 T5.heap [] := by rw [e5q]; exact Keep.refl h0 []
  obtain ⟨T6, h6, X6, e6, W6, st6⟩ := putF X5 hx hZ hown (host := "") (Or.inl (hw _ (List.mem_of_getElem? (i := 27) rfl))) Via.refl rfl (F_warmup_a1.keep K5 (fun q => nomatch q)) (E_a1.keep K5) (Or.inr ⟨(hw _ (List.mem_of_getElem? (i := 28) rfl)), rfl, hnm⟩) (hw _ (List.mem_of_getElem? (i := 13) rfl)) (ty := .long) (by decide) rfl rfl (g := (mkF m 53 #[.val (.ref a1), .val (.long q2), .second, .val (.long q3), .second, .val (.int p4)] [(.long q2), (.ref a1)])) rfl rfl (hb hby d4_53)
  have Fw6 := (F_warmup_a1.keep K5 (fun q => nomatch q)).same W6
  have K6 : Keep h0 h6 [a1] := (by rw [e5q]; exact Keep.refl h0 [a1] : Keep h0 T5.heap [a1]).wr W6 (Or.inl (List.mem_of_getElem? (i := 0) rfl))
  have N6 := Fr.snoc X6 N5 g_a1
  obtain ⟨T7, h7, X7, e7, W7, st7⟩ := putF X6 hx hZ hown (host := "") (Or.inl (hw _ (List.mem_of_getElem? (i := 29) rfl))) Via.refl e6 ((F_calls_a1.keep K5 (fun q => nomatch q)).other W6 (Or.inr (slot_ne (Or.inr (hw _ (List.mem_of_getElem? (i := 30) rfl))) (Or.inr (hw _ (List.mem_of_getElem? (i := 28) rfl))) (by decide) (t := .long) (t' := .long) (by decide) (by decide)))) ((E_a1.keep K5).wr W6) (Or.inr ⟨(hw _ (List.mem_of_getElem? (i := 30) rfl)), rfl, hnm⟩) (hw _ (List.mem_of_getElem? (i := 13) rfl)) (ty := .long) (by decide) rfl rfl (g := (mkF m 58 #[.val (.ref a1), .val (.long q2), .second, .val (.long q3), .second, .val (.int p4)] [(.long q3), (.ref a1)])) rfl rfl (hb hby d4_58)
  have Fw7 := ((F_calls_a1.keep K5 (fun q => nomatch q)).other W6 (Or.inr (slot_ne (Or.inr (hw _ (List.mem_of_getElem? (i := 30) rfl))) (Or.inr (hw _ (List.mem_of_getElem? (i := 28) rfl))) (by decide) (t := .long) (t' := .long) (by decide) (by decide)))).same W7
  have K7 : Keep h0 h7 [a1] := K6.wr W7 (Or.inl (List.mem_of_getElem? (i := 0) rfl))
  have N7 := Fr.snoc X7 N6 g_a1
  obtain ⟨T8, h8, X8, e8, W8, st8⟩ := putF X7 hx hZ hown (host := "") (Or.inl (hw _ (List.mem_of_getElem? (i := 31) rfl))) Via.refl e7 (((F_batches_a1.keep K5 (fun q => nomatch q)).other W6 (Or.inr (slot_ne (Or.inr (hw _ (List.mem_of_getElem? (i := 32) rfl))) (Or.inr (hw _ (List.mem_of_getElem? (i := 28) rfl))) (by decide) (t := .int) (t' := .long) (by decide) (by decide)))).other W7 (Or.inr (slot_ne (Or.inr (hw _ (List.mem_of_getElem? (i := 32) rfl))) (Or.inr (hw _ (List.mem_of_getElem? (i := 30) rfl))) (by decide) (t := .int) (t' := .long) (by decide) (by decide)))) (((E_a1.keep K5).wr W6).wr W7) (Or.inr ⟨(hw _ (List.mem_of_getElem? (i := 32) rfl)), rfl, hnm⟩) (hw _ (List.mem_of_getElem? (i := 13) rfl)) (ty := .int) (by decide) rfl rfl (g := (mkF m 64 #[.val (.ref a1), .val (.long q2), .second, .val (.long q3), .second, .val (.int p4)] [(.int p4), (.ref a1)])) rfl rfl (hb hby d4_64)
  have Fw8 := (((F_batches_a1.keep K5 (fun q => nomatch q)).other W6 (Or.inr (slot_ne (Or.inr (hw _ (List.mem_of_getElem? (i := 32) rfl))) (Or.inr (hw _ (List.mem_of_getElem? (i := 28) rfl))) (by decide) (t := .int) (t' := .long) (by decide) (by decide)))).other W7 (Or.inr (slot_ne (Or.inr (hw _ (List.mem_of_getElem? (i := 32) rfl))) (Or.inr (hw _ (List.mem_of_getElem? (i := 30) rfl))) (by decide) (t := .int) (t' := .long) (by decide) (by decide)))).same W8
  have K8 : Keep h0 h8 [a1] := K7.wr W8 (Or.inl (List.mem_of_getElem? (i := 0) rfl))
  have N8 := Fr.snoc X8 N7 g_a1
  obtain ⟨fs, hr, hrun, hended, hW, hsame⟩ := X8.leave (v := none) (fun _ => rfl)
  refine ⟨_, _, pre0 _ ?_, hrun, hended, _, _, rfl, ?_, ⟨_, rfl⟩, hW, hsame.mono (by decide) (by decide)⟩
  · show Steps p.tables e below (s₁.setTop (mkF m 0 #[.val (.ref a1), .val (.long q2), .second, .val (.long q3), .second, .val (.int p4)] [])) _
    refine XS.aloadN X0.here hx rfl (hb hby d4_0) rfl rfl ?_
    show Steps p.tables e below (s₁.setTop (mkF m 1 #[.val (.ref a1), .val (.long q2), .second, .val (.long q3), .second, .val (.int p4)] [(.ref a1)])) _
    refine st5.trans ?_
    show Steps p.tables e below (T5.setTop (mkF m 4 #[.val (.ref a1), .val (.long q2), .second, .val (.long q3), .second, .val (.int p4)] [])) _
    refine XS.lloadN X5.here hx rfl (hb hby d4_4) rfl ?_
    show Steps p.tables e below (T5.setTop (mkF m 5 #[.val (.ref a1), .val (.long q2), .second, .val (.long q3), .second, .val (.int p4)] [(.long q2)])) _
    refine XS.lconst X5.here hx rfl (hb hby d4_5) ?_
    show Steps p.tables e below (T5.setTop (mkF m 6 #[.val (.ref a1), .val (.long q2), .second, .val (.long q3), .second, .val (.int p4)] [(.long (0 : Int64)), (.long q2)])) _
    refine XS.lcmp X5.here hx rfl (hb hby d4_6) rfl ?_
    show Steps p.tables e below (T5.setTop (mkF m 7 #[.val (.ref a1), .val (.long q2), .second, .val (.long q3), .second, .val (.int p4)] [(.int (lcmpW q2 (0 : Int64)))])) _
    refine XS.ifNo X5.here hx rfl (hb hby d4_7) rfl ((if0 _ _).trans (flt hc7).1) ?_
    show Steps p.tables e below (T5.setTop (mkF m 10 #[.val (.ref a1), .val (.long q2), .second, .val (.long q3), .second, .val (.int p4)] [])) _
    refine XS.iload X5.here hx rfl (hb hby d4_10) rfl ?_
    show Steps p.tables e below (T5.setTop (mkF m 12 #[.val (.ref a1), .val (.long q2), .second, .val (.long q3), .second, .val (.int p4)] [(.int p4)])) _
    refine XS.iconst X5.here hx rfl (hb hby d4_12) ?_
    show Steps p.tables e below (T5.setTop (mkF m 13 #[.val (.ref a1), .val (.long q2), .second, .val (.long q3), .second, .val (.int p4)] [(.int (2 : Int32)), (.int p4)])) _
    refine XS.icmpNo X5.here hx rfl (hb hby d4_13) rfl (flt hc13).1 ?_
    show Steps p.tables e below (T5.setTop (mkF m 16 #[.val (.ref a1), .val (.long q2), .second, .val (.long q3), .second, .val (.int p4)] [])) _
    refine XS.lloadN X5.here hx rfl (hb hby d4_16) rfl ?_
    show Steps p.tables e below (T5.setTop (mkF m 17 #[.val (.ref a1), .val (.long q2), .second, .val (.long q3), .second, .val (.int p4)] [(.long q3)])) _
    refine XS.iload X5.here hx rfl (hb hby d4_17) rfl ?_
    show Steps p.tables e below (T5.setTop (mkF m 19 #[.val (.ref a1), .val (.long q2), .second, .val (.long q3), .second, .val (.int p4)] [(.int p4), (.long q3)])) _
    refine XS.i2l X5.here hx rfl (hb hby d4_19) rfl ?_
    show Steps p.tables e below (T5.setTop (mkF m 20 #[.val (.ref a1), .val (.long q2), .second, .val (.long q3), .second, .val (.int p4)] [(.long (p4.toInt64)), (.long q3)])) _
    refine XS.lcmp X5.here hx rfl (hb hby d4_20) rfl ?_
    show Steps p.tables e below (T5.setTop (mkF m 21 #[.val (.ref a1), .val (.long q2), .second, .val (.long q3), .second, .val (.int p4)] [(.int (lcmpW q3 (p4.toInt64)))])) _
    refine XS.ifNo X5.here hx rfl (hb hby d4_21) rfl ((if0 _ _).trans (flt hc21).1) ?_
    show Steps p.tables e below (T5.setTop (mkF m 24 #[.val (.ref a1), .val (.long q2), .second, .val (.long q3), .second, .val (.int p4)] [])) _
    refine XS.lloadN X5.here hx rfl (hb hby d4_24) rfl ?_
    show Steps p.tables e below (T5.setTop (mkF m 25 #[.val (.ref a1), .val (.long q2), .second, .val (.long q3), .second, .val (.int p4)] [(.long q2)])) _
    refine X5.ldc2Long hx hown (mvT hZ (hw _ (List.mem_of_getElem? (i := 26) rfl))) (g := (mkF m 25 #[.val (.ref a1), .val (.long q2), .second, .val (.long q3), .second, .val (.int p4)] [(.long q2)])) rfl (hb hby d4_25) _ ?_
    show Steps p.tables e below (T5.setTop (mkF m 28 #[.val (.ref a1), .val (.long q2), .second, .val (.long q3), .second, .val (.int p4)] [(.long (9223372036854775807 : Int64)), (.long q2)])) _
    refine XS.lloadN X5.here hx rfl (hb hby d4_28) rfl ?_
    show Steps p.tables e below (T5.setTop (mkF m 29 #[.val (.ref a1), .val (.long q2), .second, .val (.long q3), .second, .val (.int p4)] [(.long q3), (.long (9223372036854775807 : Int64)), (.long q2)])) _
    refine XS.lsub X5.here hx rfl (hb hby d4_29) rfl ?_
    show Steps p.tables e below (T5.setTop (mkF m 30 #[.val (.ref a1), .val (.long q2), .second, .val (.long q3), .second, .val (.int p4)] [(.long ((9223372036854775807 : Int64) - q3)), (.long q2)])) _
    refine XS.lcmp X5.here hx rfl (hb hby d4_30) rfl ?_
    show Steps p.tables e below (T5.setTop (mkF m 31 #[.val (.ref a1), .val (.long q2), .second, .val (.long q3), .second, .val (.int p4)] [(.int (lcmpW q2 ((9223372036854775807 : Int64) - q3)))])) _
    refine XS.ifYes X5.here hx rfl (pc0 := 31) (pc' := 51) rfl (hb hby d4_31) rfl ((if0 _ _).trans (flt hc31).2.2.2) (by decide) (by decide) ?_
    show Steps p.tables e below (T5.setTop (mkF m 51 #[.val (.ref a1), .val (.long q2), .second, .val (.long q3), .second, .val (.int p4)] [])) _
    refine XS.aloadN X5.here hx rfl (hb hby d4_51) rfl rfl ?_
    show Steps p.tables e below (T5.setTop (mkF m 52 #[.val (.ref a1), .val (.long q2), .second, .val (.long q3), .second, .val (.int p4)] [(.ref a1)])) _
    refine XS.lloadN X5.here hx rfl (hb hby d4_52) rfl ?_
    show Steps p.tables e below (T5.setTop (mkF m 53 #[.val (.ref a1), .val (.long q2), .second, .val (.long q3), .second, .val (.int p4)] [(.long q2), (.ref a1)])) _
    refine st6 _ ?_
    show Steps p.tables e below (T6.setTop (mkF m 56 #[.val (.ref a1), .val (.long q2), .second, .val (.long q3), .second, .val (.int p4)] [])) _
    refine XS.aloadN X6.here hx rfl (hb hby d4_56) rfl rfl ?_
    show Steps p.tables e below (T6.setTop (mkF m 57 #[.val (.ref a1), .val (.long q2), .second, .val (.long q3), .second, .val (.int p4)] [(.ref a1)])) _
    refine XS.lloadN X6.here hx rfl (hb hby d4_57) rfl ?_
    show Steps p.tables e below (T6.setTop (mkF m 58 #[.val (.ref a1), .val (.long q2), .second, .val (.long q3), .second, .val (.int p4)] [(.long q3), (.ref a1)])) _
    refine st7 _ ?_
    show Steps p.tables e below (T7.setTop (mkF m 61 #[.val (.ref a1), .val (.long q2), .second, .val (.long q3), .second, .val (.int p4)] [])) _
    refine XS.aloadN X7.here hx rfl (hb hby d4_61) rfl rfl ?_
    show Steps p.tables e below (T7.setTop (mkF m 62 #[.val (.ref a1), .val (.long q2), .second, .val (.long q3), .second, .val (.int p4)] [(.ref a1)])) _
    refine XS.iload X7.here hx rfl (hb hby d4_62) rfl ?_
    show Steps p.tables e below (T7.setTop (mkF m 64 #[.val (.ref a1), .val (.long q2), .second, .val (.long q3), .second, .val (.int p4)] [(.int p4), (.ref a1)])) _
    refine st8 _ ?_
    show Steps p.tables e below (T8.setTop (mkF m 67 #[.val (.ref a1), .val (.long q2), .second, .val (.long q3), .second, .val (.int p4)] [])) _
    exact X8.returnOut hx Bd.returns (hb hby d4_67) hr
  · show Q4 Z a1 q2 q3 p4 u_warmup_a1 u_calls_a1 u_batches_a1 h0 n0 _ T8.heap _
    rw [e8]
    exact ⟨rfl, N8, K8, ((((E_a1.keep K5).wr W6).wr W7).wr W8), Fw7.other W8 (Or.inr (slot_ne (Or.inr (hw _ (List.mem_of_getElem? (i := 30) rfl))) (Or.inr (hw _ (List.mem_of_getElem? (i := 32) rfl))) (by decide) (t := .long) (t' := .int) (by decide) (by decide))), Fw8⟩
theorem d7_0 : decode prog_23_method_2_code 0 = .ok (.aload_n 0, 1) := by decide +kernel
theorem d7_1 : decode prog_23_method_2_code 1 = .ok (.getfield 26, 3) := by decide +kernel
theorem d7_4 : decode prog_23_method_2_code 4 = .ok (.aload_n 0, 1) := by decide +kernel
theorem d7_5 : decode prog_23_method_2_code 5 = .ok (.getfield 29, 3) := by decide +kernel
theorem d7_8 : decode prog_23_method_2_code 8 = .ok (.i2l, 1) := by decide +kernel
theorem d7_9 : decode prog_23_method_2_code 9 = .ok (.ldiv, 1) := by decide +kernel
theorem d7_10 : decode prog_23_method_2_code 10 = .ok (.iload_n 1, 1) := by decide +kernel
theorem d7_11 : decode prog_23_method_2_code 11 = .ok (.i2l, 1) := by decide +kernel
theorem d7_12 : decode prog_23_method_2_code 12 = .ok (.aload_n 0, 1) := by decide +kernel
theorem d7_13 : decode prog_23_method_2_code 13 = .ok (.getfield 26, 3) := by decide +kernel
theorem d7_16 : decode prog_23_method_2_code 16 = .ok (.aload_n 0, 1) := by decide +kernel
theorem d7_17 : decode prog_23_method_2_code 17 = .ok (.getfield 29, 3) := by decide +kernel
theorem d7_20 : decode prog_23_method_2_code 20 = .ok (.i2l, 1) := by decide +kernel
theorem d7_21 : decode prog_23_method_2_code 21 = .ok (.lrem, 1) := by decide +kernel
theorem d7_22 : decode prog_23_method_2_code 22 = .ok (.lcmp, 1) := by decide +kernel
theorem d7_23 : decode prog_23_method_2_code 23 = .ok (.ifCond .ge 7, 3) := by decide +kernel
theorem d7_30 : decode prog_23_method_2_code 30 = .ok (.iconst 0, 1) := by decide +kernel
theorem d7_31 : decode prog_23_method_2_code 31 = .ok (.i2l, 1) := by decide +kernel
theorem d7_32 : decode prog_23_method_2_code 32 = .ok (.ladd, 1) := by decide +kernel
theorem d7_33 : decode prog_23_method_2_code 33 = .ok (.lreturn, 1) := by decide +kernel
theorem pn_7 : plainName "com/example/lambdagate/lambdagate/RunLength" = true := by first | (simp [plainName, overriddenIn]; done) | decide +kernel
theorem ef_7 (m : MethodId) (x0 : Addr) (x1 : Int32) : entryFrame m #[(.ref x0), (.int x1)] 2 = mkF m 0 #[.val (.ref x0), .val (.int x1)] [] := by first | (simp [entryFrame, mkF, argsToLocals, Value.category]; done) | rfl
def Q7 (Z : State) (a1 : Addr) (p2 : Int32) (w3 : Int64) (w5 : Int32) (h0 : Heap) (n0 : Nat) (v : Option Value) (h : Heap) (L : List Loc) : Prop := v = some (.long (own_bs w3 w5 p2)) ∧ Fr n0 L ∧ h = h0
set_option maxRecDepth 65536 in
set_option maxHeartbeats 40000000 in
theorem rm7t (l : Launch) (Z : State) (a0 : Array Value) (hw : ∀ d ∈ tables_1, d.before a0 Z = true) (ws : List Jvm.Cond) (a1 : Addr) (p2 : Int32) (w3 : Int64) (w5 : Int32) (h0 : Heap) (n0 : Nat) (Z0 : n0 ≤ h0.size) (F_calls_a1 : Fld Z h0 a1 "com/example/lambdagate/lambdagate/RunLength" "calls" "J" (.long w3)) (F_batches_a1 : Fld Z h0 a1 "com/example/lambdagate/lambdagate/RunLength" "batches" "I" (.int w5)) (hnz9 : ¬ ((w5.toInt64) = (0 : Int64))) (hnz21 : ¬ ((w5.toInt64) = (0 : Int64))) (hc23 : ¬ ((lcmpW (p2.toInt64) (w3 - (w3 / (w5.toInt64)) * (w5.toInt64))) < (0 : Int32))) :
    MetFree l (⟨"com/example/lambdagate/lambdagate/RunLength", "batchSize", "(I)J"⟩ : MethodName) (head1 (Jvm.Cond.code (⟨"com/example/lambdagate/lambdagate/RunLength", "batchSize", "(I)J"⟩ : MethodName) prog_23_method_2_code 2 (some .long) :: ws) ({ frames := 0, cells := 0, slots := 0, locals := 0 } : Room)) (fun a U => a = #[(.ref a1), (.int p2)] ∧ Z.Warmed39 U.vm ∧ U.heap = h0) (fun _ _ _ _ _ => True) (fun _ U o U' => ∃ v L, o = .returned v ∧ Q7 Z a1 p2 w3 w5 h0 n0 v U'.heap L ∧ FrameEnd U o U' L ({ frames := 0, cells := 0, slots := 0, locals := 0 } : Room).cells ({ frames := 0, cells := 0, slots := 0, locals := 0 } : Room).slots) := by
  refine MetFree.of_bodySF (plainFor_of_name pn_7) hisR ?_
  intro p e s m args below meth c s₁ Bd hml0 hP hK
  obtain ⟨rfl, hZ, hh⟩ := hP
  have hx := Bd.exec
  have hby := Bd.bytes
  have hml : c.maxLocals = 2 := hml0
  have hown : s.vm.findClass "com/example/lambdagate/lambdagate/RunLength" = some m.cls := findClass_of_methodNamed Bd.named
  have hnm := (name_of_methodNamed Bd.named Bd.method).1
  have X0 : Stand p l e ({ frames := 0, cells := 0, slots := 0, locals := 0 } : Room) s m #[(.ref a1), (.int p2)] below meth c s₁ [] 0 0 := Stand.of_body Bd
  have e0 : s₁.heap = h0 := by rw [← hh, Bd.state]; rfl
  have N0 := Fr.nil n0
  have pre0 : ∀ t, Steps p.tables e below (s₁.setTop (mkF m 0 #[.val (.ref a1), .val (.int p2)] [])) t → Steps p.tables e below (s₁.setTop (entryFrame m #[(.ref a1), (.int p2)] 2)) t := fun t k => castTop (ef_7 m a1 p2) k
  obtain ⟨T4, X4, e4, st4⟩ := getF X0 hx hZ hown (host := "") (Or.inl (hw _ (List.mem_of_getElem? (i := 29) rfl))) Via.refl e0 F_calls_a1 (g := (mkF m 1 #[.val (.ref a1), .val (.int p2)] [(.ref a1)])) rfl rfl (hb hby d7_1)
  obtain ⟨T6, X6, e6, st6⟩ := getF X4 hx hZ hown (host := "") (Or.inl (hw _ (List.mem_of_getElem? (i := 31) rfl))) Via.refl e4 F_batches_a1 (g := (mkF m 5 #[.val (.ref a1), .val (.int p2)] [(.ref a1), (.long w3)])) rfl rfl (hb hby d7_5)
  obtain ⟨T7, X7, e7, st7⟩ := getF X6 hx hZ hown (host := "") (Or.inl (hw _ (List.mem_of_getElem? (i := 29) rfl))) Via.refl e6 F_calls_a1 (g := (mkF m 13 #[.val (.ref a1), .val (.int p2)] [(.ref a1), (.long (p2.toInt64)), (.long (w3 / (w5.toInt64)))])) rfl rfl (hb hby d7_13)
  obtain ⟨T8, X8, e8, st8⟩ := getF X7 hx hZ hown (host := "") (Or.inl (hw _ (List.mem_of_getElem? (i := 31) rfl))) Via.refl e7 F_batches_a1 (g := (mkF m 17 #[.val (.ref a1), .val (.int p2)] [(.ref a1), (.long w3), (.long (p2.toInt64)), (.long (w3 / (w5.toInt64)))])) rfl rfl (hb hby d7_17)
  obtain ⟨fs, hr, hrun, hended, hW, hsame⟩ := X8.leave (v := some (.long ((w3 / (w5.toInt64)) + ((0 : Int32).toInt64)))) (fun h => by rw [Bd.returns] at h; cases h)
  refine ⟨_, _, pre0 _ ?_, hrun, hended, _, _, rfl, ?_, ⟨_, rfl⟩, hW, hsame.mono (by decide) (by decide)⟩
  · show Steps p.tables e below (s₁.setTop (mkF m 0 #[.val (.ref a1), .val (.int p2)] [])) _
    refine XS.aloadN X0.here hx rfl (hb hby d7_0) rfl rfl ?_
    show Steps p.tables e below (s₁.setTop (mkF m 1 #[.val (.ref a1), .val (.int p2)] [(.ref a1)])) _
    refine st4 _ ?_
    show Steps p.tables e below (T4.setTop (mkF m 4 #[.val (.ref a1), .val (.int p2)] [(.long w3)])) _
    refine XS.aloadN X4.here hx rfl (hb hby d7_4) rfl rfl ?_
    show Steps p.tables e below (T4.setTop (mkF m 5 #[.val (.ref a1), .val (.int p2)] [(.ref a1), (.long w3)])) _
    refine st6 _ ?_
    show Steps p.tables e below (T6.setTop (mkF m 8 #[.val (.ref a1), .val (.int p2)] [(.int w5), (.long w3)])) _
    refine XS.i2l X6.here hx rfl (hb hby d7_8) rfl ?_
    show Steps p.tables e below (T6.setTop (mkF m 9 #[.val (.ref a1), .val (.int p2)] [(.long (w5.toInt64)), (.long w3)])) _
    refine XS.ldiv X6.here hx rfl (hb hby d7_9) rfl hnz9 ?_
    show Steps p.tables e below (T6.setTop (mkF m 10 #[.val (.ref a1), .val (.int p2)] [(.long (w3 / (w5.toInt64)))])) _
    refine XS.iloadN X6.here hx rfl (hb hby d7_10) rfl ?_
    show Steps p.tables e below (T6.setTop (mkF m 11 #[.val (.ref a1), .val (.int p2)] [(.int p2), (.long (w3 / (w5.toInt64)))])) _
    refine XS.i2l X6.here hx rfl (hb hby d7_11) rfl ?_
    show Steps p.tables e below (T6.setTop (mkF m 12 #[.val (.ref a1), .val (.int p2)] [(.long (p2.toInt64)), (.long (w3 / (w5.toInt64)))])) _
    refine XS.aloadN X6.here hx rfl (hb hby d7_12) rfl rfl ?_
    show Steps p.tables e below (T6.setTop (mkF m 13 #[.val (.ref a1), .val (.int p2)] [(.ref a1), (.long (p2.toInt64)), (.long (w3 / (w5.toInt64)))])) _
    refine st7 _ ?_
    show Steps p.tables e below (T7.setTop (mkF m 16 #[.val (.ref a1), .val (.int p2)] [(.long w3), (.long (p2.toInt64)), (.long (w3 / (w5.toInt64)))])) _
    refine XS.aloadN X7.here hx rfl (hb hby d7_16) rfl rfl ?_
    show Steps p.tables e below (T7.setTop (mkF m 17 #[.val (.ref a1), .val (.int p2)] [(.ref a1), (.long w3), (.long (p2.toInt64)), (.long (w3 / (w5.toInt64)))])) _
    refine st8 _ ?_
    show Steps p.tables e below (T8.setTop (mkF m 20 #[.val (.ref a1), .val (.int p2)] [(.int w5), (.long w3), (.long (p2.toInt64)), (.long (w3 / (w5.toInt64)))])) _
    refine XS.i2l X8.here hx rfl (hb hby d7_20) rfl ?_
    show Steps p.tables e below (T8.setTop (mkF m 21 #[.val (.ref a1), .val (.int p2)] [(.long (w5.toInt64)), (.long w3), (.long (p2.toInt64)), (.long (w3 / (w5.toInt64)))])) _
    refine XS.lrem X8.here hx rfl (hb hby d7_21) rfl hnz21 ?_
    show Steps p.tables e below (T8.setTop (mkF m 22 #[.val (.ref a1), .val (.int p2)] [(.long (w3 - (w3 / (w5.toInt64)) * (w5.toInt64))), (.long (p2.toInt64)), (.long (w3 / (w5.toInt64)))])) _
    refine XS.lcmp X8.here hx rfl (hb hby d7_22) rfl ?_
    show Steps p.tables e below (T8.setTop (mkF m 23 #[.val (.ref a1), .val (.int p2)] [(.int (lcmpW (p2.toInt64) (w3 - (w3 / (w5.toInt64)) * (w5.toInt64)))), (.long (w3 / (w5.toInt64)))])) _
    refine XS.ifYes X8.here hx rfl (pc0 := 23) (pc' := 30) rfl (hb hby d7_23) rfl ((if0 _ _).trans (flt hc23).2.1) (by decide) (by decide) ?_
    show Steps p.tables e below (T8.setTop (mkF m 30 #[.val (.ref a1), .val (.int p2)] [(.long (w3 / (w5.toInt64)))])) _
    refine XS.iconst X8.here hx rfl (hb hby d7_30) ?_
    show Steps p.tables e below (T8.setTop (mkF m 31 #[.val (.ref a1), .val (.int p2)] [(.int (0 : Int32)), (.long (w3 / (w5.toInt64)))])) _
    refine XS.i2l X8.here hx rfl (hb hby d7_31) rfl ?_
    show Steps p.tables e below (T8.setTop (mkF m 32 #[.val (.ref a1), .val (.int p2)] [(.long ((0 : Int32).toInt64)), (.long (w3 / (w5.toInt64)))])) _
    refine XS.ladd X8.here hx rfl (hb hby d7_32) rfl ?_
    show Steps p.tables e below (T8.setTop (mkF m 33 #[.val (.ref a1), .val (.int p2)] [(.long ((w3 / (w5.toInt64)) + ((0 : Int32).toInt64)))])) _
    exact retL X8 hx Bd.returns (hb hby d7_33) hr
  · show Q7 Z a1 p2 w3 w5 h0 n0 _ T8.heap _
    rw [e8]
    exact ⟨congrArg (fun z => some (Value.long z)) (own_bs_t hc23).symm, N0, rfl⟩
theorem d7_26 : decode prog_23_method_2_code 26 = .ok (.iconst 1, 1) := by decide +kernel
theorem d7_27 : decode prog_23_method_2_code 27 = .ok (.goto 4, 3) := by decide +kernel
set_option maxRecDepth 65536 in
set_option maxHeartbeats 40000000 in
theorem rm7f (l : Launch) (Z : State) (a0 : Array Value) (hw : ∀ d ∈ tables_1, d.before a0 Z = true) (ws : List Jvm.Cond) (a1 : Addr) (p2 : Int32) (w3 : Int64) (w5 : Int32) (h0 : Heap) (n0 : Nat) (Z0 : n0 ≤ h0.size) (F_calls_a1 : Fld Z h0 a1 "com/example/lambdagate/lambdagate/RunLength" "calls" "J" (.long w3)) (F_batches_a1 : Fld Z h0 a1 "com/example/lambdagate/lambdagate/RunLength" "batches" "I" (.int w5)) (hnz9 : ¬ ((w5.toInt64) = (0 : Int64))) (hnz21 : ¬ ((w5.toInt64) = (0 : Int64))) (hc23 : (lcmpW (p2.toInt64) (w3 - (w3 / (w5.toInt64)) * (w5.toInt64))) < (0 : Int32)) :
    MetFree l (⟨"com/example/lambdagate/lambdagate/RunLength", "batchSize", "(I)J"⟩ : MethodName) (head1 (Jvm.Cond.code (⟨"com/example/lambdagate/lambdagate/RunLength", "batchSize", "(I)J"⟩ : MethodName) prog_23_method_2_code 2 (some .long) :: ws) ({ frames := 0, cells := 0, slots := 0, locals := 0 } : Room)) (fun a U => a = #[(.ref a1), (.int p2)] ∧ Z.Warmed39 U.vm ∧ U.heap = h0) (fun _ _ _ _ _ => True) (fun _ U o U' => ∃ v L, o = .returned v ∧ Q7 Z a1 p2 w3 w5 h0 n0 v U'.heap L ∧ FrameEnd U o U' L ({ frames := 0, cells := 0, slots := 0, locals := 0 } : Room).cells ({ frames := 0, cells := 0, slots := 0, locals := 0 } : Room).slots) := by
  refine MetFree.of_bodySF (plainFor_of_name pn_7) hisR ?_
  intro p e s m args below meth c s₁ Bd hml0 hP hK
  obtain ⟨rfl, hZ, hh⟩ := hP
  have hx := Bd.exec
  have hby := Bd.bytes
  have hml : c.maxLocals = 2 := hml0
  have hown : s.vm.findClass "com/example/lambdagate/lambdagate/RunLength" = some m.cls := findClass_of_methodNamed Bd.named
  have hnm := (name_of_methodNamed Bd.named Bd.method).1
  have X0 : Stand p l e ({ frames := 0, cells := 0, slots := 0, locals := 0 } : Room) s m #[(.ref a1), (.int p2)] below meth c s₁ [] 0 0 := Stand.of_body Bd
  have e0 : s₁.heap = h0 := by rw [← hh, Bd.state]; rfl
  have N0 := Fr.nil n0
  have pre0 : ∀ t, Steps p.tables e below (s₁.setTop (mkF m 0 #[.val (.ref a1), .val (.int p2)] [])) t → Steps p.tables e below (s₁.setTop (entryFrame m #[(.ref a1), (.int p2)] 2)) t := fun t k => castTop (ef_7 m a1 p2) k
  obtain ⟨T4, X4, e4, st4⟩ := getF X0 hx hZ hown (host := "") (Or.inl (hw _ (List.mem_of_getElem? (i := 29) rfl))) Via.refl e0 F_calls_a1 (g := (mkF m 1 #[.val (.ref a1), .val (.int p2)] [(.ref a1)])) rfl rfl (hb hby d7_1)
  obtain ⟨T6, X6, e6, st6⟩ := getF X4 hx hZ hown (host := "") (Or.inl (hw _ (List.mem_of_getElem? (i := 31) rfl))) Via.refl e4 F_batches_a1 (g := (mkF m 5 #[.val (.ref a1), .val (.int p2)] [(.ref a1), (.long w3)])) rfl rfl (hb hby d7_5)
  obtain ⟨T7, X7, e7, st7⟩ := getF X6 hx hZ hown (host := "") (Or.inl (hw _ (List.mem_of_getElem? (i := 29) rfl))) Via.refl e6 F_calls_a1 (g := (mkF m 13 #[.val (.ref a1), .val (.int p2)] [(.ref a1), (.long (p2.toInt64)), (.long (w3 / (w5.toInt64)))])) rfl rfl (hb hby d7_13)
  obtain ⟨T8, X8, e8, st8⟩ := getF X7 hx hZ hown (host := "") (Or.inl (hw _ (List.mem_of_getElem? (i := 31) rfl))) Via.refl e7 F_batches_a1 (g := (mkF m 17 #[.val (.ref a1), .val (.int p2)] [(.ref a1), (.long w3), (.long (p2.toInt64)), (.long (w3 / (w5.toInt64)))])) rfl rfl (hb hby d7_17)
  obtain ⟨fs, hr, hrun, hended, hW, hsame⟩ := X8.leave (v := some (.long ((w3 / (w5.toInt64)) + ((1 : Int32).toInt64)))) (fun h => by rw [Bd.returns] at h; cases h)
  refine ⟨_, _, pre0 _ ?_, hrun, hended, _, _, rfl, ?_, ⟨_, rfl⟩, hW, hsame.mono (by decide) (by decide)⟩
  · show Steps p.tables e below (s₁.setTop (mkF m 0 #[.val (.ref a1), .val (.int p2)] [])) _
    refine XS.aloadN X0.here hx rfl (hb hby d7_0) rfl rfl ?_
    show Steps p.tables e below (s₁.setTop (mkF m 1 #[.val (.ref a1), .val (.int p2)] [(.ref a1)])) _
    refine st4 _ ?_
    show Steps p.tables e below (T4.setTop (mkF m 4 #[.val (.ref a1), .val (.int p2)] [(.long w3)])) _
    refine XS.aloadN X4.here hx rfl (hb hby d7_4) rfl rfl ?_
    show Steps p.tables e below (T4.setTop (mkF m 5 #[.val (.ref a1), .val (.int p2)] [(.ref a1), (.long w3)])) _
    refine st6 _ ?_
    show Steps p.tables e below (T6.setTop (mkF m 8 #[.val (.ref a1), .val (.int p2)] [(.int w5), (.long w3)])) _
    refine XS.i2l X6.here hx rfl (hb hby d7_8) rfl ?_
    show Steps p.tables e below (T6.setTop (mkF m 9 #[.val (.ref a1), .val (.int p2)] [(.long (w5.toInt64)), (.long w3)])) _
    refine XS.ldiv X6.here hx rfl (hb hby d7_9) rfl hnz9 ?_
    show Steps p.tables e below (T6.setTop (mkF m 10 #[.val (.ref a1), .val (.int p2)] [(.long (w3 / (w5.toInt64)))])) _
    refine XS.iloadN X6.here hx rfl (hb hby d7_10) rfl ?_
    show Steps p.tables e below (T6.setTop (mkF m 11 #[.val (.ref a1), .val (.int p2)] [(.int p2), (.long (w3 / (w5.toInt64)))])) _
    refine XS.i2l X6.here hx rfl (hb hby d7_11) rfl ?_
    show Steps p.tables e below (T6.setTop (mkF m 12 #[.val (.ref a1), .val (.int p2)] [(.long (p2.toInt64)), (.long (w3 / (w5.toInt64)))])) _
    refine XS.aloadN X6.here hx rfl (hb hby d7_12) rfl rfl ?_
    show Steps p.tables e below (T6.setTop (mkF m 13 #[.val (.ref a1), .val (.int p2)] [(.ref a1), (.long (p2.toInt64)), (.long (w3 / (w5.toInt64)))])) _
    refine st7 _ ?_
    show Steps p.tables e below (T7.setTop (mkF m 16 #[.val (.ref a1), .val (.int p2)] [(.long w3), (.long (p2.toInt64)), (.long (w3 / (w5.toInt64)))])) _
    refine XS.aloadN X7.here hx rfl (hb hby d7_16) rfl rfl ?_
    show Steps p.tables e below (T7.setTop (mkF m 17 #[.val (.ref a1), .val (.int p2)] [(.ref a1), (.long w3), (.long (p2.toInt64)), (.long (w3 / (w5.toInt64)))])) _
    refine st8 _ ?_
    show Steps p.tables e below (T8.setTop (mkF m 20 #[.val (.ref a1), .val (.int p2)] [(.int w5), (.long w3), (.long (p2.toInt64)), (.long (w3 / (w5.toInt64)))])) _
    refine XS.i2l X8.here hx rfl (hb hby d7_20) rfl ?_
    show Steps p.tables e below (T8.setTop (mkF m 21 #[.val (.ref a1), .val (.int p2)] [(.long (w5.toInt64)), (.long w3), (.long (p2.toInt64)), (.long (w3 / (w5.toInt64)))])) _
    refine XS.lrem X8.here hx rfl (hb hby d7_21) rfl hnz21 ?_
    show Steps p.tables e below (T8.setTop (mkF m 22 #[.val (.ref a1), .val (.int p2)] [(.long (w3 - (w3 / (w5.toInt64)) * (w5.toInt64))), (.long (p2.toInt64)), (.long (w3 / (w5.toInt64)))])) _
    refine XS.lcmp X8.here hx rfl (hb hby d7_22) rfl ?_
    show Steps p.tables e below (T8.setTop (mkF m 23 #[.val (.ref a1), .val (.int p2)] [(.int (lcmpW (p2.toInt64) (w3 - (w3 / (w5.toInt64)) * (w5.toInt64)))), (.long (w3 / (w5.toInt64)))])) _
    refine XS.ifNo X8.here hx rfl (hb hby d7_23) rfl ((if0 _ _).trans (tlt hc23).2.1) ?_
    show Steps p.tables e below (T8.setTop (mkF m 26 #[.val (.ref a1), .val (.int p2)] [(.long (w3 / (w5.toInt64)))])) _
    refine XS.iconst X8.here hx rfl (hb hby d7_26) ?_
    show Steps p.tables e below (T8.setTop (mkF m 27 #[.val (.ref a1), .val (.int p2)] [(.int (1 : Int32)), (.long (w3 / (w5.toInt64)))])) _
    refine XS.goto X8.here hx rfl (pc0 := 27) (pc' := 31) rfl (hb hby d7_27) (by decide) (by decide) ?_
    show Steps p.tables e below (T8.setTop (mkF m 31 #[.val (.ref a1), .val (.int p2)] [(.int (1 : Int32)), (.long (w3 / (w5.toInt64)))])) _
    refine XS.i2l X8.here hx rfl (hb hby d7_31) rfl ?_
    show Steps p.tables e below (T8.setTop (mkF m 32 #[.val (.ref a1), .val (.int p2)] [(.long ((1 : Int32).toInt64)), (.long (w3 / (w5.toInt64)))])) _
    refine XS.ladd X8.here hx rfl (hb hby d7_32) rfl ?_
    show Steps p.tables e below (T8.setTop (mkF m 33 #[.val (.ref a1), .val (.int p2)] [(.long ((w3 / (w5.toInt64)) + ((1 : Int32).toInt64)))])) _
    exact retL X8 hx Bd.returns (hb hby d7_33) hr
  · show Q7 Z a1 p2 w3 w5 h0 n0 _ T8.heap _
    rw [e8]
    exact ⟨congrArg (fun z => some (Value.long z)) (own_bs_f hc23).symm, N0, rfl⟩
theorem rm7 (l : Launch) (Z : State) (a0 : Array Value) (hw : ∀ d ∈ tables_1, d.before a0 Z = true) (ws : List Jvm.Cond) (a1 : Addr) (p2 : Int32) (w3 : Int64) (w5 : Int32) (h0 : Heap) (n0 : Nat) (Z0 : n0 ≤ h0.size) (F_calls_a1 : Fld Z h0 a1 "com/example/lambdagate/lambdagate/RunLength" "calls" "J" (.long w3)) (F_batches_a1 : Fld Z h0 a1 "com/example/lambdagate/lambdagate/RunLength" "batches" "I" (.int w5)) (hnz9 : ¬ ((w5.toInt64) = (0 : Int64))) (hnz21 : ¬ ((w5.toInt64) = (0 : Int64))) :
    MetFree l (⟨"com/example/lambdagate/lambdagate/RunLength", "batchSize", "(I)J"⟩ : MethodName) (head1 (Jvm.Cond.code (⟨"com/example/lambdagate/lambdagate/RunLength", "batchSize", "(I)J"⟩ : MethodName) prog_23_method_2_code 2 (some .long) :: ws) ({ frames := 0, cells := 0, slots := 0, locals := 0 } : Room)) (fun a U => a = #[(.ref a1), (.int p2)] ∧ Z.Warmed39 U.vm ∧ U.heap = h0) (fun _ _ _ _ _ => True) (fun _ U o U' => ∃ v L, o = .returned v ∧ Q7 Z a1 p2 w3 w5 h0 n0 v U'.heap L ∧ FrameEnd U o U' L ({ frames := 0, cells := 0, slots := 0, locals := 0 } : Room).cells ({ frames := 0, cells := 0, slots := 0, locals := 0 } : Room).slots) := by
  by_cases hcase : ¬ ((lcmpW (p2.toInt64) (w3 - (w3 / (w5.toInt64)) * (w5.toInt64))) < (0 : Int32))
  · exact rm7t l Z a0 hw ws a1 p2 w3 w5 h0 n0 Z0 F_calls_a1 F_batches_a1 hnz9 hnz21 hcase
  · exact rm7f l Z a0 hw ws a1 p2 w3 w5 h0 n0 Z0 F_calls_a1 F_batches_a1 hnz9 hnz21 (Decidable.of_not_not hcase)
theorem d8_0 : decode method_2_code 0 = .ok (.lload_n 0, 1) := by decide +kernel
theorem d8_1 : decode method_2_code 1 = .ok (.lconst 1, 1) := by decide +kernel
theorem d8_2 : decode method_2_code 2 = .ok (.lsub, 1) := by decide +kernel
theorem d8_3 : decode method_2_code 3 = .ok (.iload_n 3, 1) := by decide +kernel
theorem d8_4 : decode method_2_code 4 = .ok (.i2l, 1) := by decide +kernel
theorem d8_5 : decode method_2_code 5 = .ok (.lsub, 1) := by decide +kernel
theorem d8_6 : decode method_2_code 6 = .ok (.iload_n 2, 1) := by decide +kernel
theorem d8_7 : decode method_2_code 7 = .ok (.i2l, 1) := by decide +kernel
theorem d8_8 : decode method_2_code 8 = .ok (.ldiv, 1) := by decide +kernel
theorem d8_9 : decode method_2_code 9 = .ok (.lconst 1, 1) := by decide +kernel
theorem d8_10 : decode method_2_code 10 = .ok (.ladd, 1) := by decide +kernel
theorem d8_11 : decode method_2_code 11 = .ok (.lreturn, 1) := by decide +kernel
theorem pn_8 : plainName "com/example/lambdagate/lambdagate/RunLengthBatchSizePinLaw" = true := by first | (simp [plainName, overriddenIn]; done) | decide +kernel
theorem ef_8 (m : MethodId) (x0 : Int64) (x1 : Int32) (x2 : Int32) : entryFrame m #[(.long x0), (.int x1), (.int x2)] 4 = mkF m 0 #[.val (.long x0), .second, .val (.int x1), .val (.int x2)] [] := by first | (simp [entryFrame, mkF, argsToLocals, Value.category]; done) | rfl
def Q8 (Z : State) (q1 : Int64) (p2 : Int32) (p3 : Int32) (h0 : Heap) (n0 : Nat) (v : Option Value) (h : Heap) (L : List Loc) : Prop := v = some (.long (own_exp q1 p2 p3)) ∧ Fr n0 L ∧ h = h0
set_option maxRecDepth 65536 in
set_option maxHeartbeats 40000000 in
theorem rm8 (l : Launch) (Z : State) (a0 : Array Value) (hw : ∀ d ∈ tables_1, d.before a0 Z = true) (ws : List Jvm.Cond) (q1 : Int64) (p2 : Int32) (p3 : Int32) (h0 : Heap) (n0 : Nat) (Z0 : n0 ≤ h0.size) (hnz8 : ¬ ((p2.toInt64) = (0 : Int64))) :
    MetFree l (⟨"com/example/lambdagate/lambdagate/RunLengthBatchSizePinLaw", "expected", "(JII)J"⟩ : MethodName) (head1 (Jvm.Cond.code (⟨"com/example/lambdagate/lambdagate/RunLengthBatchSizePinLaw", "expected", "(JII)J"⟩ : MethodName) method_2_code 4 (some .long) :: ws) ({ frames := 0, cells := 0, slots := 0, locals := 0 } : Room)) (fun a U => a = #[(.long q1), (.int p2), (.int p3)] ∧ Z.Warmed39 U.vm ∧ U.heap = h0) (fun _ _ _ _ _ => True) (fun _ U o U' => ∃ v L, o = .returned v ∧ Q8 Z q1 p2 p3 h0 n0 v U'.heap L ∧ FrameEnd U o U' L ({ frames := 0, cells := 0, slots := 0, locals := 0 } : Room).cells ({ frames := 0, cells := 0, slots := 0, locals := 0 } : Room).slots) := by
  refine MetFree.of_bodySF (plainFor_of_name pn_8) hisR ?_
  intro p e s m args below meth c s₁ Bd hml0 hP hK
  obtain ⟨rfl, hZ, hh⟩ := hP
  have hx := Bd.exec
  have hby := Bd.bytes
  have hml : c.maxLocals = 4 := hml0
  have hown : s.vm.findClass "com/example/lambdagate/lambdagate/RunLengthBatchSizePinLaw" = some m.cls := findClass_of_methodNamed Bd.named
  have hnm := (name_of_methodNamed Bd.named Bd.method).1
  have X0 : Stand p l e ({ frames := 0, cells := 0, slots := 0, locals := 0 } : Room) s m #[(.long q1), (.int p2), (.int p3)] below meth c s₁ [] 0 0 := Stand.of_body Bd
  have e0 : s₁.heap = h0 := by rw [← hh, Bd.state]; rfl
  have N0 := Fr.nil n0
  have pre0 : ∀ t, Steps p.tables e below (s₁.setTop (mkF m 0 #[.val (.long q1), .second, .val (.int p2), .val (.int p3)] [])) t → Steps p.tables e below (s₁.setTop (entryFrame m #[(.long q1), (.int p2), (.int p3)] 4)) t := fun t k => castTop (ef_8 m q1 p2 p3) k

  obtain ⟨fs, hr, hrun, hended, hW, hsame⟩ := X0.leave (v := some (.long ((((q1 - (1 : Int64)) - (p3.toInt64)) / (p2.toInt64)) + (1 : Int64)))) (fun h => by rw [Bd.returns] at h; cases h)
  refine ⟨_, _, pre0 _ ?_, hrun, hended, _, _, rfl, ?_, ⟨_, rfl⟩, hW, hsame.mono (by decide) (by decide)⟩
  · show Steps p.tables e below (s₁.setTop (mkF m 0 #[.val (.long q1), .second, .val (.int p2), .val (.int p3)] [])) _
    refine XS.lloadN X0.here hx rfl (hb hby d8_0) rfl ?_
    show Steps p.tables e below (s₁.setTop (mkF m 1 #[.val (.long q1), .second, .val (.int p2), .val (.int p3)] [(.long q1)])) _
    refine XS.lconst X0.here hx rfl (hb hby d8_1) ?_
    show Steps p.tables e below (s₁.setTop (mkF m 2 #[.val (.long q1), .second, .val (.int p2), .val (.int p3)] [(.long (1 : Int64)), (.long q1)])) _
    refine XS.lsub X0.here hx rfl (hb hby d8_2) rfl ?_
    show Steps p.tables e below (s₁.setTop (mkF m 3 #[.val (.long q1), .second, .val (.int p2), .val (.int p3)] [(.long (q1 - (1 : Int64)))])) _
    refine XS.iloadN X0.here hx rfl (hb hby d8_3) rfl ?_
    show Steps p.tables e below (s₁.setTop (mkF m 4 #[.val (.long q1), .second, .val (.int p2), .val (.int p3)] [(.int p3), (.long (q1 - (1 : Int64)))])) _
    refine XS.i2l X0.here hx rfl (hb hby d8_4) rfl ?_
    show Steps p.tables e below (s₁.setTop (mkF m 5 #[.val (.long q1), .second, .val (.int p2), .val (.int p3)] [(.long (p3.toInt64)), (.long (q1 - (1 : Int64)))])) _
    refine XS.lsub X0.here hx rfl (hb hby d8_5) rfl ?_
    show Steps p.tables e below (s₁.setTop (mkF m 6 #[.val (.long q1), .second, .val (.int p2), .val (.int p3)] [(.long ((q1 - (1 : Int64)) - (p3.toInt64)))])) _
    refine XS.iloadN X0.here hx rfl (hb hby d8_6) rfl ?_
    show Steps p.tables e below (s₁.setTop (mkF m 7 #[.val (.long q1), .second, .val (.int p2), .val (.int p3)] [(.int p2), (.long ((q1 - (1 : Int64)) - (p3.toInt64)))])) _
    refine XS.i2l X0.here hx rfl (hb hby d8_7) rfl ?_
    show Steps p.tables e below (s₁.setTop (mkF m 8 #[.val (.long q1), .second, .val (.int p2), .val (.int p3)] [(.long (p2.toInt64)), (.long ((q1 - (1 : Int64)) - (p3.toInt64)))])) _
    refine XS.ldiv X0.here hx rfl (hb hby d8_8) rfl hnz8 ?_
    show Steps p.tables e below (s₁.setTop (mkF m 9 #[.val (.long q1), .second, .val (.int p2), .val (.int p3)] [(.long (((q1 - (1 : Int64)) - (p3.toInt64)) / (p2.toInt64)))])) _
    refine XS.lconst X0.here hx rfl (hb hby d8_9) ?_
    show Steps p.tables e below (s₁.setTop (mkF m 10 #[.val (.long q1), .second, .val (.int p2), .val (.int p3)] [(.long (1 : Int64)), (.long (((q1 - (1 : Int64)) - (p3.toInt64)) / (p2.toInt64)))])) _
    refine XS.ladd X0.here hx rfl (hb hby d8_10) rfl ?_
    show Steps p.tables e below (s₁.setTop (mkF m 11 #[.val (.long q1), .second, .val (.int p2), .val (.int p3)] [(.long ((((q1 - (1 : Int64)) - (p3.toInt64)) / (p2.toInt64)) + (1 : Int64)))])) _
    exact retL X0 hx Bd.returns (hb hby d8_11) hr
  · show Q8 Z q1 p2 p3 h0 n0 _ s₁.heap _
    rw [e0]
    exact ⟨rfl, N0, rfl⟩
theorem pn_0 : plainName "com/example/lambdagate/lambdagate/RunLengthBatchSizePinLaw" = true := by first | (simp [plainName, overriddenIn]; done) | decide +kernel
theorem pd_0_1 : parseMethodDescriptor "(JJ)J" = some ⟨[.long, .long], some .long⟩ := by decide +kernel
theorem pd_0_2 : parseMethodDescriptor "(JJI)V" = some ⟨[.long, .long, .int], none⟩ := by decide +kernel
theorem pd_0_4 : parseMethodDescriptor "(I)J" = some ⟨[.int], some .long⟩ := by decide +kernel
theorem pd_0_5 : parseMethodDescriptor "(JII)J" = some ⟨[.long, .int, .int], some .long⟩ := by decide +kernel
theorem ef_0 (m : MethodId) (x0 : Int64) (x1 : Int64) (x2 : Int32) (x3 : Int32) (x4 : Int32) : entryFrame m #[(.long x0), (.long x1), (.int x2), (.int x3), (.int x4)] maxLocals = mkF m 0 #[.val (.long x0), .second, .val (.long x1), .second, .val (.int x2), .val (.int x3), .val (.int x4), .unset, .unset, .unset, .unset, .unset, .unset, .unset, .unset, .unset] [] := by first | (simp [entryFrame, mkF, argsToLocals, Value.category, maxLocals]; done) | rfl
def Q0 (Z : State) (q1 : Int64) (q2 : Int64) (p3 : Int32) (p4 : Int32) (p5 : Int32) (h0 : Heap) (n0 : Nat) (v : Option Value) (h : Heap) (L : List Loc) : Prop := v = some (.int (1 : Int32)) ∧ Fr n0 L
set_option maxRecDepth 65536 in
set_option maxHeartbeats 40000000 in
theorem rm0S (l : Launch) (Z : State) (a0 : Array Value) (hw : ∀ d ∈ tables_1, d.before a0 Z = true) (ws : List Jvm.Cond) (q1 : Int64) (q2 : Int64) (p3 : Int32) (p4 : Int32) (p5 : Int32) (h0 : Heap) (n0 : Nat) (Z0 : n0 ≤ h0.size) (hc4 : ¬ ((p5 &&& (1 : Int32)) = (0 : Int32))) (hc16 : ¬ ((1 : Int32) = (0 : Int32))) (hc42 : ¬ ((1 : Int32) = (0 : Int32))) (hnz93 : ¬ (((2 : Int32) + (p3 &&& (7 : Int32))) = (0 : Int32))) (hc140 : ¬ ((1 : Int32) = (0 : Int32))) (hc170 : ¬ ((1 : Int32) = (0 : Int32))) :
    MetFree l x (head1 (Jvm.Cond.code x code maxLocals ret :: ws) room_1) (fun a U => a = #[(.long q1), (.long q2), (.int p3), (.int p4), (.int p5)] ∧ Z.Warmed39 U.vm ∧ U.heap = h0) (fun _ _ _ _ _ => True) (fun _ U o U' => ∃ v L, o = .returned v ∧ Q0 Z q1 q2 p3 p4 p5 h0 n0 v U'.heap L ∧ FrameEnd U o U' L room_1.cells room_1.slots) := by
  refine MetFree.of_bodySF (plainFor_of_name pn_0) hisR ?_
  intro p e s m args below meth c s₁ Bd hml0 hP hK
  obtain ⟨rfl, hZ, hh⟩ := hP
  have hx := Bd.exec
  have hby := Bd.bytes
  have hml : c.maxLocals = 16 := hml0
  have hown : s.vm.findClass "com/example/lambdagate/lambdagate/RunLengthBatchSizePinLaw" = some m.cls := findClass_of_methodNamed Bd.named
  have hnm := (name_of_methodNamed Bd.named Bd.method).1
  have X0 : Stand p l e room_1 s m #[(.long q1), (.long q2), (.int p3), (.int p4), (.int p5)] below meth c s₁ [] 0 0 := Stand.of_body Bd
  have e0 : s₁.heap = h0 := by rw [← hh, Bd.state]; rfl
  have N0 := Fr.nil n0
  have pre0 : ∀ t, Steps p.tables e below (s₁.setTop (mkF m 0 #[.val (.long q1), .second, .val (.long q2), .second, .val (.int p3), .val (.int p4), .val (.int p5), .unset, .unset, .unset, .unset, .unset, .unset, .unset, .unset, .unset] [])) t → Steps p.tables e below (s₁.setTop (entryFrame m #[(.long q1), (.long q2), (.int p3), (.int p4), (.int p5)] maxLocals)) t := fun t k => castTop (ef_0 m q1 q2 p3 p4 p5) k
  obtain ⟨_, _, ⟨T6, L6, k6, n6⟩, -, X6, ⟨Lc6, hQ6, l6, y6, z6⟩, st6⟩ := Jvm.LawKit.callS X0 hx (y := (⟨"java/lang/Math", "min", "(JJ)J"⟩ : MethodName)) hown (mvT hZ (hw _ (List.mem_of_getElem? (i := 9) rfl))) (mvT hZ (hw _ (List.mem_of_getElem? (i := 10) rfl))) (mvT hZ (hw _ (List.mem_of_getElem? (i := 3) rfl))) (mvT hZ (hw _ (List.mem_of_getElem? (i := 11) rfl))) (by decide) (backOf (W := 0) (rm3 l Z a0 hw [] (q1 &&& (9223372036854775807 : Int64)) ((9223372036854775807 : Int64) - ((((2 : Int32) + (p3 &&& (7 : Int32))).toInt64) + (q2 &&& (63 : Int64)))) h0 n0 Z0) hZ (hw _ (List.mem_of_getElem? (i := 11) rfl)) (hw _ (List.mem_of_getElem? (i := 3) rfl)) (by decide) (by decide)) (g := (mkF m 81 #[.val (.long q1), .second, .val (.long q2), .second, .val (.int p3), .val (.int p4), .val (.int p5), .val (.int (1 : Int32)), .val (.int ((2 : Int32) + (p3 &&& (7 : Int32)))), .val (.long ((((2 : Int32) + (p3 &&& (7 : Int32))).toInt64) + (q2 &&& (63 : Int64)))), .second, .unset, .unset, .unset, .unset, .unset] [(.long ((9223372036854775807 : Int64) - ((((2 : Int32) + (p3 &&& (7 : Int32))).toInt64) + (q2 &&& (63 : Int64))))), (.long (q1 &&& (9223372036854775807 : Int64)))])) rfl (by rw [hml]; rfl) (argsL := [(.long (q1 &&& (9223372036854775807 : Int64))), (.long ((9223372036854775807 : Int64) - ((((2 : Int32) + (p3 &&& (7 : Int32))).toInt64) + (q2 &&& (63 : Int64)))))]) (rest := []) (lenOf pd_0_1 rfl) rfl (by show 2 * 0 + _ ≤ _; exact Nat.le_of_eq rfl) (hb hby at_81) (fun _ _ => ⟨rfl, e0, (by decide : 0 + 0 ≤ _), (by decide : 0 + 0 ≤ _)⟩)
  dsimp only [Pt.U, Pt.locs, Pt.cells, Pt.slots] at X6 l6 y6 z6 st6 hQ6
  subst l6 y6 z6
  obtain ⟨rfl, N6q, e6q⟩ := hQ6
  have N6 := Fr.app N0 N6q
  have K6 : Keep h0 T6.heap [] := by rw [e6q]; exact Keep.refl h0 []
  have Z6 : n0 ≤ T6.heap.size := Nat.le_trans Z0 K6.1
  obtain ⟨T7, h7, X7, e7, E7, A7, D7, -, st7⟩ := newO X6 hx hZ hown (hw _ (List.mem_of_getElem? (i := 12) rfl)) (hw _ (List.mem_of_getElem? (i := 13) rfl)) (hw _ (List.mem_of_getElem? (i := 14) rfl)) rfl (g := (mkF m 96 #[.val (.long q1), .second, .val (.long q2), .second, .val (.int p3), .val (.int p4), .val (.int p5), .val (.int (1 : Int32)), .val (.int ((2 : Int32) + (p3 &&& (7 : Int32)))), .val (.long ((((2 : Int32) + (p3 &&& (7 : Int32))).toInt64) + (q2 &&& (63 : Int64)))), .second, .val (.long (own_minL (q1 &&& (9223372036854775807 : Int64)) ((9223372036854775807 : Int64) - ((((2 : Int32) + (p3 &&& (7 : Int32))).toInt64) + (q2 &&& (63 : Int64)))))), .second, .val (.int ((p4 &&& (2147483647 : Int32)) - ((p4 &&& (2147483647 : Int32)) / ((2 : Int32) + (p3 &&& (7 : Int32)))) * ((2 : Int32) + (p3 &&& (7 : Int32))))), .unset, .unset] [])) rfl (hb hby at_96) (by decide) (by decide)
  obtain ⟨b7, g7⟩ : ∃ z, z = T6.heap.size := ⟨_, rfl⟩
  rw [← g7] at A7 D7 st7
  have F_warmup_b7 : Fld Z h7 b7 "com/example/lambdagate/lambdagate/RunLength" "warmup" "J" (.long (0 : Int64)) := D7 (Or.inr (hw _ (List.mem_of_getElem? (i := 28) rfl))) (ty := .long) (by decide)
  have F_calls_b7 : Fld Z h7 b7 "com/example/lambdagate/lambdagate/RunLength" "calls" "J" (.long (0 : Int64)) := D7 (Or.inr (hw _ (List.mem_of_getElem? (i := 30) rfl))) (ty := .long) (by decide)
  have F_batches_b7 : Fld Z h7 b7 "com/example/lambdagate/lambdagate/RunLength" "batches" "I" (.int (0 : Int32)) := D7 (Or.inr (hw _ (List.mem_of_getElem? (i := 32) rfl))) (ty := .int) (by decide)
  have E_b7 := A7
  have g_b7 : n0 ≤ b7 := Nat.le_trans (Nat.le_trans Z0 K6.1) (Nat.le_of_eq g7.symm)
  obtain ⟨_, _, ⟨T8, L8, k8, n8⟩, -, X8, ⟨Lc8, hQ8, l8, y8, z8⟩, st8⟩ := X7.specialBack hx (y := (⟨"com/example/lambdagate/lambdagate/RunLength", "<init>", "(JJI)V"⟩ : MethodName)) rfl hown (mvT hZ (hw _ (List.mem_of_getElem? (i := 15) rfl))) (mvT hZ (hw _ (List.mem_of_getElem? (i := 16) rfl))) (mvT hZ (hw _ (List.mem_of_getElem? (i := 17) rfl))) (by decide) (backOf (W := 1) (rm4 l Z a0 hw [] b7 (own_minL (q1 &&& (9223372036854775807 : Int64)) ((9223372036854775807 : Int64) - ((((2 : Int32) + (p3 &&& (7 : Int32))).toInt64) + (q2 &&& (63 : Int64))))) ((((2 : Int32) + (p3 &&& (7 : Int32))).toInt64) + (q2 &&& (63 : Int64))) ((2 : Int32) + (p3 &&& (7 : Int32))) (.long (0 : Int64)) (.long (0 : Int64)) (.int (0 : Int32)) h7 n0 (Nat.le_trans Z6 E7.1) A7 F_warmup_b7 g_b7 F_calls_b7 F_batches_b7 (own_w0 _ q1 (by have h1 := (own_cS _ q2 (own_nS p3).1 (own_nS p3).2); have h2 := (own_nS p3).1; omega)) (own_n2 _ (own_nS p3).1) (own_cn _ _ (own_cS _ q2 (own_nS p3).1 (own_nS p3).2)) (own_w1 _ q1)) hZ (hw _ (List.mem_of_getElem? (i := 17) rfl)) (hw _ (List.mem_of_getElem? (i := 14) rfl)) (by decide) (by decide)) (g := (mkF m 106 #[.val (.long q1), .second, .val (.long q2), .second, .val (.int p3), .val (.int p4), .val (.int p5), .val (.int (1 : Int32)), .val (.int ((2 : Int32) + (p3 &&& (7 : Int32)))), .val (.long ((((2 : Int32) + (p3 &&& (7 : Int32))).toInt64) + (q2 &&& (63 : Int64)))), .second, .val (.long (own_minL (q1 &&& (9223372036854775807 : Int64)) ((9223372036854775807 : Int64) - ((((2 : Int32) + (p3 &&& (7 : Int32))).toInt64) + (q2 &&& (63 : Int64)))))), .second, .val (.int ((p4 &&& (2147483647 : Int32)) - ((p4 &&& (2147483647 : Int32)) / ((2 : Int32) + (p3 &&& (7 : Int32)))) * ((2 : Int32) + (p3 &&& (7 : Int32))))), .unset, .unset] [(.int ((2 : Int32) + (p3 &&& (7 : Int32)))), (.long ((((2 : Int32) + (p3 &&& (7 : Int32))).toInt64) + (q2 &&& (63 : Int64)))), (.long (own_minL (q1 &&& (9223372036854775807 : Int64)) ((9223372036854775807 : Int64) - ((((2 : Int32) + (p3 &&& (7 : Int32))).toInt64) + (q2 &&& (63 : Int64)))))), (.ref b7), (.ref b7)])) rfl (by rw [hml]; rfl) (Steps.refl _) (a := b7) (argsL := [(.long (own_minL (q1 &&& (9223372036854775807 : Int64)) ((9223372036854775807 : Int64) - ((((2 : Int32) + (p3 &&& (7 : Int32))).toInt64) + (q2 &&& (63 : Int64)))))), (.long ((((2 : Int32) + (p3 &&& (7 : Int32))).toInt64) + (q2 &&& (63 : Int64)))), (.int ((2 : Int32) + (p3 &&& (7 : Int32))))]) (rest := [(.ref b7)]) (lenOf pd_0_2 rfl) rfl (by show 2 * 0 + _ ≤ _; exact Nat.le_of_eq rfl) (hb hby at_106) (fun _ _ => ⟨rfl, e7, (by decide : 1 + 0 ≤ _), (by decide : 3 + 0 ≤ _)⟩)
  dsimp only [Pt.U, Pt.locs, Pt.cells, Pt.slots] at X8 l8 y8 z8 st8 hQ8
  subst l8 y8 z8
  obtain ⟨rfl, N8q, K8, Ex8, Fc8, Fb8⟩ := hQ8
  have N8 := Fr.app N6 N8q
  have Z8 : n0 ≤ T8.heap.size := Nat.le_trans (Nat.le_trans Z6 E7.1) K8.1
  obtain ⟨cq9, kq9, q9a, q9b, q9c⟩ := isOf hZ rfl (E_b7.keep K8)
  obtain ⟨_, _, ⟨T9, L9, k9, n9⟩, -, X9, ⟨Lc9, hQ9, l9, y9, z9⟩, st9⟩ := X8.virtualBack hx (y := (⟨"com/example/lambdagate/lambdagate/RunLength", "batchSize", "(I)J"⟩ : MethodName)) (z := (⟨"com/example/lambdagate/lambdagate/RunLength", "batchSize", "(I)J"⟩ : MethodName)) hown (mvT hZ (hw _ (List.mem_of_getElem? (i := 33) rfl))) (mvT hZ (hw _ (List.mem_of_getElem? (i := 34) rfl))) (notFace_of_selects (args := #[]) (mvT hZ (hw _ (List.mem_of_getElem? (i := 36) rfl)))) (mvT hZ (hw _ (List.mem_of_getElem? (i := 36) rfl))) (mvT hZ (hw _ (List.mem_of_getElem? (i := 35) rfl))) (by decide) (backOf (W := 0) (rm7 l Z a0 hw [] b7 ((p4 &&& (2147483647 : Int32)) - ((p4 &&& (2147483647 : Int32)) / ((2 : Int32) + (p3 &&& (7 : Int32)))) * ((2 : Int32) + (p3 &&& (7 : Int32)))) ((((2 : Int32) + (p3 &&& (7 : Int32))).toInt64) + (q2 &&& (63 : Int64))) ((2 : Int32) + (p3 &&& (7 : Int32))) T8.heap n0 Z8 Fc8 Fb8 (own_nzL _ (own_nS p3).1) (own_nzL _ (own_nS p3).1)) hZ (hw _ (List.mem_of_getElem? (i := 37) rfl)) (hw _ (List.mem_of_getElem? (i := 14) rfl)) (by decide) (by decide)) q9a q9c (g := (mkF m 115 #[.val (.long q1), .second, .val (.long q2), .second, .val (.int p3), .val (.int p4), .val (.int p5), .val (.int (1 : Int32)), .val (.int ((2 : Int32) + (p3 &&& (7 : Int32)))), .val (.long ((((2 : Int32) + (p3 &&& (7 : Int32))).toInt64) + (q2 &&& (63 : Int64)))), .second, .val (.long (own_minL (q1 &&& (9223372036854775807 : Int64)) ((9223372036854775807 : Int64) - ((((2 : Int32) + (p3 &&& (7 : Int32))).toInt64) + (q2 &&& (63 : Int64)))))), .second, .val (.int ((p4 &&& (2147483647 : Int32)) - ((p4 &&& (2147483647 : Int32)) / ((2 : Int32) + (p3 &&& (7 : Int32)))) * ((2 : Int32) + (p3 &&& (7 : Int32))))), .val (.ref b7), .unset] [(.int ((p4 &&& (2147483647 : Int32)) - ((p4 &&& (2147483647 : Int32)) / ((2 : Int32) + (p3 &&& (7 : Int32)))) * ((2 : Int32) + (p3 &&& (7 : Int32))))), (.ref b7)])) rfl (by rw [hml]; rfl) (Steps.refl _) (argsL := [(.int ((p4 &&& (2147483647 : Int32)) - ((p4 &&& (2147483647 : Int32)) / ((2 : Int32) + (p3 &&& (7 : Int32)))) * ((2 : Int32) + (p3 &&& (7 : Int32)))))]) (rest := []) (lenOf pd_0_4 rfl) rfl (by show 2 * 0 + _ ≤ _; exact Nat.le_of_eq rfl) (hb hby at_115) (fun _ _ => ⟨rfl, rfl, (by decide : 1 + 0 ≤ _), (by decide : 3 + 0 ≤ _)⟩)
  dsimp only [Pt.U, Pt.locs, Pt.cells, Pt.slots] at X9 l9 y9 z9 st9 hQ9
  subst l9 y9 z9
  obtain ⟨rfl, N9q, e9q⟩ := hQ9
  have N9 := Fr.app N8 N9q
  have K9 : Keep T8.heap T9.heap [] := by rw [e9q]; exact Keep.refl T8.heap []
  have Z9 : n0 ≤ T9.heap.size := Nat.le_trans Z8 K9.1
  obtain ⟨_, _, ⟨T10, L10, k10, n10⟩, -, X10, ⟨Lc10, hQ10, l10, y10, z10⟩, st10⟩ := Jvm.LawKit.callS X9 hx (y := (⟨"com/example/lambdagate/lambdagate/RunLengthBatchSizePinLaw", "expected", "(JII)J"⟩ : MethodName)) hown (mvT hZ (hw _ (List.mem_of_getElem? (i := 38) rfl))) (mvT hZ (hw _ (List.mem_of_getElem? (i := 39) rfl))) (mvT hZ (hw _ (List.mem_of_getElem? (i := 40) rfl))) (mvT hZ (hw _ (List.mem_of_getElem? (i := 41) rfl))) (by decide) (backOf (W := 2) (rm8 l Z a0 hw [] ((((2 : Int32) + (p3 &&& (7 : Int32))).toInt64) + (q2 &&& (63 : Int64))) ((2 : Int32) + (p3 &&& (7 : Int32))) ((p4 &&& (2147483647 : Int32)) - ((p4 &&& (2147483647 : Int32)) / ((2 : Int32) + (p3 &&& (7 : Int32)))) * ((2 : Int32) + (p3 &&& (7 : Int32)))) T9.heap n0 Z9 (own_nzL _ (own_nS p3).1)) hZ (hw _ (List.mem_of_getElem? (i := 41) rfl)) (hw _ (List.mem_of_getElem? (i := 40) rfl)) (by decide) (by decide)) (g := (mkF m 124 #[.val (.long q1), .second, .val (.long q2), .second, .val (.int p3), .val (.int p4), .val (.int p5), .val (.int (1 : Int32)), .val (.int ((2 : Int32) + (p3 &&& (7 : Int32)))), .val (.long ((((2 : Int32) + (p3 &&& (7 : Int32))).toInt64) + (q2 &&& (63 : Int64)))), .second, .val (.long (own_minL (q1 &&& (9223372036854775807 : Int64)) ((9223372036854775807 : Int64) - ((((2 : Int32) + (p3 &&& (7 : Int32))).toInt64) + (q2 &&& (63 : Int64)))))), .second, .val (.int ((p4 &&& (2147483647 : Int32)) - ((p4 &&& (2147483647 : Int32)) / ((2 : Int32) + (p3 &&& (7 : Int32)))) * ((2 : Int32) + (p3 &&& (7 : Int32))))), .val (.ref b7), .unset] [(.int ((p4 &&& (2147483647 : Int32)) - ((p4 &&& (2147483647 : Int32)) / ((2 : Int32) + (p3 &&& (7 : Int32)))) * ((2 : Int32) + (p3 &&& (7 : Int32))))), (.int ((2 : Int32) + (p3 &&& (7 : Int32)))), (.long ((((2 : Int32) + (p3 &&& (7 : Int32))).toInt64) + (q2 &&& (63 : Int64)))), (.long (own_bs ((((2 : Int32) + (p3 &&& (7 : Int32))).toInt64) + (q2 &&& (63 : Int64))) ((2 : Int32) + (p3 &&& (7 : Int32))) ((p4 &&& (2147483647 : Int32)) - ((p4 &&& (2147483647 : Int32)) / ((2 : Int32) + (p3 &&& (7 : Int32)))) * ((2 : Int32) + (p3 &&& (7 : Int32))))))])) rfl (by rw [hml]; rfl) (argsL := [(.long ((((2 : Int32) + (p3 &&& (7 : Int32))).toInt64) + (q2 &&& (63 : Int64)))), (.int ((2 : Int32) + (p3 &&& (7 : Int32)))), (.int ((p4 &&& (2147483647 : Int32)) - ((p4 &&& (2147483647 : Int32)) / ((2 : Int32) + (p3 &&& (7 : Int32)))) * ((2 : Int32) + (p3 &&& (7 : Int32)))))]) (rest := [(.long (own_bs ((((2 : Int32) + (p3 &&& (7 : Int32))).toInt64) + (q2 &&& (63 : Int64))) ((2 : Int32) + (p3 &&& (7 : Int32))) ((p4 &&& (2147483647 : Int32)) - ((p4 &&& (2147483647 : Int32)) / ((2 : Int32) + (p3 &&& (7 : Int32)))) * ((2 : Int32) + (p3 &&& (7 : Int32))))))]) (lenOf pd_0_5 rfl) rfl (by show 2 * 0 + _ ≤ _; exact Nat.le_of_eq rfl) (hb hby at_124) (fun _ _ => ⟨rfl, rfl, (by decide : 1 + 0 ≤ _), (by decide : 3 + 0 ≤ _)⟩)
  dsimp only [Pt.U, Pt.locs, Pt.cells, Pt.slots] at X10 l10 y10 z10 st10 hQ10
  subst l10 y10 z10
  obtain ⟨rfl, N10q, e10q⟩ := hQ10
  have N10 := Fr.app N9 N10q
  have K10 : Keep T9.heap T10.heap [] := by rw [e10q]; exact Keep.refl T9.heap []
  have Z10 : n0 ≤ T10.heap.size := Nat.le_trans Z9 K10.1
  obtain ⟨cq11, kq11, q11a, q11b, q11c⟩ := isOf hZ rfl (((E_b7.keep K8).keep K9).keep K10)
  obtain ⟨_, _, ⟨T11, L11, k11, n11⟩, -, X11, ⟨Lc11, hQ11, l11, y11, z11⟩, st11⟩ := X10.virtualBack hx (y := (⟨"com/example/lambdagate/lambdagate/RunLength", "batchSize", "(I)J"⟩ : MethodName)) (z := (⟨"com/example/lambdagate/lambdagate/RunLength", "batchSize", "(I)J"⟩ : MethodName)) hown (mvT hZ (hw _ (List.mem_of_getElem? (i := 33) rfl))) (mvT hZ (hw _ (List.mem_of_getElem? (i := 34) rfl))) (notFace_of_selects (args := #[]) (mvT hZ (hw _ (List.mem_of_getElem? (i := 36) rfl)))) (mvT hZ (hw _ (List.mem_of_getElem? (i := 36) rfl))) (mvT hZ (hw _ (List.mem_of_getElem? (i := 35) rfl))) (by decide) (backOf (W := 0) (rm7 l Z a0 hw [] b7 (0 : Int32) ((((2 : Int32) + (p3 &&& (7 : Int32))).toInt64) + (q2 &&& (63 : Int64))) ((2 : Int32) + (p3 &&& (7 : Int32))) T10.heap n0 Z10 ((Fc8.keep K9 (fun q => nomatch q)).keep K10 (fun q => nomatch q)) ((Fb8.keep K9 (fun q => nomatch q)).keep K10 (fun q => nomatch q)) (own_nzL _ (own_nS p3).1) (own_nzL _ (own_nS p3).1)) hZ (hw _ (List.mem_of_getElem? (i := 37) rfl)) (hw _ (List.mem_of_getElem? (i := 14) rfl)) (by decide) (by decide)) q11a q11c (g := (mkF m 146 #[.val (.long q1), .second, .val (.long q2), .second, .val (.int p3), .val (.int p4), .val (.int p5), .val (.int (1 : Int32)), .val (.int ((2 : Int32) + (p3 &&& (7 : Int32)))), .val (.long ((((2 : Int32) + (p3 &&& (7 : Int32))).toInt64) + (q2 &&& (63 : Int64)))), .second, .val (.long (own_minL (q1 &&& (9223372036854775807 : Int64)) ((9223372036854775807 : Int64) - ((((2 : Int32) + (p3 &&& (7 : Int32))).toInt64) + (q2 &&& (63 : Int64)))))), .second, .val (.int ((p4 &&& (2147483647 : Int32)) - ((p4 &&& (2147483647 : Int32)) / ((2 : Int32) + (p3 &&& (7 : Int32)))) * ((2 : Int32) + (p3 &&& (7 : Int32))))), .val (.ref b7), .val (.int (1 : Int32))] [(.int (0 : Int32)), (.ref b7)])) rfl (by rw [hml]; rfl) (Steps.refl _) (argsL := [(.int (0 : Int32))]) (rest := []) (lenOf pd_0_4 rfl) rfl (by show 2 * 0 + _ ≤ _; exact Nat.le_of_eq rfl) (hb hby at_146) (fun _ _ => ⟨rfl, rfl, (by decide : 1 + 0 ≤ _), (by decide : 3 + 0 ≤ _)⟩)
  dsimp only [Pt.U, Pt.locs, Pt.cells, Pt.slots] at X11 l11 y11 z11 st11 hQ11
  subst l11 y11 z11
  obtain ⟨rfl, N11q, e11q⟩ := hQ11
  have N11 := Fr.app N10 N11q
  have K11 : Keep T10.heap T11.heap [] := by rw [e11q]; exact Keep.refl T10.heap []
  have Z11 : n0 ≤ T11.heap.size := Nat.le_trans Z10 K11.1
  obtain ⟨_, _, ⟨T12, L12, k12, n12⟩, -, X12, ⟨Lc12, hQ12, l12, y12, z12⟩, st12⟩ := Jvm.LawKit.callS X11 hx (y := (⟨"com/example/lambdagate/lambdagate/RunLengthBatchSizePinLaw", "expected", "(JII)J"⟩ : MethodName)) hown (mvT hZ (hw _ (List.mem_of_getElem? (i := 38) rfl))) (mvT hZ (hw _ (List.mem_of_getElem? (i := 39) rfl))) (mvT hZ (hw _ (List.mem_of_getElem? (i := 40) rfl))) (mvT hZ (hw _ (List.mem_of_getElem? (i := 41) rfl))) (by decide) (backOf (W := 2) (rm8 l Z a0 hw [] ((((2 : Int32) + (p3 &&& (7 : Int32))).toInt64) + (q2 &&& (63 : Int64))) ((2 : Int32) + (p3 &&& (7 : Int32))) (0 : Int32) T11.heap n0 Z11 (own_nzL _ (own_nS p3).1)) hZ (hw _ (List.mem_of_getElem? (i := 41) rfl)) (hw _ (List.mem_of_getElem? (i := 40) rfl)) (by decide) (by decide)) (g := (mkF m 154 #[.val (.long q1), .second, .val (.long q2), .second, .val (.int p3), .val (.int p4), .val (.int p5), .val (.int (1 : Int32)), .val (.int ((2 : Int32) + (p3 &&& (7 : Int32)))), .val (.long ((((2 : Int32) + (p3 &&& (7 : Int32))).toInt64) + (q2 &&& (63 : Int64)))), .second, .val (.long (own_minL (q1 &&& (9223372036854775807 : Int64)) ((9223372036854775807 : Int64) - ((((2 : Int32) + (p3 &&& (7 : Int32))).toInt64) + (q2 &&& (63 : Int64)))))), .second, .val (.int ((p4 &&& (2147483647 : Int32)) - ((p4 &&& (2147483647 : Int32)) / ((2 : Int32) + (p3 &&& (7 : Int32)))) * ((2 : Int32) + (p3 &&& (7 : Int32))))), .val (.ref b7), .val (.int (1 : Int32))] [(.int (0 : Int32)), (.int ((2 : Int32) + (p3 &&& (7 : Int32)))), (.long ((((2 : Int32) + (p3 &&& (7 : Int32))).toInt64) + (q2 &&& (63 : Int64)))), (.long (own_bs ((((2 : Int32) + (p3 &&& (7 : Int32))).toInt64) + (q2 &&& (63 : Int64))) ((2 : Int32) + (p3 &&& (7 : Int32))) (0 : Int32)))])) rfl (by rw [hml]; rfl) (argsL := [(.long ((((2 : Int32) + (p3 &&& (7 : Int32))).toInt64) + (q2 &&& (63 : Int64)))), (.int ((2 : Int32) + (p3 &&& (7 : Int32)))), (.int (0 : Int32))]) (rest := [(.long (own_bs ((((2 : Int32) + (p3 &&& (7 : Int32))).toInt64) + (q2 &&& (63 : Int64))) ((2 : Int32) + (p3 &&& (7 : Int32))) (0 : Int32)))]) (lenOf pd_0_5 rfl) rfl (by show 2 * 0 + _ ≤ _; exact Nat.le_of_eq rfl) (hb hby at_154) (fun _ _ => ⟨rfl, rfl, (by decide : 1 + 0 ≤ _), (by decide : 3 + 0 ≤ _)⟩)
  dsimp only [Pt.U, Pt.locs, Pt.cells, Pt.slots] at X12 l12 y12 z12 st12 hQ12
  subst l12 y12 z12
  obtain ⟨rfl, N12q, e12q⟩ := hQ12
  have N12 := Fr.app N11 N12q
  have K12 : Keep T11.heap T12.heap [] := by rw [e12q]; exact Keep.refl T11.heap []
  have Z12 : n0 ≤ T12.heap.size := Nat.le_trans Z11 K12.1
  obtain ⟨cq13, kq13, q13a, q13b, q13c⟩ := isOf hZ rfl (((((E_b7.keep K8).keep K9).keep K10).keep K11).keep K12)
  obtain ⟨_, _, ⟨T13, L13, k13, n13⟩, -, X13, ⟨Lc13, hQ13, l13, y13, z13⟩, st13⟩ := X12.virtualBack hx (y := (⟨"com/example/lambdagate/lambdagate/RunLength", "batchSize", "(I)J"⟩ : MethodName)) (z := (⟨"com/example/lambdagate/lambdagate/RunLength", "batchSize", "(I)J"⟩ : MethodName)) hown (mvT hZ (hw _ (List.mem_of_getElem? (i := 33) rfl))) (mvT hZ (hw _ (List.mem_of_getElem? (i := 34) rfl))) (notFace_of_selects (args := #[]) (mvT hZ (hw _ (List.mem_of_getElem? (i := 36) rfl)))) (mvT hZ (hw _ (List.mem_of_getElem? (i := 36) rfl))) (mvT hZ (hw _ (List.mem_of_getElem? (i := 35) rfl))) (by decide) (backOf (W := 0) (rm7 l Z a0 hw [] b7 (((2 : Int32) + (p3 &&& (7 : Int32))) - (1 : Int32)) ((((2 : Int32) + (p3 &&& (7 : Int32))).toInt64) + (q2 &&& (63 : Int64))) ((2 : Int32) + (p3 &&& (7 : Int32))) T12.heap n0 Z12 ((((Fc8.keep K9 (fun q => nomatch q)).keep K10 (fun q => nomatch q)).keep K11 (fun q => nomatch q)).keep K12 (fun q => nomatch q)) ((((Fb8.keep K9 (fun q => nomatch q)).keep K10 (fun q => nomatch q)).keep K11 (fun q => nomatch q)).keep K12 (fun q => nomatch q)) (own_nzL _ (own_nS p3).1) (own_nzL _ (own_nS p3).1)) hZ (hw _ (List.mem_of_getElem? (i := 37) rfl)) (hw _ (List.mem_of_getElem? (i := 14) rfl)) (by decide) (by decide)) q13a q13c (g := (mkF m 179 #[.val (.long q1), .second, .val (.long q2), .second, .val (.int p3), .val (.int p4), .val (.int p5), .val (.int (1 : Int32)), .val (.int ((2 : Int32) + (p3 &&& (7 : Int32)))), .val (.long ((((2 : Int32) + (p3 &&& (7 : Int32))).toInt64) + (q2 &&& (63 : Int64)))), .second, .val (.long (own_minL (q1 &&& (9223372036854775807 : Int64)) ((9223372036854775807 : Int64) - ((((2 : Int32) + (p3 &&& (7 : Int32))).toInt64) + (q2 &&& (63 : Int64)))))), .second, .val (.int ((p4 &&& (2147483647 : Int32)) - ((p4 &&& (2147483647 : Int32)) / ((2 : Int32) + (p3 &&& (7 : Int32)))) * ((2 : Int32) + (p3 &&& (7 : Int32))))), .val (.ref b7), .val (.int (1 : Int32))] [(.int (((2 : Int32) + (p3 &&& (7 : Int32))) - (1 : Int32))), (.ref b7)])) rfl (by rw [hml]; rfl) (Steps.refl _) (argsL := [(.int (((2 : Int32) + (p3 &&& (7 : Int32))) - (1 : Int32)))]) (rest := []) (lenOf pd_0_4 rfl) rfl (by show 2 * 0 + _ ≤ _; exact Nat.le_of_eq rfl) (hb hby at_179) (fun _ _ => ⟨rfl, rfl, (by decide : 1 + 0 ≤ _), (by decide : 3 + 0 ≤ _)⟩)
  dsimp only [Pt.U, Pt.locs, Pt.cells, Pt.slots] at X13 l13 y13 z13 st13 hQ13
  subst l13 y13 z13
  obtain ⟨rfl, N13q, e13q⟩ := hQ13
  have N13 := Fr.app N12 N13q
  have K13 : Keep T12.heap T13.heap [] := by rw [e13q]; exact Keep.refl T12.heap []
  have Z13 : n0 ≤ T13.heap.size := Nat.le_trans Z12 K13.1
  obtain ⟨_, _, ⟨T14, L14, k14, n14⟩, -, X14, ⟨Lc14, hQ14, l14, y14, z14⟩, st14⟩ := Jvm.LawKit.callS X13 hx (y := (⟨"com/example/lambdagate/lambdagate/RunLengthBatchSizePinLaw", "expected", "(JII)J"⟩ : MethodName)) hown (mvT hZ (hw _ (List.mem_of_getElem? (i := 38) rfl))) (mvT hZ (hw _ (List.mem_of_getElem? (i := 39) rfl))) (mvT hZ (hw _ (List.mem_of_getElem? (i := 40) rfl))) (mvT hZ (hw _ (List.mem_of_getElem? (i := 41) rfl))) (by decide) (backOf (W := 2) (rm8 l Z a0 hw [] ((((2 : Int32) + (p3 &&& (7 : Int32))).toInt64) + (q2 &&& (63 : Int64))) ((2 : Int32) + (p3 &&& (7 : Int32))) (((2 : Int32) + (p3 &&& (7 : Int32))) - (1 : Int32)) T13.heap n0 Z13 (own_nzL _ (own_nS p3).1)) hZ (hw _ (List.mem_of_getElem? (i := 41) rfl)) (hw _ (List.mem_of_getElem? (i := 40) rfl)) (by decide) (by decide)) (g := (mkF m 190 #[.val (.long q1), .second, .val (.long q2), .second, .val (.int p3), .val (.int p4), .val (.int p5), .val (.int (1 : Int32)), .val (.int ((2 : Int32) + (p3 &&& (7 : Int32)))), .val (.long ((((2 : Int32) + (p3 &&& (7 : Int32))).toInt64) + (q2 &&& (63 : Int64)))), .second, .val (.long (own_minL (q1 &&& (9223372036854775807 : Int64)) ((9223372036854775807 : Int64) - ((((2 : Int32) + (p3 &&& (7 : Int32))).toInt64) + (q2 &&& (63 : Int64)))))), .second, .val (.int ((p4 &&& (2147483647 : Int32)) - ((p4 &&& (2147483647 : Int32)) / ((2 : Int32) + (p3 &&& (7 : Int32)))) * ((2 : Int32) + (p3 &&& (7 : Int32))))), .val (.ref b7), .val (.int (1 : Int32))] [(.int (((2 : Int32) + (p3 &&& (7 : Int32))) - (1 : Int32))), (.int ((2 : Int32) + (p3 &&& (7 : Int32)))), (.long ((((2 : Int32) + (p3 &&& (7 : Int32))).toInt64) + (q2 &&& (63 : Int64)))), (.long (own_bs ((((2 : Int32) + (p3 &&& (7 : Int32))).toInt64) + (q2 &&& (63 : Int64))) ((2 : Int32) + (p3 &&& (7 : Int32))) (((2 : Int32) + (p3 &&& (7 : Int32))) - (1 : Int32))))])) rfl (by rw [hml]; rfl) (argsL := [(.long ((((2 : Int32) + (p3 &&& (7 : Int32))).toInt64) + (q2 &&& (63 : Int64)))), (.int ((2 : Int32) + (p3 &&& (7 : Int32)))), (.int (((2 : Int32) + (p3 &&& (7 : Int32))) - (1 : Int32)))]) (rest := [(.long (own_bs ((((2 : Int32) + (p3 &&& (7 : Int32))).toInt64) + (q2 &&& (63 : Int64))) ((2 : Int32) + (p3 &&& (7 : Int32))) (((2 : Int32) + (p3 &&& (7 : Int32))) - (1 : Int32))))]) (lenOf pd_0_5 rfl) rfl (by show 2 * 0 + _ ≤ _; exact Nat.le_of_eq rfl) (hb hby at_190) (fun _ _ => ⟨rfl, rfl, (by decide : 1 + 0 ≤ _), (by decide : 3 + 0 ≤ _)⟩)
  dsimp only [Pt.U, Pt.locs, Pt.cells, Pt.slots] at X14 l14 y14 z14 st14 hQ14
  subst l14 y14 z14
  obtain ⟨rfl, N14q, e14q⟩ := hQ14
  have N14 := Fr.app N13 N14q
  have K14 : Keep T13.heap T14.heap [] := by rw [e14q]; exact Keep.refl T13.heap []
  have Z14 : n0 ≤ T14.heap.size := Nat.le_trans Z13 K14.1
  obtain ⟨fs, hr, hrun, hended, hW, hsame⟩ := X14.leave (v := some (.int (1 : Int32))) (fun h => by rw [Bd.returns] at h; cases h)
  refine ⟨_, _, pre0 _ ?_, hrun, hended, _, _, rfl, ?_, ⟨_, rfl⟩, hW, hsame.mono (by decide) (by decide)⟩
  · show Steps p.tables e below (s₁.setTop (mkF m 0 #[.val (.long q1), .second, .val (.long q2), .second, .val (.int p3), .val (.int p4), .val (.int p5), .unset, .unset, .unset, .unset, .unset, .unset, .unset, .unset, .unset] [])) _
    refine XS.iload X0.here hx rfl (hb hby at_0) rfl ?_
    show Steps p.tables e below (s₁.setTop (mkF m 2 #[.val (.long q1), .second, .val (.long q2), .second, .val (.int p3), .val (.int p4), .val (.int p5), .unset, .unset, .unset, .unset, .unset, .unset, .unset, .unset, .unset] [(.int p5)])) _
    refine XS.iconst X0.here hx rfl (hb hby at_2) ?_
    show Steps p.tables e below (s₁.setTop (mkF m 3 #[.val (.long q1), .second, .val (.long q2), .second, .val (.int p3), .val (.int p4), .val (.int p5), .unset, .unset, .unset, .unset, .unset, .unset, .unset, .unset, .unset] [(.int (1 : Int32)), (.int p5)])) _
    refine XS.iand X0.here hx rfl (hb hby at_3) rfl ?_
    show Steps p.tables e below (s₁.setTop (mkF m 4 #[.val (.long q1), .second, .val (.long q2), .second, .val (.int p3), .val (.int p4), .val (.int p5), .unset, .unset, .unset, .unset, .unset, .unset, .unset, .unset, .unset] [(.int (p5 &&& (1 : Int32)))])) _
    refine XS.ifNo X0.here hx rfl (hb hby at_4) rfl ((if0 _ _).trans (feq hc4).1) ?_
    show Steps p.tables e below (s₁.setTop (mkF m 7 #[.val (.long q1), .second, .val (.long q2), .second, .val (.int p3), .val (.int p4), .val (.int p5), .unset, .unset, .unset, .unset, .unset, .unset, .unset, .unset, .unset] [])) _
    refine XS.iconst X0.here hx rfl (hb hby at_7) ?_
    show Steps p.tables e below (s₁.setTop (mkF m 8 #[.val (.long q1), .second, .val (.long q2), .second, .val (.int p3), .val (.int p4), .val (.int p5), .unset, .unset, .unset, .unset, .unset, .unset, .unset, .unset, .unset] [(.int (1 : Int32))])) _
    refine XS.goto X0.here hx rfl (pc0 := 8) (pc' := 12) rfl (hb hby at_8) (by decide) (by decide) ?_
    show Steps p.tables e below (s₁.setTop (mkF m 12 #[.val (.long q1), .second, .val (.long q2), .second, .val (.int p3), .val (.int p4), .val (.int p5), .unset, .unset, .unset, .unset, .unset, .unset, .unset, .unset, .unset] [(.int (1 : Int32))])) _
    refine XS.istore X0.here hx rfl (hb hby at_12) rfl (l' := #[.val (.long q1), .second, .val (.long q2), .second, .val (.int p3), .val (.int p4), .val (.int p5), .val (.int (1 : Int32)), .unset, .unset, .unset, .unset, .unset, .unset, .unset, .unset]) rfl ?_
    show Steps p.tables e below (s₁.setTop (mkF m 14 #[.val (.long q1), .second, .val (.long q2), .second, .val (.int p3), .val (.int p4), .val (.int p5), .val (.int (1 : Int32)), .unset, .unset, .unset, .unset, .unset, .unset, .unset, .unset] [])) _
    refine XS.iload X0.here hx rfl (hb hby at_14) rfl ?_
    show Steps p.tables e below (s₁.setTop (mkF m 16 #[.val (.long q1), .second, .val (.long q2), .second, .val (.int p3), .val (.int p4), .val (.int p5), .val (.int (1 : Int32)), .unset, .unset, .unset, .unset, .unset, .unset, .unset, .unset] [(.int (1 : Int32))])) _
    refine XS.ifNo X0.here hx rfl (hb hby at_16) rfl ((if0 _ _).trans (feq hc16).1) ?_
    show Steps p.tables e below (s₁.setTop (mkF m 19 #[.val (.long q1), .second, .val (.long q2), .second, .val (.int p3), .val (.int p4), .val (.int p5), .val (.int (1 : Int32)), .unset, .unset, .unset, .unset, .unset, .unset, .unset, .unset] [])) _
    refine XS.iconst X0.here hx rfl (hb hby at_19) ?_
    show Steps p.tables e below (s₁.setTop (mkF m 20 #[.val (.long q1), .second, .val (.long q2), .second, .val (.int p3), .val (.int p4), .val (.int p5), .val (.int (1 : Int32)), .unset, .unset, .unset, .unset, .unset, .unset, .unset, .unset] [(.int (2 : Int32))])) _
    refine XS.iload X0.here hx rfl (hb hby at_20) rfl ?_
    show Steps p.tables e below (s₁.setTop (mkF m 22 #[.val (.long q1), .second, .val (.long q2), .second, .val (.int p3), .val (.int p4), .val (.int p5), .val (.int (1 : Int32)), .unset, .unset, .unset, .unset, .unset, .unset, .unset, .unset] [(.int p3), (.int (2 : Int32))])) _
    refine XS.bipush X0.here hx rfl (hb hby at_22) ?_
    show Steps p.tables e below (s₁.setTop (mkF m 24 #[.val (.long q1), .second, .val (.long q2), .second, .val (.int p3), .val (.int p4), .val (.int p5), .val (.int (1 : Int32)), .unset, .unset, .unset, .unset, .unset, .unset, .unset, .unset] [(.int (7 : Int32)), (.int p3), (.int (2 : Int32))])) _
    refine XS.iand X0.here hx rfl (hb hby at_24) rfl ?_
    show Steps p.tables e below (s₁.setTop (mkF m 25 #[.val (.long q1), .second, .val (.long q2), .second, .val (.int p3), .val (.int p4), .val (.int p5), .val (.int (1 : Int32)), .unset, .unset, .unset, .unset, .unset, .unset, .unset, .unset] [(.int (p3 &&& (7 : Int32))), (.int (2 : Int32))])) _
    refine XS.iadd X0.here hx rfl (hb hby at_25) rfl ?_
    show Steps p.tables e below (s₁.setTop (mkF m 26 #[.val (.long q1), .second, .val (.long q2), .second, .val (.int p3), .val (.int p4), .val (.int p5), .val (.int (1 : Int32)), .unset, .unset, .unset, .unset, .unset, .unset, .unset, .unset] [(.int ((2 : Int32) + (p3 &&& (7 : Int32))))])) _
    refine XS.goto X0.here hx rfl (pc0 := 26) (pc' := 38) rfl (hb hby at_26) (by decide) (by decide) ?_
    show Steps p.tables e below (s₁.setTop (mkF m 38 #[.val (.long q1), .second, .val (.long q2), .second, .val (.int p3), .val (.int p4), .val (.int p5), .val (.int (1 : Int32)), .unset, .unset, .unset, .unset, .unset, .unset, .unset, .unset] [(.int ((2 : Int32) + (p3 &&& (7 : Int32))))])) _
    refine XS.istore X0.here hx rfl (hb hby at_38) rfl (l' := #[.val (.long q1), .second, .val (.long q2), .second, .val (.int p3), .val (.int p4), .val (.int p5), .val (.int (1 : Int32)), .val (.int ((2 : Int32) + (p3 &&& (7 : Int32)))), .unset, .unset, .unset, .unset, .unset, .unset, .unset]) rfl ?_
    show Steps p.tables e below (s₁.setTop (mkF m 40 #[.val (.long q1), .second, .val (.long q2), .second, .val (.int p3), .val (.int p4), .val (.int p5), .val (.int (1 : Int32)), .val (.int ((2 : Int32) + (p3 &&& (7 : Int32)))), .unset, .unset, .unset, .unset, .unset, .unset, .unset] [])) _
    refine XS.iload X0.here hx rfl (hb hby at_40) rfl ?_
    show Steps p.tables e below (s₁.setTop (mkF m 42 #[.val (.long q1), .second, .val (.long q2), .second, .val (.int p3), .val (.int p4), .val (.int p5), .val (.int (1 : Int32)), .val (.int ((2 : Int32) + (p3 &&& (7 : Int32)))), .unset, .unset, .unset, .unset, .unset, .unset, .unset] [(.int (1 : Int32))])) _
    refine XS.ifNo X0.here hx rfl (hb hby at_42) rfl ((if0 _ _).trans (feq hc42).1) ?_
    show Steps p.tables e below (s₁.setTop (mkF m 45 #[.val (.long q1), .second, .val (.long q2), .second, .val (.int p3), .val (.int p4), .val (.int p5), .val (.int (1 : Int32)), .val (.int ((2 : Int32) + (p3 &&& (7 : Int32)))), .unset, .unset, .unset, .unset, .unset, .unset, .unset] [])) _
    refine XS.iload X0.here hx rfl (hb hby at_45) rfl ?_
    show Steps p.tables e below (s₁.setTop (mkF m 47 #[.val (.long q1), .second, .val (.long q2), .second, .val (.int p3), .val (.int p4), .val (.int p5), .val (.int (1 : Int32)), .val (.int ((2 : Int32) + (p3 &&& (7 : Int32)))), .unset, .unset, .unset, .unset, .unset, .unset, .unset] [(.int ((2 : Int32) + (p3 &&& (7 : Int32))))])) _
    refine XS.i2l X0.here hx rfl (hb hby at_47) rfl ?_
    show Steps p.tables e below (s₁.setTop (mkF m 48 #[.val (.long q1), .second, .val (.long q2), .second, .val (.int p3), .val (.int p4), .val (.int p5), .val (.int (1 : Int32)), .val (.int ((2 : Int32) + (p3 &&& (7 : Int32)))), .unset, .unset, .unset, .unset, .unset, .unset, .unset] [(.long (((2 : Int32) + (p3 &&& (7 : Int32))).toInt64))])) _
    refine XS.lloadN X0.here hx rfl (hb hby at_48) rfl ?_
    show Steps p.tables e below (s₁.setTop (mkF m 49 #[.val (.long q1), .second, .val (.long q2), .second, .val (.int p3), .val (.int p4), .val (.int p5), .val (.int (1 : Int32)), .val (.int ((2 : Int32) + (p3 &&& (7 : Int32)))), .unset, .unset, .unset, .unset, .unset, .unset, .unset] [(.long q2), (.long (((2 : Int32) + (p3 &&& (7 : Int32))).toInt64))])) _
    refine X0.ldc2Long hx hown (mvT hZ (hw _ (List.mem_of_getElem? (i := 42) rfl))) (g := (mkF m 49 #[.val (.long q1), .second, .val (.long q2), .second, .val (.int p3), .val (.int p4), .val (.int p5), .val (.int (1 : Int32)), .val (.int ((2 : Int32) + (p3 &&& (7 : Int32)))), .unset, .unset, .unset, .unset, .unset, .unset, .unset] [(.long q2), (.long (((2 : Int32) + (p3 &&& (7 : Int32))).toInt64))])) rfl (hb hby at_49) _ ?_
    show Steps p.tables e below (s₁.setTop (mkF m 52 #[.val (.long q1), .second, .val (.long q2), .second, .val (.int p3), .val (.int p4), .val (.int p5), .val (.int (1 : Int32)), .val (.int ((2 : Int32) + (p3 &&& (7 : Int32)))), .unset, .unset, .unset, .unset, .unset, .unset, .unset] [(.long (63 : Int64)), (.long q2), (.long (((2 : Int32) + (p3 &&& (7 : Int32))).toInt64))])) _
    refine XS.land X0.here hx rfl (hb hby at_52) rfl ?_
    show Steps p.tables e below (s₁.setTop (mkF m 53 #[.val (.long q1), .second, .val (.long q2), .second, .val (.int p3), .val (.int p4), .val (.int p5), .val (.int (1 : Int32)), .val (.int ((2 : Int32) + (p3 &&& (7 : Int32)))), .unset, .unset, .unset, .unset, .unset, .unset, .unset] [(.long (q2 &&& (63 : Int64))), (.long (((2 : Int32) + (p3 &&& (7 : Int32))).toInt64))])) _
    refine XS.ladd X0.here hx rfl (hb hby at_53) rfl ?_
    show Steps p.tables e below (s₁.setTop (mkF m 54 #[.val (.long q1), .second, .val (.long q2), .second, .val (.int p3), .val (.int p4), .val (.int p5), .val (.int (1 : Int32)), .val (.int ((2 : Int32) + (p3 &&& (7 : Int32)))), .unset, .unset, .unset, .unset, .unset, .unset, .unset] [(.long ((((2 : Int32) + (p3 &&& (7 : Int32))).toInt64) + (q2 &&& (63 : Int64))))])) _
    refine XS.goto X0.here hx rfl (pc0 := 54) (pc' := 68) rfl (hb hby at_54) (by decide) (by decide) ?_
    show Steps p.tables e below (s₁.setTop (mkF m 68 #[.val (.long q1), .second, .val (.long q2), .second, .val (.int p3), .val (.int p4), .val (.int p5), .val (.int (1 : Int32)), .val (.int ((2 : Int32) + (p3 &&& (7 : Int32)))), .unset, .unset, .unset, .unset, .unset, .unset, .unset] [(.long ((((2 : Int32) + (p3 &&& (7 : Int32))).toInt64) + (q2 &&& (63 : Int64))))])) _
    refine XS.lstore X0.here hx rfl (hb hby at_68) rfl (l' := #[.val (.long q1), .second, .val (.long q2), .second, .val (.int p3), .val (.int p4), .val (.int p5), .val (.int (1 : Int32)), .val (.int ((2 : Int32) + (p3 &&& (7 : Int32)))), .val (.long ((((2 : Int32) + (p3 &&& (7 : Int32))).toInt64) + (q2 &&& (63 : Int64)))), .second, .unset, .unset, .unset, .unset, .unset]) rfl ?_
    show Steps p.tables e below (s₁.setTop (mkF m 70 #[.val (.long q1), .second, .val (.long q2), .second, .val (.int p3), .val (.int p4), .val (.int p5), .val (.int (1 : Int32)), .val (.int ((2 : Int32) + (p3 &&& (7 : Int32)))), .val (.long ((((2 : Int32) + (p3 &&& (7 : Int32))).toInt64) + (q2 &&& (63 : Int64)))), .second, .unset, .unset, .unset, .unset, .unset] [])) _
    refine XS.lloadN X0.here hx rfl (hb hby at_70) rfl ?_
    show Steps p.tables e below (s₁.setTop (mkF m 71 #[.val (.long q1), .second, .val (.long q2), .second, .val (.int p3), .val (.int p4), .val (.int p5), .val (.int (1 : Int32)), .val (.int ((2 : Int32) + (p3 &&& (7 : Int32)))), .val (.long ((((2 : Int32) + (p3 &&& (7 : Int32))).toInt64) + (q2 &&& (63 : Int64)))), .second, .unset, .unset, .unset, .unset, .unset] [(.long q1)])) _
    refine X0.ldc2Long hx hown (mvT hZ (hw _ (List.mem_of_getElem? (i := 5) rfl))) (g := (mkF m 71 #[.val (.long q1), .second, .val (.long q2), .second, .val (.int p3), .val (.int p4), .val (.int p5), .val (.int (1 : Int32)), .val (.int ((2 : Int32) + (p3 &&& (7 : Int32)))), .val (.long ((((2 : Int32) + (p3 &&& (7 : Int32))).toInt64) + (q2 &&& (63 : Int64)))), .second, .unset, .unset, .unset, .unset, .unset] [(.long q1)])) rfl (hb hby at_71) _ ?_
    show Steps p.tables e below (s₁.setTop (mkF m 74 #[.val (.long q1), .second, .val (.long q2), .second, .val (.int p3), .val (.int p4), .val (.int p5), .val (.int (1 : Int32)), .val (.int ((2 : Int32) + (p3 &&& (7 : Int32)))), .val (.long ((((2 : Int32) + (p3 &&& (7 : Int32))).toInt64) + (q2 &&& (63 : Int64)))), .second, .unset, .unset, .unset, .unset, .unset] [(.long (9223372036854775807 : Int64)), (.long q1)])) _
    refine XS.land X0.here hx rfl (hb hby at_74) rfl ?_
    show Steps p.tables e below (s₁.setTop (mkF m 75 #[.val (.long q1), .second, .val (.long q2), .second, .val (.int p3), .val (.int p4), .val (.int p5), .val (.int (1 : Int32)), .val (.int ((2 : Int32) + (p3 &&& (7 : Int32)))), .val (.long ((((2 : Int32) + (p3 &&& (7 : Int32))).toInt64) + (q2 &&& (63 : Int64)))), .second, .unset, .unset, .unset, .unset, .unset] [(.long (q1 &&& (9223372036854775807 : Int64)))])) _
    refine X0.ldc2Long hx hown (mvT hZ (hw _ (List.mem_of_getElem? (i := 5) rfl))) (g := (mkF m 75 #[.val (.long q1), .second, .val (.long q2), .second, .val (.int p3), .val (.int p4), .val (.int p5), .val (.int (1 : Int32)), .val (.int ((2 : Int32) + (p3 &&& (7 : Int32)))), .val (.long ((((2 : Int32) + (p3 &&& (7 : Int32))).toInt64) + (q2 &&& (63 : Int64)))), .second, .unset, .unset, .unset, .unset, .unset] [(.long (q1 &&& (9223372036854775807 : Int64)))])) rfl (hb hby at_75) _ ?_
    show Steps p.tables e below (s₁.setTop (mkF m 78 #[.val (.long q1), .second, .val (.long q2), .second, .val (.int p3), .val (.int p4), .val (.int p5), .val (.int (1 : Int32)), .val (.int ((2 : Int32) + (p3 &&& (7 : Int32)))), .val (.long ((((2 : Int32) + (p3 &&& (7 : Int32))).toInt64) + (q2 &&& (63 : Int64)))), .second, .unset, .unset, .unset, .unset, .unset] [(.long (9223372036854775807 : Int64)), (.long (q1 &&& (9223372036854775807 : Int64)))])) _
    refine XS.lload X0.here hx rfl (hb hby at_78) rfl ?_
    show Steps p.tables e below (s₁.setTop (mkF m 80 #[.val (.long q1), .second, .val (.long q2), .second, .val (.int p3), .val (.int p4), .val (.int p5), .val (.int (1 : Int32)), .val (.int ((2 : Int32) + (p3 &&& (7 : Int32)))), .val (.long ((((2 : Int32) + (p3 &&& (7 : Int32))).toInt64) + (q2 &&& (63 : Int64)))), .second, .unset, .unset, .unset, .unset, .unset] [(.long ((((2 : Int32) + (p3 &&& (7 : Int32))).toInt64) + (q2 &&& (63 : Int64)))), (.long (9223372036854775807 : Int64)), (.long (q1 &&& (9223372036854775807 : Int64)))])) _
    refine XS.lsub X0.here hx rfl (hb hby at_80) rfl ?_
    show Steps p.tables e below (s₁.setTop (mkF m 81 #[.val (.long q1), .second, .val (.long q2), .second, .val (.int p3), .val (.int p4), .val (.int p5), .val (.int (1 : Int32)), .val (.int ((2 : Int32) + (p3 &&& (7 : Int32)))), .val (.long ((((2 : Int32) + (p3 &&& (7 : Int32))).toInt64) + (q2 &&& (63 : Int64)))), .second, .unset, .unset, .unset, .unset, .unset] [(.long ((9223372036854775807 : Int64) - ((((2 : Int32) + (p3 &&& (7 : Int32))).toInt64) + (q2 &&& (63 : Int64))))), (.long (q1 &&& (9223372036854775807 : Int64)))])) _
    refine st6 _ ?_
    show Steps p.tables e below (T6.setTop (mkF m 84 #[.val (.long q1), .second, .val (.long q2), .second, .val (.int p3), .val (.int p4), .val (.int p5), .val (.int (1 : Int32)), .val (.int ((2 : Int32) + (p3 &&& (7 : Int32)))), .val (.long ((((2 : Int32) + (p3 &&& (7 : Int32))).toInt64) + (q2 &&& (63 : Int64)))), .second, .unset, .unset, .unset, .unset, .unset] [(.long (own_minL (q1 &&& (9223372036854775807 : Int64)) ((9223372036854775807 : Int64) - ((((2 : Int32) + (p3 &&& (7 : Int32))).toInt64) + (q2 &&& (63 : Int64))))))])) _
    refine XS.lstore X6.here hx rfl (hb hby at_84) rfl (l' := #[.val (.long q1), .second, .val (.long q2), .second, .val (.int p3), .val (.int p4), .val (.int p5), .val (.int (1 : Int32)), .val (.int ((2 : Int32) + (p3 &&& (7 : Int32)))), .val (.long ((((2 : Int32) + (p3 &&& (7 : Int32))).toInt64) + (q2 &&& (63 : Int64)))), .second, .val (.long (own_minL (q1 &&& (9223372036854775807 : Int64)) ((9223372036854775807 : Int64) - ((((2 : Int32) + (p3 &&& (7 : Int32))).toInt64) + (q2 &&& (63 : Int64)))))), .second, .unset, .unset, .unset]) rfl ?_
    show Steps p.tables e below (T6.setTop (mkF m 86 #[.val (.long q1), .second, .val (.long q2), .second, .val (.int p3), .val (.int p4), .val (.int p5), .val (.int (1 : Int32)), .val (.int ((2 : Int32) + (p3 &&& (7 : Int32)))), .val (.long ((((2 : Int32) + (p3 &&& (7 : Int32))).toInt64) + (q2 &&& (63 : Int64)))), .second, .val (.long (own_minL (q1 &&& (9223372036854775807 : Int64)) ((9223372036854775807 : Int64) - ((((2 : Int32) + (p3 &&& (7 : Int32))).toInt64) + (q2 &&& (63 : Int64)))))), .second, .unset, .unset, .unset] [])) _
    refine XS.iload X6.here hx rfl (hb hby at_86) rfl ?_
    show Steps p.tables e below (T6.setTop (mkF m 88 #[.val (.long q1), .second, .val (.long q2), .second, .val (.int p3), .val (.int p4), .val (.int p5), .val (.int (1 : Int32)), .val (.int ((2 : Int32) + (p3 &&& (7 : Int32)))), .val (.long ((((2 : Int32) + (p3 &&& (7 : Int32))).toInt64) + (q2 &&& (63 : Int64)))), .second, .val (.long (own_minL (q1 &&& (9223372036854775807 : Int64)) ((9223372036854775807 : Int64) - ((((2 : Int32) + (p3 &&& (7 : Int32))).toInt64) + (q2 &&& (63 : Int64)))))), .second, .unset, .unset, .unset] [(.int p4)])) _
    refine X6.ldcInt hx hown (mvT hZ (hw _ (List.mem_of_getElem? (i := 0) rfl))) (g := (mkF m 88 #[.val (.long q1), .second, .val (.long q2), .second, .val (.int p3), .val (.int p4), .val (.int p5), .val (.int (1 : Int32)), .val (.int ((2 : Int32) + (p3 &&& (7 : Int32)))), .val (.long ((((2 : Int32) + (p3 &&& (7 : Int32))).toInt64) + (q2 &&& (63 : Int64)))), .second, .val (.long (own_minL (q1 &&& (9223372036854775807 : Int64)) ((9223372036854775807 : Int64) - ((((2 : Int32) + (p3 &&& (7 : Int32))).toInt64) + (q2 &&& (63 : Int64)))))), .second, .unset, .unset, .unset] [(.int p4)])) rfl (hb hby at_88) _ ?_
    show Steps p.tables e below (T6.setTop (mkF m 90 #[.val (.long q1), .second, .val (.long q2), .second, .val (.int p3), .val (.int p4), .val (.int p5), .val (.int (1 : Int32)), .val (.int ((2 : Int32) + (p3 &&& (7 : Int32)))), .val (.long ((((2 : Int32) + (p3 &&& (7 : Int32))).toInt64) + (q2 &&& (63 : Int64)))), .second, .val (.long (own_minL (q1 &&& (9223372036854775807 : Int64)) ((9223372036854775807 : Int64) - ((((2 : Int32) + (p3 &&& (7 : Int32))).toInt64) + (q2 &&& (63 : Int64)))))), .second, .unset, .unset, .unset] [(.int (2147483647 : Int32)), (.int p4)])) _
    refine XS.iand X6.here hx rfl (hb hby at_90) rfl ?_
    show Steps p.tables e below (T6.setTop (mkF m 91 #[.val (.long q1), .second, .val (.long q2), .second, .val (.int p3), .val (.int p4), .val (.int p5), .val (.int (1 : Int32)), .val (.int ((2 : Int32) + (p3 &&& (7 : Int32)))), .val (.long ((((2 : Int32) + (p3 &&& (7 : Int32))).toInt64) + (q2 &&& (63 : Int64)))), .second, .val (.long (own_minL (q1 &&& (9223372036854775807 : Int64)) ((9223372036854775807 : Int64) - ((((2 : Int32) + (p3 &&& (7 : Int32))).toInt64) + (q2 &&& (63 : Int64)))))), .second, .unset, .unset, .unset] [(.int (p4 &&& (2147483647 : Int32)))])) _
    refine XS.iload X6.here hx rfl (hb hby at_91) rfl ?_
    show Steps p.tables e below (T6.setTop (mkF m 93 #[.val (.long q1), .second, .val (.long q2), .second, .val (.int p3), .val (.int p4), .val (.int p5), .val (.int (1 : Int32)), .val (.int ((2 : Int32) + (p3 &&& (7 : Int32)))), .val (.long ((((2 : Int32) + (p3 &&& (7 : Int32))).toInt64) + (q2 &&& (63 : Int64)))), .second, .val (.long (own_minL (q1 &&& (9223372036854775807 : Int64)) ((9223372036854775807 : Int64) - ((((2 : Int32) + (p3 &&& (7 : Int32))).toInt64) + (q2 &&& (63 : Int64)))))), .second, .unset, .unset, .unset] [(.int ((2 : Int32) + (p3 &&& (7 : Int32)))), (.int (p4 &&& (2147483647 : Int32)))])) _
    refine XS.irem X6.here hx rfl (hb hby at_93) rfl hnz93 ?_
    show Steps p.tables e below (T6.setTop (mkF m 94 #[.val (.long q1), .second, .val (.long q2), .second, .val (.int p3), .val (.int p4), .val (.int p5), .val (.int (1 : Int32)), .val (.int ((2 : Int32) + (p3 &&& (7 : Int32)))), .val (.long ((((2 : Int32) + (p3 &&& (7 : Int32))).toInt64) + (q2 &&& (63 : Int64)))), .second, .val (.long (own_minL (q1 &&& (9223372036854775807 : Int64)) ((9223372036854775807 : Int64) - ((((2 : Int32) + (p3 &&& (7 : Int32))).toInt64) + (q2 &&& (63 : Int64)))))), .second, .unset, .unset, .unset] [(.int ((p4 &&& (2147483647 : Int32)) - ((p4 &&& (2147483647 : Int32)) / ((2 : Int32) + (p3 &&& (7 : Int32)))) * ((2 : Int32) + (p3 &&& (7 : Int32)))))])) _
    refine XS.istore X6.here hx rfl (hb hby at_94) rfl (l' := #[.val (.long q1), .second, .val (.long q2), .second, .val (.int p3), .val (.int p4), .val (.int p5), .val (.int (1 : Int32)), .val (.int ((2 : Int32) + (p3 &&& (7 : Int32)))), .val (.long ((((2 : Int32) + (p3 &&& (7 : Int32))).toInt64) + (q2 &&& (63 : Int64)))), .second, .val (.long (own_minL (q1 &&& (9223372036854775807 : Int64)) ((9223372036854775807 : Int64) - ((((2 : Int32) + (p3 &&& (7 : Int32))).toInt64) + (q2 &&& (63 : Int64)))))), .second, .val (.int ((p4 &&& (2147483647 : Int32)) - ((p4 &&& (2147483647 : Int32)) / ((2 : Int32) + (p3 &&& (7 : Int32)))) * ((2 : Int32) + (p3 &&& (7 : Int32))))), .unset, .unset]) rfl ?_
    show Steps p.tables e below (T6.setTop (mkF m 96 #[.val (.long q1), .second, .val (.long q2), .second, .val (.int p3), .val (.int p4), .val (.int p5), .val (.int (1 : Int32)), .val (.int ((2 : Int32) + (p3 &&& (7 : Int32)))), .val (.long ((((2 : Int32) + (p3 &&& (7 : Int32))).toInt64) + (q2 &&& (63 : Int64)))), .second, .val (.long (own_minL (q1 &&& (9223372036854775807 : Int64)) ((9223372036854775807 : Int64) - ((((2 : Int32) + (p3 &&& (7 : Int32))).toInt64) + (q2 &&& (63 : Int64)))))), .second, .val (.int ((p4 &&& (2147483647 : Int32)) - ((p4 &&& (2147483647 : Int32)) / ((2 : Int32) + (p3 &&& (7 : Int32)))) * ((2 : Int32) + (p3 &&& (7 : Int32))))), .unset, .unset] [])) _
    refine st7 _ ?_
    show Steps p.tables e below (T7.setTop (mkF m 99 #[.val (.long q1), .second, .val (.long q2), .second, .val (.int p3), .val (.int p4), .val (.int p5), .val (.int (1 : Int32)), .val (.int ((2 : Int32) + (p3 &&& (7 : Int32)))), .val (.long ((((2 : Int32) + (p3 &&& (7 : Int32))).toInt64) + (q2 &&& (63 : Int64)))), .second, .val (.long (own_minL (q1 &&& (9223372036854775807 : Int64)) ((9223372036854775807 : Int64) - ((((2 : Int32) + (p3 &&& (7 : Int32))).toInt64) + (q2 &&& (63 : Int64)))))), .second, .val (.int ((p4 &&& (2147483647 : Int32)) - ((p4 &&& (2147483647 : Int32)) / ((2 : Int32) + (p3 &&& (7 : Int32)))) * ((2 : Int32) + (p3 &&& (7 : Int32))))), .unset, .unset] [(.ref b7)])) _
    refine XS.dup X7.here hx rfl (hb hby at_99) rfl rfl ?_
    show Steps p.tables e below (T7.setTop (mkF m 100 #[.val (.long q1), .second, .val (.long q2), .second, .val (.int p3), .val (.int p4), .val (.int p5), .val (.int (1 : Int32)), .val (.int ((2 : Int32) + (p3 &&& (7 : Int32)))), .val (.long ((((2 : Int32) + (p3 &&& (7 : Int32))).toInt64) + (q2 &&& (63 : Int64)))), .second, .val (.long (own_minL (q1 &&& (9223372036854775807 : Int64)) ((9223372036854775807 : Int64) - ((((2 : Int32) + (p3 &&& (7 : Int32))).toInt64) + (q2 &&& (63 : Int64)))))), .second, .val (.int ((p4 &&& (2147483647 : Int32)) - ((p4 &&& (2147483647 : Int32)) / ((2 : Int32) + (p3 &&& (7 : Int32)))) * ((2 : Int32) + (p3 &&& (7 : Int32))))), .unset, .unset] [(.ref b7), (.ref b7)])) _
    refine XS.lload X7.here hx rfl (hb hby at_100) rfl ?_
    show Steps p.tables e below (T7.setTop (mkF m 102 #[.val (.long q1), .second, .val (.long q2), .second, .val (.int p3), .val (.int p4), .val (.int p5), .val (.int (1 : Int32)), .val (.int ((2 : Int32) + (p3 &&& (7 : Int32)))), .val (.long ((((2 : Int32) + (p3 &&& (7 : Int32))).toInt64) + (q2 &&& (63 : Int64)))), .second, .val (.long (own_minL (q1 &&& (9223372036854775807 : Int64)) ((9223372036854775807 : Int64) - ((((2 : Int32) + (p3 &&& (7 : Int32))).toInt64) + (q2 &&& (63 : Int64)))))), .second, .val (.int ((p4 &&& (2147483647 : Int32)) - ((p4 &&& (2147483647 : Int32)) / ((2 : Int32) + (p3 &&& (7 : Int32)))) * ((2 : Int32) + (p3 &&& (7 : Int32))))), .unset, .unset] [(.long (own_minL (q1 &&& (9223372036854775807 : Int64)) ((9223372036854775807 : Int64) - ((((2 : Int32) + (p3 &&& (7 : Int32))).toInt64) + (q2 &&& (63 : Int64)))))), (.ref b7), (.ref b7)])) _
    refine XS.lload X7.here hx rfl (hb hby at_102) rfl ?_
    show Steps p.tables e below (T7.setTop (mkF m 104 #[.val (.long q1), .second, .val (.long q2), .second, .val (.int p3), .val (.int p4), .val (.int p5), .val (.int (1 : Int32)), .val (.int ((2 : Int32) + (p3 &&& (7 : Int32)))), .val (.long ((((2 : Int32) + (p3 &&& (7 : Int32))).toInt64) + (q2 &&& (63 : Int64)))), .second, .val (.long (own_minL (q1 &&& (9223372036854775807 : Int64)) ((9223372036854775807 : Int64) - ((((2 : Int32) + (p3 &&& (7 : Int32))).toInt64) + (q2 &&& (63 : Int64)))))), .second, .val (.int ((p4 &&& (2147483647 : Int32)) - ((p4 &&& (2147483647 : Int32)) / ((2 : Int32) + (p3 &&& (7 : Int32)))) * ((2 : Int32) + (p3 &&& (7 : Int32))))), .unset, .unset] [(.long ((((2 : Int32) + (p3 &&& (7 : Int32))).toInt64) + (q2 &&& (63 : Int64)))), (.long (own_minL (q1 &&& (9223372036854775807 : Int64)) ((9223372036854775807 : Int64) - ((((2 : Int32) + (p3 &&& (7 : Int32))).toInt64) + (q2 &&& (63 : Int64)))))), (.ref b7), (.ref b7)])) _
    refine XS.iload X7.here hx rfl (hb hby at_104) rfl ?_
    show Steps p.tables e below (T7.setTop (mkF m 106 #[.val (.long q1), .second, .val (.long q2), .second, .val (.int p3), .val (.int p4), .val (.int p5), .val (.int (1 : Int32)), .val (.int ((2 : Int32) + (p3 &&& (7 : Int32)))), .val (.long ((((2 : Int32) + (p3 &&& (7 : Int32))).toInt64) + (q2 &&& (63 : Int64)))), .second, .val (.long (own_minL (q1 &&& (9223372036854775807 : Int64)) ((9223372036854775807 : Int64) - ((((2 : Int32) + (p3 &&& (7 : Int32))).toInt64) + (q2 &&& (63 : Int64)))))), .second, .val (.int ((p4 &&& (2147483647 : Int32)) - ((p4 &&& (2147483647 : Int32)) / ((2 : Int32) + (p3 &&& (7 : Int32)))) * ((2 : Int32) + (p3 &&& (7 : Int32))))), .unset, .unset] [(.int ((2 : Int32) + (p3 &&& (7 : Int32)))), (.long ((((2 : Int32) + (p3 &&& (7 : Int32))).toInt64) + (q2 &&& (63 : Int64)))), (.long (own_minL (q1 &&& (9223372036854775807 : Int64)) ((9223372036854775807 : Int64) - ((((2 : Int32) + (p3 &&& (7 : Int32))).toInt64) + (q2 &&& (63 : Int64)))))), (.ref b7), (.ref b7)])) _
    refine st8.trans ?_
    show Steps p.tables e below (T8.setTop (mkF m 109 #[.val (.long q1), .second, .val (.long q2), .second, .val (.int p3), .val (.int p4), .val (.int p5), .val (.int (1 : Int32)), .val (.int ((2 : Int32) + (p3 &&& (7 : Int32)))), .val (.long ((((2 : Int32) + (p3 &&& (7 : Int32))).toInt64) + (q2 &&& (63 : Int64)))), .second, .val (.long (own_minL (q1 &&& (9223372036854775807 : Int64)) ((9223372036854775807 : Int64) - ((((2 : Int32) + (p3 &&& (7 : Int32))).toInt64) + (q2 &&& (63 : Int64)))))), .second, .val (.int ((p4 &&& (2147483647 : Int32)) - ((p4 &&& (2147483647 : Int32)) / ((2 : Int32) + (p3 &&& (7 : Int32)))) * ((2 : Int32) + (p3 &&& (7 : Int32))))), .unset, .unset] [(.ref b7)])) _
    refine XS.astore X8.here hx rfl (hb hby at_109) rfl rfl (l' := #[.val (.long q1), .second, .val (.long q2), .second, .val (.int p3), .val (.int p4), .val (.int p5), .val (.int (1 : Int32)), .val (.int ((2 : Int32) + (p3 &&& (7 : Int32)))), .val (.long ((((2 : Int32) + (p3 &&& (7 : Int32))).toInt64) + (q2 &&& (63 : Int64)))), .second, .val (.long (own_minL (q1 &&& (9223372036854775807 : Int64)) ((9223372036854775807 : Int64) - ((((2 : Int32) + (p3 &&& (7 : Int32))).toInt64) + (q2 &&& (63 : Int64)))))), .second, .val (.int ((p4 &&& (2147483647 : Int32)) - ((p4 &&& (2147483647 : Int32)) / ((2 : Int32) + (p3 &&& (7 : Int32)))) * ((2 : Int32) + (p3 &&& (7 : Int32))))), .val (.ref b7), .unset]) rfl ?_
    show Steps p.tables e below (T8.setTop (mkF m 111 #[.val (.long q1), .second, .val (.long q2), .second, .val (.int p3), .val (.int p4), .val (.int p5), .val (.int (1 : Int32)), .val (.int ((2 : Int32) + (p3 &&& (7 : Int32)))), .val (.long ((((2 : Int32) + (p3 &&& (7 : Int32))).toInt64) + (q2 &&& (63 : Int64)))), .second, .val (.long (own_minL (q1 &&& (9223372036854775807 : Int64)) ((9223372036854775807 : Int64) - ((((2 : Int32) + (p3 &&& (7 : Int32))).toInt64) + (q2 &&& (63 : Int64)))))), .second, .val (.int ((p4 &&& (2147483647 : Int32)) - ((p4 &&& (2147483647 : Int32)) / ((2 : Int32) + (p3 &&& (7 : Int32)))) * ((2 : Int32) + (p3 &&& (7 : Int32))))), .val (.ref b7), .unset] [])) _
    refine XS.aload X8.here hx rfl (hb hby at_111) rfl rfl ?_
    show Steps p.tables e below (T8.setTop (mkF m 113 #[.val (.long q1), .second, .val (.long q2), .second, .val (.int p3), .val (.int p4), .val (.int p5), .val (.int (1 : Int32)), .val (.int ((2 : Int32) + (p3 &&& (7 : Int32)))), .val (.long ((((2 : Int32) + (p3 &&& (7 : Int32))).toInt64) + (q2 &&& (63 : Int64)))), .second, .val (.long (own_minL (q1 &&& (9223372036854775807 : Int64)) ((9223372036854775807 : Int64) - ((((2 : Int32) + (p3 &&& (7 : Int32))).toInt64) + (q2 &&& (63 : Int64)))))), .second, .val (.int ((p4 &&& (2147483647 : Int32)) - ((p4 &&& (2147483647 : Int32)) / ((2 : Int32) + (p3 &&& (7 : Int32)))) * ((2 : Int32) + (p3 &&& (7 : Int32))))), .val (.ref b7), .unset] [(.ref b7)])) _
    refine XS.iload X8.here hx rfl (hb hby at_113) rfl ?_
    show Steps p.tables e below (T8.setTop (mkF m 115 #[.val (.long q1), .second, .val (.long q2), .second, .val (.int p3), .val (.int p4), .val (.int p5), .val (.int (1 : Int32)), .val (.int ((2 : Int32) + (p3 &&& (7 : Int32)))), .val (.long ((((2 : Int32) + (p3 &&& (7 : Int32))).toInt64) + (q2 &&& (63 : Int64)))), .second, .val (.long (own_minL (q1 &&& (9223372036854775807 : Int64)) ((9223372036854775807 : Int64) - ((((2 : Int32) + (p3 &&& (7 : Int32))).toInt64) + (q2 &&& (63 : Int64)))))), .second, .val (.int ((p4 &&& (2147483647 : Int32)) - ((p4 &&& (2147483647 : Int32)) / ((2 : Int32) + (p3 &&& (7 : Int32)))) * ((2 : Int32) + (p3 &&& (7 : Int32))))), .val (.ref b7), .unset] [(.int ((p4 &&& (2147483647 : Int32)) - ((p4 &&& (2147483647 : Int32)) / ((2 : Int32) + (p3 &&& (7 : Int32)))) * ((2 : Int32) + (p3 &&& (7 : Int32))))), (.ref b7)])) _
    refine st9.trans ?_
    show Steps p.tables e below (T9.setTop (mkF m 118 #[.val (.long q1), .second, .val (.long q2), .second, .val (.int p3), .val (.int p4), .val (.int p5), .val (.int (1 : Int32)), .val (.int ((2 : Int32) + (p3 &&& (7 : Int32)))), .val (.long ((((2 : Int32) + (p3 &&& (7 : Int32))).toInt64) + (q2 &&& (63 : Int64)))), .second, .val (.long (own_minL (q1 &&& (9223372036854775807 : Int64)) ((9223372036854775807 : Int64) - ((((2 : Int32) + (p3 &&& (7 : Int32))).toInt64) + (q2 &&& (63 : Int64)))))), .second, .val (.int ((p4 &&& (2147483647 : Int32)) - ((p4 &&& (2147483647 : Int32)) / ((2 : Int32) + (p3 &&& (7 : Int32)))) * ((2 : Int32) + (p3 &&& (7 : Int32))))), .val (.ref b7), .unset] [(.long (own_bs ((((2 : Int32) + (p3 &&& (7 : Int32))).toInt64) + (q2 &&& (63 : Int64))) ((2 : Int32) + (p3 &&& (7 : Int32))) ((p4 &&& (2147483647 : Int32)) - ((p4 &&& (2147483647 : Int32)) / ((2 : Int32) + (p3 &&& (7 : Int32)))) * ((2 : Int32) + (p3 &&& (7 : Int32))))))])) _
    refine XS.lload X9.here hx rfl (hb hby at_118) rfl ?_
    show Steps p.tables e below (T9.setTop (mkF m 120 #[.val (.long q1), .second, .val (.long q2), .second, .val (.int p3), .val (.int p4), .val (.int p5), .val (.int (1 : Int32)), .val (.int ((2 : Int32) + (p3 &&& (7 : Int32)))), .val (.long ((((2 : Int32) + (p3 &&& (7 : Int32))).toInt64) + (q2 &&& (63 : Int64)))), .second, .val (.long (own_minL (q1 &&& (9223372036854775807 : Int64)) ((9223372036854775807 : Int64) - ((((2 : Int32) + (p3 &&& (7 : Int32))).toInt64) + (q2 &&& (63 : Int64)))))), .second, .val (.int ((p4 &&& (2147483647 : Int32)) - ((p4 &&& (2147483647 : Int32)) / ((2 : Int32) + (p3 &&& (7 : Int32)))) * ((2 : Int32) + (p3 &&& (7 : Int32))))), .val (.ref b7), .unset] [(.long ((((2 : Int32) + (p3 &&& (7 : Int32))).toInt64) + (q2 &&& (63 : Int64)))), (.long (own_bs ((((2 : Int32) + (p3 &&& (7 : Int32))).toInt64) + (q2 &&& (63 : Int64))) ((2 : Int32) + (p3 &&& (7 : Int32))) ((p4 &&& (2147483647 : Int32)) - ((p4 &&& (2147483647 : Int32)) / ((2 : Int32) + (p3 &&& (7 : Int32)))) * ((2 : Int32) + (p3 &&& (7 : Int32))))))])) _
    refine XS.iload X9.here hx rfl (hb hby at_120) rfl ?_
    show Steps p.tables e below (T9.setTop (mkF m 122 #[.val (.long q1), .second, .val (.long q2), .second, .val (.int p3), .val (.int p4), .val (.int p5), .val (.int (1 : Int32)), .val (.int ((2 : Int32) + (p3 &&& (7 : Int32)))), .val (.long ((((2 : Int32) + (p3 &&& (7 : Int32))).toInt64) + (q2 &&& (63 : Int64)))), .second, .val (.long (own_minL (q1 &&& (9223372036854775807 : Int64)) ((9223372036854775807 : Int64) - ((((2 : Int32) + (p3 &&& (7 : Int32))).toInt64) + (q2 &&& (63 : Int64)))))), .second, .val (.int ((p4 &&& (2147483647 : Int32)) - ((p4 &&& (2147483647 : Int32)) / ((2 : Int32) + (p3 &&& (7 : Int32)))) * ((2 : Int32) + (p3 &&& (7 : Int32))))), .val (.ref b7), .unset] [(.int ((2 : Int32) + (p3 &&& (7 : Int32)))), (.long ((((2 : Int32) + (p3 &&& (7 : Int32))).toInt64) + (q2 &&& (63 : Int64)))), (.long (own_bs ((((2 : Int32) + (p3 &&& (7 : Int32))).toInt64) + (q2 &&& (63 : Int64))) ((2 : Int32) + (p3 &&& (7 : Int32))) ((p4 &&& (2147483647 : Int32)) - ((p4 &&& (2147483647 : Int32)) / ((2 : Int32) + (p3 &&& (7 : Int32)))) * ((2 : Int32) + (p3 &&& (7 : Int32))))))])) _
    refine XS.iload X9.here hx rfl (hb hby at_122) rfl ?_
    show Steps p.tables e below (T9.setTop (mkF m 124 #[.val (.long q1), .second, .val (.long q2), .second, .val (.int p3), .val (.int p4), .val (.int p5), .val (.int (1 : Int32)), .val (.int ((2 : Int32) + (p3 &&& (7 : Int32)))), .val (.long ((((2 : Int32) + (p3 &&& (7 : Int32))).toInt64) + (q2 &&& (63 : Int64)))), .second, .val (.long (own_minL (q1 &&& (9223372036854775807 : Int64)) ((9223372036854775807 : Int64) - ((((2 : Int32) + (p3 &&& (7 : Int32))).toInt64) + (q2 &&& (63 : Int64)))))), .second, .val (.int ((p4 &&& (2147483647 : Int32)) - ((p4 &&& (2147483647 : Int32)) / ((2 : Int32) + (p3 &&& (7 : Int32)))) * ((2 : Int32) + (p3 &&& (7 : Int32))))), .val (.ref b7), .unset] [(.int ((p4 &&& (2147483647 : Int32)) - ((p4 &&& (2147483647 : Int32)) / ((2 : Int32) + (p3 &&& (7 : Int32)))) * ((2 : Int32) + (p3 &&& (7 : Int32))))), (.int ((2 : Int32) + (p3 &&& (7 : Int32)))), (.long ((((2 : Int32) + (p3 &&& (7 : Int32))).toInt64) + (q2 &&& (63 : Int64)))), (.long (own_bs ((((2 : Int32) + (p3 &&& (7 : Int32))).toInt64) + (q2 &&& (63 : Int64))) ((2 : Int32) + (p3 &&& (7 : Int32))) ((p4 &&& (2147483647 : Int32)) - ((p4 &&& (2147483647 : Int32)) / ((2 : Int32) + (p3 &&& (7 : Int32)))) * ((2 : Int32) + (p3 &&& (7 : Int32))))))])) _
    refine st10 _ ?_
    show Steps p.tables e below (T10.setTop (mkF m 127 #[.val (.long q1), .second, .val (.long q2), .second, .val (.int p3), .val (.int p4), .val (.int p5), .val (.int (1 : Int32)), .val (.int ((2 : Int32) + (p3 &&& (7 : Int32)))), .val (.long ((((2 : Int32) + (p3 &&& (7 : Int32))).toInt64) + (q2 &&& (63 : Int64)))), .second, .val (.long (own_minL (q1 &&& (9223372036854775807 : Int64)) ((9223372036854775807 : Int64) - ((((2 : Int32) + (p3 &&& (7 : Int32))).toInt64) + (q2 &&& (63 : Int64)))))), .second, .val (.int ((p4 &&& (2147483647 : Int32)) - ((p4 &&& (2147483647 : Int32)) / ((2 : Int32) + (p3 &&& (7 : Int32)))) * ((2 : Int32) + (p3 &&& (7 : Int32))))), .val (.ref b7), .unset] [(.long (own_exp ((((2 : Int32) + (p3 &&& (7 : Int32))).toInt64) + (q2 &&& (63 : Int64))) ((2 : Int32) + (p3 &&& (7 : Int32))) ((p4 &&& (2147483647 : Int32)) - ((p4 &&& (2147483647 : Int32)) / ((2 : Int32) + (p3 &&& (7 : Int32)))) * ((2 : Int32) + (p3 &&& (7 : Int32)))))), (.long (own_bs ((((2 : Int32) + (p3 &&& (7 : Int32))).toInt64) + (q2 &&& (63 : Int64))) ((2 : Int32) + (p3 &&& (7 : Int32))) ((p4 &&& (2147483647 : Int32)) - ((p4 &&& (2147483647 : Int32)) / ((2 : Int32) + (p3 &&& (7 : Int32)))) * ((2 : Int32) + (p3 &&& (7 : Int32))))))])) _
    refine XS.lcmp X10.here hx rfl (hb hby at_127) rfl ?_
    show Steps p.tables e below (T10.setTop (mkF m 128 #[.val (.long q1), .second, .val (.long q2), .second, .val (.int p3), .val (.int p4), .val (.int p5), .val (.int (1 : Int32)), .val (.int ((2 : Int32) + (p3 &&& (7 : Int32)))), .val (.long ((((2 : Int32) + (p3 &&& (7 : Int32))).toInt64) + (q2 &&& (63 : Int64)))), .second, .val (.long (own_minL (q1 &&& (9223372036854775807 : Int64)) ((9223372036854775807 : Int64) - ((((2 : Int32) + (p3 &&& (7 : Int32))).toInt64) + (q2 &&& (63 : Int64)))))), .second, .val (.int ((p4 &&& (2147483647 : Int32)) - ((p4 &&& (2147483647 : Int32)) / ((2 : Int32) + (p3 &&& (7 : Int32)))) * ((2 : Int32) + (p3 &&& (7 : Int32))))), .val (.ref b7), .unset] [(.int (lcmpW (own_bs ((((2 : Int32) + (p3 &&& (7 : Int32))).toInt64) + (q2 &&& (63 : Int64))) ((2 : Int32) + (p3 &&& (7 : Int32))) ((p4 &&& (2147483647 : Int32)) - ((p4 &&& (2147483647 : Int32)) / ((2 : Int32) + (p3 &&& (7 : Int32)))) * ((2 : Int32) + (p3 &&& (7 : Int32))))) (own_exp ((((2 : Int32) + (p3 &&& (7 : Int32))).toInt64) + (q2 &&& (63 : Int64))) ((2 : Int32) + (p3 &&& (7 : Int32))) ((p4 &&& (2147483647 : Int32)) - ((p4 &&& (2147483647 : Int32)) / ((2 : Int32) + (p3 &&& (7 : Int32)))) * ((2 : Int32) + (p3 &&& (7 : Int32)))))))])) _
    refine XS.ifNo X10.here hx rfl (hb hby at_128) rfl ((if0 _ _).trans (teq ((own_eq _ _ _ (own_nS p3).1 (own_cS _ q2 (own_nS p3).1 (own_nS p3).2) (own_b p4 _ (own_nS p3).1).1 (own_b p4 _ (own_nS p3).1).2) : (lcmpW (own_bs ((((2 : Int32) + (p3 &&& (7 : Int32))).toInt64) + (q2 &&& (63 : Int64))) ((2 : Int32) + (p3 &&& (7 : Int32))) ((p4 &&& (2147483647 : Int32)) - ((p4 &&& (2147483647 : Int32)) / ((2 : Int32) + (p3 &&& (7 : Int32)))) * ((2 : Int32) + (p3 &&& (7 : Int32))))) (own_exp ((((2 : Int32) + (p3 &&& (7 : Int32))).toInt64) + (q2 &&& (63 : Int64))) ((2 : Int32) + (p3 &&& (7 : Int32))) ((p4 &&& (2147483647 : Int32)) - ((p4 &&& (2147483647 : Int32)) / ((2 : Int32) + (p3 &&& (7 : Int32)))) * ((2 : Int32) + (p3 &&& (7 : Int32)))))) = (0 : Int32))).2) ?_
    show Steps p.tables e below (T10.setTop (mkF m 131 #[.val (.long q1), .second, .val (.long q2), .second, .val (.int p3), .val (.int p4), .val (.int p5), .val (.int (1 : Int32)), .val (.int ((2 : Int32) + (p3 &&& (7 : Int32)))), .val (.long ((((2 : Int32) + (p3 &&& (7 : Int32))).toInt64) + (q2 &&& (63 : Int64)))), .second, .val (.long (own_minL (q1 &&& (9223372036854775807 : Int64)) ((9223372036854775807 : Int64) - ((((2 : Int32) + (p3 &&& (7 : Int32))).toInt64) + (q2 &&& (63 : Int64)))))), .second, .val (.int ((p4 &&& (2147483647 : Int32)) - ((p4 &&& (2147483647 : Int32)) / ((2 : Int32) + (p3 &&& (7 : Int32)))) * ((2 : Int32) + (p3 &&& (7 : Int32))))), .val (.ref b7), .unset] [])) _
    refine XS.iconst X10.here hx rfl (hb hby at_131) ?_
    show Steps p.tables e below (T10.setTop (mkF m 132 #[.val (.long q1), .second, .val (.long q2), .second, .val (.int p3), .val (.int p4), .val (.int p5), .val (.int (1 : Int32)), .val (.int ((2 : Int32) + (p3 &&& (7 : Int32)))), .val (.long ((((2 : Int32) + (p3 &&& (7 : Int32))).toInt64) + (q2 &&& (63 : Int64)))), .second, .val (.long (own_minL (q1 &&& (9223372036854775807 : Int64)) ((9223372036854775807 : Int64) - ((((2 : Int32) + (p3 &&& (7 : Int32))).toInt64) + (q2 &&& (63 : Int64)))))), .second, .val (.int ((p4 &&& (2147483647 : Int32)) - ((p4 &&& (2147483647 : Int32)) / ((2 : Int32) + (p3 &&& (7 : Int32)))) * ((2 : Int32) + (p3 &&& (7 : Int32))))), .val (.ref b7), .unset] [(.int (1 : Int32))])) _
    refine XS.goto X10.here hx rfl (pc0 := 132) (pc' := 136) rfl (hb hby at_132) (by decide) (by decide) ?_
    show Steps p.tables e below (T10.setTop (mkF m 136 #[.val (.long q1), .second, .val (.long q2), .second, .val (.int p3), .val (.int p4), .val (.int p5), .val (.int (1 : Int32)), .val (.int ((2 : Int32) + (p3 &&& (7 : Int32)))), .val (.long ((((2 : Int32) + (p3 &&& (7 : Int32))).toInt64) + (q2 &&& (63 : Int64)))), .second, .val (.long (own_minL (q1 &&& (9223372036854775807 : Int64)) ((9223372036854775807 : Int64) - ((((2 : Int32) + (p3 &&& (7 : Int32))).toInt64) + (q2 &&& (63 : Int64)))))), .second, .val (.int ((p4 &&& (2147483647 : Int32)) - ((p4 &&& (2147483647 : Int32)) / ((2 : Int32) + (p3 &&& (7 : Int32)))) * ((2 : Int32) + (p3 &&& (7 : Int32))))), .val (.ref b7), .unset] [(.int (1 : Int32))])) _
    refine XS.istore X10.here hx rfl (hb hby at_136) rfl (l' := #[.val (.long q1), .second, .val (.long q2), .second, .val (.int p3), .val (.int p4), .val (.int p5), .val (.int (1 : Int32)), .val (.int ((2 : Int32) + (p3 &&& (7 : Int32)))), .val (.long ((((2 : Int32) + (p3 &&& (7 : Int32))).toInt64) + (q2 &&& (63 : Int64)))), .second, .val (.long (own_minL (q1 &&& (9223372036854775807 : Int64)) ((9223372036854775807 : Int64) - ((((2 : Int32) + (p3 &&& (7 : Int32))).toInt64) + (q2 &&& (63 : Int64)))))), .second, .val (.int ((p4 &&& (2147483647 : Int32)) - ((p4 &&& (2147483647 : Int32)) / ((2 : Int32) + (p3 &&& (7 : Int32)))) * ((2 : Int32) + (p3 &&& (7 : Int32))))), .val (.ref b7), .val (.int (1 : Int32))]) rfl ?_
    show Steps p.tables e below (T10.setTop (mkF m 138 #[.val (.long q1), .second, .val (.long q2), .second, .val (.int p3), .val (.int p4), .val (.int p5), .val (.int (1 : Int32)), .val (.int ((2 : Int32) + (p3 &&& (7 : Int32)))), .val (.long ((((2 : Int32) + (p3 &&& (7 : Int32))).toInt64) + (q2 &&& (63 : Int64)))), .second, .val (.long (own_minL (q1 &&& (9223372036854775807 : Int64)) ((9223372036854775807 : Int64) - ((((2 : Int32) + (p3 &&& (7 : Int32))).toInt64) + (q2 &&& (63 : Int64)))))), .second, .val (.int ((p4 &&& (2147483647 : Int32)) - ((p4 &&& (2147483647 : Int32)) / ((2 : Int32) + (p3 &&& (7 : Int32)))) * ((2 : Int32) + (p3 &&& (7 : Int32))))), .val (.ref b7), .val (.int (1 : Int32))] [])) _
    refine XS.iload X10.here hx rfl (hb hby at_138) rfl ?_
    show Steps p.tables e below (T10.setTop (mkF m 140 #[.val (.long q1), .second, .val (.long q2), .second, .val (.int p3), .val (.int p4), .val (.int p5), .val (.int (1 : Int32)), .val (.int ((2 : Int32) + (p3 &&& (7 : Int32)))), .val (.long ((((2 : Int32) + (p3 &&& (7 : Int32))).toInt64) + (q2 &&& (63 : Int64)))), .second, .val (.long (own_minL (q1 &&& (9223372036854775807 : Int64)) ((9223372036854775807 : Int64) - ((((2 : Int32) + (p3 &&& (7 : Int32))).toInt64) + (q2 &&& (63 : Int64)))))), .second, .val (.int ((p4 &&& (2147483647 : Int32)) - ((p4 &&& (2147483647 : Int32)) / ((2 : Int32) + (p3 &&& (7 : Int32)))) * ((2 : Int32) + (p3 &&& (7 : Int32))))), .val (.ref b7), .val (.int (1 : Int32))] [(.int (1 : Int32))])) _
    refine XS.ifNo X10.here hx rfl (hb hby at_140) rfl ((if0 _ _).trans (feq hc140).1) ?_
    show Steps p.tables e below (T10.setTop (mkF m 143 #[.val (.long q1), .second, .val (.long q2), .second, .val (.int p3), .val (.int p4), .val (.int p5), .val (.int (1 : Int32)), .val (.int ((2 : Int32) + (p3 &&& (7 : Int32)))), .val (.long ((((2 : Int32) + (p3 &&& (7 : Int32))).toInt64) + (q2 &&& (63 : Int64)))), .second, .val (.long (own_minL (q1 &&& (9223372036854775807 : Int64)) ((9223372036854775807 : Int64) - ((((2 : Int32) + (p3 &&& (7 : Int32))).toInt64) + (q2 &&& (63 : Int64)))))), .second, .val (.int ((p4 &&& (2147483647 : Int32)) - ((p4 &&& (2147483647 : Int32)) / ((2 : Int32) + (p3 &&& (7 : Int32)))) * ((2 : Int32) + (p3 &&& (7 : Int32))))), .val (.ref b7), .val (.int (1 : Int32))] [])) _
    refine XS.aload X10.here hx rfl (hb hby at_143) rfl rfl ?_
    show Steps p.tables e below (T10.setTop (mkF m 145 #[.val (.long q1), .second, .val (.long q2), .second, .val (.int p3), .val (.int p4), .val (.int p5), .val (.int (1 : Int32)), .val (.int ((2 : Int32) + (p3 &&& (7 : Int32)))), .val (.long ((((2 : Int32) + (p3 &&& (7 : Int32))).toInt64) + (q2 &&& (63 : Int64)))), .second, .val (.long (own_minL (q1 &&& (9223372036854775807 : Int64)) ((9223372036854775807 : Int64) - ((((2 : Int32) + (p3 &&& (7 : Int32))).toInt64) + (q2 &&& (63 : Int64)))))), .second, .val (.int ((p4 &&& (2147483647 : Int32)) - ((p4 &&& (2147483647 : Int32)) / ((2 : Int32) + (p3 &&& (7 : Int32)))) * ((2 : Int32) + (p3 &&& (7 : Int32))))), .val (.ref b7), .val (.int (1 : Int32))] [(.ref b7)])) _
    refine XS.iconst X10.here hx rfl (hb hby at_145) ?_
    show Steps p.tables e below (T10.setTop (mkF m 146 #[.val (.long q1), .second, .val (.long q2), .second, .val (.int p3), .val (.int p4), .val (.int p5), .val (.int (1 : Int32)), .val (.int ((2 : Int32) + (p3 &&& (7 : Int32)))), .val (.long ((((2 : Int32) + (p3 &&& (7 : Int32))).toInt64) + (q2 &&& (63 : Int64)))), .second, .val (.long (own_minL (q1 &&& (9223372036854775807 : Int64)) ((9223372036854775807 : Int64) - ((((2 : Int32) + (p3 &&& (7 : Int32))).toInt64) + (q2 &&& (63 : Int64)))))), .second, .val (.int ((p4 &&& (2147483647 : Int32)) - ((p4 &&& (2147483647 : Int32)) / ((2 : Int32) + (p3 &&& (7 : Int32)))) * ((2 : Int32) + (p3 &&& (7 : Int32))))), .val (.ref b7), .val (.int (1 : Int32))] [(.int (0 : Int32)), (.ref b7)])) _
    refine st11.trans ?_
    show Steps p.tables e below (T11.setTop (mkF m 149 #[.val (.long q1), .second, .val (.long q2), .second, .val (.int p3), .val (.int p4), .val (.int p5), .val (.int (1 : Int32)), .val (.int ((2 : Int32) + (p3 &&& (7 : Int32)))), .val (.long ((((2 : Int32) + (p3 &&& (7 : Int32))).toInt64) + (q2 &&& (63 : Int64)))), .second, .val (.long (own_minL (q1 &&& (9223372036854775807 : Int64)) ((9223372036854775807 : Int64) - ((((2 : Int32) + (p3 &&& (7 : Int32))).toInt64) + (q2 &&& (63 : Int64)))))), .second, .val (.int ((p4 &&& (2147483647 : Int32)) - ((p4 &&& (2147483647 : Int32)) / ((2 : Int32) + (p3 &&& (7 : Int32)))) * ((2 : Int32) + (p3 &&& (7 : Int32))))), .val (.ref b7), .val (.int (1 : Int32))] [(.long (own_bs ((((2 : Int32) + (p3 &&& (7 : Int32))).toInt64) + (q2 &&& (63 : Int64))) ((2 : Int32) + (p3 &&& (7 : Int32))) (0 : Int32)))])) _
    refine XS.lload X11.here hx rfl (hb hby at_149) rfl ?_
    show Steps p.tables e below (T11.setTop (mkF m 151 #[.val (.long q1), .second, .val (.long q2), .second, .val (.int p3), .val (.int p4), .val (.int p5), .val (.int (1 : Int32)), .val (.int ((2 : Int32) + (p3 &&& (7 : Int32)))), .val (.long ((((2 : Int32) + (p3 &&& (7 : Int32))).toInt64) + (q2 &&& (63 : Int64)))), .second, .val (.long (own_minL (q1 &&& (9223372036854775807 : Int64)) ((9223372036854775807 : Int64) - ((((2 : Int32) + (p3 &&& (7 : Int32))).toInt64) + (q2 &&& (63 : Int64)))))), .second, .val (.int ((p4 &&& (2147483647 : Int32)) - ((p4 &&& (2147483647 : Int32)) / ((2 : Int32) + (p3 &&& (7 : Int32)))) * ((2 : Int32) + (p3 &&& (7 : Int32))))), .val (.ref b7), .val (.int (1 : Int32))] [(.long ((((2 : Int32) + (p3 &&& (7 : Int32))).toInt64) + (q2 &&& (63 : Int64)))), (.long (own_bs ((((2 : Int32) + (p3 &&& (7 : Int32))).toInt64) + (q2 &&& (63 : Int64))) ((2 : Int32) + (p3 &&& (7 : Int32))) (0 : Int32)))])) _
    refine XS.iload X11.here hx rfl (hb hby at_151) rfl ?_
    show Steps p.tables e below (T11.setTop (mkF m 153 #[.val (.long q1), .second, .val (.long q2), .second, .val (.int p3), .val (.int p4), .val (.int p5), .val (.int (1 : Int32)), .val (.int ((2 : Int32) + (p3 &&& (7 : Int32)))), .val (.long ((((2 : Int32) + (p3 &&& (7 : Int32))).toInt64) + (q2 &&& (63 : Int64)))), .second, .val (.long (own_minL (q1 &&& (9223372036854775807 : Int64)) ((9223372036854775807 : Int64) - ((((2 : Int32) + (p3 &&& (7 : Int32))).toInt64) + (q2 &&& (63 : Int64)))))), .second, .val (.int ((p4 &&& (2147483647 : Int32)) - ((p4 &&& (2147483647 : Int32)) / ((2 : Int32) + (p3 &&& (7 : Int32)))) * ((2 : Int32) + (p3 &&& (7 : Int32))))), .val (.ref b7), .val (.int (1 : Int32))] [(.int ((2 : Int32) + (p3 &&& (7 : Int32)))), (.long ((((2 : Int32) + (p3 &&& (7 : Int32))).toInt64) + (q2 &&& (63 : Int64)))), (.long (own_bs ((((2 : Int32) + (p3 &&& (7 : Int32))).toInt64) + (q2 &&& (63 : Int64))) ((2 : Int32) + (p3 &&& (7 : Int32))) (0 : Int32)))])) _
    refine XS.iconst X11.here hx rfl (hb hby at_153) ?_
    show Steps p.tables e below (T11.setTop (mkF m 154 #[.val (.long q1), .second, .val (.long q2), .second, .val (.int p3), .val (.int p4), .val (.int p5), .val (.int (1 : Int32)), .val (.int ((2 : Int32) + (p3 &&& (7 : Int32)))), .val (.long ((((2 : Int32) + (p3 &&& (7 : Int32))).toInt64) + (q2 &&& (63 : Int64)))), .second, .val (.long (own_minL (q1 &&& (9223372036854775807 : Int64)) ((9223372036854775807 : Int64) - ((((2 : Int32) + (p3 &&& (7 : Int32))).toInt64) + (q2 &&& (63 : Int64)))))), .second, .val (.int ((p4 &&& (2147483647 : Int32)) - ((p4 &&& (2147483647 : Int32)) / ((2 : Int32) + (p3 &&& (7 : Int32)))) * ((2 : Int32) + (p3 &&& (7 : Int32))))), .val (.ref b7), .val (.int (1 : Int32))] [(.int (0 : Int32)), (.int ((2 : Int32) + (p3 &&& (7 : Int32)))), (.long ((((2 : Int32) + (p3 &&& (7 : Int32))).toInt64) + (q2 &&& (63 : Int64)))), (.long (own_bs ((((2 : Int32) + (p3 &&& (7 : Int32))).toInt64) + (q2 &&& (63 : Int64))) ((2 : Int32) + (p3 &&& (7 : Int32))) (0 : Int32)))])) _
    refine st12 _ ?_
    show Steps p.tables e below (T12.setTop (mkF m 157 #[.val (.long q1), .second, .val (.long q2), .second, .val (.int p3), .val (.int p4), .val (.int p5), .val (.int (1 : Int32)), .val (.int ((2 : Int32) + (p3 &&& (7 : Int32)))), .val (.long ((((2 : Int32) + (p3 &&& (7 : Int32))).toInt64) + (q2 &&& (63 : Int64)))), .second, .val (.long (own_minL (q1 &&& (9223372036854775807 : Int64)) ((9223372036854775807 : Int64) - ((((2 : Int32) + (p3 &&& (7 : Int32))).toInt64) + (q2 &&& (63 : Int64)))))), .second, .val (.int ((p4 &&& (2147483647 : Int32)) - ((p4 &&& (2147483647 : Int32)) / ((2 : Int32) + (p3 &&& (7 : Int32)))) * ((2 : Int32) + (p3 &&& (7 : Int32))))), .val (.ref b7), .val (.int (1 : Int32))] [(.long (own_exp ((((2 : Int32) + (p3 &&& (7 : Int32))).toInt64) + (q2 &&& (63 : Int64))) ((2 : Int32) + (p3 &&& (7 : Int32))) (0 : Int32))), (.long (own_bs ((((2 : Int32) + (p3 &&& (7 : Int32))).toInt64) + (q2 &&& (63 : Int64))) ((2 : Int32) + (p3 &&& (7 : Int32))) (0 : Int32)))])) _
    refine XS.lcmp X12.here hx rfl (hb hby at_157) rfl ?_
    show Steps p.tables e below (T12.setTop (mkF m 158 #[.val (.long q1), .second, .val (.long q2), .second, .val (.int p3), .val (.int p4), .val (.int p5), .val (.int (1 : Int32)), .val (.int ((2 : Int32) + (p3 &&& (7 : Int32)))), .val (.long ((((2 : Int32) + (p3 &&& (7 : Int32))).toInt64) + (q2 &&& (63 : Int64)))), .second, .val (.long (own_minL (q1 &&& (9223372036854775807 : Int64)) ((9223372036854775807 : Int64) - ((((2 : Int32) + (p3 &&& (7 : Int32))).toInt64) + (q2 &&& (63 : Int64)))))), .second, .val (.int ((p4 &&& (2147483647 : Int32)) - ((p4 &&& (2147483647 : Int32)) / ((2 : Int32) + (p3 &&& (7 : Int32)))) * ((2 : Int32) + (p3 &&& (7 : Int32))))), .val (.ref b7), .val (.int (1 : Int32))] [(.int (lcmpW (own_bs ((((2 : Int32) + (p3 &&& (7 : Int32))).toInt64) + (q2 &&& (63 : Int64))) ((2 : Int32) + (p3 &&& (7 : Int32))) (0 : Int32)) (own_exp ((((2 : Int32) + (p3 &&& (7 : Int32))).toInt64) + (q2 &&& (63 : Int64))) ((2 : Int32) + (p3 &&& (7 : Int32))) (0 : Int32))))])) _
    refine XS.ifNo X12.here hx rfl (hb hby at_158) rfl ((if0 _ _).trans (teq ((own_eq _ _ _ (own_nS p3).1 (own_cS _ q2 (own_nS p3).1 (own_nS p3).2) (own_b0 _ (own_nS p3).1).1 (own_b0 _ (own_nS p3).1).2) : (lcmpW (own_bs ((((2 : Int32) + (p3 &&& (7 : Int32))).toInt64) + (q2 &&& (63 : Int64))) ((2 : Int32) + (p3 &&& (7 : Int32))) (0 : Int32)) (own_exp ((((2 : Int32) + (p3 &&& (7 : Int32))).toInt64) + (q2 &&& (63 : Int64))) ((2 : Int32) + (p3 &&& (7 : Int32))) (0 : Int32))) = (0 : Int32))).2) ?_
    show Steps p.tables e below (T12.setTop (mkF m 161 #[.val (.long q1), .second, .val (.long q2), .second, .val (.int p3), .val (.int p4), .val (.int p5), .val (.int (1 : Int32)), .val (.int ((2 : Int32) + (p3 &&& (7 : Int32)))), .val (.long ((((2 : Int32) + (p3 &&& (7 : Int32))).toInt64) + (q2 &&& (63 : Int64)))), .second, .val (.long (own_minL (q1 &&& (9223372036854775807 : Int64)) ((9223372036854775807 : Int64) - ((((2 : Int32) + (p3 &&& (7 : Int32))).toInt64) + (q2 &&& (63 : Int64)))))), .second, .val (.int ((p4 &&& (2147483647 : Int32)) - ((p4 &&& (2147483647 : Int32)) / ((2 : Int32) + (p3 &&& (7 : Int32)))) * ((2 : Int32) + (p3 &&& (7 : Int32))))), .val (.ref b7), .val (.int (1 : Int32))] [])) _
    refine XS.iconst X12.here hx rfl (hb hby at_161) ?_
    show Steps p.tables e below (T12.setTop (mkF m 162 #[.val (.long q1), .second, .val (.long q2), .second, .val (.int p3), .val (.int p4), .val (.int p5), .val (.int (1 : Int32)), .val (.int ((2 : Int32) + (p3 &&& (7 : Int32)))), .val (.long ((((2 : Int32) + (p3 &&& (7 : Int32))).toInt64) + (q2 &&& (63 : Int64)))), .second, .val (.long (own_minL (q1 &&& (9223372036854775807 : Int64)) ((9223372036854775807 : Int64) - ((((2 : Int32) + (p3 &&& (7 : Int32))).toInt64) + (q2 &&& (63 : Int64)))))), .second, .val (.int ((p4 &&& (2147483647 : Int32)) - ((p4 &&& (2147483647 : Int32)) / ((2 : Int32) + (p3 &&& (7 : Int32)))) * ((2 : Int32) + (p3 &&& (7 : Int32))))), .val (.ref b7), .val (.int (1 : Int32))] [(.int (1 : Int32))])) _
    refine XS.goto X12.here hx rfl (pc0 := 162) (pc' := 166) rfl (hb hby at_162) (by decide) (by decide) ?_
    show Steps p.tables e below (T12.setTop (mkF m 166 #[.val (.long q1), .second, .val (.long q2), .second, .val (.int p3), .val (.int p4), .val (.int p5), .val (.int (1 : Int32)), .val (.int ((2 : Int32) + (p3 &&& (7 : Int32)))), .val (.long ((((2 : Int32) + (p3 &&& (7 : Int32))).toInt64) + (q2 &&& (63 : Int64)))), .second, .val (.long (own_minL (q1 &&& (9223372036854775807 : Int64)) ((9223372036854775807 : Int64) - ((((2 : Int32) + (p3 &&& (7 : Int32))).toInt64) + (q2 &&& (63 : Int64)))))), .second, .val (.int ((p4 &&& (2147483647 : Int32)) - ((p4 &&& (2147483647 : Int32)) / ((2 : Int32) + (p3 &&& (7 : Int32)))) * ((2 : Int32) + (p3 &&& (7 : Int32))))), .val (.ref b7), .val (.int (1 : Int32))] [(.int (1 : Int32))])) _
    refine XS.istore X12.here hx rfl (hb hby at_166) rfl (l' := #[.val (.long q1), .second, .val (.long q2), .second, .val (.int p3), .val (.int p4), .val (.int p5), .val (.int (1 : Int32)), .val (.int ((2 : Int32) + (p3 &&& (7 : Int32)))), .val (.long ((((2 : Int32) + (p3 &&& (7 : Int32))).toInt64) + (q2 &&& (63 : Int64)))), .second, .val (.long (own_minL (q1 &&& (9223372036854775807 : Int64)) ((9223372036854775807 : Int64) - ((((2 : Int32) + (p3 &&& (7 : Int32))).toInt64) + (q2 &&& (63 : Int64)))))), .second, .val (.int ((p4 &&& (2147483647 : Int32)) - ((p4 &&& (2147483647 : Int32)) / ((2 : Int32) + (p3 &&& (7 : Int32)))) * ((2 : Int32) + (p3 &&& (7 : Int32))))), .val (.ref b7), .val (.int (1 : Int32))]) rfl ?_
    show Steps p.tables e below (T12.setTop (mkF m 168 #[.val (.long q1), .second, .val (.long q2), .second, .val (.int p3), .val (.int p4), .val (.int p5), .val (.int (1 : Int32)), .val (.int ((2 : Int32) + (p3 &&& (7 : Int32)))), .val (.long ((((2 : Int32) + (p3 &&& (7 : Int32))).toInt64) + (q2 &&& (63 : Int64)))), .second, .val (.long (own_minL (q1 &&& (9223372036854775807 : Int64)) ((9223372036854775807 : Int64) - ((((2 : Int32) + (p3 &&& (7 : Int32))).toInt64) + (q2 &&& (63 : Int64)))))), .second, .val (.int ((p4 &&& (2147483647 : Int32)) - ((p4 &&& (2147483647 : Int32)) / ((2 : Int32) + (p3 &&& (7 : Int32)))) * ((2 : Int32) + (p3 &&& (7 : Int32))))), .val (.ref b7), .val (.int (1 : Int32))] [])) _
    refine XS.iload X12.here hx rfl (hb hby at_168) rfl ?_
    show Steps p.tables e below (T12.setTop (mkF m 170 #[.val (.long q1), .second, .val (.long q2), .second, .val (.int p3), .val (.int p4), .val (.int p5), .val (.int (1 : Int32)), .val (.int ((2 : Int32) + (p3 &&& (7 : Int32)))), .val (.long ((((2 : Int32) + (p3 &&& (7 : Int32))).toInt64) + (q2 &&& (63 : Int64)))), .second, .val (.long (own_minL (q1 &&& (9223372036854775807 : Int64)) ((9223372036854775807 : Int64) - ((((2 : Int32) + (p3 &&& (7 : Int32))).toInt64) + (q2 &&& (63 : Int64)))))), .second, .val (.int ((p4 &&& (2147483647 : Int32)) - ((p4 &&& (2147483647 : Int32)) / ((2 : Int32) + (p3 &&& (7 : Int32)))) * ((2 : Int32) + (p3 &&& (7 : Int32))))), .val (.ref b7), .val (.int (1 : Int32))] [(.int (1 : Int32))])) _
    refine XS.ifNo X12.here hx rfl (hb hby at_170) rfl ((if0 _ _).trans (feq hc170).1) ?_
    show Steps p.tables e below (T12.setTop (mkF m 173 #[.val (.long q1), .second, .val (.long q2), .second, .val (.int p3), .val (.int p4), .val (.int p5), .val (.int (1 : Int32)), .val (.int ((2 : Int32) + (p3 &&& (7 : Int32)))), .val (.long ((((2 : Int32) + (p3 &&& (7 : Int32))).toInt64) + (q2 &&& (63 : Int64)))), .second, .val (.long (own_minL (q1 &&& (9223372036854775807 : Int64)) ((9223372036854775807 : Int64) - ((((2 : Int32) + (p3 &&& (7 : Int32))).toInt64) + (q2 &&& (63 : Int64)))))), .second, .val (.int ((p4 &&& (2147483647 : Int32)) - ((p4 &&& (2147483647 : Int32)) / ((2 : Int32) + (p3 &&& (7 : Int32)))) * ((2 : Int32) + (p3 &&& (7 : Int32))))), .val (.ref b7), .val (.int (1 : Int32))] [])) _
    refine XS.aload X12.here hx rfl (hb hby at_173) rfl rfl ?_
    show Steps p.tables e below (T12.setTop (mkF m 175 #[.val (.long q1), .second, .val (.long q2), .second, .val (.int p3), .val (.int p4), .val (.int p5), .val (.int (1 : Int32)), .val (.int ((2 : Int32) + (p3 &&& (7 : Int32)))), .val (.long ((((2 : Int32) + (p3 &&& (7 : Int32))).toInt64) + (q2 &&& (63 : Int64)))), .second, .val (.long (own_minL (q1 &&& (9223372036854775807 : Int64)) ((9223372036854775807 : Int64) - ((((2 : Int32) + (p3 &&& (7 : Int32))).toInt64) + (q2 &&& (63 : Int64)))))), .second, .val (.int ((p4 &&& (2147483647 : Int32)) - ((p4 &&& (2147483647 : Int32)) / ((2 : Int32) + (p3 &&& (7 : Int32)))) * ((2 : Int32) + (p3 &&& (7 : Int32))))), .val (.ref b7), .val (.int (1 : Int32))] [(.ref b7)])) _
    refine XS.iload X12.here hx rfl (hb hby at_175) rfl ?_
    show Steps p.tables e below (T12.setTop (mkF m 177 #[.val (.long q1), .second, .val (.long q2), .second, .val (.int p3), .val (.int p4), .val (.int p5), .val (.int (1 : Int32)), .val (.int ((2 : Int32) + (p3 &&& (7 : Int32)))), .val (.long ((((2 : Int32) + (p3 &&& (7 : Int32))).toInt64) + (q2 &&& (63 : Int64)))), .second, .val (.long (own_minL (q1 &&& (9223372036854775807 : Int64)) ((9223372036854775807 : Int64) - ((((2 : Int32) + (p3 &&& (7 : Int32))).toInt64) + (q2 &&& (63 : Int64)))))), .second, .val (.int ((p4 &&& (2147483647 : Int32)) - ((p4 &&& (2147483647 : Int32)) / ((2 : Int32) + (p3 &&& (7 : Int32)))) * ((2 : Int32) + (p3 &&& (7 : Int32))))), .val (.ref b7), .val (.int (1 : Int32))] [(.int ((2 : Int32) + (p3 &&& (7 : Int32)))), (.ref b7)])) _
    refine XS.iconst X12.here hx rfl (hb hby at_177) ?_
    show Steps p.tables e below (T12.setTop (mkF m 178 #[.val (.long q1), .second, .val (.long q2), .second, .val (.int p3), .val (.int p4), .val (.int p5), .val (.int (1 : Int32)), .val (.int ((2 : Int32) + (p3 &&& (7 : Int32)))), .val (.long ((((2 : Int32) + (p3 &&& (7 : Int32))).toInt64) + (q2 &&& (63 : Int64)))), .second, .val (.long (own_minL (q1 &&& (9223372036854775807 : Int64)) ((9223372036854775807 : Int64) - ((((2 : Int32) + (p3 &&& (7 : Int32))).toInt64) + (q2 &&& (63 : Int64)))))), .second, .val (.int ((p4 &&& (2147483647 : Int32)) - ((p4 &&& (2147483647 : Int32)) / ((2 : Int32) + (p3 &&& (7 : Int32)))) * ((2 : Int32) + (p3 &&& (7 : Int32))))), .val (.ref b7), .val (.int (1 : Int32))] [(.int (1 : Int32)), (.int ((2 : Int32) + (p3 &&& (7 : Int32)))), (.ref b7)])) _
    refine XS.isub X12.here hx rfl (hb hby at_178) rfl ?_
    show Steps p.tables e below (T12.setTop (mkF m 179 #[.val (.long q1), .second, .val (.long q2), .second, .val (.int p3), .val (.int p4), .val (.int p5), .val (.int (1 : Int32)), .val (.int ((2 : Int32) + (p3 &&& (7 : Int32)))), .val (.long ((((2 : Int32) + (p3 &&& (7 : Int32))).toInt64) + (q2 &&& (63 : Int64)))), .second, .val (.long (own_minL (q1 &&& (9223372036854775807 : Int64)) ((9223372036854775807 : Int64) - ((((2 : Int32) + (p3 &&& (7 : Int32))).toInt64) + (q2 &&& (63 : Int64)))))), .second, .val (.int ((p4 &&& (2147483647 : Int32)) - ((p4 &&& (2147483647 : Int32)) / ((2 : Int32) + (p3 &&& (7 : Int32)))) * ((2 : Int32) + (p3 &&& (7 : Int32))))), .val (.ref b7), .val (.int (1 : Int32))] [(.int (((2 : Int32) + (p3 &&& (7 : Int32))) - (1 : Int32))), (.ref b7)])) _
    refine st13.trans ?_
    show Steps p.tables e below (T13.setTop (mkF m 182 #[.val (.long q1), .second, .val (.long q2), .second, .val (.int p3), .val (.int p4), .val (.int p5), .val (.int (1 : Int32)), .val (.int ((2 : Int32) + (p3 &&& (7 : Int32)))), .val (.long ((((2 : Int32) + (p3 &&& (7 : Int32))).toInt64) + (q2 &&& (63 : Int64)))), .second, .val (.long (own_minL (q1 &&& (9223372036854775807 : Int64)) ((9223372036854775807 : Int64) - ((((2 : Int32) + (p3 &&& (7 : Int32))).toInt64) + (q2 &&& (63 : Int64)))))), .second, .val (.int ((p4 &&& (2147483647 : Int32)) - ((p4 &&& (2147483647 : Int32)) / ((2 : Int32) + (p3 &&& (7 : Int32)))) * ((2 : Int32) + (p3 &&& (7 : Int32))))), .val (.ref b7), .val (.int (1 : Int32))] [(.long (own_bs ((((2 : Int32) + (p3 &&& (7 : Int32))).toInt64) + (q2 &&& (63 : Int64))) ((2 : Int32) + (p3 &&& (7 : Int32))) (((2 : Int32) + (p3 &&& (7 : Int32))) - (1 : Int32))))])) _
    refine XS.lload X13.here hx rfl (hb hby at_182) rfl ?_
    show Steps p.tables e below (T13.setTop (mkF m 184 #[.val (.long q1), .second, .val (.long q2), .second, .val (.int p3), .val (.int p4), .val (.int p5), .val (.int (1 : Int32)), .val (.int ((2 : Int32) + (p3 &&& (7 : Int32)))), .val (.long ((((2 : Int32) + (p3 &&& (7 : Int32))).toInt64) + (q2 &&& (63 : Int64)))), .second, .val (.long (own_minL (q1 &&& (9223372036854775807 : Int64)) ((9223372036854775807 : Int64) - ((((2 : Int32) + (p3 &&& (7 : Int32))).toInt64) + (q2 &&& (63 : Int64)))))), .second, .val (.int ((p4 &&& (2147483647 : Int32)) - ((p4 &&& (2147483647 : Int32)) / ((2 : Int32) + (p3 &&& (7 : Int32)))) * ((2 : Int32) + (p3 &&& (7 : Int32))))), .val (.ref b7), .val (.int (1 : Int32))] [(.long ((((2 : Int32) + (p3 &&& (7 : Int32))).toInt64) + (q2 &&& (63 : Int64)))), (.long (own_bs ((((2 : Int32) + (p3 &&& (7 : Int32))).toInt64) + (q2 &&& (63 : Int64))) ((2 : Int32) + (p3 &&& (7 : Int32))) (((2 : Int32) + (p3 &&& (7 : Int32))) - (1 : Int32))))])) _
    refine XS.iload X13.here hx rfl (hb hby at_184) rfl ?_
    show Steps p.tables e below (T13.setTop (mkF m 186 #[.val (.long q1), .second, .val (.long q2), .second, .val (.int p3), .val (.int p4), .val (.int p5), .val (.int (1 : Int32)), .val (.int ((2 : Int32) + (p3 &&& (7 : Int32)))), .val (.long ((((2 : Int32) + (p3 &&& (7 : Int32))).toInt64) + (q2 &&& (63 : Int64)))), .second, .val (.long (own_minL (q1 &&& (9223372036854775807 : Int64)) ((9223372036854775807 : Int64) - ((((2 : Int32) + (p3 &&& (7 : Int32))).toInt64) + (q2 &&& (63 : Int64)))))), .second, .val (.int ((p4 &&& (2147483647 : Int32)) - ((p4 &&& (2147483647 : Int32)) / ((2 : Int32) + (p3 &&& (7 : Int32)))) * ((2 : Int32) + (p3 &&& (7 : Int32))))), .val (.ref b7), .val (.int (1 : Int32))] [(.int ((2 : Int32) + (p3 &&& (7 : Int32)))), (.long ((((2 : Int32) + (p3 &&& (7 : Int32))).toInt64) + (q2 &&& (63 : Int64)))), (.long (own_bs ((((2 : Int32) + (p3 &&& (7 : Int32))).toInt64) + (q2 &&& (63 : Int64))) ((2 : Int32) + (p3 &&& (7 : Int32))) (((2 : Int32) + (p3 &&& (7 : Int32))) - (1 : Int32))))])) _
    refine XS.iload X13.here hx rfl (hb hby at_186) rfl ?_
    show Steps p.tables e below (T13.setTop (mkF m 188 #[.val (.long q1), .second, .val (.long q2), .second, .val (.int p3), .val (.int p4), .val (.int p5), .val (.int (1 : Int32)), .val (.int ((2 : Int32) + (p3 &&& (7 : Int32)))), .val (.long ((((2 : Int32) + (p3 &&& (7 : Int32))).toInt64) + (q2 &&& (63 : Int64)))), .second, .val (.long (own_minL (q1 &&& (9223372036854775807 : Int64)) ((9223372036854775807 : Int64) - ((((2 : Int32) + (p3 &&& (7 : Int32))).toInt64) + (q2 &&& (63 : Int64)))))), .second, .val (.int ((p4 &&& (2147483647 : Int32)) - ((p4 &&& (2147483647 : Int32)) / ((2 : Int32) + (p3 &&& (7 : Int32)))) * ((2 : Int32) + (p3 &&& (7 : Int32))))), .val (.ref b7), .val (.int (1 : Int32))] [(.int ((2 : Int32) + (p3 &&& (7 : Int32)))), (.int ((2 : Int32) + (p3 &&& (7 : Int32)))), (.long ((((2 : Int32) + (p3 &&& (7 : Int32))).toInt64) + (q2 &&& (63 : Int64)))), (.long (own_bs ((((2 : Int32) + (p3 &&& (7 : Int32))).toInt64) + (q2 &&& (63 : Int64))) ((2 : Int32) + (p3 &&& (7 : Int32))) (((2 : Int32) + (p3 &&& (7 : Int32))) - (1 : Int32))))])) _
    refine XS.iconst X13.here hx rfl (hb hby at_188) ?_
    show Steps p.tables e below (T13.setTop (mkF m 189 #[.val (.long q1), .second, .val (.long q2), .second, .val (.int p3), .val (.int p4), .val (.int p5), .val (.int (1 : Int32)), .val (.int ((2 : Int32) + (p3 &&& (7 : Int32)))), .val (.long ((((2 : Int32) + (p3 &&& (7 : Int32))).toInt64) + (q2 &&& (63 : Int64)))), .second, .val (.long (own_minL (q1 &&& (9223372036854775807 : Int64)) ((9223372036854775807 : Int64) - ((((2 : Int32) + (p3 &&& (7 : Int32))).toInt64) + (q2 &&& (63 : Int64)))))), .second, .val (.int ((p4 &&& (2147483647 : Int32)) - ((p4 &&& (2147483647 : Int32)) / ((2 : Int32) + (p3 &&& (7 : Int32)))) * ((2 : Int32) + (p3 &&& (7 : Int32))))), .val (.ref b7), .val (.int (1 : Int32))] [(.int (1 : Int32)), (.int ((2 : Int32) + (p3 &&& (7 : Int32)))), (.int ((2 : Int32) + (p3 &&& (7 : Int32)))), (.long ((((2 : Int32) + (p3 &&& (7 : Int32))).toInt64) + (q2 &&& (63 : Int64)))), (.long (own_bs ((((2 : Int32) + (p3 &&& (7 : Int32))).toInt64) + (q2 &&& (63 : Int64))) ((2 : Int32) + (p3 &&& (7 : Int32))) (((2 : Int32) + (p3 &&& (7 : Int32))) - (1 : Int32))))])) _
    refine XS.isub X13.here hx rfl (hb hby at_189) rfl ?_
    show Steps p.tables e below (T13.setTop (mkF m 190 #[.val (.long q1), .second, .val (.long q2), .second, .val (.int p3), .val (.int p4), .val (.int p5), .val (.int (1 : Int32)), .val (.int ((2 : Int32) + (p3 &&& (7 : Int32)))), .val (.long ((((2 : Int32) + (p3 &&& (7 : Int32))).toInt64) + (q2 &&& (63 : Int64)))), .second, .val (.long (own_minL (q1 &&& (9223372036854775807 : Int64)) ((9223372036854775807 : Int64) - ((((2 : Int32) + (p3 &&& (7 : Int32))).toInt64) + (q2 &&& (63 : Int64)))))), .second, .val (.int ((p4 &&& (2147483647 : Int32)) - ((p4 &&& (2147483647 : Int32)) / ((2 : Int32) + (p3 &&& (7 : Int32)))) * ((2 : Int32) + (p3 &&& (7 : Int32))))), .val (.ref b7), .val (.int (1 : Int32))] [(.int (((2 : Int32) + (p3 &&& (7 : Int32))) - (1 : Int32))), (.int ((2 : Int32) + (p3 &&& (7 : Int32)))), (.long ((((2 : Int32) + (p3 &&& (7 : Int32))).toInt64) + (q2 &&& (63 : Int64)))), (.long (own_bs ((((2 : Int32) + (p3 &&& (7 : Int32))).toInt64) + (q2 &&& (63 : Int64))) ((2 : Int32) + (p3 &&& (7 : Int32))) (((2 : Int32) + (p3 &&& (7 : Int32))) - (1 : Int32))))])) _
    refine st14 _ ?_
    show Steps p.tables e below (T14.setTop (mkF m 193 #[.val (.long q1), .second, .val (.long q2), .second, .val (.int p3), .val (.int p4), .val (.int p5), .val (.int (1 : Int32)), .val (.int ((2 : Int32) + (p3 &&& (7 : Int32)))), .val (.long ((((2 : Int32) + (p3 &&& (7 : Int32))).toInt64) + (q2 &&& (63 : Int64)))), .second, .val (.long (own_minL (q1 &&& (9223372036854775807 : Int64)) ((9223372036854775807 : Int64) - ((((2 : Int32) + (p3 &&& (7 : Int32))).toInt64) + (q2 &&& (63 : Int64)))))), .second, .val (.int ((p4 &&& (2147483647 : Int32)) - ((p4 &&& (2147483647 : Int32)) / ((2 : Int32) + (p3 &&& (7 : Int32)))) * ((2 : Int32) + (p3 &&& (7 : Int32))))), .val (.ref b7), .val (.int (1 : Int32))] [(.long (own_exp ((((2 : Int32) + (p3 &&& (7 : Int32))).toInt64) + (q2 &&& (63 : Int64))) ((2 : Int32) + (p3 &&& (7 : Int32))) (((2 : Int32) + (p3 &&& (7 : Int32))) - (1 : Int32)))), (.long (own_bs ((((2 : Int32) + (p3 &&& (7 : Int32))).toInt64) + (q2 &&& (63 : Int64))) ((2 : Int32) + (p3 &&& (7 : Int32))) (((2 : Int32) + (p3 &&& (7 : Int32))) - (1 : Int32))))])) _
    refine XS.lcmp X14.here hx rfl (hb hby at_193) rfl ?_
    show Steps p.tables e below (T14.setTop (mkF m 194 #[.val (.long q1), .second, .val (.long q2), .second, .val (.int p3), .val (.int p4), .val (.int p5), .val (.int (1 : Int32)), .val (.int ((2 : Int32) + (p3 &&& (7 : Int32)))), .val (.long ((((2 : Int32) + (p3 &&& (7 : Int32))).toInt64) + (q2 &&& (63 : Int64)))), .second, .val (.long (own_minL (q1 &&& (9223372036854775807 : Int64)) ((9223372036854775807 : Int64) - ((((2 : Int32) + (p3 &&& (7 : Int32))).toInt64) + (q2 &&& (63 : Int64)))))), .second, .val (.int ((p4 &&& (2147483647 : Int32)) - ((p4 &&& (2147483647 : Int32)) / ((2 : Int32) + (p3 &&& (7 : Int32)))) * ((2 : Int32) + (p3 &&& (7 : Int32))))), .val (.ref b7), .val (.int (1 : Int32))] [(.int (lcmpW (own_bs ((((2 : Int32) + (p3 &&& (7 : Int32))).toInt64) + (q2 &&& (63 : Int64))) ((2 : Int32) + (p3 &&& (7 : Int32))) (((2 : Int32) + (p3 &&& (7 : Int32))) - (1 : Int32))) (own_exp ((((2 : Int32) + (p3 &&& (7 : Int32))).toInt64) + (q2 &&& (63 : Int64))) ((2 : Int32) + (p3 &&& (7 : Int32))) (((2 : Int32) + (p3 &&& (7 : Int32))) - (1 : Int32)))))])) _
    refine XS.ifNo X14.here hx rfl (hb hby at_194) rfl ((if0 _ _).trans (teq ((own_eq _ _ _ (own_nS p3).1 (own_cS _ q2 (own_nS p3).1 (own_nS p3).2) (own_b1 _ (own_nS p3).1).1 (own_b1 _ (own_nS p3).1).2) : (lcmpW (own_bs ((((2 : Int32) + (p3 &&& (7 : Int32))).toInt64) + (q2 &&& (63 : Int64))) ((2 : Int32) + (p3 &&& (7 : Int32))) (((2 : Int32) + (p3 &&& (7 : Int32))) - (1 : Int32))) (own_exp ((((2 : Int32) + (p3 &&& (7 : Int32))).toInt64) + (q2 &&& (63 : Int64))) ((2 : Int32) + (p3 &&& (7 : Int32))) (((2 : Int32) + (p3 &&& (7 : Int32))) - (1 : Int32)))) = (0 : Int32))).2) ?_
    show Steps p.tables e below (T14.setTop (mkF m 197 #[.val (.long q1), .second, .val (.long q2), .second, .val (.int p3), .val (.int p4), .val (.int p5), .val (.int (1 : Int32)), .val (.int ((2 : Int32) + (p3 &&& (7 : Int32)))), .val (.long ((((2 : Int32) + (p3 &&& (7 : Int32))).toInt64) + (q2 &&& (63 : Int64)))), .second, .val (.long (own_minL (q1 &&& (9223372036854775807 : Int64)) ((9223372036854775807 : Int64) - ((((2 : Int32) + (p3 &&& (7 : Int32))).toInt64) + (q2 &&& (63 : Int64)))))), .second, .val (.int ((p4 &&& (2147483647 : Int32)) - ((p4 &&& (2147483647 : Int32)) / ((2 : Int32) + (p3 &&& (7 : Int32)))) * ((2 : Int32) + (p3 &&& (7 : Int32))))), .val (.ref b7), .val (.int (1 : Int32))] [])) _
    refine XS.iconst X14.here hx rfl (hb hby at_197) ?_
    show Steps p.tables e below (T14.setTop (mkF m 198 #[.val (.long q1), .second, .val (.long q2), .second, .val (.int p3), .val (.int p4), .val (.int p5), .val (.int (1 : Int32)), .val (.int ((2 : Int32) + (p3 &&& (7 : Int32)))), .val (.long ((((2 : Int32) + (p3 &&& (7 : Int32))).toInt64) + (q2 &&& (63 : Int64)))), .second, .val (.long (own_minL (q1 &&& (9223372036854775807 : Int64)) ((9223372036854775807 : Int64) - ((((2 : Int32) + (p3 &&& (7 : Int32))).toInt64) + (q2 &&& (63 : Int64)))))), .second, .val (.int ((p4 &&& (2147483647 : Int32)) - ((p4 &&& (2147483647 : Int32)) / ((2 : Int32) + (p3 &&& (7 : Int32)))) * ((2 : Int32) + (p3 &&& (7 : Int32))))), .val (.ref b7), .val (.int (1 : Int32))] [(.int (1 : Int32))])) _
    refine XS.goto X14.here hx rfl (pc0 := 198) (pc' := 202) rfl (hb hby at_198) (by decide) (by decide) ?_
    show Steps p.tables e below (T14.setTop (mkF m 202 #[.val (.long q1), .second, .val (.long q2), .second, .val (.int p3), .val (.int p4), .val (.int p5), .val (.int (1 : Int32)), .val (.int ((2 : Int32) + (p3 &&& (7 : Int32)))), .val (.long ((((2 : Int32) + (p3 &&& (7 : Int32))).toInt64) + (q2 &&& (63 : Int64)))), .second, .val (.long (own_minL (q1 &&& (9223372036854775807 : Int64)) ((9223372036854775807 : Int64) - ((((2 : Int32) + (p3 &&& (7 : Int32))).toInt64) + (q2 &&& (63 : Int64)))))), .second, .val (.int ((p4 &&& (2147483647 : Int32)) - ((p4 &&& (2147483647 : Int32)) / ((2 : Int32) + (p3 &&& (7 : Int32)))) * ((2 : Int32) + (p3 &&& (7 : Int32))))), .val (.ref b7), .val (.int (1 : Int32))] [(.int (1 : Int32))])) _
    refine XS.istore X14.here hx rfl (hb hby at_202) rfl (l' := #[.val (.long q1), .second, .val (.long q2), .second, .val (.int p3), .val (.int p4), .val (.int p5), .val (.int (1 : Int32)), .val (.int ((2 : Int32) + (p3 &&& (7 : Int32)))), .val (.long ((((2 : Int32) + (p3 &&& (7 : Int32))).toInt64) + (q2 &&& (63 : Int64)))), .second, .val (.long (own_minL (q1 &&& (9223372036854775807 : Int64)) ((9223372036854775807 : Int64) - ((((2 : Int32) + (p3 &&& (7 : Int32))).toInt64) + (q2 &&& (63 : Int64)))))), .second, .val (.int ((p4 &&& (2147483647 : Int32)) - ((p4 &&& (2147483647 : Int32)) / ((2 : Int32) + (p3 &&& (7 : Int32)))) * ((2 : Int32) + (p3 &&& (7 : Int32))))), .val (.ref b7), .val (.int (1 : Int32))]) rfl ?_
    show Steps p.tables e below (T14.setTop (mkF m 204 #[.val (.long q1), .second, .val (.long q2), .second, .val (.int p3), .val (.int p4), .val (.int p5), .val (.int (1 : Int32)), .val (.int ((2 : Int32) + (p3 &&& (7 : Int32)))), .val (.long ((((2 : Int32) + (p3 &&& (7 : Int32))).toInt64) + (q2 &&& (63 : Int64)))), .second, .val (.long (own_minL (q1 &&& (9223372036854775807 : Int64)) ((9223372036854775807 : Int64) - ((((2 : Int32) + (p3 &&& (7 : Int32))).toInt64) + (q2 &&& (63 : Int64)))))), .second, .val (.int ((p4 &&& (2147483647 : Int32)) - ((p4 &&& (2147483647 : Int32)) / ((2 : Int32) + (p3 &&& (7 : Int32)))) * ((2 : Int32) + (p3 &&& (7 : Int32))))), .val (.ref b7), .val (.int (1 : Int32))] [])) _
    refine XS.iload X14.here hx rfl (hb hby at_204) rfl ?_
    show Steps p.tables e below (T14.setTop (mkF m 206 #[.val (.long q1), .second, .val (.long q2), .second, .val (.int p3), .val (.int p4), .val (.int p5), .val (.int (1 : Int32)), .val (.int ((2 : Int32) + (p3 &&& (7 : Int32)))), .val (.long ((((2 : Int32) + (p3 &&& (7 : Int32))).toInt64) + (q2 &&& (63 : Int64)))), .second, .val (.long (own_minL (q1 &&& (9223372036854775807 : Int64)) ((9223372036854775807 : Int64) - ((((2 : Int32) + (p3 &&& (7 : Int32))).toInt64) + (q2 &&& (63 : Int64)))))), .second, .val (.int ((p4 &&& (2147483647 : Int32)) - ((p4 &&& (2147483647 : Int32)) / ((2 : Int32) + (p3 &&& (7 : Int32)))) * ((2 : Int32) + (p3 &&& (7 : Int32))))), .val (.ref b7), .val (.int (1 : Int32))] [(.int (1 : Int32))])) _
    exact retN X14 hx (t := .boolean) Bd.returns (by simp) (hb hby at_206) hr
  · show Q0 Z q1 q2 p3 p4 p5 h0 n0 _ T14.heap _
    exact ⟨rfl, N14⟩
theorem pd_0_0 : parseMethodDescriptor "(II)I" = some ⟨[.int, .int], some .int⟩ := by decide +kernel
set_option maxRecDepth 65536 in
set_option maxHeartbeats 40000000 in
theorem rm0G (l : Launch) (Z : State) (a0 : Array Value) (hw : ∀ d ∈ tables_1, d.before a0 Z = true) (ws : List Jvm.Cond) (q1 : Int64) (q2 : Int64) (p3 : Int32) (p4 : Int32) (p5 : Int32) (h0 : Heap) (n0 : Nat) (Z0 : n0 ≤ h0.size) (hc4 : (p5 &&& (1 : Int32)) = (0 : Int32)) (hnz93 : ¬ ((own_maxI (2 : Int32) (p3 &&& (2147483647 : Int32))) = (0 : Int32))) (hc140 : ¬ ((1 : Int32) = (0 : Int32))) (hc170 : ¬ ((1 : Int32) = (0 : Int32))) :
    MetFree l x (head1 (Jvm.Cond.code x code maxLocals ret :: ws) room_1) (fun a U => a = #[(.long q1), (.long q2), (.int p3), (.int p4), (.int p5)] ∧ Z.Warmed39 U.vm ∧ U.heap = h0) (fun _ _ _ _ _ => True) (fun _ U o U' => ∃ v L, o = .returned v ∧ Q0 Z q1 q2 p3 p4 p5 h0 n0 v U'.heap L ∧ FrameEnd U o U' L room_1.cells room_1.slots) := by
  refine MetFree.of_bodySF (plainFor_of_name pn_0) hisR ?_
  intro p e s m args below meth c s₁ Bd hml0 hP hK
  obtain ⟨rfl, hZ, hh⟩ := hP
  have hx := Bd.exec
  have hby := Bd.bytes
  have hml : c.maxLocals = 16 := hml0
  have hown : s.vm.findClass "com/example/lambdagate/lambdagate/RunLengthBatchSizePinLaw" = some m.cls := findClass_of_methodNamed Bd.named
  have hnm := (name_of_methodNamed Bd.named Bd.method).1
  have X0 : Stand p l e room_1 s m #[(.long q1), (.long q2), (.int p3), (.int p4), (.int p5)] below meth c s₁ [] 0 0 := Stand.of_body Bd
  have e0 : s₁.heap = h0 := by rw [← hh, Bd.state]; rfl
  have N0 := Fr.nil n0
  have pre0 : ∀ t, Steps p.tables e below (s₁.setTop (mkF m 0 #[.val (.long q1), .second, .val (.long q2), .second, .val (.int p3), .val (.int p4), .val (.int p5), .unset, .unset, .unset, .unset, .unset, .unset, .unset, .unset, .unset] [])) t → Steps p.tables e below (s₁.setTop (entryFrame m #[(.long q1), (.long q2), (.int p3), (.int p4), (.int p5)] maxLocals)) t := fun t k => castTop (ef_0 m q1 q2 p3 p4 p5) k
  obtain ⟨_, _, ⟨T6, L6, k6, n6⟩, -, X6, ⟨Lc6, hQ6, l6, y6, z6⟩, st6⟩ := Jvm.LawKit.callS X0 hx (y := (⟨"java/lang/Math", "max", "(II)I"⟩ : MethodName)) hown (mvT hZ (hw _ (List.mem_of_getElem? (i := 1) rfl))) (mvT hZ (hw _ (List.mem_of_getElem? (i := 2) rfl))) (mvT hZ (hw _ (List.mem_of_getElem? (i := 3) rfl))) (mvT hZ (hw _ (List.mem_of_getElem? (i := 4) rfl))) (by decide) (backOf (W := 0) (rm1 l Z a0 hw [] (2 : Int32) (p3 &&& (2147483647 : Int32)) h0 n0 Z0) hZ (hw _ (List.mem_of_getElem? (i := 4) rfl)) (hw _ (List.mem_of_getElem? (i := 3) rfl)) (by decide) (by decide)) (g := (mkF m 35 #[.val (.long q1), .second, .val (.long q2), .second, .val (.int p3), .val (.int p4), .val (.int p5), .val (.int (0 : Int32)), .unset, .unset, .unset, .unset, .unset, .unset, .unset, .unset] [(.int (p3 &&& (2147483647 : Int32))), (.int (2 : Int32))])) rfl (by rw [hml]; rfl) (argsL := [(.int (2 : Int32)), (.int (p3 &&& (2147483647 : Int32)))]) (rest := []) (lenOf pd_0_0 rfl) rfl (by show 2 * 0 + _ ≤ _; exact Nat.le_of_eq rfl) (hb hby at_35) (fun _ _ => ⟨rfl, e0, (by decide : 0 + 0 ≤ _), (by decide : 0 + 0 ≤ _)⟩)
  dsimp only [Pt.U, Pt.locs, Pt.cells, Pt.slots] at X6 l6 y6 z6 st6 hQ6
  subst l6 y6 z6
  obtain ⟨rfl, N6q, e6q⟩ := hQ6
  have N6 := Fr.app N0 N6q
  have K6 : Keep h0 T6.heap [] := by rw [e6q]; exact Keep.refl h0 []
  have Z6 : n0 ≤ T6.heap.size := Nat.le_trans Z0 K6.1
  obtain ⟨_, _, ⟨T7, L7, k7, n7⟩, -, X7, ⟨Lc7, hQ7, l7, y7, z7⟩, st7⟩ := Jvm.LawKit.callS X6 hx (y := (⟨"java/lang/Math", "max", "(JJ)J"⟩ : MethodName)) hown (mvT hZ (hw _ (List.mem_of_getElem? (i := 6) rfl))) (mvT hZ (hw _ (List.mem_of_getElem? (i := 7) rfl))) (mvT hZ (hw _ (List.mem_of_getElem? (i := 3) rfl))) (mvT hZ (hw _ (List.mem_of_getElem? (i := 8) rfl))) (by decide) (backOf (W := 0) (rm2 l Z a0 hw [] ((own_maxI (2 : Int32) (p3 &&& (2147483647 : Int32))).toInt64) (q2 &&& (9223372036854775807 : Int64)) T6.heap n0 Z6) hZ (hw _ (List.mem_of_getElem? (i := 8) rfl)) (hw _ (List.mem_of_getElem? (i := 3) rfl)) (by decide) (by decide)) (g := (mkF m 65 #[.val (.long q1), .second, .val (.long q2), .second, .val (.int p3), .val (.int p4), .val (.int p5), .val (.int (0 : Int32)), .val (.int (own_maxI (2 : Int32) (p3 &&& (2147483647 : Int32)))), .unset, .unset, .unset, .unset, .unset, .unset, .unset] [(.long (q2 &&& (9223372036854775807 : Int64))), (.long ((own_maxI (2 : Int32) (p3 &&& (2147483647 : Int32))).toInt64))])) rfl (by rw [hml]; rfl) (argsL := [(.long ((own_maxI (2 : Int32) (p3 &&& (2147483647 : Int32))).toInt64)), (.long (q2 &&& (9223372036854775807 : Int64)))]) (rest := []) (lenOf pd_0_1 rfl) rfl (by show 2 * 0 + _ ≤ _; exact Nat.le_of_eq rfl) (hb hby at_65) (fun _ _ => ⟨rfl, rfl, (by decide : 0 + 0 ≤ _), (by decide : 0 + 0 ≤ _)⟩)
  dsimp only [Pt.U, Pt.locs, Pt.cells, Pt.slots] at X7 l7 y7 z7 st7 hQ7
  subst l7 y7 z7
  obtain ⟨rfl, N7q, e7q⟩ := hQ7
  have N7 := Fr.app N6 N7q
  have K7 : Keep T6.heap T7.heap [] := by rw [e7q]; exact Keep.refl T6.heap []
  have Z7 : n0 ≤ T7.heap.size := Nat.le_trans Z6 K7.1
  obtain ⟨_, _, ⟨T8, L8, k8, n8⟩, -, X8, ⟨Lc8, hQ8, l8, y8, z8⟩, st8⟩ := Jvm.LawKit.callS X7 hx (y := (⟨"java/lang/Math", "min", "(JJ)J"⟩ : MethodName)) hown (mvT hZ (hw _ (List.mem_of_getElem? (i := 9) rfl))) (mvT hZ (hw _ (List.mem_of_getElem? (i := 10) rfl))) (mvT hZ (hw _ (List.mem_of_getElem? (i := 3) rfl))) (mvT hZ (hw _ (List.mem_of_getElem? (i := 11) rfl))) (by decide) (backOf (W := 0) (rm3 l Z a0 hw [] (q1 &&& (9223372036854775807 : Int64)) ((9223372036854775807 : Int64) - (own_maxL ((own_maxI (2 : Int32) (p3 &&& (2147483647 : Int32))).toInt64) (q2 &&& (9223372036854775807 : Int64)))) T7.heap n0 Z7) hZ (hw _ (List.mem_of_getElem? (i := 11) rfl)) (hw _ (List.mem_of_getElem? (i := 3) rfl)) (by decide) (by decide)) (g := (mkF m 81 #[.val (.long q1), .second, .val (.long q2), .second, .val (.int p3), .val (.int p4), .val (.int p5), .val (.int (0 : Int32)), .val (.int (own_maxI (2 : Int32) (p3 &&& (2147483647 : Int32)))), .val (.long (own_maxL ((own_maxI (2 : Int32) (p3 &&& (2147483647 : Int32))).toInt64) (q2 &&& (9223372036854775807 : Int64)))), .second, .unset, .unset, .unset, .unset, .unset] [(.long ((9223372036854775807 : Int64) - (own_maxL ((own_maxI (2 : Int32) (p3 &&& (2147483647 : Int32))).toInt64) (q2 &&& (9223372036854775807 : Int64))))), (.long (q1 &&& (9223372036854775807 : Int64)))])) rfl (by rw [hml]; rfl) (argsL := [(.long (q1 &&& (9223372036854775807 : Int64))), (.long ((9223372036854775807 : Int64) - (own_maxL ((own_maxI (2 : Int32) (p3 &&& (2147483647 : Int32))).toInt64) (q2 &&& (9223372036854775807 : Int64)))))]) (rest := []) (lenOf pd_0_1 rfl) rfl (by show 2 * 0 + _ ≤ _; exact Nat.le_of_eq rfl) (hb hby at_81) (fun _ _ => ⟨rfl, rfl, (by decide : 0 + 0 ≤ _), (by decide : 0 + 0 ≤ _)⟩)
  dsimp only [Pt.U, Pt.locs, Pt.cells, Pt.slots] at X8 l8 y8 z8 st8 hQ8
  subst l8 y8 z8
  obtain ⟨rfl, N8q, e8q⟩ := hQ8
  have N8 := Fr.app N7 N8q
  have K8 : Keep T7.heap T8.heap [] := by rw [e8q]; exact Keep.refl T7.heap []
  have Z8 : n0 ≤ T8.heap.size := Nat.le_trans Z7 K8.1
  obtain ⟨T9, h9, X9, e9, E9, A9, D9, -, st9⟩ := newO X8 hx hZ hown (hw _ (List.mem_of_getElem? (i := 12) rfl)) (hw _ (List.mem_of_getElem? (i := 13) rfl)) (hw _ (List.mem_of_getElem? (i := 14) rfl)) rfl (g := (mkF m 96 #[.val (.long q1), .second, .val (.long q2), .second, .val (.int p3), .val (.int p4), .val (.int p5), .val (.int (0 : Int32)), .val (.int (own_maxI (2 : Int32) (p3 &&& (2147483647 : Int32)))), .val (.long (own_maxL ((own_maxI (2 : Int32) (p3 &&& (2147483647 : Int32))).toInt64) (q2 &&& (9223372036854775807 : Int64)))), .second, .val (.long (own_minL (q1 &&& (9223372036854775807 : Int64)) ((9223372036854775807 : Int64) - (own_maxL ((own_maxI (2 : Int32) (p3 &&& (2147483647 : Int32))).toInt64) (q2 &&& (9223372036854775807 : Int64)))))), .second, .val (.int ((p4 &&& (2147483647 : Int32)) - ((p4 &&& (2147483647 : Int32)) / (own_maxI (2 : Int32) (p3 &&& (2147483647 : Int32)))) * (own_maxI (2 : Int32) (p3 &&& (2147483647 : Int32))))), .unset, .unset] [])) rfl (hb hby at_96) (by decide) (by decide)
  obtain ⟨b9, g9⟩ : ∃ z, z = T8.heap.size := ⟨_, rfl⟩
  rw [← g9] at A9 D9 st9
  have F_warmup_b9 : Fld Z h9 b9 "com/example/lambdagate/lambdagate/RunLength" "warmup" "J" (.long (0 : Int64)) := D9 (Or.inr (hw _ (List.mem_of_getElem? (i := 28) rfl))) (ty := .long) (by decide)
  have F_calls_b9 : Fld Z h9 b9 "com/example/lambdagate/lambdagate/RunLength" "calls" "J" (.long (0 : Int64)) := D9 (Or.inr (hw _ (List.mem_of_getElem? (i := 30) rfl))) (ty := .long) (by decide)
  have F_batches_b9 : Fld Z h9 b9 "com/example/lambdagate/lambdagate/RunLength" "batches" "I" (.int (0 : Int32)) := D9 (Or.inr (hw _ (List.mem_of_getElem? (i := 32) rfl))) (ty := .int) (by decide)
  have E_b9 := A9
  have g_b9 : n0 ≤ b9 := Nat.le_trans (Nat.le_trans (Nat.le_trans (Nat.le_trans Z0 K6.1) K7.1) K8.1) (Nat.le_of_eq g9.symm)
  obtain ⟨_, _, ⟨T10, L10, k10, n10⟩, -, X10, ⟨Lc10, hQ10, l10, y10, z10⟩, st10⟩ := X9.specialBack hx (y := (⟨"com/example/lambdagate/lambdagate/RunLength", "<init>", "(JJI)V"⟩ : MethodName)) rfl hown (mvT hZ (hw _ (List.mem_of_getElem? (i := 15) rfl))) (mvT hZ (hw _ (List.mem_of_getElem? (i := 16) rfl))) (mvT hZ (hw _ (List.mem_of_getElem? (i := 17) rfl))) (by decide) (backOf (W := 1) (rm4 l Z a0 hw [] b9 (own_minL (q1 &&& (9223372036854775807 : Int64)) ((9223372036854775807 : Int64) - (own_maxL ((own_maxI (2 : Int32) (p3 &&& (2147483647 : Int32))).toInt64) (q2 &&& (9223372036854775807 : Int64))))) (own_maxL ((own_maxI (2 : Int32) (p3 &&& (2147483647 : Int32))).toInt64) (q2 &&& (9223372036854775807 : Int64))) (own_maxI (2 : Int32) (p3 &&& (2147483647 : Int32))) (.long (0 : Int64)) (.long (0 : Int64)) (.int (0 : Int32)) h9 n0 (Nat.le_trans Z8 E9.1) A9 F_warmup_b9 g_b9 F_calls_b9 F_batches_b9 (own_w0 _ q1 (by have h1 := (own_cG _ q2 (own_nG p3)); have h2 := (own_nG p3); omega)) (own_n2 _ (own_nG p3)) (own_cn _ _ (own_cG _ q2 (own_nG p3))) (own_w1 _ q1)) hZ (hw _ (List.mem_of_getElem? (i := 17) rfl)) (hw _ (List.mem_of_getElem? (i := 14) rfl)) (by decide) (by decide)) (g := (mkF m 106 #[.val (.long q1), .second, .val (.long q2), .second, .val (.int p3), .val (.int p4), .val (.int p5), .val (.int (0 : Int32)), .val (.int (own_maxI (2 : Int32) (p3 &&& (2147483647 : Int32)))), .val (.long (own_maxL ((own_maxI (2 : Int32) (p3 &&& (2147483647 : Int32))).toInt64) (q2 &&& (9223372036854775807 : Int64)))), .second, .val (.long (own_minL (q1 &&& (9223372036854775807 : Int64)) ((9223372036854775807 : Int64) - (own_maxL ((own_maxI (2 : Int32) (p3 &&& (2147483647 : Int32))).toInt64) (q2 &&& (9223372036854775807 : Int64)))))), .second, .val (.int ((p4 &&& (2147483647 : Int32)) - ((p4 &&& (2147483647 : Int32)) / (own_maxI (2 : Int32) (p3 &&& (2147483647 : Int32)))) * (own_maxI (2 : Int32) (p3 &&& (2147483647 : Int32))))), .unset, .unset] [(.int (own_maxI (2 : Int32) (p3 &&& (2147483647 : Int32)))), (.long (own_maxL ((own_maxI (2 : Int32) (p3 &&& (2147483647 : Int32))).toInt64) (q2 &&& (9223372036854775807 : Int64)))), (.long (own_minL (q1 &&& (9223372036854775807 : Int64)) ((9223372036854775807 : Int64) - (own_maxL ((own_maxI (2 : Int32) (p3 &&& (2147483647 : Int32))).toInt64) (q2 &&& (9223372036854775807 : Int64)))))), (.ref b9), (.ref b9)])) rfl (by rw [hml]; rfl) (Steps.refl _) (a := b9) (argsL := [(.long (own_minL (q1 &&& (9223372036854775807 : Int64)) ((9223372036854775807 : Int64) - (own_maxL ((own_maxI (2 : Int32) (p3 &&& (2147483647 : Int32))).toInt64) (q2 &&& (9223372036854775807 : Int64)))))), (.long (own_maxL ((own_maxI (2 : Int32) (p3 &&& (2147483647 : Int32))).toInt64) (q2 &&& (9223372036854775807 : Int64)))), (.int (own_maxI (2 : Int32) (p3 &&& (2147483647 : Int32))))]) (rest := [(.ref b9)]) (lenOf pd_0_2 rfl) rfl (by show 2 * 0 + _ ≤ _; exact Nat.le_of_eq rfl) (hb hby at_106) (fun _ _ => ⟨rfl, e9, (by decide : 1 + 0 ≤ _), (by decide : 3 + 0 ≤ _)⟩)
  dsimp only [Pt.U, Pt.locs, Pt.cells, Pt.slots] at X10 l10 y10 z10 st10 hQ10
  subst l10 y10 z10
  obtain ⟨rfl, N10q, K10, Ex10, Fc10, Fb10⟩ := hQ10
  have N10 := Fr.app N8 N10q
  have Z10 : n0 ≤ T10.heap.size := Nat.le_trans (Nat.le_trans Z8 E9.1) K10.1
  obtain ⟨cq11, kq11, q11a, q11b, q11c⟩ := isOf hZ rfl (E_b9.keep K10)
  obtain ⟨_, _, ⟨T11, L11, k11, n11⟩, -, X11, ⟨Lc11, hQ11, l11, y11, z11⟩, st11⟩ := X10.virtualBack hx (y := (⟨"com/example/lambdagate/lambdagate/RunLength", "batchSize", "(I)J"⟩ : MethodName)) (z := (⟨"com/example/lambdagate/lambdagate/RunLength", "batchSize", "(I)J"⟩ : MethodName)) hown (mvT hZ (hw _ (List.mem_of_getElem? (i := 33) rfl))) (mvT hZ (hw _ (List.mem_of_getElem? (i := 34) rfl))) (notFace_of_selects (args := #[]) (mvT hZ (hw _ (List.mem_of_getElem? (i := 36) rfl)))) (mvT hZ (hw _ (List.mem_of_getElem? (i := 36) rfl))) (mvT hZ (hw _ (List.mem_of_getElem? (i := 35) rfl))) (by decide) (backOf (W := 0) (rm7 l Z a0 hw [] b9 ((p4 &&& (2147483647 : Int32)) - ((p4 &&& (2147483647 : Int32)) / (own_maxI (2 : Int32) (p3 &&& (2147483647 : Int32)))) * (own_maxI (2 : Int32) (p3 &&& (2147483647 : Int32)))) (own_maxL ((own_maxI (2 : Int32) (p3 &&& (2147483647 : Int32))).toInt64) (q2 &&& (9223372036854775807 : Int64))) (own_maxI (2 : Int32) (p3 &&& (2147483647 : Int32))) T10.heap n0 Z10 Fc10 Fb10 (own_nzL _ (own_nG p3)) (own_nzL _ (own_nG p3))) hZ (hw _ (List.mem_of_getElem? (i := 37) rfl)) (hw _ (List.mem_of_getElem? (i := 14) rfl)) (by decide) (by decide)) q11a q11c (g := (mkF m 115 #[.val (.long q1), .second, .val (.long q2), .second, .val (.int p3), .val (.int p4), .val (.int p5), .val (.int (0 : Int32)), .val (.int (own_maxI (2 : Int32) (p3 &&& (2147483647 : Int32)))), .val (.long (own_maxL ((own_maxI (2 : Int32) (p3 &&& (2147483647 : Int32))).toInt64) (q2 &&& (9223372036854775807 : Int64)))), .second, .val (.long (own_minL (q1 &&& (9223372036854775807 : Int64)) ((9223372036854775807 : Int64) - (own_maxL ((own_maxI (2 : Int32) (p3 &&& (2147483647 : Int32))).toInt64) (q2 &&& (9223372036854775807 : Int64)))))), .second, .val (.int ((p4 &&& (2147483647 : Int32)) - ((p4 &&& (2147483647 : Int32)) / (own_maxI (2 : Int32) (p3 &&& (2147483647 : Int32)))) * (own_maxI (2 : Int32) (p3 &&& (2147483647 : Int32))))), .val (.ref b9), .unset] [(.int ((p4 &&& (2147483647 : Int32)) - ((p4 &&& (2147483647 : Int32)) / (own_maxI (2 : Int32) (p3 &&& (2147483647 : Int32)))) * (own_maxI (2 : Int32) (p3 &&& (2147483647 : Int32))))), (.ref b9)])) rfl (by rw [hml]; rfl) (Steps.refl _) (argsL := [(.int ((p4 &&& (2147483647 : Int32)) - ((p4 &&& (2147483647 : Int32)) / (own_maxI (2 : Int32) (p3 &&& (2147483647 : Int32)))) * (own_maxI (2 : Int32) (p3 &&& (2147483647 : Int32)))))]) (rest := []) (lenOf pd_0_4 rfl) rfl (by show 2 * 0 + _ ≤ _; exact Nat.le_of_eq rfl) (hb hby at_115) (fun _ _ => ⟨rfl, rfl, (by decide : 1 + 0 ≤ _), (by decide : 3 + 0 ≤ _)⟩)
  dsimp only [Pt.U, Pt.locs, Pt.cells, Pt.slots] at X11 l11 y11 z11 st11 hQ11
  subst l11 y11 z11
  obtain ⟨rfl, N11q, e11q⟩ := hQ11
  have N11 := Fr.app N10 N11q
  have K11 : Keep T10.heap T11.heap [] := by rw [e11q]; exact Keep.refl T10.heap []
  have Z11 : n0 ≤ T11.heap.size := Nat.le_trans Z10 K11.1
  obtain ⟨_, _, ⟨T12, L12, k12, n12⟩, -, X12, ⟨Lc12, hQ12, l12, y12, z12⟩, st12⟩ := Jvm.LawKit.callS X11 hx (y := (⟨"com/example/lambdagate/lambdagate/RunLengthBatchSizePinLaw", "expected", "(JII)J"⟩ : MethodName)) hown (mvT hZ (hw _ (List.mem_of_getElem? (i := 38) rfl))) (mvT hZ (hw _ (List.mem_of_getElem? (i := 39) rfl))) (mvT hZ (hw _ (List.mem_of_getElem? (i := 40) rfl))) (mvT hZ (hw _ (List.mem_of_getElem? (i := 41) rfl))) (by decide) (backOf (W := 2) (rm8 l Z a0 hw [] (own_maxL ((own_maxI (2 : Int32) (p3 &&& (2147483647 : Int32))).toInt64) (q2 &&& (9223372036854775807 : Int64))) (own_maxI (2 : Int32) (p3 &&& (2147483647 : Int32))) ((p4 &&& (2147483647 : Int32)) - ((p4 &&& (2147483647 : Int32)) / (own_maxI (2 : Int32) (p3 &&& (2147483647 : Int32)))) * (own_maxI (2 : Int32) (p3 &&& (2147483647 : Int32)))) T11.heap n0 Z11 (own_nzL _ (own_nG p3))) hZ (hw _ (List.mem_of_getElem? (i := 41) rfl)) (hw _ (List.mem_of_getElem? (i := 40) rfl)) (by decide) (by decide)) (g := (mkF m 124 #[.val (.long q1), .second, .val (.long q2), .second, .val (.int p3), .val (.int p4), .val (.int p5), .val (.int (0 : Int32)), .val (.int (own_maxI (2 : Int32) (p3 &&& (2147483647 : Int32)))), .val (.long (own_maxL ((own_maxI (2 : Int32) (p3 &&& (2147483647 : Int32))).toInt64) (q2 &&& (9223372036854775807 : Int64)))), .second, .val (.long (own_minL (q1 &&& (9223372036854775807 : Int64)) ((9223372036854775807 : Int64) - (own_maxL ((own_maxI (2 : Int32) (p3 &&& (2147483647 : Int32))).toInt64) (q2 &&& (9223372036854775807 : Int64)))))), .second, .val (.int ((p4 &&& (2147483647 : Int32)) - ((p4 &&& (2147483647 : Int32)) / (own_maxI (2 : Int32) (p3 &&& (2147483647 : Int32)))) * (own_maxI (2 : Int32) (p3 &&& (2147483647 : Int32))))), .val (.ref b9), .unset] [(.int ((p4 &&& (2147483647 : Int32)) - ((p4 &&& (2147483647 : Int32)) / (own_maxI (2 : Int32) (p3 &&& (2147483647 : Int32)))) * (own_maxI (2 : Int32) (p3 &&& (2147483647 : Int32))))), (.int (own_maxI (2 : Int32) (p3 &&& (2147483647 : Int32)))), (.long (own_maxL ((own_maxI (2 : Int32) (p3 &&& (2147483647 : Int32))).toInt64) (q2 &&& (9223372036854775807 : Int64)))), (.long (own_bs (own_maxL ((own_maxI (2 : Int32) (p3 &&& (2147483647 : Int32))).toInt64) (q2 &&& (9223372036854775807 : Int64))) (own_maxI (2 : Int32) (p3 &&& (2147483647 : Int32))) ((p4 &&& (2147483647 : Int32)) - ((p4 &&& (2147483647 : Int32)) / (own_maxI (2 : Int32) (p3 &&& (2147483647 : Int32)))) * (own_maxI (2 : Int32) (p3 &&& (2147483647 : Int32))))))])) rfl (by rw [hml]; rfl) (argsL := [(.long (own_maxL ((own_maxI (2 : Int32) (p3 &&& (2147483647 : Int32))).toInt64) (q2 &&& (9223372036854775807 : Int64)))), (.int (own_maxI (2 : Int32) (p3 &&& (2147483647 : Int32)))), (.int ((p4 &&& (2147483647 : Int32)) - ((p4 &&& (2147483647 : Int32)) / (own_maxI (2 : Int32) (p3 &&& (2147483647 : Int32)))) * (own_maxI (2 : Int32) (p3 &&& (2147483647 : Int32)))))]) (rest := [(.long (own_bs (own_maxL ((own_maxI (2 : Int32) (p3 &&& (2147483647 : Int32))).toInt64) (q2 &&& (9223372036854775807 : Int64))) (own_maxI (2 : Int32) (p3 &&& (2147483647 : Int32))) ((p4 &&& (2147483647 : Int32)) - ((p4 &&& (2147483647 : Int32)) / (own_maxI (2 : Int32) (p3 &&& (2147483647 : Int32)))) * (own_maxI (2 : Int32) (p3 &&& (2147483647 : Int32))))))]) (lenOf pd_0_5 rfl) rfl (by show 2 * 0 + _ ≤ _; exact Nat.le_of_eq rfl) (hb hby at_124) (fun _ _ => ⟨rfl, rfl, (by decide : 1 + 0 ≤ _), (by decide : 3 + 0 ≤ _)⟩)
  dsimp only [Pt.U, Pt.locs, Pt.cells, Pt.slots] at X12 l12 y12 z12 st12 hQ12
  subst l12 y12 z12
  obtain ⟨rfl, N12q, e12q⟩ := hQ12
  have N12 := Fr.app N11 N12q
  have K12 : Keep T11.heap T12.heap [] := by rw [e12q]; exact Keep.refl T11.heap []
  have Z12 : n0 ≤ T12.heap.size := Nat.le_trans Z11 K12.1
  obtain ⟨cq13, kq13, q13a, q13b, q13c⟩ := isOf hZ rfl (((E_b9.keep K10).keep K11).keep K12)
  obtain ⟨_, _, ⟨T13, L13, k13, n13⟩, -, X13, ⟨Lc13, hQ13, l13, y13, z13⟩, st13⟩ := X12.virtualBack hx (y := (⟨"com/example/lambdagate/lambdagate/RunLength", "batchSize", "(I)J"⟩ : MethodName)) (z := (⟨"com/example/lambdagate/lambdagate/RunLength", "batchSize", "(I)J"⟩ : MethodName)) hown (mvT hZ (hw _ (List.mem_of_getElem? (i := 33) rfl))) (mvT hZ (hw _ (List.mem_of_getElem? (i := 34) rfl))) (notFace_of_selects (args := #[]) (mvT hZ (hw _ (List.mem_of_getElem? (i := 36) rfl)))) (mvT hZ (hw _ (List.mem_of_getElem? (i := 36) rfl))) (mvT hZ (hw _ (List.mem_of_getElem? (i := 35) rfl))) (by decide) (backOf (W := 0) (rm7 l Z a0 hw [] b9 (0 : Int32) (own_maxL ((own_maxI (2 : Int32) (p3 &&& (2147483647 : Int32))).toInt64) (q2 &&& (9223372036854775807 : Int64))) (own_maxI (2 : Int32) (p3 &&& (2147483647 : Int32))) T12.heap n0 Z12 ((Fc10.keep K11 (fun q => nomatch q)).keep K12 (fun q => nomatch q)) ((Fb10.keep K11 (fun q => nomatch q)).keep K12 (fun q => nomatch q)) (own_nzL _ (own_nG p3)) (own_nzL _ (own_nG p3))) hZ (hw _ (List.mem_of_getElem? (i := 37) rfl)) (hw _ (List.mem_of_getElem? (i := 14) rfl)) (by decide) (by decide)) q13a q13c (g := (mkF m 146 #[.val (.long q1), .second, .val (.long q2), .second, .val (.int p3), .val (.int p4), .val (.int p5), .val (.int (0 : Int32)), .val (.int (own_maxI (2 : Int32) (p3 &&& (2147483647 : Int32)))), .val (.long (own_maxL ((own_maxI (2 : Int32) (p3 &&& (2147483647 : Int32))).toInt64) (q2 &&& (9223372036854775807 : Int64)))), .second, .val (.long (own_minL (q1 &&& (9223372036854775807 : Int64)) ((9223372036854775807 : Int64) - (own_maxL ((own_maxI (2 : Int32) (p3 &&& (2147483647 : Int32))).toInt64) (q2 &&& (9223372036854775807 : Int64)))))), .second, .val (.int ((p4 &&& (2147483647 : Int32)) - ((p4 &&& (2147483647 : Int32)) / (own_maxI (2 : Int32) (p3 &&& (2147483647 : Int32)))) * (own_maxI (2 : Int32) (p3 &&& (2147483647 : Int32))))), .val (.ref b9), .val (.int (1 : Int32))] [(.int (0 : Int32)), (.ref b9)])) rfl (by rw [hml]; rfl) (Steps.refl _) (argsL := [(.int (0 : Int32))]) (rest := []) (lenOf pd_0_4 rfl) rfl (by show 2 * 0 + _ ≤ _; exact Nat.le_of_eq rfl) (hb hby at_146) (fun _ _ => ⟨rfl, rfl, (by decide : 1 + 0 ≤ _), (by decide : 3 + 0 ≤ _)⟩)
  dsimp only [Pt.U, Pt.locs, Pt.cells, Pt.slots] at X13 l13 y13 z13 st13 hQ13
  subst l13 y13 z13
  obtain ⟨rfl, N13q, e13q⟩ := hQ13
  have N13 := Fr.app N12 N13q
  have K13 : Keep T12.heap T13.heap [] := by rw [e13q]; exact Keep.refl T12.heap []
  have Z13 : n0 ≤ T13.heap.size := Nat.le_trans Z12 K13.1
  obtain ⟨_, _, ⟨T14, L14, k14, n14⟩, -, X14, ⟨Lc14, hQ14, l14, y14, z14⟩, st14⟩ := Jvm.LawKit.callS X13 hx (y := (⟨"com/example/lambdagate/lambdagate/RunLengthBatchSizePinLaw", "expected", "(JII)J"⟩ : MethodName)) hown (mvT hZ (hw _ (List.mem_of_getElem? (i := 38) rfl))) (mvT hZ (hw _ (List.mem_of_getElem? (i := 39) rfl))) (mvT hZ (hw _ (List.mem_of_getElem? (i := 40) rfl))) (mvT hZ (hw _ (List.mem_of_getElem? (i := 41) rfl))) (by decide) (backOf (W := 2) (rm8 l Z a0 hw [] (own_maxL ((own_maxI (2 : Int32) (p3 &&& (2147483647 : Int32))).toInt64) (q2 &&& (9223372036854775807 : Int64))) (own_maxI (2 : Int32) (p3 &&& (2147483647 : Int32))) (0 : Int32) T13.heap n0 Z13 (own_nzL _ (own_nG p3))) hZ (hw _ (List.mem_of_getElem? (i := 41) rfl)) (hw _ (List.mem_of_getElem? (i := 40) rfl)) (by decide) (by decide)) (g := (mkF m 154 #[.val (.long q1), .second, .val (.long q2), .second, .val (.int p3), .val (.int p4), .val (.int p5), .val (.int (0 : Int32)), .val (.int (own_maxI (2 : Int32) (p3 &&& (2147483647 : Int32)))), .val (.long (own_maxL ((own_maxI (2 : Int32) (p3 &&& (2147483647 : Int32))).toInt64) (q2 &&& (9223372036854775807 : Int64)))), .second, .val (.long (own_minL (q1 &&& (9223372036854775807 : Int64)) ((9223372036854775807 : Int64) - (own_maxL ((own_maxI (2 : Int32) (p3 &&& (2147483647 : Int32))).toInt64) (q2 &&& (9223372036854775807 : Int64)))))), .second, .val (.int ((p4 &&& (2147483647 : Int32)) - ((p4 &&& (2147483647 : Int32)) / (own_maxI (2 : Int32) (p3 &&& (2147483647 : Int32)))) * (own_maxI (2 : Int32) (p3 &&& (2147483647 : Int32))))), .val (.ref b9), .val (.int (1 : Int32))] [(.int (0 : Int32)), (.int (own_maxI (2 : Int32) (p3 &&& (2147483647 : Int32)))), (.long (own_maxL ((own_maxI (2 : Int32) (p3 &&& (2147483647 : Int32))).toInt64) (q2 &&& (9223372036854775807 : Int64)))), (.long (own_bs (own_maxL ((own_maxI (2 : Int32) (p3 &&& (2147483647 : Int32))).toInt64) (q2 &&& (9223372036854775807 : Int64))) (own_maxI (2 : Int32) (p3 &&& (2147483647 : Int32))) (0 : Int32)))])) rfl (by rw [hml]; rfl) (argsL := [(.long (own_maxL ((own_maxI (2 : Int32) (p3 &&& (2147483647 : Int32))).toInt64) (q2 &&& (9223372036854775807 : Int64)))), (.int (own_maxI (2 : Int32) (p3 &&& (2147483647 : Int32)))), (.int (0 : Int32))]) (rest := [(.long (own_bs (own_maxL ((own_maxI (2 : Int32) (p3 &&& (2147483647 : Int32))).toInt64) (q2 &&& (9223372036854775807 : Int64))) (own_maxI (2 : Int32) (p3 &&& (2147483647 : Int32))) (0 : Int32)))]) (lenOf pd_0_5 rfl) rfl (by show 2 * 0 + _ ≤ _; exact Nat.le_of_eq rfl) (hb hby at_154) (fun _ _ => ⟨rfl, rfl, (by decide : 1 + 0 ≤ _), (by decide : 3 + 0 ≤ _)⟩)
  dsimp only [Pt.U, Pt.locs, Pt.cells, Pt.slots] at X14 l14 y14 z14 st14 hQ14
  subst l14 y14 z14
  obtain ⟨rfl, N14q, e14q⟩ := hQ14
  have N14 := Fr.app N13 N14q
  have K14 : Keep T13.heap T14.heap [] := by rw [e14q]; exact Keep.refl T13.heap []
  have Z14 : n0 ≤ T14.heap.size := Nat.le_trans Z13 K14.1
  obtain ⟨cq15, kq15, q15a, q15b, q15c⟩ := isOf hZ rfl (((((E_b9.keep K10).keep K11).keep K12).keep K13).keep K14)
  obtain ⟨_, _, ⟨T15, L15, k15, n15⟩, -, X15, ⟨Lc15, hQ15, l15, y15, z15⟩, st15⟩ := X14.virtualBack hx (y := (⟨"com/example/lambdagate/lambdagate/RunLength", "batchSize", "(I)J"⟩ : MethodName)) (z := (⟨"com/example/lambdagate/lambdagate/RunLength", "batchSize", "(I)J"⟩ : MethodName)) hown (mvT hZ (hw _ (List.mem_of_getElem? (i := 33) rfl))) (mvT hZ (hw _ (List.mem_of_getElem? (i := 34) rfl))) (notFace_of_selects (args := #[]) (mvT hZ (hw _ (List.mem_of_getElem? (i := 36) rfl)))) (mvT hZ (hw _ (List.mem_of_getElem? (i := 36) rfl))) (mvT hZ (hw _ (List.mem_of_getElem? (i := 35) rfl))) (by decide) (backOf (W := 0) (rm7 l Z a0 hw [] b9 ((own_maxI (2 : Int32) (p3 &&& (2147483647 : Int32))) - (1 : Int32)) (own_maxL ((own_maxI (2 : Int32) (p3 &&& (2147483647 : Int32))).toInt64) (q2 &&& (9223372036854775807 : Int64))) (own_maxI (2 : Int32) (p3 &&& (2147483647 : Int32))) T14.heap n0 Z14 ((((Fc10.keep K11 (fun q => nomatch q)).keep K12 (fun q => nomatch q)).keep K13 (fun q => nomatch q)).keep K14 (fun q => nomatch q)) ((((Fb10.keep K11 (fun q => nomatch q)).keep K12 (fun q => nomatch q)).keep K13 (fun q => nomatch q)).keep K14 (fun q => nomatch q)) (own_nzL _ (own_nG p3)) (own_nzL _ (own_nG p3))) hZ (hw _ (List.mem_of_getElem? (i := 37) rfl)) (hw _ (List.mem_of_getElem? (i := 14) rfl)) (by decide) (by decide)) q15a q15c (g := (mkF m 179 #[.val (.long q1), .second, .val (.long q2), .second, .val (.int p3), .val (.int p4), .val (.int p5), .val (.int (0 : Int32)), .val (.int (own_maxI (2 : Int32) (p3 &&& (2147483647 : Int32)))), .val (.long (own_maxL ((own_maxI (2 : Int32) (p3 &&& (2147483647 : Int32))).toInt64) (q2 &&& (9223372036854775807 : Int64)))), .second, .val (.long (own_minL (q1 &&& (9223372036854775807 : Int64)) ((9223372036854775807 : Int64) - (own_maxL ((own_maxI (2 : Int32) (p3 &&& (2147483647 : Int32))).toInt64) (q2 &&& (9223372036854775807 : Int64)))))), .second, .val (.int ((p4 &&& (2147483647 : Int32)) - ((p4 &&& (2147483647 : Int32)) / (own_maxI (2 : Int32) (p3 &&& (2147483647 : Int32)))) * (own_maxI (2 : Int32) (p3 &&& (2147483647 : Int32))))), .val (.ref b9), .val (.int (1 : Int32))] [(.int ((own_maxI (2 : Int32) (p3 &&& (2147483647 : Int32))) - (1 : Int32))), (.ref b9)])) rfl (by rw [hml]; rfl) (Steps.refl _) (argsL := [(.int ((own_maxI (2 : Int32) (p3 &&& (2147483647 : Int32))) - (1 : Int32)))]) (rest := []) (lenOf pd_0_4 rfl) rfl (by show 2 * 0 + _ ≤ _; exact Nat.le_of_eq rfl) (hb hby at_179) (fun _ _ => ⟨rfl, rfl, (by decide : 1 + 0 ≤ _), (by decide : 3 + 0 ≤ _)⟩)
  dsimp only [Pt.U, Pt.locs, Pt.cells, Pt.slots] at X15 l15 y15 z15 st15 hQ15
  subst l15 y15 z15
  obtain ⟨rfl, N15q, e15q⟩ := hQ15
  have N15 := Fr.app N14 N15q
  have K15 : Keep T14.heap T15.heap [] := by rw [e15q]; exact Keep.refl T14.heap []
  have Z15 : n0 ≤ T15.heap.size := Nat.le_trans Z14 K15.1
  obtain ⟨_, _, ⟨T16, L16, k16, n16⟩, -, X16, ⟨Lc16, hQ16, l16, y16, z16⟩, st16⟩ := Jvm.LawKit.callS X15 hx (y := (⟨"com/example/lambdagate/lambdagate/RunLengthBatchSizePinLaw", "expected", "(JII)J"⟩ : MethodName)) hown (mvT hZ (hw _ (List.mem_of_getElem? (i := 38) rfl))) (mvT hZ (hw _ (List.mem_of_getElem? (i := 39) rfl))) (mvT hZ (hw _ (List.mem_of_getElem? (i := 40) rfl))) (mvT hZ (hw _ (List.mem_of_getElem? (i := 41) rfl))) (by decide) (backOf (W := 2) (rm8 l Z a0 hw [] (own_maxL ((own_maxI (2 : Int32) (p3 &&& (2147483647 : Int32))).toInt64) (q2 &&& (9223372036854775807 : Int64))) (own_maxI (2 : Int32) (p3 &&& (2147483647 : Int32))) ((own_maxI (2 : Int32) (p3 &&& (2147483647 : Int32))) - (1 : Int32)) T15.heap n0 Z15 (own_nzL _ (own_nG p3))) hZ (hw _ (List.mem_of_getElem? (i := 41) rfl)) (hw _ (List.mem_of_getElem? (i := 40) rfl)) (by decide) (by decide)) (g := (mkF m 190 #[.val (.long q1), .second, .val (.long q2), .second, .val (.int p3), .val (.int p4), .val (.int p5), .val (.int (0 : Int32)), .val (.int (own_maxI (2 : Int32) (p3 &&& (2147483647 : Int32)))), .val (.long (own_maxL ((own_maxI (2 : Int32) (p3 &&& (2147483647 : Int32))).toInt64) (q2 &&& (9223372036854775807 : Int64)))), .second, .val (.long (own_minL (q1 &&& (9223372036854775807 : Int64)) ((9223372036854775807 : Int64) - (own_maxL ((own_maxI (2 : Int32) (p3 &&& (2147483647 : Int32))).toInt64) (q2 &&& (9223372036854775807 : Int64)))))), .second, .val (.int ((p4 &&& (2147483647 : Int32)) - ((p4 &&& (2147483647 : Int32)) / (own_maxI (2 : Int32) (p3 &&& (2147483647 : Int32)))) * (own_maxI (2 : Int32) (p3 &&& (2147483647 : Int32))))), .val (.ref b9), .val (.int (1 : Int32))] [(.int ((own_maxI (2 : Int32) (p3 &&& (2147483647 : Int32))) - (1 : Int32))), (.int (own_maxI (2 : Int32) (p3 &&& (2147483647 : Int32)))), (.long (own_maxL ((own_maxI (2 : Int32) (p3 &&& (2147483647 : Int32))).toInt64) (q2 &&& (9223372036854775807 : Int64)))), (.long (own_bs (own_maxL ((own_maxI (2 : Int32) (p3 &&& (2147483647 : Int32))).toInt64) (q2 &&& (9223372036854775807 : Int64))) (own_maxI (2 : Int32) (p3 &&& (2147483647 : Int32))) ((own_maxI (2 : Int32) (p3 &&& (2147483647 : Int32))) - (1 : Int32))))])) rfl (by rw [hml]; rfl) (argsL := [(.long (own_maxL ((own_maxI (2 : Int32) (p3 &&& (2147483647 : Int32))).toInt64) (q2 &&& (9223372036854775807 : Int64)))), (.int (own_maxI (2 : Int32) (p3 &&& (2147483647 : Int32)))), (.int ((own_maxI (2 : Int32) (p3 &&& (2147483647 : Int32))) - (1 : Int32)))]) (rest := [(.long (own_bs (own_maxL ((own_maxI (2 : Int32) (p3 &&& (2147483647 : Int32))).toInt64) (q2 &&& (9223372036854775807 : Int64))) (own_maxI (2 : Int32) (p3 &&& (2147483647 : Int32))) ((own_maxI (2 : Int32) (p3 &&& (2147483647 : Int32))) - (1 : Int32))))]) (lenOf pd_0_5 rfl) rfl (by show 2 * 0 + _ ≤ _; exact Nat.le_of_eq rfl) (hb hby at_190) (fun _ _ => ⟨rfl, rfl, (by decide : 1 + 0 ≤ _), (by decide : 3 + 0 ≤ _)⟩)
  dsimp only [Pt.U, Pt.locs, Pt.cells, Pt.slots] at X16 l16 y16 z16 st16 hQ16
  subst l16 y16 z16
  obtain ⟨rfl, N16q, e16q⟩ := hQ16
  have N16 := Fr.app N15 N16q
  have K16 : Keep T15.heap T16.heap [] := by rw [e16q]; exact Keep.refl T15.heap []
  have Z16 : n0 ≤ T16.heap.size := Nat.le_trans Z15 K16.1
  obtain ⟨fs, hr, hrun, hended, hW, hsame⟩ := X16.leave (v := some (.int (1 : Int32))) (fun h => by rw [Bd.returns] at h; cases h)
  refine ⟨_, _, pre0 _ ?_, hrun, hended, _, _, rfl, ?_, ⟨_, rfl⟩, hW, hsame.mono (by decide) (by decide)⟩
  · show Steps p.tables e below (s₁.setTop (mkF m 0 #[.val (.long q1), .second, .val (.long q2), .second, .val (.int p3), .val (.int p4), .val (.int p5), .unset, .unset, .unset, .unset, .unset, .unset, .unset, .unset, .unset] [])) _
    refine XS.iload X0.here hx rfl (hb hby at_0) rfl ?_
    show Steps p.tables e below (s₁.setTop (mkF m 2 #[.val (.long q1), .second, .val (.long q2), .second, .val (.int p3), .val (.int p4), .val (.int p5), .unset, .unset, .unset, .unset, .unset, .unset, .unset, .unset, .unset] [(.int p5)])) _
    refine XS.iconst X0.here hx rfl (hb hby at_2) ?_
    show Steps p.tables e below (s₁.setTop (mkF m 3 #[.val (.long q1), .second, .val (.long q2), .second, .val (.int p3), .val (.int p4), .val (.int p5), .unset, .unset, .unset, .unset, .unset, .unset, .unset, .unset, .unset] [(.int (1 : Int32)), (.int p5)])) _
    refine XS.iand X0.here hx rfl (hb hby at_3) rfl ?_
    show Steps p.tables e below (s₁.setTop (mkF m 4 #[.val (.long q1), .second, .val (.long q2), .second, .val (.int p3), .val (.int p4), .val (.int p5), .unset, .unset, .unset, .unset, .unset, .unset, .unset, .unset, .unset] [(.int (p5 &&& (1 : Int32)))])) _
    refine XS.ifYes X0.here hx rfl (pc0 := 4) (pc' := 11) rfl (hb hby at_4) rfl ((if0 _ _).trans (teq hc4).1) (by decide) (by decide) ?_
    show Steps p.tables e below (s₁.setTop (mkF m 11 #[.val (.long q1), .second, .val (.long q2), .second, .val (.int p3), .val (.int p4), .val (.int p5), .unset, .unset, .unset, .unset, .unset, .unset, .unset, .unset, .unset] [])) _
    refine XS.iconst X0.here hx rfl (hb hby at_11) ?_
    show Steps p.tables e below (s₁.setTop (mkF m 12 #[.val (.long q1), .second, .val (.long q2), .second, .val (.int p3), .val (.int p4), .val (.int p5), .unset, .unset, .unset, .unset, .unset, .unset, .unset, .unset, .unset] [(.int (0 : Int32))])) _
    refine XS.istore X0.here hx rfl (hb hby at_12) rfl (l' := #[.val (.long q1), .second, .val (.long q2), .second, .val (.int p3), .val (.int p4), .val (.int p5), .val (.int (0 : Int32)), .unset, .unset, .unset, .unset, .unset, .unset, .unset, .unset]) rfl ?_
    show Steps p.tables e below (s₁.setTop (mkF m 14 #[.val (.long q1), .second, .val (.long q2), .second, .val (.int p3), .val (.int p4), .val (.int p5), .val (.int (0 : Int32)), .unset, .unset, .unset, .unset, .unset, .unset, .unset, .unset] [])) _
    refine XS.iload X0.here hx rfl (hb hby at_14) rfl ?_
    show Steps p.tables e below (s₁.setTop (mkF m 16 #[.val (.long q1), .second, .val (.long q2), .second, .val (.int p3), .val (.int p4), .val (.int p5), .val (.int (0 : Int32)), .unset, .unset, .unset, .unset, .unset, .unset, .unset, .unset] [(.int (0 : Int32))])) _
    refine XS.ifYes X0.here hx rfl (pc0 := 16) (pc' := 29) rfl (hb hby at_16) rfl ((if0 _ _).trans (teq (rfl : (0 : Int32) = (0 : Int32))).1) (by decide) (by decide) ?_
    show Steps p.tables e below (s₁.setTop (mkF m 29 #[.val (.long q1), .second, .val (.long q2), .second, .val (.int p3), .val (.int p4), .val (.int p5), .val (.int (0 : Int32)), .unset, .unset, .unset, .unset, .unset, .unset, .unset, .unset] [])) _
    refine XS.iconst X0.here hx rfl (hb hby at_29) ?_
    show Steps p.tables e below (s₁.setTop (mkF m 30 #[.val (.long q1), .second, .val (.long q2), .second, .val (.int p3), .val (.int p4), .val (.int p5), .val (.int (0 : Int32)), .unset, .unset, .unset, .unset, .unset, .unset, .unset, .unset] [(.int (2 : Int32))])) _
    refine XS.iload X0.here hx rfl (hb hby at_30) rfl ?_
    show Steps p.tables e below (s₁.setTop (mkF m 32 #[.val (.long q1), .second, .val (.long q2), .second, .val (.int p3), .val (.int p4), .val (.int p5), .val (.int (0 : Int32)), .unset, .unset, .unset, .unset, .unset, .unset, .unset, .unset] [(.int p3), (.int (2 : Int32))])) _
    refine X0.ldcInt hx hown (mvT hZ (hw _ (List.mem_of_getElem? (i := 0) rfl))) (g := (mkF m 32 #[.val (.long q1), .second, .val (.long q2), .second, .val (.int p3), .val (.int p4), .val (.int p5), .val (.int (0 : Int32)), .unset, .unset, .unset, .unset, .unset, .unset, .unset, .unset] [(.int p3), (.int (2 : Int32))])) rfl (hb hby at_32) _ ?_
    show Steps p.tables e below (s₁.setTop (mkF m 34 #[.val (.long q1), .second, .val (.long q2), .second, .val (.int p3), .val (.int p4), .val (.int p5), .val (.int (0 : Int32)), .unset, .unset, .unset, .unset, .unset, .unset, .unset, .unset] [(.int (2147483647 : Int32)), (.int p3), (.int (2 : Int32))])) _
    refine XS.iand X0.here hx rfl (hb hby at_34) rfl ?_
    show Steps p.tables e below (s₁.setTop (mkF m 35 #[.val (.long q1), .second, .val (.long q2), .second, .val (.int p3), .val (.int p4), .val (.int p5), .val (.int (0 : Int32)), .unset, .unset, .unset, .unset, .unset, .unset, .unset, .unset] [(.int (p3 &&& (2147483647 : Int32))), (.int (2 : Int32))])) _
    refine st6 _ ?_
    show Steps p.tables e below (T6.setTop (mkF m 38 #[.val (.long q1), .second, .val (.long q2), .second, .val (.int p3), .val (.int p4), .val (.int p5), .val (.int (0 : Int32)), .unset, .unset, .unset, .unset, .unset, .unset, .unset, .unset] [(.int (own_maxI (2 : Int32) (p3 &&& (2147483647 : Int32))))])) _
    refine XS.istore X6.here hx rfl (hb hby at_38) rfl (l' := #[.val (.long q1), .second, .val (.long q2), .second, .val (.int p3), .val (.int p4), .val (.int p5), .val (.int (0 : Int32)), .val (.int (own_maxI (2 : Int32) (p3 &&& (2147483647 : Int32)))), .unset, .unset, .unset, .unset, .unset, .unset, .unset]) rfl ?_
    show Steps p.tables e below (T6.setTop (mkF m 40 #[.val (.long q1), .second, .val (.long q2), .second, .val (.int p3), .val (.int p4), .val (.int p5), .val (.int (0 : Int32)), .val (.int (own_maxI (2 : Int32) (p3 &&& (2147483647 : Int32)))), .unset, .unset, .unset, .unset, .unset, .unset, .unset] [])) _
    refine XS.iload X6.here hx rfl (hb hby at_40) rfl ?_
    show Steps p.tables e below (T6.setTop (mkF m 42 #[.val (.long q1), .second, .val (.long q2), .second, .val (.int p3), .val (.int p4), .val (.int p5), .val (.int (0 : Int32)), .val (.int (own_maxI (2 : Int32) (p3 &&& (2147483647 : Int32)))), .unset, .unset, .unset, .unset, .unset, .unset, .unset] [(.int (0 : Int32))])) _
    refine XS.ifYes X6.here hx rfl (pc0 := 42) (pc' := 57) rfl (hb hby at_42) rfl ((if0 _ _).trans (teq (rfl : (0 : Int32) = (0 : Int32))).1) (by decide) (by decide) ?_
    show Steps p.tables e below (T6.setTop (mkF m 57 #[.val (.long q1), .second, .val (.long q2), .second, .val (.int p3), .val (.int p4), .val (.int p5), .val (.int (0 : Int32)), .val (.int (own_maxI (2 : Int32) (p3 &&& (2147483647 : Int32)))), .unset, .unset, .unset, .unset, .unset, .unset, .unset] [])) _
    refine XS.iload X6.here hx rfl (hb hby at_57) rfl ?_
    show Steps p.tables e below (T6.setTop (mkF m 59 #[.val (.long q1), .second, .val (.long q2), .second, .val (.int p3), .val (.int p4), .val (.int p5), .val (.int (0 : Int32)), .val (.int (own_maxI (2 : Int32) (p3 &&& (2147483647 : Int32)))), .unset, .unset, .unset, .unset, .unset, .unset, .unset] [(.int (own_maxI (2 : Int32) (p3 &&& (2147483647 : Int32))))])) _
    refine XS.i2l X6.here hx rfl (hb hby at_59) rfl ?_
    show Steps p.tables e below (T6.setTop (mkF m 60 #[.val (.long q1), .second, .val (.long q2), .second, .val (.int p3), .val (.int p4), .val (.int p5), .val (.int (0 : Int32)), .val (.int (own_maxI (2 : Int32) (p3 &&& (2147483647 : Int32)))), .unset, .unset, .unset, .unset, .unset, .unset, .unset] [(.long ((own_maxI (2 : Int32) (p3 &&& (2147483647 : Int32))).toInt64))])) _
    refine XS.lloadN X6.here hx rfl (hb hby at_60) rfl ?_
    show Steps p.tables e below (T6.setTop (mkF m 61 #[.val (.long q1), .second, .val (.long q2), .second, .val (.int p3), .val (.int p4), .val (.int p5), .val (.int (0 : Int32)), .val (.int (own_maxI (2 : Int32) (p3 &&& (2147483647 : Int32)))), .unset, .unset, .unset, .unset, .unset, .unset, .unset] [(.long q2), (.long ((own_maxI (2 : Int32) (p3 &&& (2147483647 : Int32))).toInt64))])) _
    refine X6.ldc2Long hx hown (mvT hZ (hw _ (List.mem_of_getElem? (i := 5) rfl))) (g := (mkF m 61 #[.val (.long q1), .second, .val (.long q2), .second, .val (.int p3), .val (.int p4), .val (.int p5), .val (.int (0 : Int32)), .val (.int (own_maxI (2 : Int32) (p3 &&& (2147483647 : Int32)))), .unset, .unset, .unset, .unset, .unset, .unset, .unset] [(.long q2), (.long ((own_maxI (2 : Int32) (p3 &&& (2147483647 : Int32))).toInt64))])) rfl (hb hby at_61) _ ?_
    show Steps p.tables e below (T6.setTop (mkF m 64 #[.val (.long q1), .second, .val (.long q2), .second, .val (.int p3), .val (.int p4), .val (.int p5), .val (.int (0 : Int32)), .val (.int (own_maxI (2 : Int32) (p3 &&& (2147483647 : Int32)))), .unset, .unset, .unset, .unset, .unset, .unset, .unset] [(.long (9223372036854775807 : Int64)), (.long q2), (.long ((own_maxI (2 : Int32) (p3 &&& (2147483647 : Int32))).toInt64))])) _
    refine XS.land X6.here hx rfl (hb hby at_64) rfl ?_
    show Steps p.tables e below (T6.setTop (mkF m 65 #[.val (.long q1), .second, .val (.long q2), .second, .val (.int p3), .val (.int p4), .val (.int p5), .val (.int (0 : Int32)), .val (.int (own_maxI (2 : Int32) (p3 &&& (2147483647 : Int32)))), .unset, .unset, .unset, .unset, .unset, .unset, .unset] [(.long (q2 &&& (9223372036854775807 : Int64))), (.long ((own_maxI (2 : Int32) (p3 &&& (2147483647 : Int32))).toInt64))])) _
    refine st7 _ ?_
    show Steps p.tables e below (T7.setTop (mkF m 68 #[.val (.long q1), .second, .val (.long q2), .second, .val (.int p3), .val (.int p4), .val (.int p5), .val (.int (0 : Int32)), .val (.int (own_maxI (2 : Int32) (p3 &&& (2147483647 : Int32)))), .unset, .unset, .unset, .unset, .unset, .unset, .unset] [(.long (own_maxL ((own_maxI (2 : Int32) (p3 &&& (2147483647 : Int32))).toInt64) (q2 &&& (9223372036854775807 : Int64))))])) _
    refine XS.lstore X7.here hx rfl (hb hby at_68) rfl (l' := #[.val (.long q1), .second, .val (.long q2), .second, .val (.int p3), .val (.int p4), .val (.int p5), .val (.int (0 : Int32)), .val (.int (own_maxI (2 : Int32) (p3 &&& (2147483647 : Int32)))), .val (.long (own_maxL ((own_maxI (2 : Int32) (p3 &&& (2147483647 : Int32))).toInt64) (q2 &&& (9223372036854775807 : Int64)))), .second, .unset, .unset, .unset, .unset, .unset]) rfl ?_
    show Steps p.tables e below (T7.setTop (mkF m 70 #[.val (.long q1), .second, .val (.long q2), .second, .val (.int p3), .val (.int p4), .val (.int p5), .val (.int (0 : Int32)), .val (.int (own_maxI (2 : Int32) (p3 &&& (2147483647 : Int32)))), .val (.long (own_maxL ((own_maxI (2 : Int32) (p3 &&& (2147483647 : Int32))).toInt64) (q2 &&& (9223372036854775807 : Int64)))), .second, .unset, .unset, .unset, .unset, .unset] [])) _
    refine XS.lloadN X7.here hx rfl (hb hby at_70) rfl ?_
    show Steps p.tables e below (T7.setTop (mkF m 71 #[.val (.long q1), .second, .val (.long q2), .second, .val (.int p3), .val (.int p4), .val (.int p5), .val (.int (0 : Int32)), .val (.int (own_maxI (2 : Int32) (p3 &&& (2147483647 : Int32)))), .val (.long (own_maxL ((own_maxI (2 : Int32) (p3 &&& (2147483647 : Int32))).toInt64) (q2 &&& (9223372036854775807 : Int64)))), .second, .unset, .unset, .unset, .unset, .unset] [(.long q1)])) _
    refine X7.ldc2Long hx hown (mvT hZ (hw _ (List.mem_of_getElem? (i := 5) rfl))) (g := (mkF m 71 #[.val (.long q1), .second, .val (.long q2), .second, .val (.int p3), .val (.int p4), .val (.int p5), .val (.int (0 : Int32)), .val (.int (own_maxI (2 : Int32) (p3 &&& (2147483647 : Int32)))), .val (.long (own_maxL ((own_maxI (2 : Int32) (p3 &&& (2147483647 : Int32))).toInt64) (q2 &&& (9223372036854775807 : Int64)))), .second, .unset, .unset, .unset, .unset, .unset] [(.long q1)])) rfl (hb hby at_71) _ ?_
    show Steps p.tables e below (T7.setTop (mkF m 74 #[.val (.long q1), .second, .val (.long q2), .second, .val (.int p3), .val (.int p4), .val (.int p5), .val (.int (0 : Int32)), .val (.int (own_maxI (2 : Int32) (p3 &&& (2147483647 : Int32)))), .val (.long (own_maxL ((own_maxI (2 : Int32) (p3 &&& (2147483647 : Int32))).toInt64) (q2 &&& (9223372036854775807 : Int64)))), .second, .unset, .unset, .unset, .unset, .unset] [(.long (9223372036854775807 : Int64)), (.long q1)])) _
    refine XS.land X7.here hx rfl (hb hby at_74) rfl ?_
    show Steps p.tables e below (T7.setTop (mkF m 75 #[.val (.long q1), .second, .val (.long q2), .second, .val (.int p3), .val (.int p4), .val (.int p5), .val (.int (0 : Int32)), .val (.int (own_maxI (2 : Int32) (p3 &&& (2147483647 : Int32)))), .val (.long (own_maxL ((own_maxI (2 : Int32) (p3 &&& (2147483647 : Int32))).toInt64) (q2 &&& (9223372036854775807 : Int64)))), .second, .unset, .unset, .unset, .unset, .unset] [(.long (q1 &&& (9223372036854775807 : Int64)))])) _
    refine X7.ldc2Long hx hown (mvT hZ (hw _ (List.mem_of_getElem? (i := 5) rfl))) (g := (mkF m 75 #[.val (.long q1), .second, .val (.long q2), .second, .val (.int p3), .val (.int p4), .val (.int p5), .val (.int (0 : Int32)), .val (.int (own_maxI (2 : Int32) (p3 &&& (2147483647 : Int32)))), .val (.long (own_maxL ((own_maxI (2 : Int32) (p3 &&& (2147483647 : Int32))).toInt64) (q2 &&& (9223372036854775807 : Int64)))), .second, .unset, .unset, .unset, .unset, .unset] [(.long (q1 &&& (9223372036854775807 : Int64)))])) rfl (hb hby at_75) _ ?_
    show Steps p.tables e below (T7.setTop (mkF m 78 #[.val (.long q1), .second, .val (.long q2), .second, .val (.int p3), .val (.int p4), .val (.int p5), .val (.int (0 : Int32)), .val (.int (own_maxI (2 : Int32) (p3 &&& (2147483647 : Int32)))), .val (.long (own_maxL ((own_maxI (2 : Int32) (p3 &&& (2147483647 : Int32))).toInt64) (q2 &&& (9223372036854775807 : Int64)))), .second, .unset, .unset, .unset, .unset, .unset] [(.long (9223372036854775807 : Int64)), (.long (q1 &&& (9223372036854775807 : Int64)))])) _
    refine XS.lload X7.here hx rfl (hb hby at_78) rfl ?_
    show Steps p.tables e below (T7.setTop (mkF m 80 #[.val (.long q1), .second, .val (.long q2), .second, .val (.int p3), .val (.int p4), .val (.int p5), .val (.int (0 : Int32)), .val (.int (own_maxI (2 : Int32) (p3 &&& (2147483647 : Int32)))), .val (.long (own_maxL ((own_maxI (2 : Int32) (p3 &&& (2147483647 : Int32))).toInt64) (q2 &&& (9223372036854775807 : Int64)))), .second, .unset, .unset, .unset, .unset, .unset] [(.long (own_maxL ((own_maxI (2 : Int32) (p3 &&& (2147483647 : Int32))).toInt64) (q2 &&& (9223372036854775807 : Int64)))), (.long (9223372036854775807 : Int64)), (.long (q1 &&& (9223372036854775807 : Int64)))])) _
    refine XS.lsub X7.here hx rfl (hb hby at_80) rfl ?_
    show Steps p.tables e below (T7.setTop (mkF m 81 #[.val (.long q1), .second, .val (.long q2), .second, .val (.int p3), .val (.int p4), .val (.int p5), .val (.int (0 : Int32)), .val (.int (own_maxI (2 : Int32) (p3 &&& (2147483647 : Int32)))), .val (.long (own_maxL ((own_maxI (2 : Int32) (p3 &&& (2147483647 : Int32))).toInt64) (q2 &&& (9223372036854775807 : Int64)))), .second, .unset, .unset, .unset, .unset, .unset] [(.long ((9223372036854775807 : Int64) - (own_maxL ((own_maxI (2 : Int32) (p3 &&& (2147483647 : Int32))).toInt64) (q2 &&& (9223372036854775807 : Int64))))), (.long (q1 &&& (9223372036854775807 : Int64)))])) _
    refine st8 _ ?_
    show Steps p.tables e below (T8.setTop (mkF m 84 #[.val (.long q1), .second, .val (.long q2), .second, .val (.int p3), .val (.int p4), .val (.int p5), .val (.int (0 : Int32)), .val (.int (own_maxI (2 : Int32) (p3 &&& (2147483647 : Int32)))), .val (.long (own_maxL ((own_maxI (2 : Int32) (p3 &&& (2147483647 : Int32))).toInt64) (q2 &&& (9223372036854775807 : Int64)))), .second, .unset, .unset, .unset, .unset, .unset] [(.long (own_minL (q1 &&& (9223372036854775807 : Int64)) ((9223372036854775807 : Int64) - (own_maxL ((own_maxI (2 : Int32) (p3 &&& (2147483647 : Int32))).toInt64) (q2 &&& (9223372036854775807 : Int64))))))])) _
    refine XS.lstore X8.here hx rfl (hb hby at_84) rfl (l' := #[.val (.long q1), .second, .val (.long q2), .second, .val (.int p3), .val (.int p4), .val (.int p5), .val (.int (0 : Int32)), .val (.int (own_maxI (2 : Int32) (p3 &&& (2147483647 : Int32)))), .val (.long (own_maxL ((own_maxI (2 : Int32) (p3 &&& (2147483647 : Int32))).toInt64) (q2 &&& (9223372036854775807 : Int64)))), .second, .val (.long (own_minL (q1 &&& (9223372036854775807 : Int64)) ((9223372036854775807 : Int64) - (own_maxL ((own_maxI (2 : Int32) (p3 &&& (2147483647 : Int32))).toInt64) (q2 &&& (9223372036854775807 : Int64)))))), .second, .unset, .unset, .unset]) rfl ?_
    show Steps p.tables e below (T8.setTop (mkF m 86 #[.val (.long q1), .second, .val (.long q2), .second, .val (.int p3), .val (.int p4), .val (.int p5), .val (.int (0 : Int32)), .val (.int (own_maxI (2 : Int32) (p3 &&& (2147483647 : Int32)))), .val (.long (own_maxL ((own_maxI (2 : Int32) (p3 &&& (2147483647 : Int32))).toInt64) (q2 &&& (9223372036854775807 : Int64)))), .second, .val (.long (own_minL (q1 &&& (9223372036854775807 : Int64)) ((9223372036854775807 : Int64) - (own_maxL ((own_maxI (2 : Int32) (p3 &&& (2147483647 : Int32))).toInt64) (q2 &&& (9223372036854775807 : Int64)))))), .second, .unset, .unset, .unset] [])) _
    refine XS.iload X8.here hx rfl (hb hby at_86) rfl ?_
    show Steps p.tables e below (T8.setTop (mkF m 88 #[.val (.long q1), .second, .val (.long q2), .second, .val (.int p3), .val (.int p4), .val (.int p5), .val (.int (0 : Int32)), .val (.int (own_maxI (2 : Int32) (p3 &&& (2147483647 : Int32)))), .val (.long (own_maxL ((own_maxI (2 : Int32) (p3 &&& (2147483647 : Int32))).toInt64) (q2 &&& (9223372036854775807 : Int64)))), .second, .val (.long (own_minL (q1 &&& (9223372036854775807 : Int64)) ((9223372036854775807 : Int64) - (own_maxL ((own_maxI (2 : Int32) (p3 &&& (2147483647 : Int32))).toInt64) (q2 &&& (9223372036854775807 : Int64)))))), .second, .unset, .unset, .unset] [(.int p4)])) _
    refine X8.ldcInt hx hown (mvT hZ (hw _ (List.mem_of_getElem? (i := 0) rfl))) (g := (mkF m 88 #[.val (.long q1), .second, .val (.long q2), .second, .val (.int p3), .val (.int p4), .val (.int p5), .val (.int (0 : Int32)), .val (.int (own_maxI (2 : Int32) (p3 &&& (2147483647 : Int32)))), .val (.long (own_maxL ((own_maxI (2 : Int32) (p3 &&& (2147483647 : Int32))).toInt64) (q2 &&& (9223372036854775807 : Int64)))), .second, .val (.long (own_minL (q1 &&& (9223372036854775807 : Int64)) ((9223372036854775807 : Int64) - (own_maxL ((own_maxI (2 : Int32) (p3 &&& (2147483647 : Int32))).toInt64) (q2 &&& (9223372036854775807 : Int64)))))), .second, .unset, .unset, .unset] [(.int p4)])) rfl (hb hby at_88) _ ?_
    show Steps p.tables e below (T8.setTop (mkF m 90 #[.val (.long q1), .second, .val (.long q2), .second, .val (.int p3), .val (.int p4), .val (.int p5), .val (.int (0 : Int32)), .val (.int (own_maxI (2 : Int32) (p3 &&& (2147483647 : Int32)))), .val (.long (own_maxL ((own_maxI (2 : Int32) (p3 &&& (2147483647 : Int32))).toInt64) (q2 &&& (9223372036854775807 : Int64)))), .second, .val (.long (own_minL (q1 &&& (9223372036854775807 : Int64)) ((9223372036854775807 : Int64) - (own_maxL ((own_maxI (2 : Int32) (p3 &&& (2147483647 : Int32))).toInt64) (q2 &&& (9223372036854775807 : Int64)))))), .second, .unset, .unset, .unset] [(.int (2147483647 : Int32)), (.int p4)])) _
    refine XS.iand X8.here hx rfl (hb hby at_90) rfl ?_
    show Steps p.tables e below (T8.setTop (mkF m 91 #[.val (.long q1), .second, .val (.long q2), .second, .val (.int p3), .val (.int p4), .val (.int p5), .val (.int (0 : Int32)), .val (.int (own_maxI (2 : Int32) (p3 &&& (2147483647 : Int32)))), .val (.long (own_maxL ((own_maxI (2 : Int32) (p3 &&& (2147483647 : Int32))).toInt64) (q2 &&& (9223372036854775807 : Int64)))), .second, .val (.long (own_minL (q1 &&& (9223372036854775807 : Int64)) ((9223372036854775807 : Int64) - (own_maxL ((own_maxI (2 : Int32) (p3 &&& (2147483647 : Int32))).toInt64) (q2 &&& (9223372036854775807 : Int64)))))), .second, .unset, .unset, .unset] [(.int (p4 &&& (2147483647 : Int32)))])) _
    refine XS.iload X8.here hx rfl (hb hby at_91) rfl ?_
    show Steps p.tables e below (T8.setTop (mkF m 93 #[.val (.long q1), .second, .val (.long q2), .second, .val (.int p3), .val (.int p4), .val (.int p5), .val (.int (0 : Int32)), .val (.int (own_maxI (2 : Int32) (p3 &&& (2147483647 : Int32)))), .val (.long (own_maxL ((own_maxI (2 : Int32) (p3 &&& (2147483647 : Int32))).toInt64) (q2 &&& (9223372036854775807 : Int64)))), .second, .val (.long (own_minL (q1 &&& (9223372036854775807 : Int64)) ((9223372036854775807 : Int64) - (own_maxL ((own_maxI (2 : Int32) (p3 &&& (2147483647 : Int32))).toInt64) (q2 &&& (9223372036854775807 : Int64)))))), .second, .unset, .unset, .unset] [(.int (own_maxI (2 : Int32) (p3 &&& (2147483647 : Int32)))), (.int (p4 &&& (2147483647 : Int32)))])) _
    refine XS.irem X8.here hx rfl (hb hby at_93) rfl hnz93 ?_
    show Steps p.tables e below (T8.setTop (mkF m 94 #[.val (.long q1), .second, .val (.long q2), .second, .val (.int p3), .val (.int p4), .val (.int p5), .val (.int (0 : Int32)), .val (.int (own_maxI (2 : Int32) (p3 &&& (2147483647 : Int32)))), .val (.long (own_maxL ((own_maxI (2 : Int32) (p3 &&& (2147483647 : Int32))).toInt64) (q2 &&& (9223372036854775807 : Int64)))), .second, .val (.long (own_minL (q1 &&& (9223372036854775807 : Int64)) ((9223372036854775807 : Int64) - (own_maxL ((own_maxI (2 : Int32) (p3 &&& (2147483647 : Int32))).toInt64) (q2 &&& (9223372036854775807 : Int64)))))), .second, .unset, .unset, .unset] [(.int ((p4 &&& (2147483647 : Int32)) - ((p4 &&& (2147483647 : Int32)) / (own_maxI (2 : Int32) (p3 &&& (2147483647 : Int32)))) * (own_maxI (2 : Int32) (p3 &&& (2147483647 : Int32)))))])) _
    refine XS.istore X8.here hx rfl (hb hby at_94) rfl (l' := #[.val (.long q1), .second, .val (.long q2), .second, .val (.int p3), .val (.int p4), .val (.int p5), .val (.int (0 : Int32)), .val (.int (own_maxI (2 : Int32) (p3 &&& (2147483647 : Int32)))), .val (.long (own_maxL ((own_maxI (2 : Int32) (p3 &&& (2147483647 : Int32))).toInt64) (q2 &&& (9223372036854775807 : Int64)))), .second, .val (.long (own_minL (q1 &&& (9223372036854775807 : Int64)) ((9223372036854775807 : Int64) - (own_maxL ((own_maxI (2 : Int32) (p3 &&& (2147483647 : Int32))).toInt64) (q2 &&& (9223372036854775807 : Int64)))))), .second, .val (.int ((p4 &&& (2147483647 : Int32)) - ((p4 &&& (2147483647 : Int32)) / (own_maxI (2 : Int32) (p3 &&& (2147483647 : Int32)))) * (own_maxI (2 : Int32) (p3 &&& (2147483647 : Int32))))), .unset, .unset]) rfl ?_
    show Steps p.tables e below (T8.setTop (mkF m 96 #[.val (.long q1), .second, .val (.long q2), .second, .val (.int p3), .val (.int p4), .val (.int p5), .val (.int (0 : Int32)), .val (.int (own_maxI (2 : Int32) (p3 &&& (2147483647 : Int32)))), .val (.long (own_maxL ((own_maxI (2 : Int32) (p3 &&& (2147483647 : Int32))).toInt64) (q2 &&& (9223372036854775807 : Int64)))), .second, .val (.long (own_minL (q1 &&& (9223372036854775807 : Int64)) ((9223372036854775807 : Int64) - (own_maxL ((own_maxI (2 : Int32) (p3 &&& (2147483647 : Int32))).toInt64) (q2 &&& (9223372036854775807 : Int64)))))), .second, .val (.int ((p4 &&& (2147483647 : Int32)) - ((p4 &&& (2147483647 : Int32)) / (own_maxI (2 : Int32) (p3 &&& (2147483647 : Int32)))) * (own_maxI (2 : Int32) (p3 &&& (2147483647 : Int32))))), .unset, .unset] [])) _
    refine st9 _ ?_
    show Steps p.tables e below (T9.setTop (mkF m 99 #[.val (.long q1), .second, .val (.long q2), .second, .val (.int p3), .val (.int p4), .val (.int p5), .val (.int (0 : Int32)), .val (.int (own_maxI (2 : Int32) (p3 &&& (2147483647 : Int32)))), .val (.long (own_maxL ((own_maxI (2 : Int32) (p3 &&& (2147483647 : Int32))).toInt64) (q2 &&& (9223372036854775807 : Int64)))), .second, .val (.long (own_minL (q1 &&& (9223372036854775807 : Int64)) ((9223372036854775807 : Int64) - (own_maxL ((own_maxI (2 : Int32) (p3 &&& (2147483647 : Int32))).toInt64) (q2 &&& (9223372036854775807 : Int64)))))), .second, .val (.int ((p4 &&& (2147483647 : Int32)) - ((p4 &&& (2147483647 : Int32)) / (own_maxI (2 : Int32) (p3 &&& (2147483647 : Int32)))) * (own_maxI (2 : Int32) (p3 &&& (2147483647 : Int32))))), .unset, .unset] [(.ref b9)])) _
    refine XS.dup X9.here hx rfl (hb hby at_99) rfl rfl ?_
    show Steps p.tables e below (T9.setTop (mkF m 100 #[.val (.long q1), .second, .val (.long q2), .second, .val (.int p3), .val (.int p4), .val (.int p5), .val (.int (0 : Int32)), .val (.int (own_maxI (2 : Int32) (p3 &&& (2147483647 : Int32)))), .val (.long (own_maxL ((own_maxI (2 : Int32) (p3 &&& (2147483647 : Int32))).toInt64) (q2 &&& (9223372036854775807 : Int64)))), .second, .val (.long (own_minL (q1 &&& (9223372036854775807 : Int64)) ((9223372036854775807 : Int64) - (own_maxL ((own_maxI (2 : Int32) (p3 &&& (2147483647 : Int32))).toInt64) (q2 &&& (9223372036854775807 : Int64)))))), .second, .val (.int ((p4 &&& (2147483647 : Int32)) - ((p4 &&& (2147483647 : Int32)) / (own_maxI (2 : Int32) (p3 &&& (2147483647 : Int32)))) * (own_maxI (2 : Int32) (p3 &&& (2147483647 : Int32))))), .unset, .unset] [(.ref b9), (.ref b9)])) _
    refine XS.lload X9.here hx rfl (hb hby at_100) rfl ?_
    show Steps p.tables e below (T9.setTop (mkF m 102 #[.val (.long q1), .second, .val (.long q2), .second, .val (.int p3), .val (.int p4), .val (.int p5), .val (.int (0 : Int32)), .val (.int (own_maxI (2 : Int32) (p3 &&& (2147483647 : Int32)))), .val (.long (own_maxL ((own_maxI (2 : Int32) (p3 &&& (2147483647 : Int32))).toInt64) (q2 &&& (9223372036854775807 : Int64)))), .second, .val (.long (own_minL (q1 &&& (9223372036854775807 : Int64)) ((9223372036854775807 : Int64) - (own_maxL ((own_maxI (2 : Int32) (p3 &&& (2147483647 : Int32))).toInt64) (q2 &&& (9223372036854775807 : Int64)))))), .second, .val (.int ((p4 &&& (2147483647 : Int32)) - ((p4 &&& (2147483647 : Int32)) / (own_maxI (2 : Int32) (p3 &&& (2147483647 : Int32)))) * (own_maxI (2 : Int32) (p3 &&& (2147483647 : Int32))))), .unset, .unset] [(.long (own_minL (q1 &&& (9223372036854775807 : Int64)) ((9223372036854775807 : Int64) - (own_maxL ((own_maxI (2 : Int32) (p3 &&& (2147483647 : Int32))).toInt64) (q2 &&& (9223372036854775807 : Int64)))))), (.ref b9), (.ref b9)])) _
    refine XS.lload X9.here hx rfl (hb hby at_102) rfl ?_
    show Steps p.tables e below (T9.setTop (mkF m 104 #[.val (.long q1), .second, .val (.long q2), .second, .val (.int p3), .val (.int p4), .val (.int p5), .val (.int (0 : Int32)), .val (.int (own_maxI (2 : Int32) (p3 &&& (2147483647 : Int32)))), .val (.long (own_maxL ((own_maxI (2 : Int32) (p3 &&& (2147483647 : Int32))).toInt64) (q2 &&& (9223372036854775807 : Int64)))), .second, .val (.long (own_minL (q1 &&& (9223372036854775807 : Int64)) ((9223372036854775807 : Int64) - (own_maxL ((own_maxI (2 : Int32) (p3 &&& (2147483647 : Int32))).toInt64) (q2 &&& (9223372036854775807 : Int64)))))), .second, .val (.int ((p4 &&& (2147483647 : Int32)) - ((p4 &&& (2147483647 : Int32)) / (own_maxI (2 : Int32) (p3 &&& (2147483647 : Int32)))) * (own_maxI (2 : Int32) (p3 &&& (2147483647 : Int32))))), .unset, .unset] [(.long (own_maxL ((own_maxI (2 : Int32) (p3 &&& (2147483647 : Int32))).toInt64) (q2 &&& (9223372036854775807 : Int64)))), (.long (own_minL (q1 &&& (9223372036854775807 : Int64)) ((9223372036854775807 : Int64) - (own_maxL ((own_maxI (2 : Int32) (p3 &&& (2147483647 : Int32))).toInt64) (q2 &&& (9223372036854775807 : Int64)))))), (.ref b9), (.ref b9)])) _
    refine XS.iload X9.here hx rfl (hb hby at_104) rfl ?_
    show Steps p.tables e below (T9.setTop (mkF m 106 #[.val (.long q1), .second, .val (.long q2), .second, .val (.int p3), .val (.int p4), .val (.int p5), .val (.int (0 : Int32)), .val (.int (own_maxI (2 : Int32) (p3 &&& (2147483647 : Int32)))), .val (.long (own_maxL ((own_maxI (2 : Int32) (p3 &&& (2147483647 : Int32))).toInt64) (q2 &&& (9223372036854775807 : Int64)))), .second, .val (.long (own_minL (q1 &&& (9223372036854775807 : Int64)) ((9223372036854775807 : Int64) - (own_maxL ((own_maxI (2 : Int32) (p3 &&& (2147483647 : Int32))).toInt64) (q2 &&& (9223372036854775807 : Int64)))))), .second, .val (.int ((p4 &&& (2147483647 : Int32)) - ((p4 &&& (2147483647 : Int32)) / (own_maxI (2 : Int32) (p3 &&& (2147483647 : Int32)))) * (own_maxI (2 : Int32) (p3 &&& (2147483647 : Int32))))), .unset, .unset] [(.int (own_maxI (2 : Int32) (p3 &&& (2147483647 : Int32)))), (.long (own_maxL ((own_maxI (2 : Int32) (p3 &&& (2147483647 : Int32))).toInt64) (q2 &&& (9223372036854775807 : Int64)))), (.long (own_minL (q1 &&& (9223372036854775807 : Int64)) ((9223372036854775807 : Int64) - (own_maxL ((own_maxI (2 : Int32) (p3 &&& (2147483647 : Int32))).toInt64) (q2 &&& (9223372036854775807 : Int64)))))), (.ref b9), (.ref b9)])) _
    refine st10.trans ?_
    show Steps p.tables e below (T10.setTop (mkF m 109 #[.val (.long q1), .second, .val (.long q2), .second, .val (.int p3), .val (.int p4), .val (.int p5), .val (.int (0 : Int32)), .val (.int (own_maxI (2 : Int32) (p3 &&& (2147483647 : Int32)))), .val (.long (own_maxL ((own_maxI (2 : Int32) (p3 &&& (2147483647 : Int32))).toInt64) (q2 &&& (9223372036854775807 : Int64)))), .second, .val (.long (own_minL (q1 &&& (9223372036854775807 : Int64)) ((9223372036854775807 : Int64) - (own_maxL ((own_maxI (2 : Int32) (p3 &&& (2147483647 : Int32))).toInt64) (q2 &&& (9223372036854775807 : Int64)))))), .second, .val (.int ((p4 &&& (2147483647 : Int32)) - ((p4 &&& (2147483647 : Int32)) / (own_maxI (2 : Int32) (p3 &&& (2147483647 : Int32)))) * (own_maxI (2 : Int32) (p3 &&& (2147483647 : Int32))))), .unset, .unset] [(.ref b9)])) _
    refine XS.astore X10.here hx rfl (hb hby at_109) rfl rfl (l' := #[.val (.long q1), .second, .val (.long q2), .second, .val (.int p3), .val (.int p4), .val (.int p5), .val (.int (0 : Int32)), .val (.int (own_maxI (2 : Int32) (p3 &&& (2147483647 : Int32)))), .val (.long (own_maxL ((own_maxI (2 : Int32) (p3 &&& (2147483647 : Int32))).toInt64) (q2 &&& (9223372036854775807 : Int64)))), .second, .val (.long (own_minL (q1 &&& (9223372036854775807 : Int64)) ((9223372036854775807 : Int64) - (own_maxL ((own_maxI (2 : Int32) (p3 &&& (2147483647 : Int32))).toInt64) (q2 &&& (9223372036854775807 : Int64)))))), .second, .val (.int ((p4 &&& (2147483647 : Int32)) - ((p4 &&& (2147483647 : Int32)) / (own_maxI (2 : Int32) (p3 &&& (2147483647 : Int32)))) * (own_maxI (2 : Int32) (p3 &&& (2147483647 : Int32))))), .val (.ref b9), .unset]) rfl ?_
    show Steps p.tables e below (T10.setTop (mkF m 111 #[.val (.long q1), .second, .val (.long q2), .second, .val (.int p3), .val (.int p4), .val (.int p5), .val (.int (0 : Int32)), .val (.int (own_maxI (2 : Int32) (p3 &&& (2147483647 : Int32)))), .val (.long (own_maxL ((own_maxI (2 : Int32) (p3 &&& (2147483647 : Int32))).toInt64) (q2 &&& (9223372036854775807 : Int64)))), .second, .val (.long (own_minL (q1 &&& (9223372036854775807 : Int64)) ((9223372036854775807 : Int64) - (own_maxL ((own_maxI (2 : Int32) (p3 &&& (2147483647 : Int32))).toInt64) (q2 &&& (9223372036854775807 : Int64)))))), .second, .val (.int ((p4 &&& (2147483647 : Int32)) - ((p4 &&& (2147483647 : Int32)) / (own_maxI (2 : Int32) (p3 &&& (2147483647 : Int32)))) * (own_maxI (2 : Int32) (p3 &&& (2147483647 : Int32))))), .val (.ref b9), .unset] [])) _
    refine XS.aload X10.here hx rfl (hb hby at_111) rfl rfl ?_
    show Steps p.tables e below (T10.setTop (mkF m 113 #[.val (.long q1), .second, .val (.long q2), .second, .val (.int p3), .val (.int p4), .val (.int p5), .val (.int (0 : Int32)), .val (.int (own_maxI (2 : Int32) (p3 &&& (2147483647 : Int32)))), .val (.long (own_maxL ((own_maxI (2 : Int32) (p3 &&& (2147483647 : Int32))).toInt64) (q2 &&& (9223372036854775807 : Int64)))), .second, .val (.long (own_minL (q1 &&& (9223372036854775807 : Int64)) ((9223372036854775807 : Int64) - (own_maxL ((own_maxI (2 : Int32) (p3 &&& (2147483647 : Int32))).toInt64) (q2 &&& (9223372036854775807 : Int64)))))), .second, .val (.int ((p4 &&& (2147483647 : Int32)) - ((p4 &&& (2147483647 : Int32)) / (own_maxI (2 : Int32) (p3 &&& (2147483647 : Int32)))) * (own_maxI (2 : Int32) (p3 &&& (2147483647 : Int32))))), .val (.ref b9), .unset] [(.ref b9)])) _
    refine XS.iload X10.here hx rfl (hb hby at_113) rfl ?_
    show Steps p.tables e below (T10.setTop (mkF m 115 #[.val (.long q1), .second, .val (.long q2), .second, .val (.int p3), .val (.int p4), .val (.int p5), .val (.int (0 : Int32)), .val (.int (own_maxI (2 : Int32) (p3 &&& (2147483647 : Int32)))), .val (.long (own_maxL ((own_maxI (2 : Int32) (p3 &&& (2147483647 : Int32))).toInt64) (q2 &&& (9223372036854775807 : Int64)))), .second, .val (.long (own_minL (q1 &&& (9223372036854775807 : Int64)) ((9223372036854775807 : Int64) - (own_maxL ((own_maxI (2 : Int32) (p3 &&& (2147483647 : Int32))).toInt64) (q2 &&& (9223372036854775807 : Int64)))))), .second, .val (.int ((p4 &&& (2147483647 : Int32)) - ((p4 &&& (2147483647 : Int32)) / (own_maxI (2 : Int32) (p3 &&& (2147483647 : Int32)))) * (own_maxI (2 : Int32) (p3 &&& (2147483647 : Int32))))), .val (.ref b9), .unset] [(.int ((p4 &&& (2147483647 : Int32)) - ((p4 &&& (2147483647 : Int32)) / (own_maxI (2 : Int32) (p3 &&& (2147483647 : Int32)))) * (own_maxI (2 : Int32) (p3 &&& (2147483647 : Int32))))), (.ref b9)])) _
    refine st11.trans ?_
    show Steps p.tables e below (T11.setTop (mkF m 118 #[.val (.long q1), .second, .val (.long q2), .second, .val (.int p3), .val (.int p4), .val (.int p5), .val (.int (0 : Int32)), .val (.int (own_maxI (2 : Int32) (p3 &&& (2147483647 : Int32)))), .val (.long (own_maxL ((own_maxI (2 : Int32) (p3 &&& (2147483647 : Int32))).toInt64) (q2 &&& (9223372036854775807 : Int64)))), .second, .val (.long (own_minL (q1 &&& (9223372036854775807 : Int64)) ((9223372036854775807 : Int64) - (own_maxL ((own_maxI (2 : Int32) (p3 &&& (2147483647 : Int32))).toInt64) (q2 &&& (9223372036854775807 : Int64)))))), .second, .val (.int ((p4 &&& (2147483647 : Int32)) - ((p4 &&& (2147483647 : Int32)) / (own_maxI (2 : Int32) (p3 &&& (2147483647 : Int32)))) * (own_maxI (2 : Int32) (p3 &&& (2147483647 : Int32))))), .val (.ref b9), .unset] [(.long (own_bs (own_maxL ((own_maxI (2 : Int32) (p3 &&& (2147483647 : Int32))).toInt64) (q2 &&& (9223372036854775807 : Int64))) (own_maxI (2 : Int32) (p3 &&& (2147483647 : Int32))) ((p4 &&& (2147483647 : Int32)) - ((p4 &&& (2147483647 : Int32)) / (own_maxI (2 : Int32) (p3 &&& (2147483647 : Int32)))) * (own_maxI (2 : Int32) (p3 &&& (2147483647 : Int32))))))])) _
    refine XS.lload X11.here hx rfl (hb hby at_118) rfl ?_
    show Steps p.tables e below (T11.setTop (mkF m 120 #[.val (.long q1), .second, .val (.long q2), .second, .val (.int p3), .val (.int p4), .val (.int p5), .val (.int (0 : Int32)), .val (.int (own_maxI (2 : Int32) (p3 &&& (2147483647 : Int32)))), .val (.long (own_maxL ((own_maxI (2 : Int32) (p3 &&& (2147483647 : Int32))).toInt64) (q2 &&& (9223372036854775807 : Int64)))), .second, .val (.long (own_minL (q1 &&& (9223372036854775807 : Int64)) ((9223372036854775807 : Int64) - (own_maxL ((own_maxI (2 : Int32) (p3 &&& (2147483647 : Int32))).toInt64) (q2 &&& (9223372036854775807 : Int64)))))), .second, .val (.int ((p4 &&& (2147483647 : Int32)) - ((p4 &&& (2147483647 : Int32)) / (own_maxI (2 : Int32) (p3 &&& (2147483647 : Int32)))) * (own_maxI (2 : Int32) (p3 &&& (2147483647 : Int32))))), .val (.ref b9), .unset] [(.long (own_maxL ((own_maxI (2 : Int32) (p3 &&& (2147483647 : Int32))).toInt64) (q2 &&& (9223372036854775807 : Int64)))), (.long (own_bs (own_maxL ((own_maxI (2 : Int32) (p3 &&& (2147483647 : Int32))).toInt64) (q2 &&& (9223372036854775807 : Int64))) (own_maxI (2 : Int32) (p3 &&& (2147483647 : Int32))) ((p4 &&& (2147483647 : Int32)) - ((p4 &&& (2147483647 : Int32)) / (own_maxI (2 : Int32) (p3 &&& (2147483647 : Int32)))) * (own_maxI (2 : Int32) (p3 &&& (2147483647 : Int32))))))])) _
    refine XS.iload X11.here hx rfl (hb hby at_120) rfl ?_
    show Steps p.tables e below (T11.setTop (mkF m 122 #[.val (.long q1), .second, .val (.long q2), .second, .val (.int p3), .val (.int p4), .val (.int p5), .val (.int (0 : Int32)), .val (.int (own_maxI (2 : Int32) (p3 &&& (2147483647 : Int32)))), .val (.long (own_maxL ((own_maxI (2 : Int32) (p3 &&& (2147483647 : Int32))).toInt64) (q2 &&& (9223372036854775807 : Int64)))), .second, .val (.long (own_minL (q1 &&& (9223372036854775807 : Int64)) ((9223372036854775807 : Int64) - (own_maxL ((own_maxI (2 : Int32) (p3 &&& (2147483647 : Int32))).toInt64) (q2 &&& (9223372036854775807 : Int64)))))), .second, .val (.int ((p4 &&& (2147483647 : Int32)) - ((p4 &&& (2147483647 : Int32)) / (own_maxI (2 : Int32) (p3 &&& (2147483647 : Int32)))) * (own_maxI (2 : Int32) (p3 &&& (2147483647 : Int32))))), .val (.ref b9), .unset] [(.int (own_maxI (2 : Int32) (p3 &&& (2147483647 : Int32)))), (.long (own_maxL ((own_maxI (2 : Int32) (p3 &&& (2147483647 : Int32))).toInt64) (q2 &&& (9223372036854775807 : Int64)))), (.long (own_bs (own_maxL ((own_maxI (2 : Int32) (p3 &&& (2147483647 : Int32))).toInt64) (q2 &&& (9223372036854775807 : Int64))) (own_maxI (2 : Int32) (p3 &&& (2147483647 : Int32))) ((p4 &&& (2147483647 : Int32)) - ((p4 &&& (2147483647 : Int32)) / (own_maxI (2 : Int32) (p3 &&& (2147483647 : Int32)))) * (own_maxI (2 : Int32) (p3 &&& (2147483647 : Int32))))))])) _
    refine XS.iload X11.here hx rfl (hb hby at_122) rfl ?_
    show Steps p.tables e below (T11.setTop (mkF m 124 #[.val (.long q1), .second, .val (.long q2), .second, .val (.int p3), .val (.int p4), .val (.int p5), .val (.int (0 : Int32)), .val (.int (own_maxI (2 : Int32) (p3 &&& (2147483647 : Int32)))), .val (.long (own_maxL ((own_maxI (2 : Int32) (p3 &&& (2147483647 : Int32))).toInt64) (q2 &&& (9223372036854775807 : Int64)))), .second, .val (.long (own_minL (q1 &&& (9223372036854775807 : Int64)) ((9223372036854775807 : Int64) - (own_maxL ((own_maxI (2 : Int32) (p3 &&& (2147483647 : Int32))).toInt64) (q2 &&& (9223372036854775807 : Int64)))))), .second, .val (.int ((p4 &&& (2147483647 : Int32)) - ((p4 &&& (2147483647 : Int32)) / (own_maxI (2 : Int32) (p3 &&& (2147483647 : Int32)))) * (own_maxI (2 : Int32) (p3 &&& (2147483647 : Int32))))), .val (.ref b9), .unset] [(.int ((p4 &&& (2147483647 : Int32)) - ((p4 &&& (2147483647 : Int32)) / (own_maxI (2 : Int32) (p3 &&& (2147483647 : Int32)))) * (own_maxI (2 : Int32) (p3 &&& (2147483647 : Int32))))), (.int (own_maxI (2 : Int32) (p3 &&& (2147483647 : Int32)))), (.long (own_maxL ((own_maxI (2 : Int32) (p3 &&& (2147483647 : Int32))).toInt64) (q2 &&& (9223372036854775807 : Int64)))), (.long (own_bs (own_maxL ((own_maxI (2 : Int32) (p3 &&& (2147483647 : Int32))).toInt64) (q2 &&& (9223372036854775807 : Int64))) (own_maxI (2 : Int32) (p3 &&& (2147483647 : Int32))) ((p4 &&& (2147483647 : Int32)) - ((p4 &&& (2147483647 : Int32)) / (own_maxI (2 : Int32) (p3 &&& (2147483647 : Int32)))) * (own_maxI (2 : Int32) (p3 &&& (2147483647 : Int32))))))])) _
    refine st12 _ ?_
    show Steps p.tables e below (T12.setTop (mkF m 127 #[.val (.long q1), .second, .val (.long q2), .second, .val (.int p3), .val (.int p4), .val (.int p5), .val (.int (0 : Int32)), .val (.int (own_maxI (2 : Int32) (p3 &&& (2147483647 : Int32)))), .val (.long (own_maxL ((own_maxI (2 : Int32) (p3 &&& (2147483647 : Int32))).toInt64) (q2 &&& (9223372036854775807 : Int64)))), .second, .val (.long (own_minL (q1 &&& (9223372036854775807 : Int64)) ((9223372036854775807 : Int64) - (own_maxL ((own_maxI (2 : Int32) (p3 &&& (2147483647 : Int32))).toInt64) (q2 &&& (9223372036854775807 : Int64)))))), .second, .val (.int ((p4 &&& (2147483647 : Int32)) - ((p4 &&& (2147483647 : Int32)) / (own_maxI (2 : Int32) (p3 &&& (2147483647 : Int32)))) * (own_maxI (2 : Int32) (p3 &&& (2147483647 : Int32))))), .val (.ref b9), .unset] [(.long (own_exp (own_maxL ((own_maxI (2 : Int32) (p3 &&& (2147483647 : Int32))).toInt64) (q2 &&& (9223372036854775807 : Int64))) (own_maxI (2 : Int32) (p3 &&& (2147483647 : Int32))) ((p4 &&& (2147483647 : Int32)) - ((p4 &&& (2147483647 : Int32)) / (own_maxI (2 : Int32) (p3 &&& (2147483647 : Int32)))) * (own_maxI (2 : Int32) (p3 &&& (2147483647 : Int32)))))), (.long (own_bs (own_maxL ((own_maxI (2 : Int32) (p3 &&& (2147483647 : Int32))).toInt64) (q2 &&& (9223372036854775807 : Int64))) (own_maxI (2 : Int32) (p3 &&& (2147483647 : Int32))) ((p4 &&& (2147483647 : Int32)) - ((p4 &&& (2147483647 : Int32)) / (own_maxI (2 : Int32) (p3 &&& (2147483647 : Int32)))) * (own_maxI (2 : Int32) (p3 &&& (2147483647 : Int32))))))])) _
    refine XS.lcmp X12.here hx rfl (hb hby at_127) rfl ?_
    show Steps p.tables e below (T12.setTop (mkF m 128 #[.val (.long q1), .second, .val (.long q2), .second, .val (.int p3), .val (.int p4), .val (.int p5), .val (.int (0 : Int32)), .val (.int (own_maxI (2 : Int32) (p3 &&& (2147483647 : Int32)))), .val (.long (own_maxL ((own_maxI (2 : Int32) (p3 &&& (2147483647 : Int32))).toInt64) (q2 &&& (9223372036854775807 : Int64)))), .second, .val (.long (own_minL (q1 &&& (9223372036854775807 : Int64)) ((9223372036854775807 : Int64) - (own_maxL ((own_maxI (2 : Int32) (p3 &&& (2147483647 : Int32))).toInt64) (q2 &&& (9223372036854775807 : Int64)))))), .second, .val (.int ((p4 &&& (2147483647 : Int32)) - ((p4 &&& (2147483647 : Int32)) / (own_maxI (2 : Int32) (p3 &&& (2147483647 : Int32)))) * (own_maxI (2 : Int32) (p3 &&& (2147483647 : Int32))))), .val (.ref b9), .unset] [(.int (lcmpW (own_bs (own_maxL ((own_maxI (2 : Int32) (p3 &&& (2147483647 : Int32))).toInt64) (q2 &&& (9223372036854775807 : Int64))) (own_maxI (2 : Int32) (p3 &&& (2147483647 : Int32))) ((p4 &&& (2147483647 : Int32)) - ((p4 &&& (2147483647 : Int32)) / (own_maxI (2 : Int32) (p3 &&& (2147483647 : Int32)))) * (own_maxI (2 : Int32) (p3 &&& (2147483647 : Int32))))) (own_exp (own_maxL ((own_maxI (2 : Int32) (p3 &&& (2147483647 : Int32))).toInt64) (q2 &&& (9223372036854775807 : Int64))) (own_maxI (2 : Int32) (p3 &&& (2147483647 : Int32))) ((p4 &&& (2147483647 : Int32)) - ((p4 &&& (2147483647 : Int32)) / (own_maxI (2 : Int32) (p3 &&& (2147483647 : Int32)))) * (own_maxI (2 : Int32) (p3 &&& (2147483647 : Int32)))))))])) _
    refine XS.ifNo X12.here hx rfl (hb hby at_128) rfl ((if0 _ _).trans (teq ((own_eq _ _ _ (own_nG p3) (own_cG _ q2 (own_nG p3)) (own_b p4 _ (own_nG p3)).1 (own_b p4 _ (own_nG p3)).2) : (lcmpW (own_bs (own_maxL ((own_maxI (2 : Int32) (p3 &&& (2147483647 : Int32))).toInt64) (q2 &&& (9223372036854775807 : Int64))) (own_maxI (2 : Int32) (p3 &&& (2147483647 : Int32))) ((p4 &&& (2147483647 : Int32)) - ((p4 &&& (2147483647 : Int32)) / (own_maxI (2 : Int32) (p3 &&& (2147483647 : Int32)))) * (own_maxI (2 : Int32) (p3 &&& (2147483647 : Int32))))) (own_exp (own_maxL ((own_maxI (2 : Int32) (p3 &&& (2147483647 : Int32))).toInt64) (q2 &&& (9223372036854775807 : Int64))) (own_maxI (2 : Int32) (p3 &&& (2147483647 : Int32))) ((p4 &&& (2147483647 : Int32)) - ((p4 &&& (2147483647 : Int32)) / (own_maxI (2 : Int32) (p3 &&& (2147483647 : Int32)))) * (own_maxI (2 : Int32) (p3 &&& (2147483647 : Int32)))))) = (0 : Int32))).2) ?_
    show Steps p.tables e below (T12.setTop (mkF m 131 #[.val (.long q1), .second, .val (.long q2), .second, .val (.int p3), .val (.int p4), .val (.int p5), .val (.int (0 : Int32)), .val (.int (own_maxI (2 : Int32) (p3 &&& (2147483647 : Int32)))), .val (.long (own_maxL ((own_maxI (2 : Int32) (p3 &&& (2147483647 : Int32))).toInt64) (q2 &&& (9223372036854775807 : Int64)))), .second, .val (.long (own_minL (q1 &&& (9223372036854775807 : Int64)) ((9223372036854775807 : Int64) - (own_maxL ((own_maxI (2 : Int32) (p3 &&& (2147483647 : Int32))).toInt64) (q2 &&& (9223372036854775807 : Int64)))))), .second, .val (.int ((p4 &&& (2147483647 : Int32)) - ((p4 &&& (2147483647 : Int32)) / (own_maxI (2 : Int32) (p3 &&& (2147483647 : Int32)))) * (own_maxI (2 : Int32) (p3 &&& (2147483647 : Int32))))), .val (.ref b9), .unset] [])) _
    refine XS.iconst X12.here hx rfl (hb hby at_131) ?_
    show Steps p.tables e below (T12.setTop (mkF m 132 #[.val (.long q1), .second, .val (.long q2), .second, .val (.int p3), .val (.int p4), .val (.int p5), .val (.int (0 : Int32)), .val (.int (own_maxI (2 : Int32) (p3 &&& (2147483647 : Int32)))), .val (.long (own_maxL ((own_maxI (2 : Int32) (p3 &&& (2147483647 : Int32))).toInt64) (q2 &&& (9223372036854775807 : Int64)))), .second, .val (.long (own_minL (q1 &&& (9223372036854775807 : Int64)) ((9223372036854775807 : Int64) - (own_maxL ((own_maxI (2 : Int32) (p3 &&& (2147483647 : Int32))).toInt64) (q2 &&& (9223372036854775807 : Int64)))))), .second, .val (.int ((p4 &&& (2147483647 : Int32)) - ((p4 &&& (2147483647 : Int32)) / (own_maxI (2 : Int32) (p3 &&& (2147483647 : Int32)))) * (own_maxI (2 : Int32) (p3 &&& (2147483647 : Int32))))), .val (.ref b9), .unset] [(.int (1 : Int32))])) _
    refine XS.goto X12.here hx rfl (pc0 := 132) (pc' := 136) rfl (hb hby at_132) (by decide) (by decide) ?_
    show Steps p.tables e below (T12.setTop (mkF m 136 #[.val (.long q1), .second, .val (.long q2), .second, .val (.int p3), .val (.int p4), .val (.int p5), .val (.int (0 : Int32)), .val (.int (own_maxI (2 : Int32) (p3 &&& (2147483647 : Int32)))), .val (.long (own_maxL ((own_maxI (2 : Int32) (p3 &&& (2147483647 : Int32))).toInt64) (q2 &&& (9223372036854775807 : Int64)))), .second, .val (.long (own_minL (q1 &&& (9223372036854775807 : Int64)) ((9223372036854775807 : Int64) - (own_maxL ((own_maxI (2 : Int32) (p3 &&& (2147483647 : Int32))).toInt64) (q2 &&& (9223372036854775807 : Int64)))))), .second, .val (.int ((p4 &&& (2147483647 : Int32)) - ((p4 &&& (2147483647 : Int32)) / (own_maxI (2 : Int32) (p3 &&& (2147483647 : Int32)))) * (own_maxI (2 : Int32) (p3 &&& (2147483647 : Int32))))), .val (.ref b9), .unset] [(.int (1 : Int32))])) _
    refine XS.istore X12.here hx rfl (hb hby at_136) rfl (l' := #[.val (.long q1), .second, .val (.long q2), .second, .val (.int p3), .val (.int p4), .val (.int p5), .val (.int (0 : Int32)), .val (.int (own_maxI (2 : Int32) (p3 &&& (2147483647 : Int32)))), .val (.long (own_maxL ((own_maxI (2 : Int32) (p3 &&& (2147483647 : Int32))).toInt64) (q2 &&& (9223372036854775807 : Int64)))), .second, .val (.long (own_minL (q1 &&& (9223372036854775807 : Int64)) ((9223372036854775807 : Int64) - (own_maxL ((own_maxI (2 : Int32) (p3 &&& (2147483647 : Int32))).toInt64) (q2 &&& (9223372036854775807 : Int64)))))), .second, .val (.int ((p4 &&& (2147483647 : Int32)) - ((p4 &&& (2147483647 : Int32)) / (own_maxI (2 : Int32) (p3 &&& (2147483647 : Int32)))) * (own_maxI (2 : Int32) (p3 &&& (2147483647 : Int32))))), .val (.ref b9), .val (.int (1 : Int32))]) rfl ?_
    show Steps p.tables e below (T12.setTop (mkF m 138 #[.val (.long q1), .second, .val (.long q2), .second, .val (.int p3), .val (.int p4), .val (.int p5), .val (.int (0 : Int32)), .val (.int (own_maxI (2 : Int32) (p3 &&& (2147483647 : Int32)))), .val (.long (own_maxL ((own_maxI (2 : Int32) (p3 &&& (2147483647 : Int32))).toInt64) (q2 &&& (9223372036854775807 : Int64)))), .second, .val (.long (own_minL (q1 &&& (9223372036854775807 : Int64)) ((9223372036854775807 : Int64) - (own_maxL ((own_maxI (2 : Int32) (p3 &&& (2147483647 : Int32))).toInt64) (q2 &&& (9223372036854775807 : Int64)))))), .second, .val (.int ((p4 &&& (2147483647 : Int32)) - ((p4 &&& (2147483647 : Int32)) / (own_maxI (2 : Int32) (p3 &&& (2147483647 : Int32)))) * (own_maxI (2 : Int32) (p3 &&& (2147483647 : Int32))))), .val (.ref b9), .val (.int (1 : Int32))] [])) _
    refine XS.iload X12.here hx rfl (hb hby at_138) rfl ?_
    show Steps p.tables e below (T12.setTop (mkF m 140 #[.val (.long q1), .second, .val (.long q2), .second, .val (.int p3), .val (.int p4), .val (.int p5), .val (.int (0 : Int32)), .val (.int (own_maxI (2 : Int32) (p3 &&& (2147483647 : Int32)))), .val (.long (own_maxL ((own_maxI (2 : Int32) (p3 &&& (2147483647 : Int32))).toInt64) (q2 &&& (9223372036854775807 : Int64)))), .second, .val (.long (own_minL (q1 &&& (9223372036854775807 : Int64)) ((9223372036854775807 : Int64) - (own_maxL ((own_maxI (2 : Int32) (p3 &&& (2147483647 : Int32))).toInt64) (q2 &&& (9223372036854775807 : Int64)))))), .second, .val (.int ((p4 &&& (2147483647 : Int32)) - ((p4 &&& (2147483647 : Int32)) / (own_maxI (2 : Int32) (p3 &&& (2147483647 : Int32)))) * (own_maxI (2 : Int32) (p3 &&& (2147483647 : Int32))))), .val (.ref b9), .val (.int (1 : Int32))] [(.int (1 : Int32))])) _
    refine XS.ifNo X12.here hx rfl (hb hby at_140) rfl ((if0 _ _).trans (feq hc140).1) ?_
    show Steps p.tables e below (T12.setTop (mkF m 143 #[.val (.long q1), .second, .val (.long q2), .second, .val (.int p3), .val (.int p4), .val (.int p5), .val (.int (0 : Int32)), .val (.int (own_maxI (2 : Int32) (p3 &&& (2147483647 : Int32)))), .val (.long (own_maxL ((own_maxI (2 : Int32) (p3 &&& (2147483647 : Int32))).toInt64) (q2 &&& (9223372036854775807 : Int64)))), .second, .val (.long (own_minL (q1 &&& (9223372036854775807 : Int64)) ((9223372036854775807 : Int64) - (own_maxL ((own_maxI (2 : Int32) (p3 &&& (2147483647 : Int32))).toInt64) (q2 &&& (9223372036854775807 : Int64)))))), .second, .val (.int ((p4 &&& (2147483647 : Int32)) - ((p4 &&& (2147483647 : Int32)) / (own_maxI (2 : Int32) (p3 &&& (2147483647 : Int32)))) * (own_maxI (2 : Int32) (p3 &&& (2147483647 : Int32))))), .val (.ref b9), .val (.int (1 : Int32))] [])) _
    refine XS.aload X12.here hx rfl (hb hby at_143) rfl rfl ?_
    show Steps p.tables e below (T12.setTop (mkF m 145 #[.val (.long q1), .second, .val (.long q2), .second, .val (.int p3), .val (.int p4), .val (.int p5), .val (.int (0 : Int32)), .val (.int (own_maxI (2 : Int32) (p3 &&& (2147483647 : Int32)))), .val (.long (own_maxL ((own_maxI (2 : Int32) (p3 &&& (2147483647 : Int32))).toInt64) (q2 &&& (9223372036854775807 : Int64)))), .second, .val (.long (own_minL (q1 &&& (9223372036854775807 : Int64)) ((9223372036854775807 : Int64) - (own_maxL ((own_maxI (2 : Int32) (p3 &&& (2147483647 : Int32))).toInt64) (q2 &&& (9223372036854775807 : Int64)))))), .second, .val (.int ((p4 &&& (2147483647 : Int32)) - ((p4 &&& (2147483647 : Int32)) / (own_maxI (2 : Int32) (p3 &&& (2147483647 : Int32)))) * (own_maxI (2 : Int32) (p3 &&& (2147483647 : Int32))))), .val (.ref b9), .val (.int (1 : Int32))] [(.ref b9)])) _
    refine XS.iconst X12.here hx rfl (hb hby at_145) ?_
    show Steps p.tables e below (T12.setTop (mkF m 146 #[.val (.long q1), .second, .val (.long q2), .second, .val (.int p3), .val (.int p4), .val (.int p5), .val (.int (0 : Int32)), .val (.int (own_maxI (2 : Int32) (p3 &&& (2147483647 : Int32)))), .val (.long (own_maxL ((own_maxI (2 : Int32) (p3 &&& (2147483647 : Int32))).toInt64) (q2 &&& (9223372036854775807 : Int64)))), .second, .val (.long (own_minL (q1 &&& (9223372036854775807 : Int64)) ((9223372036854775807 : Int64) - (own_maxL ((own_maxI (2 : Int32) (p3 &&& (2147483647 : Int32))).toInt64) (q2 &&& (9223372036854775807 : Int64)))))), .second, .val (.int ((p4 &&& (2147483647 : Int32)) - ((p4 &&& (2147483647 : Int32)) / (own_maxI (2 : Int32) (p3 &&& (2147483647 : Int32)))) * (own_maxI (2 : Int32) (p3 &&& (2147483647 : Int32))))), .val (.ref b9), .val (.int (1 : Int32))] [(.int (0 : Int32)), (.ref b9)])) _
    refine st13.trans ?_
    show Steps p.tables e below (T13.setTop (mkF m 149 #[.val (.long q1), .second, .val (.long q2), .second, .val (.int p3), .val (.int p4), .val (.int p5), .val (.int (0 : Int32)), .val (.int (own_maxI (2 : Int32) (p3 &&& (2147483647 : Int32)))), .val (.long (own_maxL ((own_maxI (2 : Int32) (p3 &&& (2147483647 : Int32))).toInt64) (q2 &&& (9223372036854775807 : Int64)))), .second, .val (.long (own_minL (q1 &&& (9223372036854775807 : Int64)) ((9223372036854775807 : Int64) - (own_maxL ((own_maxI (2 : Int32) (p3 &&& (2147483647 : Int32))).toInt64) (q2 &&& (9223372036854775807 : Int64)))))), .second, .val (.int ((p4 &&& (2147483647 : Int32)) - ((p4 &&& (2147483647 : Int32)) / (own_maxI (2 : Int32) (p3 &&& (2147483647 : Int32)))) * (own_maxI (2 : Int32) (p3 &&& (2147483647 : Int32))))), .val (.ref b9), .val (.int (1 : Int32))] [(.long (own_bs (own_maxL ((own_maxI (2 : Int32) (p3 &&& (2147483647 : Int32))).toInt64) (q2 &&& (9223372036854775807 : Int64))) (own_maxI (2 : Int32) (p3 &&& (2147483647 : Int32))) (0 : Int32)))])) _
    refine XS.lload X13.here hx rfl (hb hby at_149) rfl ?_
    show Steps p.tables e below (T13.setTop (mkF m 151 #[.val (.long q1), .second, .val (.long q2), .second, .val (.int p3), .val (.int p4), .val (.int p5), .val (.int (0 : Int32)), .val (.int (own_maxI (2 : Int32) (p3 &&& (2147483647 : Int32)))), .val (.long (own_maxL ((own_maxI (2 : Int32) (p3 &&& (2147483647 : Int32))).toInt64) (q2 &&& (9223372036854775807 : Int64)))), .second, .val (.long (own_minL (q1 &&& (9223372036854775807 : Int64)) ((9223372036854775807 : Int64) - (own_maxL ((own_maxI (2 : Int32) (p3 &&& (2147483647 : Int32))).toInt64) (q2 &&& (9223372036854775807 : Int64)))))), .second, .val (.int ((p4 &&& (2147483647 : Int32)) - ((p4 &&& (2147483647 : Int32)) / (own_maxI (2 : Int32) (p3 &&& (2147483647 : Int32)))) * (own_maxI (2 : Int32) (p3 &&& (2147483647 : Int32))))), .val (.ref b9), .val (.int (1 : Int32))] [(.long (own_maxL ((own_maxI (2 : Int32) (p3 &&& (2147483647 : Int32))).toInt64) (q2 &&& (9223372036854775807 : Int64)))), (.long (own_bs (own_maxL ((own_maxI (2 : Int32) (p3 &&& (2147483647 : Int32))).toInt64) (q2 &&& (9223372036854775807 : Int64))) (own_maxI (2 : Int32) (p3 &&& (2147483647 : Int32))) (0 : Int32)))])) _
    refine XS.iload X13.here hx rfl (hb hby at_151) rfl ?_
    show Steps p.tables e below (T13.setTop (mkF m 153 #[.val (.long q1), .second, .val (.long q2), .second, .val (.int p3), .val (.int p4), .val (.int p5), .val (.int (0 : Int32)), .val (.int (own_maxI (2 : Int32) (p3 &&& (2147483647 : Int32)))), .val (.long (own_maxL ((own_maxI (2 : Int32) (p3 &&& (2147483647 : Int32))).toInt64) (q2 &&& (9223372036854775807 : Int64)))), .second, .val (.long (own_minL (q1 &&& (9223372036854775807 : Int64)) ((9223372036854775807 : Int64) - (own_maxL ((own_maxI (2 : Int32) (p3 &&& (2147483647 : Int32))).toInt64) (q2 &&& (9223372036854775807 : Int64)))))), .second, .val (.int ((p4 &&& (2147483647 : Int32)) - ((p4 &&& (2147483647 : Int32)) / (own_maxI (2 : Int32) (p3 &&& (2147483647 : Int32)))) * (own_maxI (2 : Int32) (p3 &&& (2147483647 : Int32))))), .val (.ref b9), .val (.int (1 : Int32))] [(.int (own_maxI (2 : Int32) (p3 &&& (2147483647 : Int32)))), (.long (own_maxL ((own_maxI (2 : Int32) (p3 &&& (2147483647 : Int32))).toInt64) (q2 &&& (9223372036854775807 : Int64)))), (.long (own_bs (own_maxL ((own_maxI (2 : Int32) (p3 &&& (2147483647 : Int32))).toInt64) (q2 &&& (9223372036854775807 : Int64))) (own_maxI (2 : Int32) (p3 &&& (2147483647 : Int32))) (0 : Int32)))])) _
    refine XS.iconst X13.here hx rfl (hb hby at_153) ?_
    show Steps p.tables e below (T13.setTop (mkF m 154 #[.val (.long q1), .second, .val (.long q2), .second, .val (.int p3), .val (.int p4), .val (.int p5), .val (.int (0 : Int32)), .val (.int (own_maxI (2 : Int32) (p3 &&& (2147483647 : Int32)))), .val (.long (own_maxL ((own_maxI (2 : Int32) (p3 &&& (2147483647 : Int32))).toInt64) (q2 &&& (9223372036854775807 : Int64)))), .second, .val (.long (own_minL (q1 &&& (9223372036854775807 : Int64)) ((9223372036854775807 : Int64) - (own_maxL ((own_maxI (2 : Int32) (p3 &&& (2147483647 : Int32))).toInt64) (q2 &&& (9223372036854775807 : Int64)))))), .second, .val (.int ((p4 &&& (2147483647 : Int32)) - ((p4 &&& (2147483647 : Int32)) / (own_maxI (2 : Int32) (p3 &&& (2147483647 : Int32)))) * (own_maxI (2 : Int32) (p3 &&& (2147483647 : Int32))))), .val (.ref b9), .val (.int (1 : Int32))] [(.int (0 : Int32)), (.int (own_maxI (2 : Int32) (p3 &&& (2147483647 : Int32)))), (.long (own_maxL ((own_maxI (2 : Int32) (p3 &&& (2147483647 : Int32))).toInt64) (q2 &&& (9223372036854775807 : Int64)))), (.long (own_bs (own_maxL ((own_maxI (2 : Int32) (p3 &&& (2147483647 : Int32))).toInt64) (q2 &&& (9223372036854775807 : Int64))) (own_maxI (2 : Int32) (p3 &&& (2147483647 : Int32))) (0 : Int32)))])) _
    refine st14 _ ?_
    show Steps p.tables e below (T14.setTop (mkF m 157 #[.val (.long q1), .second, .val (.long q2), .second, .val (.int p3), .val (.int p4), .val (.int p5), .val (.int (0 : Int32)), .val (.int (own_maxI (2 : Int32) (p3 &&& (2147483647 : Int32)))), .val (.long (own_maxL ((own_maxI (2 : Int32) (p3 &&& (2147483647 : Int32))).toInt64) (q2 &&& (9223372036854775807 : Int64)))), .second, .val (.long (own_minL (q1 &&& (9223372036854775807 : Int64)) ((9223372036854775807 : Int64) - (own_maxL ((own_maxI (2 : Int32) (p3 &&& (2147483647 : Int32))).toInt64) (q2 &&& (9223372036854775807 : Int64)))))), .second, .val (.int ((p4 &&& (2147483647 : Int32)) - ((p4 &&& (2147483647 : Int32)) / (own_maxI (2 : Int32) (p3 &&& (2147483647 : Int32)))) * (own_maxI (2 : Int32) (p3 &&& (2147483647 : Int32))))), .val (.ref b9), .val (.int (1 : Int32))] [(.long (own_exp (own_maxL ((own_maxI (2 : Int32) (p3 &&& (2147483647 : Int32))).toInt64) (q2 &&& (9223372036854775807 : Int64))) (own_maxI (2 : Int32) (p3 &&& (2147483647 : Int32))) (0 : Int32))), (.long (own_bs (own_maxL ((own_maxI (2 : Int32) (p3 &&& (2147483647 : Int32))).toInt64) (q2 &&& (9223372036854775807 : Int64))) (own_maxI (2 : Int32) (p3 &&& (2147483647 : Int32))) (0 : Int32)))])) _
    refine XS.lcmp X14.here hx rfl (hb hby at_157) rfl ?_
    show Steps p.tables e below (T14.setTop (mkF m 158 #[.val (.long q1), .second, .val (.long q2), .second, .val (.int p3), .val (.int p4), .val (.int p5), .val (.int (0 : Int32)), .val (.int (own_maxI (2 : Int32) (p3 &&& (2147483647 : Int32)))), .val (.long (own_maxL ((own_maxI (2 : Int32) (p3 &&& (2147483647 : Int32))).toInt64) (q2 &&& (9223372036854775807 : Int64)))), .second, .val (.long (own_minL (q1 &&& (9223372036854775807 : Int64)) ((9223372036854775807 : Int64) - (own_maxL ((own_maxI (2 : Int32) (p3 &&& (2147483647 : Int32))).toInt64) (q2 &&& (9223372036854775807 : Int64)))))), .second, .val (.int ((p4 &&& (2147483647 : Int32)) - ((p4 &&& (2147483647 : Int32)) / (own_maxI (2 : Int32) (p3 &&& (2147483647 : Int32)))) * (own_maxI (2 : Int32) (p3 &&& (2147483647 : Int32))))), .val (.ref b9), .val (.int (1 : Int32))] [(.int (lcmpW (own_bs (own_maxL ((own_maxI (2 : Int32) (p3 &&& (2147483647 : Int32))).toInt64) (q2 &&& (9223372036854775807 : Int64))) (own_maxI (2 : Int32) (p3 &&& (2147483647 : Int32))) (0 : Int32)) (own_exp (own_maxL ((own_maxI (2 : Int32) (p3 &&& (2147483647 : Int32))).toInt64) (q2 &&& (9223372036854775807 : Int64))) (own_maxI (2 : Int32) (p3 &&& (2147483647 : Int32))) (0 : Int32))))])) _
    refine XS.ifNo X14.here hx rfl (hb hby at_158) rfl ((if0 _ _).trans (teq ((own_eq _ _ _ (own_nG p3) (own_cG _ q2 (own_nG p3)) (own_b0 _ (own_nG p3)).1 (own_b0 _ (own_nG p3)).2) : (lcmpW (own_bs (own_maxL ((own_maxI (2 : Int32) (p3 &&& (2147483647 : Int32))).toInt64) (q2 &&& (9223372036854775807 : Int64))) (own_maxI (2 : Int32) (p3 &&& (2147483647 : Int32))) (0 : Int32)) (own_exp (own_maxL ((own_maxI (2 : Int32) (p3 &&& (2147483647 : Int32))).toInt64) (q2 &&& (9223372036854775807 : Int64))) (own_maxI (2 : Int32) (p3 &&& (2147483647 : Int32))) (0 : Int32))) = (0 : Int32))).2) ?_
    show Steps p.tables e below (T14.setTop (mkF m 161 #[.val (.long q1), .second, .val (.long q2), .second, .val (.int p3), .val (.int p4), .val (.int p5), .val (.int (0 : Int32)), .val (.int (own_maxI (2 : Int32) (p3 &&& (2147483647 : Int32)))), .val (.long (own_maxL ((own_maxI (2 : Int32) (p3 &&& (2147483647 : Int32))).toInt64) (q2 &&& (9223372036854775807 : Int64)))), .second, .val (.long (own_minL (q1 &&& (9223372036854775807 : Int64)) ((9223372036854775807 : Int64) - (own_maxL ((own_maxI (2 : Int32) (p3 &&& (2147483647 : Int32))).toInt64) (q2 &&& (9223372036854775807 : Int64)))))), .second, .val (.int ((p4 &&& (2147483647 : Int32)) - ((p4 &&& (2147483647 : Int32)) / (own_maxI (2 : Int32) (p3 &&& (2147483647 : Int32)))) * (own_maxI (2 : Int32) (p3 &&& (2147483647 : Int32))))), .val (.ref b9), .val (.int (1 : Int32))] [])) _
    refine XS.iconst X14.here hx rfl (hb hby at_161) ?_
    show Steps p.tables e below (T14.setTop (mkF m 162 #[.val (.long q1), .second, .val (.long q2), .second, .val (.int p3), .val (.int p4), .val (.int p5), .val (.int (0 : Int32)), .val (.int (own_maxI (2 : Int32) (p3 &&& (2147483647 : Int32)))), .val (.long (own_maxL ((own_maxI (2 : Int32) (p3 &&& (2147483647 : Int32))).toInt64) (q2 &&& (9223372036854775807 : Int64)))), .second, .val (.long (own_minL (q1 &&& (9223372036854775807 : Int64)) ((9223372036854775807 : Int64) - (own_maxL ((own_maxI (2 : Int32) (p3 &&& (2147483647 : Int32))).toInt64) (q2 &&& (9223372036854775807 : Int64)))))), .second, .val (.int ((p4 &&& (2147483647 : Int32)) - ((p4 &&& (2147483647 : Int32)) / (own_maxI (2 : Int32) (p3 &&& (2147483647 : Int32)))) * (own_maxI (2 : Int32) (p3 &&& (2147483647 : Int32))))), .val (.ref b9), .val (.int (1 : Int32))] [(.int (1 : Int32))])) _
    refine XS.goto X14.here hx rfl (pc0 := 162) (pc' := 166) rfl (hb hby at_162) (by decide) (by decide) ?_
    show Steps p.tables e below (T14.setTop (mkF m 166 #[.val (.long q1), .second, .val (.long q2), .second, .val (.int p3), .val (.int p4), .val (.int p5), .val (.int (0 : Int32)), .val (.int (own_maxI (2 : Int32) (p3 &&& (2147483647 : Int32)))), .val (.long (own_maxL ((own_maxI (2 : Int32) (p3 &&& (2147483647 : Int32))).toInt64) (q2 &&& (9223372036854775807 : Int64)))), .second, .val (.long (own_minL (q1 &&& (9223372036854775807 : Int64)) ((9223372036854775807 : Int64) - (own_maxL ((own_maxI (2 : Int32) (p3 &&& (2147483647 : Int32))).toInt64) (q2 &&& (9223372036854775807 : Int64)))))), .second, .val (.int ((p4 &&& (2147483647 : Int32)) - ((p4 &&& (2147483647 : Int32)) / (own_maxI (2 : Int32) (p3 &&& (2147483647 : Int32)))) * (own_maxI (2 : Int32) (p3 &&& (2147483647 : Int32))))), .val (.ref b9), .val (.int (1 : Int32))] [(.int (1 : Int32))])) _
    refine XS.istore X14.here hx rfl (hb hby at_166) rfl (l' := #[.val (.long q1), .second, .val (.long q2), .second, .val (.int p3), .val (.int p4), .val (.int p5), .val (.int (0 : Int32)), .val (.int (own_maxI (2 : Int32) (p3 &&& (2147483647 : Int32)))), .val (.long (own_maxL ((own_maxI (2 : Int32) (p3 &&& (2147483647 : Int32))).toInt64) (q2 &&& (9223372036854775807 : Int64)))), .second, .val (.long (own_minL (q1 &&& (9223372036854775807 : Int64)) ((9223372036854775807 : Int64) - (own_maxL ((own_maxI (2 : Int32) (p3 &&& (2147483647 : Int32))).toInt64) (q2 &&& (9223372036854775807 : Int64)))))), .second, .val (.int ((p4 &&& (2147483647 : Int32)) - ((p4 &&& (2147483647 : Int32)) / (own_maxI (2 : Int32) (p3 &&& (2147483647 : Int32)))) * (own_maxI (2 : Int32) (p3 &&& (2147483647 : Int32))))), .val (.ref b9), .val (.int (1 : Int32))]) rfl ?_
    show Steps p.tables e below (T14.setTop (mkF m 168 #[.val (.long q1), .second, .val (.long q2), .second, .val (.int p3), .val (.int p4), .val (.int p5), .val (.int (0 : Int32)), .val (.int (own_maxI (2 : Int32) (p3 &&& (2147483647 : Int32)))), .val (.long (own_maxL ((own_maxI (2 : Int32) (p3 &&& (2147483647 : Int32))).toInt64) (q2 &&& (9223372036854775807 : Int64)))), .second, .val (.long (own_minL (q1 &&& (9223372036854775807 : Int64)) ((9223372036854775807 : Int64) - (own_maxL ((own_maxI (2 : Int32) (p3 &&& (2147483647 : Int32))).toInt64) (q2 &&& (9223372036854775807 : Int64)))))), .second, .val (.int ((p4 &&& (2147483647 : Int32)) - ((p4 &&& (2147483647 : Int32)) / (own_maxI (2 : Int32) (p3 &&& (2147483647 : Int32)))) * (own_maxI (2 : Int32) (p3 &&& (2147483647 : Int32))))), .val (.ref b9), .val (.int (1 : Int32))] [])) _
    refine XS.iload X14.here hx rfl (hb hby at_168) rfl ?_
    show Steps p.tables e below (T14.setTop (mkF m 170 #[.val (.long q1), .second, .val (.long q2), .second, .val (.int p3), .val (.int p4), .val (.int p5), .val (.int (0 : Int32)), .val (.int (own_maxI (2 : Int32) (p3 &&& (2147483647 : Int32)))), .val (.long (own_maxL ((own_maxI (2 : Int32) (p3 &&& (2147483647 : Int32))).toInt64) (q2 &&& (9223372036854775807 : Int64)))), .second, .val (.long (own_minL (q1 &&& (9223372036854775807 : Int64)) ((9223372036854775807 : Int64) - (own_maxL ((own_maxI (2 : Int32) (p3 &&& (2147483647 : Int32))).toInt64) (q2 &&& (9223372036854775807 : Int64)))))), .second, .val (.int ((p4 &&& (2147483647 : Int32)) - ((p4 &&& (2147483647 : Int32)) / (own_maxI (2 : Int32) (p3 &&& (2147483647 : Int32)))) * (own_maxI (2 : Int32) (p3 &&& (2147483647 : Int32))))), .val (.ref b9), .val (.int (1 : Int32))] [(.int (1 : Int32))])) _
    refine XS.ifNo X14.here hx rfl (hb hby at_170) rfl ((if0 _ _).trans (feq hc170).1) ?_
    show Steps p.tables e below (T14.setTop (mkF m 173 #[.val (.long q1), .second, .val (.long q2), .second, .val (.int p3), .val (.int p4), .val (.int p5), .val (.int (0 : Int32)), .val (.int (own_maxI (2 : Int32) (p3 &&& (2147483647 : Int32)))), .val (.long (own_maxL ((own_maxI (2 : Int32) (p3 &&& (2147483647 : Int32))).toInt64) (q2 &&& (9223372036854775807 : Int64)))), .second, .val (.long (own_minL (q1 &&& (9223372036854775807 : Int64)) ((9223372036854775807 : Int64) - (own_maxL ((own_maxI (2 : Int32) (p3 &&& (2147483647 : Int32))).toInt64) (q2 &&& (9223372036854775807 : Int64)))))), .second, .val (.int ((p4 &&& (2147483647 : Int32)) - ((p4 &&& (2147483647 : Int32)) / (own_maxI (2 : Int32) (p3 &&& (2147483647 : Int32)))) * (own_maxI (2 : Int32) (p3 &&& (2147483647 : Int32))))), .val (.ref b9), .val (.int (1 : Int32))] [])) _
    refine XS.aload X14.here hx rfl (hb hby at_173) rfl rfl ?_
    show Steps p.tables e below (T14.setTop (mkF m 175 #[.val (.long q1), .second, .val (.long q2), .second, .val (.int p3), .val (.int p4), .val (.int p5), .val (.int (0 : Int32)), .val (.int (own_maxI (2 : Int32) (p3 &&& (2147483647 : Int32)))), .val (.long (own_maxL ((own_maxI (2 : Int32) (p3 &&& (2147483647 : Int32))).toInt64) (q2 &&& (9223372036854775807 : Int64)))), .second, .val (.long (own_minL (q1 &&& (9223372036854775807 : Int64)) ((9223372036854775807 : Int64) - (own_maxL ((own_maxI (2 : Int32) (p3 &&& (2147483647 : Int32))).toInt64) (q2 &&& (9223372036854775807 : Int64)))))), .second, .val (.int ((p4 &&& (2147483647 : Int32)) - ((p4 &&& (2147483647 : Int32)) / (own_maxI (2 : Int32) (p3 &&& (2147483647 : Int32)))) * (own_maxI (2 : Int32) (p3 &&& (2147483647 : Int32))))), .val (.ref b9), .val (.int (1 : Int32))] [(.ref b9)])) _
    refine XS.iload X14.here hx rfl (hb hby at_175) rfl ?_
    show Steps p.tables e below (T14.setTop (mkF m 177 #[.val (.long q1), .second, .val (.long q2), .second, .val (.int p3), .val (.int p4), .val (.int p5), .val (.int (0 : Int32)), .val (.int (own_maxI (2 : Int32) (p3 &&& (2147483647 : Int32)))), .val (.long (own_maxL ((own_maxI (2 : Int32) (p3 &&& (2147483647 : Int32))).toInt64) (q2 &&& (9223372036854775807 : Int64)))), .second, .val (.long (own_minL (q1 &&& (9223372036854775807 : Int64)) ((9223372036854775807 : Int64) - (own_maxL ((own_maxI (2 : Int32) (p3 &&& (2147483647 : Int32))).toInt64) (q2 &&& (9223372036854775807 : Int64)))))), .second, .val (.int ((p4 &&& (2147483647 : Int32)) - ((p4 &&& (2147483647 : Int32)) / (own_maxI (2 : Int32) (p3 &&& (2147483647 : Int32)))) * (own_maxI (2 : Int32) (p3 &&& (2147483647 : Int32))))), .val (.ref b9), .val (.int (1 : Int32))] [(.int (own_maxI (2 : Int32) (p3 &&& (2147483647 : Int32)))), (.ref b9)])) _
    refine XS.iconst X14.here hx rfl (hb hby at_177) ?_
    show Steps p.tables e below (T14.setTop (mkF m 178 #[.val (.long q1), .second, .val (.long q2), .second, .val (.int p3), .val (.int p4), .val (.int p5), .val (.int (0 : Int32)), .val (.int (own_maxI (2 : Int32) (p3 &&& (2147483647 : Int32)))), .val (.long (own_maxL ((own_maxI (2 : Int32) (p3 &&& (2147483647 : Int32))).toInt64) (q2 &&& (9223372036854775807 : Int64)))), .second, .val (.long (own_minL (q1 &&& (9223372036854775807 : Int64)) ((9223372036854775807 : Int64) - (own_maxL ((own_maxI (2 : Int32) (p3 &&& (2147483647 : Int32))).toInt64) (q2 &&& (9223372036854775807 : Int64)))))), .second, .val (.int ((p4 &&& (2147483647 : Int32)) - ((p4 &&& (2147483647 : Int32)) / (own_maxI (2 : Int32) (p3 &&& (2147483647 : Int32)))) * (own_maxI (2 : Int32) (p3 &&& (2147483647 : Int32))))), .val (.ref b9), .val (.int (1 : Int32))] [(.int (1 : Int32)), (.int (own_maxI (2 : Int32) (p3 &&& (2147483647 : Int32)))), (.ref b9)])) _
    refine XS.isub X14.here hx rfl (hb hby at_178) rfl ?_
    show Steps p.tables e below (T14.setTop (mkF m 179 #[.val (.long q1), .second, .val (.long q2), .second, .val (.int p3), .val (.int p4), .val (.int p5), .val (.int (0 : Int32)), .val (.int (own_maxI (2 : Int32) (p3 &&& (2147483647 : Int32)))), .val (.long (own_maxL ((own_maxI (2 : Int32) (p3 &&& (2147483647 : Int32))).toInt64) (q2 &&& (9223372036854775807 : Int64)))), .second, .val (.long (own_minL (q1 &&& (9223372036854775807 : Int64)) ((9223372036854775807 : Int64) - (own_maxL ((own_maxI (2 : Int32) (p3 &&& (2147483647 : Int32))).toInt64) (q2 &&& (9223372036854775807 : Int64)))))), .second, .val (.int ((p4 &&& (2147483647 : Int32)) - ((p4 &&& (2147483647 : Int32)) / (own_maxI (2 : Int32) (p3 &&& (2147483647 : Int32)))) * (own_maxI (2 : Int32) (p3 &&& (2147483647 : Int32))))), .val (.ref b9), .val (.int (1 : Int32))] [(.int ((own_maxI (2 : Int32) (p3 &&& (2147483647 : Int32))) - (1 : Int32))), (.ref b9)])) _
    refine st15.trans ?_
    show Steps p.tables e below (T15.setTop (mkF m 182 #[.val (.long q1), .second, .val (.long q2), .second, .val (.int p3), .val (.int p4), .val (.int p5), .val (.int (0 : Int32)), .val (.int (own_maxI (2 : Int32) (p3 &&& (2147483647 : Int32)))), .val (.long (own_maxL ((own_maxI (2 : Int32) (p3 &&& (2147483647 : Int32))).toInt64) (q2 &&& (9223372036854775807 : Int64)))), .second, .val (.long (own_minL (q1 &&& (9223372036854775807 : Int64)) ((9223372036854775807 : Int64) - (own_maxL ((own_maxI (2 : Int32) (p3 &&& (2147483647 : Int32))).toInt64) (q2 &&& (9223372036854775807 : Int64)))))), .second, .val (.int ((p4 &&& (2147483647 : Int32)) - ((p4 &&& (2147483647 : Int32)) / (own_maxI (2 : Int32) (p3 &&& (2147483647 : Int32)))) * (own_maxI (2 : Int32) (p3 &&& (2147483647 : Int32))))), .val (.ref b9), .val (.int (1 : Int32))] [(.long (own_bs (own_maxL ((own_maxI (2 : Int32) (p3 &&& (2147483647 : Int32))).toInt64) (q2 &&& (9223372036854775807 : Int64))) (own_maxI (2 : Int32) (p3 &&& (2147483647 : Int32))) ((own_maxI (2 : Int32) (p3 &&& (2147483647 : Int32))) - (1 : Int32))))])) _
    refine XS.lload X15.here hx rfl (hb hby at_182) rfl ?_
    show Steps p.tables e below (T15.setTop (mkF m 184 #[.val (.long q1), .second, .val (.long q2), .second, .val (.int p3), .val (.int p4), .val (.int p5), .val (.int (0 : Int32)), .val (.int (own_maxI (2 : Int32) (p3 &&& (2147483647 : Int32)))), .val (.long (own_maxL ((own_maxI (2 : Int32) (p3 &&& (2147483647 : Int32))).toInt64) (q2 &&& (9223372036854775807 : Int64)))), .second, .val (.long (own_minL (q1 &&& (9223372036854775807 : Int64)) ((9223372036854775807 : Int64) - (own_maxL ((own_maxI (2 : Int32) (p3 &&& (2147483647 : Int32))).toInt64) (q2 &&& (9223372036854775807 : Int64)))))), .second, .val (.int ((p4 &&& (2147483647 : Int32)) - ((p4 &&& (2147483647 : Int32)) / (own_maxI (2 : Int32) (p3 &&& (2147483647 : Int32)))) * (own_maxI (2 : Int32) (p3 &&& (2147483647 : Int32))))), .val (.ref b9), .val (.int (1 : Int32))] [(.long (own_maxL ((own_maxI (2 : Int32) (p3 &&& (2147483647 : Int32))).toInt64) (q2 &&& (9223372036854775807 : Int64)))), (.long (own_bs (own_maxL ((own_maxI (2 : Int32) (p3 &&& (2147483647 : Int32))).toInt64) (q2 &&& (9223372036854775807 : Int64))) (own_maxI (2 : Int32) (p3 &&& (2147483647 : Int32))) ((own_maxI (2 : Int32) (p3 &&& (2147483647 : Int32))) - (1 : Int32))))])) _
    refine XS.iload X15.here hx rfl (hb hby at_184) rfl ?_
    show Steps p.tables e below (T15.setTop (mkF m 186 #[.val (.long q1), .second, .val (.long q2), .second, .val (.int p3), .val (.int p4), .val (.int p5), .val (.int (0 : Int32)), .val (.int (own_maxI (2 : Int32) (p3 &&& (2147483647 : Int32)))), .val (.long (own_maxL ((own_maxI (2 : Int32) (p3 &&& (2147483647 : Int32))).toInt64) (q2 &&& (9223372036854775807 : Int64)))), .second, .val (.long (own_minL (q1 &&& (9223372036854775807 : Int64)) ((9223372036854775807 : Int64) - (own_maxL ((own_maxI (2 : Int32) (p3 &&& (2147483647 : Int32))).toInt64) (q2 &&& (9223372036854775807 : Int64)))))), .second, .val (.int ((p4 &&& (2147483647 : Int32)) - ((p4 &&& (2147483647 : Int32)) / (own_maxI (2 : Int32) (p3 &&& (2147483647 : Int32)))) * (own_maxI (2 : Int32) (p3 &&& (2147483647 : Int32))))), .val (.ref b9), .val (.int (1 : Int32))] [(.int (own_maxI (2 : Int32) (p3 &&& (2147483647 : Int32)))), (.long (own_maxL ((own_maxI (2 : Int32) (p3 &&& (2147483647 : Int32))).toInt64) (q2 &&& (9223372036854775807 : Int64)))), (.long (own_bs (own_maxL ((own_maxI (2 : Int32) (p3 &&& (2147483647 : Int32))).toInt64) (q2 &&& (9223372036854775807 : Int64))) (own_maxI (2 : Int32) (p3 &&& (2147483647 : Int32))) ((own_maxI (2 : Int32) (p3 &&& (2147483647 : Int32))) - (1 : Int32))))])) _
    refine XS.iload X15.here hx rfl (hb hby at_186) rfl ?_
    show Steps p.tables e below (T15.setTop (mkF m 188 #[.val (.long q1), .second, .val (.long q2), .second, .val (.int p3), .val (.int p4), .val (.int p5), .val (.int (0 : Int32)), .val (.int (own_maxI (2 : Int32) (p3 &&& (2147483647 : Int32)))), .val (.long (own_maxL ((own_maxI (2 : Int32) (p3 &&& (2147483647 : Int32))).toInt64) (q2 &&& (9223372036854775807 : Int64)))), .second, .val (.long (own_minL (q1 &&& (9223372036854775807 : Int64)) ((9223372036854775807 : Int64) - (own_maxL ((own_maxI (2 : Int32) (p3 &&& (2147483647 : Int32))).toInt64) (q2 &&& (9223372036854775807 : Int64)))))), .second, .val (.int ((p4 &&& (2147483647 : Int32)) - ((p4 &&& (2147483647 : Int32)) / (own_maxI (2 : Int32) (p3 &&& (2147483647 : Int32)))) * (own_maxI (2 : Int32) (p3 &&& (2147483647 : Int32))))), .val (.ref b9), .val (.int (1 : Int32))] [(.int (own_maxI (2 : Int32) (p3 &&& (2147483647 : Int32)))), (.int (own_maxI (2 : Int32) (p3 &&& (2147483647 : Int32)))), (.long (own_maxL ((own_maxI (2 : Int32) (p3 &&& (2147483647 : Int32))).toInt64) (q2 &&& (9223372036854775807 : Int64)))), (.long (own_bs (own_maxL ((own_maxI (2 : Int32) (p3 &&& (2147483647 : Int32))).toInt64) (q2 &&& (9223372036854775807 : Int64))) (own_maxI (2 : Int32) (p3 &&& (2147483647 : Int32))) ((own_maxI (2 : Int32) (p3 &&& (2147483647 : Int32))) - (1 : Int32))))])) _
    refine XS.iconst X15.here hx rfl (hb hby at_188) ?_
    show Steps p.tables e below (T15.setTop (mkF m 189 #[.val (.long q1), .second, .val (.long q2), .second, .val (.int p3), .val (.int p4), .val (.int p5), .val (.int (0 : Int32)), .val (.int (own_maxI (2 : Int32) (p3 &&& (2147483647 : Int32)))), .val (.long (own_maxL ((own_maxI (2 : Int32) (p3 &&& (2147483647 : Int32))).toInt64) (q2 &&& (9223372036854775807 : Int64)))), .second, .val (.long (own_minL (q1 &&& (9223372036854775807 : Int64)) ((9223372036854775807 : Int64) - (own_maxL ((own_maxI (2 : Int32) (p3 &&& (2147483647 : Int32))).toInt64) (q2 &&& (9223372036854775807 : Int64)))))), .second, .val (.int ((p4 &&& (2147483647 : Int32)) - ((p4 &&& (2147483647 : Int32)) / (own_maxI (2 : Int32) (p3 &&& (2147483647 : Int32)))) * (own_maxI (2 : Int32) (p3 &&& (2147483647 : Int32))))), .val (.ref b9), .val (.int (1 : Int32))] [(.int (1 : Int32)), (.int (own_maxI (2 : Int32) (p3 &&& (2147483647 : Int32)))), (.int (own_maxI (2 : Int32) (p3 &&& (2147483647 : Int32)))), (.long (own_maxL ((own_maxI (2 : Int32) (p3 &&& (2147483647 : Int32))).toInt64) (q2 &&& (9223372036854775807 : Int64)))), (.long (own_bs (own_maxL ((own_maxI (2 : Int32) (p3 &&& (2147483647 : Int32))).toInt64) (q2 &&& (9223372036854775807 : Int64))) (own_maxI (2 : Int32) (p3 &&& (2147483647 : Int32))) ((own_maxI (2 : Int32) (p3 &&& (2147483647 : Int32))) - (1 : Int32))))])) _
    refine XS.isub X15.here hx rfl (hb hby at_189) rfl ?_
    show Steps p.tables e below (T15.setTop (mkF m 190 #[.val (.long q1), .second, .val (.long q2), .second, .val (.int p3), .val (.int p4), .val (.int p5), .val (.int (0 : Int32)), .val (.int (own_maxI (2 : Int32) (p3 &&& (2147483647 : Int32)))), .val (.long (own_maxL ((own_maxI (2 : Int32) (p3 &&& (2147483647 : Int32))).toInt64) (q2 &&& (9223372036854775807 : Int64)))), .second, .val (.long (own_minL (q1 &&& (9223372036854775807 : Int64)) ((9223372036854775807 : Int64) - (own_maxL ((own_maxI (2 : Int32) (p3 &&& (2147483647 : Int32))).toInt64) (q2 &&& (9223372036854775807 : Int64)))))), .second, .val (.int ((p4 &&& (2147483647 : Int32)) - ((p4 &&& (2147483647 : Int32)) / (own_maxI (2 : Int32) (p3 &&& (2147483647 : Int32)))) * (own_maxI (2 : Int32) (p3 &&& (2147483647 : Int32))))), .val (.ref b9), .val (.int (1 : Int32))] [(.int ((own_maxI (2 : Int32) (p3 &&& (2147483647 : Int32))) - (1 : Int32))), (.int (own_maxI (2 : Int32) (p3 &&& (2147483647 : Int32)))), (.long (own_maxL ((own_maxI (2 : Int32) (p3 &&& (2147483647 : Int32))).toInt64) (q2 &&& (9223372036854775807 : Int64)))), (.long (own_bs (own_maxL ((own_maxI (2 : Int32) (p3 &&& (2147483647 : Int32))).toInt64) (q2 &&& (9223372036854775807 : Int64))) (own_maxI (2 : Int32) (p3 &&& (2147483647 : Int32))) ((own_maxI (2 : Int32) (p3 &&& (2147483647 : Int32))) - (1 : Int32))))])) _
    refine st16 _ ?_
    show Steps p.tables e below (T16.setTop (mkF m 193 #[.val (.long q1), .second, .val (.long q2), .second, .val (.int p3), .val (.int p4), .val (.int p5), .val (.int (0 : Int32)), .val (.int (own_maxI (2 : Int32) (p3 &&& (2147483647 : Int32)))), .val (.long (own_maxL ((own_maxI (2 : Int32) (p3 &&& (2147483647 : Int32))).toInt64) (q2 &&& (9223372036854775807 : Int64)))), .second, .val (.long (own_minL (q1 &&& (9223372036854775807 : Int64)) ((9223372036854775807 : Int64) - (own_maxL ((own_maxI (2 : Int32) (p3 &&& (2147483647 : Int32))).toInt64) (q2 &&& (9223372036854775807 : Int64)))))), .second, .val (.int ((p4 &&& (2147483647 : Int32)) - ((p4 &&& (2147483647 : Int32)) / (own_maxI (2 : Int32) (p3 &&& (2147483647 : Int32)))) * (own_maxI (2 : Int32) (p3 &&& (2147483647 : Int32))))), .val (.ref b9), .val (.int (1 : Int32))] [(.long (own_exp (own_maxL ((own_maxI (2 : Int32) (p3 &&& (2147483647 : Int32))).toInt64) (q2 &&& (9223372036854775807 : Int64))) (own_maxI (2 : Int32) (p3 &&& (2147483647 : Int32))) ((own_maxI (2 : Int32) (p3 &&& (2147483647 : Int32))) - (1 : Int32)))), (.long (own_bs (own_maxL ((own_maxI (2 : Int32) (p3 &&& (2147483647 : Int32))).toInt64) (q2 &&& (9223372036854775807 : Int64))) (own_maxI (2 : Int32) (p3 &&& (2147483647 : Int32))) ((own_maxI (2 : Int32) (p3 &&& (2147483647 : Int32))) - (1 : Int32))))])) _
    refine XS.lcmp X16.here hx rfl (hb hby at_193) rfl ?_
    show Steps p.tables e below (T16.setTop (mkF m 194 #[.val (.long q1), .second, .val (.long q2), .second, .val (.int p3), .val (.int p4), .val (.int p5), .val (.int (0 : Int32)), .val (.int (own_maxI (2 : Int32) (p3 &&& (2147483647 : Int32)))), .val (.long (own_maxL ((own_maxI (2 : Int32) (p3 &&& (2147483647 : Int32))).toInt64) (q2 &&& (9223372036854775807 : Int64)))), .second, .val (.long (own_minL (q1 &&& (9223372036854775807 : Int64)) ((9223372036854775807 : Int64) - (own_maxL ((own_maxI (2 : Int32) (p3 &&& (2147483647 : Int32))).toInt64) (q2 &&& (9223372036854775807 : Int64)))))), .second, .val (.int ((p4 &&& (2147483647 : Int32)) - ((p4 &&& (2147483647 : Int32)) / (own_maxI (2 : Int32) (p3 &&& (2147483647 : Int32)))) * (own_maxI (2 : Int32) (p3 &&& (2147483647 : Int32))))), .val (.ref b9), .val (.int (1 : Int32))] [(.int (lcmpW (own_bs (own_maxL ((own_maxI (2 : Int32) (p3 &&& (2147483647 : Int32))).toInt64) (q2 &&& (9223372036854775807 : Int64))) (own_maxI (2 : Int32) (p3 &&& (2147483647 : Int32))) ((own_maxI (2 : Int32) (p3 &&& (2147483647 : Int32))) - (1 : Int32))) (own_exp (own_maxL ((own_maxI (2 : Int32) (p3 &&& (2147483647 : Int32))).toInt64) (q2 &&& (9223372036854775807 : Int64))) (own_maxI (2 : Int32) (p3 &&& (2147483647 : Int32))) ((own_maxI (2 : Int32) (p3 &&& (2147483647 : Int32))) - (1 : Int32)))))])) _
    refine XS.ifNo X16.here hx rfl (hb hby at_194) rfl ((if0 _ _).trans (teq ((own_eq _ _ _ (own_nG p3) (own_cG _ q2 (own_nG p3)) (own_b1 _ (own_nG p3)).1 (own_b1 _ (own_nG p3)).2) : (lcmpW (own_bs (own_maxL ((own_maxI (2 : Int32) (p3 &&& (2147483647 : Int32))).toInt64) (q2 &&& (9223372036854775807 : Int64))) (own_maxI (2 : Int32) (p3 &&& (2147483647 : Int32))) ((own_maxI (2 : Int32) (p3 &&& (2147483647 : Int32))) - (1 : Int32))) (own_exp (own_maxL ((own_maxI (2 : Int32) (p3 &&& (2147483647 : Int32))).toInt64) (q2 &&& (9223372036854775807 : Int64))) (own_maxI (2 : Int32) (p3 &&& (2147483647 : Int32))) ((own_maxI (2 : Int32) (p3 &&& (2147483647 : Int32))) - (1 : Int32)))) = (0 : Int32))).2) ?_
    show Steps p.tables e below (T16.setTop (mkF m 197 #[.val (.long q1), .second, .val (.long q2), .second, .val (.int p3), .val (.int p4), .val (.int p5), .val (.int (0 : Int32)), .val (.int (own_maxI (2 : Int32) (p3 &&& (2147483647 : Int32)))), .val (.long (own_maxL ((own_maxI (2 : Int32) (p3 &&& (2147483647 : Int32))).toInt64) (q2 &&& (9223372036854775807 : Int64)))), .second, .val (.long (own_minL (q1 &&& (9223372036854775807 : Int64)) ((9223372036854775807 : Int64) - (own_maxL ((own_maxI (2 : Int32) (p3 &&& (2147483647 : Int32))).toInt64) (q2 &&& (9223372036854775807 : Int64)))))), .second, .val (.int ((p4 &&& (2147483647 : Int32)) - ((p4 &&& (2147483647 : Int32)) / (own_maxI (2 : Int32) (p3 &&& (2147483647 : Int32)))) * (own_maxI (2 : Int32) (p3 &&& (2147483647 : Int32))))), .val (.ref b9), .val (.int (1 : Int32))] [])) _
    refine XS.iconst X16.here hx rfl (hb hby at_197) ?_
    show Steps p.tables e below (T16.setTop (mkF m 198 #[.val (.long q1), .second, .val (.long q2), .second, .val (.int p3), .val (.int p4), .val (.int p5), .val (.int (0 : Int32)), .val (.int (own_maxI (2 : Int32) (p3 &&& (2147483647 : Int32)))), .val (.long (own_maxL ((own_maxI (2 : Int32) (p3 &&& (2147483647 : Int32))).toInt64) (q2 &&& (9223372036854775807 : Int64)))), .second, .val (.long (own_minL (q1 &&& (9223372036854775807 : Int64)) ((9223372036854775807 : Int64) - (own_maxL ((own_maxI (2 : Int32) (p3 &&& (2147483647 : Int32))).toInt64) (q2 &&& (9223372036854775807 : Int64)))))), .second, .val (.int ((p4 &&& (2147483647 : Int32)) - ((p4 &&& (2147483647 : Int32)) / (own_maxI (2 : Int32) (p3 &&& (2147483647 : Int32)))) * (own_maxI (2 : Int32) (p3 &&& (2147483647 : Int32))))), .val (.ref b9), .val (.int (1 : Int32))] [(.int (1 : Int32))])) _
    refine XS.goto X16.here hx rfl (pc0 := 198) (pc' := 202) rfl (hb hby at_198) (by decide) (by decide) ?_
    show Steps p.tables e below (T16.setTop (mkF m 202 #[.val (.long q1), .second, .val (.long q2), .second, .val (.int p3), .val (.int p4), .val (.int p5), .val (.int (0 : Int32)), .val (.int (own_maxI (2 : Int32) (p3 &&& (2147483647 : Int32)))), .val (.long (own_maxL ((own_maxI (2 : Int32) (p3 &&& (2147483647 : Int32))).toInt64) (q2 &&& (9223372036854775807 : Int64)))), .second, .val (.long (own_minL (q1 &&& (9223372036854775807 : Int64)) ((9223372036854775807 : Int64) - (own_maxL ((own_maxI (2 : Int32) (p3 &&& (2147483647 : Int32))).toInt64) (q2 &&& (9223372036854775807 : Int64)))))), .second, .val (.int ((p4 &&& (2147483647 : Int32)) - ((p4 &&& (2147483647 : Int32)) / (own_maxI (2 : Int32) (p3 &&& (2147483647 : Int32)))) * (own_maxI (2 : Int32) (p3 &&& (2147483647 : Int32))))), .val (.ref b9), .val (.int (1 : Int32))] [(.int (1 : Int32))])) _
    refine XS.istore X16.here hx rfl (hb hby at_202) rfl (l' := #[.val (.long q1), .second, .val (.long q2), .second, .val (.int p3), .val (.int p4), .val (.int p5), .val (.int (0 : Int32)), .val (.int (own_maxI (2 : Int32) (p3 &&& (2147483647 : Int32)))), .val (.long (own_maxL ((own_maxI (2 : Int32) (p3 &&& (2147483647 : Int32))).toInt64) (q2 &&& (9223372036854775807 : Int64)))), .second, .val (.long (own_minL (q1 &&& (9223372036854775807 : Int64)) ((9223372036854775807 : Int64) - (own_maxL ((own_maxI (2 : Int32) (p3 &&& (2147483647 : Int32))).toInt64) (q2 &&& (9223372036854775807 : Int64)))))), .second, .val (.int ((p4 &&& (2147483647 : Int32)) - ((p4 &&& (2147483647 : Int32)) / (own_maxI (2 : Int32) (p3 &&& (2147483647 : Int32)))) * (own_maxI (2 : Int32) (p3 &&& (2147483647 : Int32))))), .val (.ref b9), .val (.int (1 : Int32))]) rfl ?_
    show Steps p.tables e below (T16.setTop (mkF m 204 #[.val (.long q1), .second, .val (.long q2), .second, .val (.int p3), .val (.int p4), .val (.int p5), .val (.int (0 : Int32)), .val (.int (own_maxI (2 : Int32) (p3 &&& (2147483647 : Int32)))), .val (.long (own_maxL ((own_maxI (2 : Int32) (p3 &&& (2147483647 : Int32))).toInt64) (q2 &&& (9223372036854775807 : Int64)))), .second, .val (.long (own_minL (q1 &&& (9223372036854775807 : Int64)) ((9223372036854775807 : Int64) - (own_maxL ((own_maxI (2 : Int32) (p3 &&& (2147483647 : Int32))).toInt64) (q2 &&& (9223372036854775807 : Int64)))))), .second, .val (.int ((p4 &&& (2147483647 : Int32)) - ((p4 &&& (2147483647 : Int32)) / (own_maxI (2 : Int32) (p3 &&& (2147483647 : Int32)))) * (own_maxI (2 : Int32) (p3 &&& (2147483647 : Int32))))), .val (.ref b9), .val (.int (1 : Int32))] [])) _
    refine XS.iload X16.here hx rfl (hb hby at_204) rfl ?_
    show Steps p.tables e below (T16.setTop (mkF m 206 #[.val (.long q1), .second, .val (.long q2), .second, .val (.int p3), .val (.int p4), .val (.int p5), .val (.int (0 : Int32)), .val (.int (own_maxI (2 : Int32) (p3 &&& (2147483647 : Int32)))), .val (.long (own_maxL ((own_maxI (2 : Int32) (p3 &&& (2147483647 : Int32))).toInt64) (q2 &&& (9223372036854775807 : Int64)))), .second, .val (.long (own_minL (q1 &&& (9223372036854775807 : Int64)) ((9223372036854775807 : Int64) - (own_maxL ((own_maxI (2 : Int32) (p3 &&& (2147483647 : Int32))).toInt64) (q2 &&& (9223372036854775807 : Int64)))))), .second, .val (.int ((p4 &&& (2147483647 : Int32)) - ((p4 &&& (2147483647 : Int32)) / (own_maxI (2 : Int32) (p3 &&& (2147483647 : Int32)))) * (own_maxI (2 : Int32) (p3 &&& (2147483647 : Int32))))), .val (.ref b9), .val (.int (1 : Int32))] [(.int (1 : Int32))])) _
    exact retN X16 hx (t := .boolean) Bd.returns (by simp) (hb hby at_206) hr
  · show Q0 Z q1 q2 p3 p4 p5 h0 n0 _ T16.heap _
    exact ⟨rfl, N16⟩
theorem rm0 (l : Launch) (Z : State) (a0 : Array Value) (hw : ∀ d ∈ tables_1, d.before a0 Z = true) (ws : List Jvm.Cond) (q1 : Int64) (q2 : Int64) (p3 : Int32) (p4 : Int32) (p5 : Int32) (h0 : Heap) (n0 : Nat) (Z0 : n0 ≤ h0.size) :
    MetFree l x (head1 (Jvm.Cond.code x code maxLocals ret :: ws) room_1) (fun a U => a = #[(.long q1), (.long q2), (.int p3), (.int p4), (.int p5)] ∧ Z.Warmed39 U.vm ∧ U.heap = h0) (fun _ _ _ _ _ => True) (fun _ U o U' => ∃ v L, o = .returned v ∧ Q0 Z q1 q2 p3 p4 p5 h0 n0 v U'.heap L ∧ FrameEnd U o U' L room_1.cells room_1.slots) := by
  by_cases hcase : (p5 &&& (1 : Int32)) = (0 : Int32)
  · exact rm0G l Z a0 hw ws q1 q2 p3 p4 p5 h0 n0 Z0 hcase (own_nz _ (own_nG p3)) (by decide) (by decide)
  · exact rm0S l Z a0 hw ws q1 q2 p3 p4 p5 h0 n0 Z0 hcase (by decide) (by decide) (own_nz _ (own_nS p3).1) (by decide) (by decide)
set_option maxRecDepth 65536 in
set_option maxHeartbeats 40000000 in
theorem comes_1 {Post : Tables → Env → Array Value → State → Outcome → State → Prop} (hpost : ∀ tb e args s v u, (limb_1_1.after args s (.returned v) u = true ∧ limb_1_2.after args s (.returned v) u = true ∧ True) → FrameEnd s (.returned v) u (Jvm.fieldLocs frame_1_writes args s ++ Jvm.arrayLocs frame_1_arrays args s ++ Jvm.staticLocs frame_1_statics s) 16 128 → Post tb e args s (.returned v) u) :
    ArmFor flags0 classFile x code maxLocals ret World_1 tables_1 room_1 Calls_1 rest_1 Pre_1 Post := by
  intro l hfl _ _ p e ha hc hk s m args below hf hA hF happ hP
  obtain ⟨hcalls, hrest, hpre⟩ := hP
  obtain ⟨-, -, -, hnamed, -, -, -, hat⟩ := (Spec.applies_iff hf).mp happ
  obtain ⟨hg, hn⟩ := and_e (Cond.before_iff.mp (show (Jvm.Cond.and given_1 narrow_1).before args s = true from hpre))
  obtain ⟨g17, g18⟩ := and_e hg
  obtain ⟨g19, g20⟩ := and_e g18
  obtain ⟨g21, g22⟩ := and_e g20
  obtain ⟨g23, g24⟩ := and_e g22
  obtain ⟨g25, g26⟩ := and_e g24
  obtain ⟨w0, w1, w2, w3, w4, rfl⟩ : ∃ w0 w1 w2 w3 w4 : Value, args = #[w0, w1, w2, w3, w4] := by
    have hs : args.size = 5 := by simpa [Cond.value, given_1] using g17
    obtain ⟨L⟩ := args
    match L, hs with
    | [w0, w1, w2, w3, w4], _ => exact ⟨w0, w1, w2, w3, w4, rfl⟩
  have hw := fun d (hd : d ∈ tables_1) => atoms_spec (ws := Jvm.Cond.code x code maxLocals ret :: tables_1) hat d (List.mem_cons_of_mem _ hd)
  have hfit : Fit s := fun {y c} hc i hi => by
    obtain ⟨ha, rfl⟩ := Array.getElem?_eq_some_iff.mp hc
    have q := List.all_eq_true.mp ((Array.all_eq_true_iff_forall_mem.mp hF) _ (Array.getElem_mem ha)) i (List.mem_range.mpr hi)
    simpa [Array.getElem?_eq_getElem hi] using q
  obtain ⟨i0, ei0⟩ := isL_v g19
  obtain rfl : w0 = (.long i0) := Option.some.inj ei0
  obtain ⟨i1, ei1⟩ := isL_v g21
  obtain rfl : w1 = (.long i1) := Option.some.inj ei1
  obtain ⟨i2, ei2⟩ := is_v g23
  obtain rfl : w2 = (.int i2) := Option.some.inj ei2
  obtain ⟨i3, ei3⟩ := is_v g25
  obtain rfl : w3 = (.int i3) := Option.some.inj ei3
  obtain ⟨i4, ei4⟩ := is_v g26
  obtain rfl : w4 = (.int i4) := Option.some.inj ei4
  obtain ⟨n, o, h1, h2, h3, _, L, rfl, ⟨rfl, N⟩, hq⟩ := rm0 l s _ hw tables_1 i0 i1 i2 i3 i4 s.heap s.heap.size (Nat.le_refl _) p e ha hc hk s m _ below hf ((Spec.applies_iff_loose hf).mp happ).1 ⟨rfl, State.Warmed39.refl s, rfl⟩ trivial
  refine ⟨n, _, h1, h2, h3, hpost _ _ _ _ _ _ ⟨Cond.after_iff.mpr rfl, Cond.after_iff.mpr (eq_i res_at (Term.int_eval (1)) rfl), trivial⟩ ⟨hq.1, hq.2.1, (hq.2.2.sift fun y hy => Or.inr (N y hy)).mono (by decide) (by decide)⟩⟩
theorem main_1_1 : Claimed_1_1 := comes_1 fun _ _ _ _ _ _ h hF => ⟨h.1, hF⟩
theorem main_1_2 : Claimed_1_2 := comes_1 fun _ _ _ _ _ _ h hF => ⟨h.2.1, hF⟩
end Jvm.Pilot.@@N@@
namespace Jvm.Pilot.@@N@@
open Jvm Jvm.ClassFile Sem Op Lib Jvm.Free Jvm.Stand Jvm.Pilot.@@N@@.Jvm.D
/-! MADE BY PROGRAM (witnessworld.py) out of the Statement's table words and the real class files: 11 classes; the members and pool entries that the words name. The judged class is class 1, her method 2. -/
namespace start1
open Jvm.ClassFile
def u (s : String) : CpInfo := .utf8 (stringToUtf16 s)
/-- a pool by its gaps: so many unusable entries, then the entry; so many at the end -/
def gap : Nat → List CpInfo → List CpInfo
  | 0, r => r
  | n + 1, r => .unusable :: gap n r
def poolList (es : List (Nat × CpInfo)) (last : Nat) : List CpInfo := es.foldr (fun e r => gap e.1 (e.2 :: r)) (gap last [])
def pool (es : List (Nat × CpInfo)) (last : Nat) : Array CpInfo := ⟨poolList es last⟩
def fileOf (pool : Array CpInfo) (this : Nat) (attrs : Array Attribute := #[]) (ms : Array MethodInfo := #[]) (fl : Nat := 33) (sup : Nat := 0) (ifs : Array Nat := #[]) (fds : Array FieldInfo := #[]) : ClassFile where
  minorVersion := 0
  majorVersion := 65
  constantPool := pool
  accessFlags := fl
  thisClass := this
  superClass := sup
  interfaces := ifs
  fields := fds
  methods := ms
  attributes := attrs
def plain (name : String) (sup : Option ClassId) : Class where
  name := name
  kind := .ordinary
  loader := none
  accessFlags := 33
  super := sup
  interfaces := #[]
  cf := none
  fields := #[]
  methods := #[]
  instanceTypes := #[]
  staticTypes := #[]
  resolved := #[]
  callSites := []
  init := .initialized
  statics := none
  mirror := none

def pool0 : Array CpInfo := pool [(5, u "<init>"), (0, u "()V"), (1, .class_ 10), (1, u "java/lang/Object")] 113

def k0c0 : Code := { maxStack := 0, maxLocals := 1, code := object_method_1_code, exceptionTable := #[], attributes := #[] }
def k0m0 : Method := { name := "<init>", desc := "()V", sig := { parameters := [], returnType := none }, accessFlags := 1, code := some k0c0 }
/-- java/lang/Object -/
def k0 : Class := { plain "java/lang/Object" none with
  accessFlags := 33
  interfaces := #[]
  cf := some (fileOf pool0 8 #[] #[{ accessFlags := 1, nameIndex := 5, descriptorIndex := 6, attributes := #[] }] 33 0 #[] #[])
  fields := #[]
  methods := #[k0m0]
  instanceTypes := #[]
  staticTypes := #[]
  resolved := Array.replicate 124 none
  statics := none }

def pool1 : Array CpInfo := pool [(2, .class_ 4), (1, u "java/lang/Object"), (0, u "<init>"), (0, u "()V"), (0, .integer 2147483647), (0, .methodref 9 10), (0, .class_ 11), (0, .nameAndType 12 13), (0, u "java/lang/Math"), (0, u "max"), (0, u "(II)I"), (0, .long 63), (3, .long 9223372036854775807), (1, .methodref 9 21), (0, .nameAndType 12 22), (0, u "(JJ)J"), (0, .methodref 9 24), (0, .nameAndType 25 22), (0, u "min"), (0, .class_ 27), (0, u "com/example/lambdagate/lambdagate/RunLength"), (0, .methodref 26 29), (0, .nameAndType 5 30), (0, u "(JJI)V"), (0, .methodref 26 32), (0, .nameAndType 33 34), (0, u "batchSize"), (0, u "(I)J"), (0, .methodref 36 37), (0, .class_ 38), (0, .nameAndType 39 40), (0, u "com/example/lambdagate/lambdagate/RunLengthBatchSizePinLaw"), (0, u "expected"), (0, u "(JII)J"), (2, u "law"), (0, u "(JJIII)Z")] 3

def k1m0 : Method := { name := "<init>", desc := "()V", sig := { parameters := [], returnType := none }, accessFlags := 1, code := none }
def k1c1 : Code := { maxStack := 4, maxLocals := 4, code := method_2_code, exceptionTable := #[], attributes := #[] }
def k1m1 : Method := { name := "expected", desc := "(JII)J", sig := { parameters := [.long, .int, .int], returnType := some .long }, accessFlags := 10, code := some k1c1 }
def k1c2 : Code := { maxStack := 7, maxLocals := 16, code := code, exceptionTable := #[], attributes := #[] }
def k1m2 : Method := { name := "law", desc := "(JJIII)Z", sig := { parameters := [.long, .long, .int, .int, .int], returnType := some .boolean }, accessFlags := 9, code := some k1c2 }
/-- com/example/lambdagate/lambdagate/RunLengthBatchSizePinLaw -/
def k1 : Class := { plain "com/example/lambdagate/lambdagate/RunLengthBatchSizePinLaw" (some 0) with
  accessFlags := 49
  interfaces := #[]
  cf := some (fileOf pool1 36 #[] #[{ accessFlags := 1, nameIndex := 5, descriptorIndex := 6, attributes := #[] }, { accessFlags := 10, nameIndex := 39, descriptorIndex := 40, attributes := #[] }, { accessFlags := 9, nameIndex := 43, descriptorIndex := 44, attributes := #[] }] 49 2 #[] #[])
  fields := #[]
  methods := #[k1m0, k1m1, k1m2]
  instanceTypes := #[]
  staticTypes := #[]
  resolved := Array.replicate 48 none
  statics := none }

def pool2 : Array CpInfo := pool [(1, .class_ 2), (0, u "java/lang/Math"), (1, .class_ 6), (1, u "java/lang/Object"), (0, u "<init>"), (0, u "()V"), (89, .class_ 100), (1, u "java/lang/Math$RandomNumberGeneratorHolder"), (20, u "(JJ)J"), (50, u "negativeZeroFloatBits"), (0, u "J"), (2, u "negativeZeroDoubleBits"), (21, u "max"), (2, u "min"), (43, u "$assertionsDisabled"), (0, u "Z"), (88, u "(II)I"), (2, u "twoToTheDoubleScaleDown"), (0, u "D"), (4, u "twoToTheDoubleScaleUp"), (9, u "E"), (3, u "PI"), (2, u "TAU"), (2, u "DEGREES_TO_RADIANS"), (0, u "RADIANS_TO_DEGREES")] 94

def k2m0 : Method := { name := "<init>", desc := "()V", sig := { parameters := [], returnType := none }, accessFlags := 2, code := none }
def k2c1 : Code := { maxStack := 2, maxLocals := 2, code := jdk_29_method_65_code, exceptionTable := #[], attributes := #[] }
def k2m1 : Method := { name := "max", desc := "(II)I", sig := { parameters := [.int, .int], returnType := some .int }, accessFlags := 9, code := some k2c1 }
def k2c2 : Code := { maxStack := 4, maxLocals := 4, code := jdk_29_method_66_code, exceptionTable := #[], attributes := #[] }
def k2m2 : Method := { name := "max", desc := "(JJ)J", sig := { parameters := [.long, .long], returnType := some .long }, accessFlags := 9, code := some k2c2 }
def k2c3 : Code := { maxStack := 4, maxLocals := 4, code := jdk_29_method_70_code, exceptionTable := #[], attributes := #[] }
def k2m3 : Method := { name := "min", desc := "(JJ)J", sig := { parameters := [.long, .long], returnType := some .long }, accessFlags := 9, code := some k2c3 }
/-- java/lang/Math -/
def k2 : Class := { plain "java/lang/Math" (some 0) with
  accessFlags := 49
  interfaces := #[]
  cf := some (fileOf pool2 1 #[.nestMembers #[98]] #[{ accessFlags := 2, nameIndex := 7, descriptorIndex := 8, attributes := #[] }, { accessFlags := 9, nameIndex := 198, descriptorIndex := 335, attributes := #[] }, { accessFlags := 9, nameIndex := 198, descriptorIndex := 121, attributes := #[] }, { accessFlags := 9, nameIndex := 201, descriptorIndex := 121, attributes := #[] }] 49 4 #[] #[{ accessFlags := 25, nameIndex := 354, descriptorIndex := 339, attributes := #[] }, { accessFlags := 25, nameIndex := 358, descriptorIndex := 339, attributes := #[] }, { accessFlags := 25, nameIndex := 361, descriptorIndex := 339, attributes := #[] }, { accessFlags := 26, nameIndex := 364, descriptorIndex := 339, attributes := #[] }, { accessFlags := 26, nameIndex := 365, descriptorIndex := 339, attributes := #[] }, { accessFlags := 26, nameIndex := 172, descriptorIndex := 173, attributes := #[] }, { accessFlags := 26, nameIndex := 176, descriptorIndex := 173, attributes := #[] }, { accessFlags := 8, nameIndex := 344, descriptorIndex := 339, attributes := #[] }, { accessFlags := 8, nameIndex := 338, descriptorIndex := 339, attributes := #[] }, { accessFlags := 4120, nameIndex := 245, descriptorIndex := 246, attributes := #[] }])
  fields := #[{ name := "E", type := .double, accessFlags := 25, slot := 0, constantValue := 0 }, { name := "PI", type := .double, accessFlags := 25, slot := 1, constantValue := 0 }, { name := "TAU", type := .double, accessFlags := 25, slot := 2, constantValue := 0 }, { name := "DEGREES_TO_RADIANS", type := .double, accessFlags := 26, slot := 3, constantValue := 0 }, { name := "RADIANS_TO_DEGREES", type := .double, accessFlags := 26, slot := 4, constantValue := 0 }, { name := "negativeZeroFloatBits", type := .long, accessFlags := 26, slot := 5, constantValue := 0 }, { name := "negativeZeroDoubleBits", type := .long, accessFlags := 26, slot := 6, constantValue := 0 }, { name := "twoToTheDoubleScaleUp", type := .double, accessFlags := 8, slot := 7, constantValue := 0 }, { name := "twoToTheDoubleScaleDown", type := .double, accessFlags := 8, slot := 8, constantValue := 0 }, { name := "$assertionsDisabled", type := .boolean, accessFlags := 4120, slot := 9, constantValue := 0 }]
  methods := #[k2m0, k2m1, k2m2, k2m3]
  instanceTypes := #[]
  staticTypes := #[.double, .double, .double, .double, .double, .long, .long, .double, .double, .boolean]
  resolved := Array.replicate 460 none
  statics := none }

def pool3 : Array CpInfo := pool [(1, .methodref 2 3), (0, .class_ 4), (0, .nameAndType 5 6), (0, u "java/lang/Object"), (0, u "<init>"), (0, u "()V"), (0, .class_ 8), (0, u "java/lang/Record")] 13

def k3c0 : Code := { maxStack := 1, maxLocals := 1, code := jdk_30_method_1_code, exceptionTable := #[], attributes := #[] }
def k3m0 : Method := { name := "<init>", desc := "()V", sig := { parameters := [], returnType := none }, accessFlags := 4, code := some k3c0 }
/-- java/lang/Record -/
def k3 : Class := { plain "java/lang/Record" (some 0) with
  accessFlags := 1057
  interfaces := #[]
  cf := some (fileOf pool3 7 #[] #[{ accessFlags := 4, nameIndex := 5, descriptorIndex := 6, attributes := #[] }] 1057 2 #[] #[])
  fields := #[]
  methods := #[k3m0]
  instanceTypes := #[]
  staticTypes := #[]
  resolved := Array.replicate 22 none
  statics := none }

def pool4 : Array CpInfo := pool [(1, .methodref 2 3), (0, .class_ 4), (0, .nameAndType 5 6), (0, u "java/lang/Record"), (0, u "<init>"), (0, u "()V"), (2, .long 9223372036854775807), (10, .fieldref 21 22), (0, .class_ 23), (0, .nameAndType 24 25), (0, u "com/example/lambdagate/lambdagate/RunLength"), (0, u "warmup"), (0, u "J"), (0, .fieldref 21 27), (0, .nameAndType 28 25), (0, u "calls"), (0, .fieldref 21 30), (0, .nameAndType 31 32), (0, u "batches"), (0, u "I"), (12, u "(JJI)V"), (4, u "batchSize"), (0, u "(I)J")] 34

def k4c0 : Code := { maxStack := 7, maxLocals := 6, code := prog_23_method_1_code, exceptionTable := #[], attributes := #[] }
def k4m0 : Method := { name := "<init>", desc := "(JJI)V", sig := { parameters := [.long, .long, .int], returnType := none }, accessFlags := 0, code := some k4c0 }
def k4c1 : Code := { maxStack := 8, maxLocals := 2, code := prog_23_method_2_code, exceptionTable := #[], attributes := #[] }
def k4m1 : Method := { name := "batchSize", desc := "(I)J", sig := { parameters := [.int], returnType := some .long }, accessFlags := 0, code := some k4c1 }
/-- com/example/lambdagate/lambdagate/RunLength -/
def k4 : Class := { plain "com/example/lambdagate/lambdagate/RunLength" (some 3) with
  accessFlags := 48
  interfaces := #[]
  cf := some (fileOf pool4 21 #[] #[{ accessFlags := 0, nameIndex := 5, descriptorIndex := 45, attributes := #[] }, { accessFlags := 0, nameIndex := 50, descriptorIndex := 51, attributes := #[] }] 48 2 #[] #[{ accessFlags := 18, nameIndex := 24, descriptorIndex := 25, attributes := #[] }, { accessFlags := 18, nameIndex := 28, descriptorIndex := 25, attributes := #[] }, { accessFlags := 18, nameIndex := 31, descriptorIndex := 32, attributes := #[] }])
  fields := #[{ name := "warmup", type := .long, accessFlags := 18, slot := 0, constantValue := 0 }, { name := "calls", type := .long, accessFlags := 18, slot := 1, constantValue := 0 }, { name := "batches", type := .int, accessFlags := 18, slot := 2, constantValue := 0 }]
  methods := #[k4m0, k4m1]
  instanceTypes := #[.long, .long, .int]
  staticTypes := #[]
  resolved := Array.replicate 86 none
  statics := none }

def pool5 : Array CpInfo := pool [(1, u "java/lang/Cloneable"), (0, .class_ 1), (0, u "java/lang/Object"), (0, .class_ 3)] 3

/-- java/lang/Cloneable -/
def k5 : Class := { plain "java/lang/Cloneable" (some 0) with
  accessFlags := 1537
  interfaces := #[]
  cf := some (fileOf pool5 2 #[] #[] 1537 4 #[] #[])
  fields := #[]
  methods := #[]
  instanceTypes := #[]
  staticTypes := #[]
  resolved := Array.replicate 8 none
  statics := none }

def pool6 : Array CpInfo := pool [(1, u "java/io/Serializable"), (0, .class_ 1), (0, u "java/lang/Object"), (0, .class_ 3)] 3

/-- java/io/Serializable -/
def k6 : Class := { plain "java/io/Serializable" (some 0) with
  accessFlags := 1537
  interfaces := #[]
  cf := some (fileOf pool6 2 #[] #[] 1537 4 #[] #[])
  fields := #[]
  methods := #[]
  instanceTypes := #[]
  staticTypes := #[]
  resolved := Array.replicate 8 none
  statics := none }

/-- the primitive byte -/
def k7 : Class := { plain "byte" none with kind := .primitive 'B', accessFlags := 0x411 }
/-- [B -/
def k8 : Class := { plain "[B" (some 0) with kind := .array 7 .byte, interfaces := #[5, 6], accessFlags := 1041 }

/-- the primitive int -/
def k9 : Class := { plain "int" none with kind := .primitive 'I', accessFlags := 0x411 }
/-- [I -/
def k10 : Class := { plain "[I" (some 0) with kind := .array 9 .int, interfaces := #[5, 6], accessFlags := 1041 }

def heap : Heap := #[]
def classes : Array Class := #[k0, k1, k2, k3, k4, k5, k6, k7, k8, k9, k10]
def interned : List (Array UInt16 × Addr) := []
def slotsUsed : Nat := 0
def theMethod : MethodId := ⟨1, 2⟩
def args0 : Array Value := #[.long 5, .long 30, .int 4, .int 3, .int 1]
def aboutOver (below : List Frame) : State where
  vm := { classes := classes, interned := interned.toArray }
  heap := heap
  slotsUsed := slotsUsed
  threads := #[{ frames := .invoking theMethod args0 :: below }]
def below0 : List Frame := [.native { method := ⟨0, 0⟩, args := #[] }]
def about1 : State := aboutOver below0
def p0 : Program := .bare "" "" ""
def e0 : Env := launch0.env 0 0 0
theorem w_frames : about1.frames = Frame.invoking theMethod args0 :: below0 := rfl
set_option maxRecDepth 65536 in
theorem w_args : argsFit about1.vm theMethod args0 = true := by decide +kernel
set_option maxRecDepth 65536 in
theorem w_heap : heapFits about1 = true := by decide +kernel
set_option maxRecDepth 65536 in
theorem w_runnable : about1.curStatus? = some .runnable := by decide +kernel
set_option maxRecDepth 65536 in
theorem w_alone : about1.alone = true := by decide +kernel
set_option maxRecDepth 65536 in
theorem w_named : about1.methodNamed? x = some theMethod := by decide +kernel
set_option maxRecDepth 65536 in
theorem w_hears : about1.hears theMethod below0 = true := by decide +kernel
set_option maxRecDepth 65536 in
theorem w_ripe : about1.ripe theMethod args0 below0 = true := by decide +kernel
theorem w_running : about1.status = .running := rfl
set_option maxRecDepth 65536 in
theorem w_room : about1.hasRoom e0.platform room_1 = true :=
  launch0.hasRoom_least _ room_1 (by decide +kernel) (by decide +kernel) (by decide +kernel) (by decide +kernel) (by decide +kernel) (by decide +kernel)
theorem allAtoms_all (ts : List Jvm.Cond) (a : Array Jvm.Value) (st : Jvm.State) : (allAtoms ts).before a st = ts.all (fun c => c.before a st) := by
  induction ts with
  | nil => rfl
  | cons c t ih =>
    show (Jvm.Cond.and c (allAtoms t)).before a st = _
    rw [Jvm.Cond.before_and, ih, List.all_cons]
def words1 : List Jvm.Cond := Jvm.Cond.code x code maxLocals ret :: tables_1
/-- a 'code' word, met by the world's own term for the bytes: nothing is compared byte by byte -/
theorem code_word {y : MethodName} {bytes : ByteArray} {mx : Nat} {rt : Option FieldType} {a : Array Value} {s : State} {m : MethodId} {meth : Method} {c : Code} (h1 : s.methodNamed? y = some m) (h2 : s.vm.method? m = some meth) (h3 : meth.code = some c) (h4 : c.code = bytes)
    (h5 : (c.maxLocals == mx && c.exceptionTable.isEmpty && decide (c.maxStack ≤ mostOperands) && decide (meth.sig.returnType = rt) && !meth.locks && decide (parseMethodDescriptor y.desc = some meth.sig)) = true) : (Jvm.Cond.code y bytes mx rt).before a s = true := by
  simp only [Bool.and_eq_true, beq_iff_eq, Bool.not_eq_true', decide_eq_true_eq] at h5
  obtain ⟨⟨⟨⟨⟨g1, g2⟩, g3⟩, g4⟩, g5⟩, g6⟩ := h5
  simp [Cond.before, Cond.holds, Cond.value, h1, h2, h3, h4, g1, g2, g3, g4, g5, g6]
def isCode : Jvm.Cond → Bool
  | .code _ _ _ _ => true
  | _ => false
theorem all_split {L : List Jvm.Cond} {P : Jvm.Cond → Bool} (h1 : L.all (fun c => isCode c || P c) = true) (h2 : ∀ c ∈ L.filter isCode, P c = true) : L.all P = true := by
  refine List.all_eq_true.mpr fun c hc => ?_
  have h := List.all_eq_true.mp h1 c hc
  rcases Bool.eq_false_or_eq_true (isCode c) with hi | hi
  · exact h2 c (List.mem_filter.mpr ⟨hc, hi⟩)
  · simpa [hi] using h
set_option maxRecDepth 65536 in
theorem w_c0 : (Jvm.Cond.code x code maxLocals ret).before args0 about1 = true := code_word (m := ⟨1, 2⟩) (meth := k1m2) (c := k1c2) (by decide +kernel) rfl rfl rfl (by decide +kernel)
set_option maxRecDepth 65536 in
theorem w_c1 : (Jvm.Cond.code ({ cls := "java/lang/Math", name := "max", desc := "(II)I" } : Jvm.MethodName) jdk_29_method_65_code (2 : Nat) (Option.some Jvm.ClassFile.FieldType.int)).before args0 about1 = true := code_word (m := ⟨2, 1⟩) (meth := k2m1) (c := k2c1) (by decide +kernel) rfl rfl rfl (by decide +kernel)
set_option maxRecDepth 65536 in
theorem w_c2 : (Jvm.Cond.code ({ cls := "java/lang/Math", name := "max", desc := "(JJ)J" } : Jvm.MethodName) jdk_29_method_66_code (4 : Nat) (Option.some Jvm.ClassFile.FieldType.long)).before args0 about1 = true := code_word (m := ⟨2, 2⟩) (meth := k2m2) (c := k2c2) (by decide +kernel) rfl rfl rfl (by decide +kernel)
set_option maxRecDepth 65536 in
theorem w_c3 : (Jvm.Cond.code ({ cls := "java/lang/Math", name := "min", desc := "(JJ)J" } : Jvm.MethodName) jdk_29_method_70_code (4 : Nat) (Option.some Jvm.ClassFile.FieldType.long)).before args0 about1 = true := code_word (m := ⟨2, 3⟩) (meth := k2m3) (c := k2c3) (by decide +kernel) rfl rfl rfl (by decide +kernel)
set_option maxRecDepth 65536 in
theorem w_c4 : (Jvm.Cond.code ({ cls := "com/example/lambdagate/lambdagate/RunLength", name := "<init>", desc := "(JJI)V" } : Jvm.MethodName) prog_23_method_1_code (6 : Nat) (Option.none : Option Jvm.ClassFile.FieldType)).before args0 about1 = true := code_word (m := ⟨4, 0⟩) (meth := k4m0) (c := k4c0) (by decide +kernel) rfl rfl rfl (by decide +kernel)
set_option maxRecDepth 65536 in
theorem w_c5 : (Jvm.Cond.code ({ cls := "java/lang/Record", name := "<init>", desc := "()V" } : Jvm.MethodName) jdk_30_method_1_code (1 : Nat) (Option.none : Option Jvm.ClassFile.FieldType)).before args0 about1 = true := code_word (m := ⟨3, 0⟩) (meth := k3m0) (c := k3c0) (by decide +kernel) rfl rfl rfl (by decide +kernel)
set_option maxRecDepth 65536 in
theorem w_c6 : (Jvm.Cond.code ({ cls := "java/lang/Object", name := "<init>", desc := "()V" } : Jvm.MethodName) object_method_1_code (1 : Nat) (Option.none : Option Jvm.ClassFile.FieldType)).before args0 about1 = true := code_word (m := ⟨0, 0⟩) (meth := k0m0) (c := k0c0) (by decide +kernel) rfl rfl rfl (by decide +kernel)
set_option maxRecDepth 65536 in
theorem w_c7 : (Jvm.Cond.code ({ cls := "com/example/lambdagate/lambdagate/RunLength", name := "batchSize", desc := "(I)J" } : Jvm.MethodName) prog_23_method_2_code (2 : Nat) (Option.some Jvm.ClassFile.FieldType.long)).before args0 about1 = true := code_word (m := ⟨4, 1⟩) (meth := k4m1) (c := k4c1) (by decide +kernel) rfl rfl rfl (by decide +kernel)
set_option maxRecDepth 65536 in
theorem w_c8 : (Jvm.Cond.code ({ cls := "com/example/lambdagate/lambdagate/RunLengthBatchSizePinLaw", name := "expected", desc := "(JII)J" } : Jvm.MethodName) method_2_code (4 : Nat) (Option.some Jvm.ClassFile.FieldType.long)).before args0 about1 = true := code_word (m := ⟨1, 1⟩) (meth := k1m1) (c := k1c1) (by decide +kernel) rfl rfl rfl (by decide +kernel)
def codes1 : List Jvm.Cond := [Jvm.Cond.code x code maxLocals ret, Jvm.Cond.code ({ cls := "java/lang/Math", name := "max", desc := "(II)I" } : Jvm.MethodName) jdk_29_method_65_code (2 : Nat) (Option.some Jvm.ClassFile.FieldType.int), Jvm.Cond.code ({ cls := "java/lang/Math", name := "max", desc := "(JJ)J" } : Jvm.MethodName) jdk_29_method_66_code (4 : Nat) (Option.some Jvm.ClassFile.FieldType.long), Jvm.Cond.code ({ cls := "java/lang/Math", name := "min", desc := "(JJ)J" } : Jvm.MethodName) jdk_29_method_70_code (4 : Nat) (Option.some Jvm.ClassFile.FieldType.long), Jvm.Cond.code ({ cls := "com/example/lambdagate/lambdagate/RunLength", name := "<init>", desc := "(JJI)V" } : Jvm.MethodName) prog_23_method_1_code (6 : Nat) (Option.none : Option Jvm.ClassFile.FieldType), Jvm.Cond.code ({ cls := "java/lang/Record", name := "<init>", desc := "()V" } : Jvm.MethodName) jdk_30_method_1_code (1 : Nat) (Option.none : Option Jvm.ClassFile.FieldType), Jvm.Cond.code ({ cls := "java/lang/Object", name := "<init>", desc := "()V" } : Jvm.MethodName) object_method_1_code (1 : Nat) (Option.none : Option Jvm.ClassFile.FieldType), Jvm.Cond.code ({ cls := "com/example/lambdagate/lambdagate/RunLength", name := "batchSize", desc := "(I)J" } : Jvm.MethodName) prog_23_method_2_code (2 : Nat) (Option.some Jvm.ClassFile.FieldType.long), Jvm.Cond.code ({ cls := "com/example/lambdagate/lambdagate/RunLengthBatchSizePinLaw", name := "expected", desc := "(JII)J" } : Jvm.MethodName) method_2_code (4 : Nat) (Option.some Jvm.ClassFile.FieldType.long)]
set_option maxRecDepth 65536 in
theorem codes_eq : words1.filter isCode = codes1 := rfl
theorem w_codes : ∀ c ∈ words1.filter isCode, c.before args0 about1 = true := by
  rw [codes_eq]
  intro c hc
  simp only [codes1, List.mem_cons, List.not_mem_nil, or_false] at hc
  rcases hc with rfl | rfl | rfl | rfl | rfl | rfl | rfl | rfl | rfl
  · exact w_c0
  · exact w_c1
  · exact w_c2
  · exact w_c3
  · exact w_c4
  · exact w_c5
  · exact w_c6
  · exact w_c7
  · exact w_c8
set_option maxRecDepth 65536 in
theorem w_t1 : (words1.take 24).all (fun c => isCode c || c.before args0 about1) = true := by decide +kernel
set_option maxRecDepth 65536 in
theorem w_t2 : (words1.drop 24).all (fun c => isCode c || c.before args0 about1) = true := by decide +kernel
theorem w_tables : (allAtoms (Jvm.Cond.code x code maxLocals ret :: tables_1)).before args0 about1 = true := by
  rw [allAtoms_all]
  show words1.all (fun c => c.before args0 about1) = true
  refine all_split ?_ w_codes
  rw [← List.take_append_drop 24 words1, List.all_append, w_t1, w_t2]
  rfl
set_option maxRecDepth 65536 in
theorem w_case : (Jvm.Cond.and given_1 narrow_1).before args0 about1 = true := by decide +kernel
theorem w_applies : (headSpec (Jvm.Cond.code x code maxLocals ret :: tables_1) room_1).applies x e0.platform about1 = true :=
  (Spec.applies_iff w_frames).mpr ⟨w_running, w_runnable, w_alone, w_named, w_hears, w_ripe, w_room, w_tables⟩
theorem atStart : AtStart classFile x code maxLocals ret World_1 tables_1 room_1 Calls_1 rest_1 Pre_1 launch0 p0 e0 about1 theMethod args0 below0 :=
  ⟨lists_1, trivial, launch0.admits_env _ _ _, launch0.least_env, fairChoices_fair.cas, fairChoices_fair.clock, w_frames, w_args, w_heap, w_applies, trivial, trivial, w_case⟩
end start1
theorem witness_1 : WitnessClaimed_1 := ⟨start1.p0, start1.e0, start1.about1, start1.theMethod, start1.args0, start1.below0, start1.atStart⟩
end Jvm.Pilot.@@N@@
