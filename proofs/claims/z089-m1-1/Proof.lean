import JvmDerived
import JvmDerived.Pilot.@@N@@Statement
import JvmDerived.Pilot.@@N@@Code
set_option linter.unusedVariables false
set_option linter.unusedSimpArgs false
@@BLOCK:NumsL.lean.txt@@
namespace Jvm.RoadKit
open Sem ClassFile Op Lib Jvm.Stand Jvm.Free Jvm.LawKit
section New
variable {p : Program} {l : Launch} {e : Env} {R : Room} {s : State} {m : MethodId} {args : Array Value} {below : List Frame} {meth : Method} {c : Code} {T : State} {locs : List Loc} {cells slots : Nat}
theorem retI (X : Stand p l e R s m args below meth c T locs cells slots) (hx : p.tables.exec = Jvm.exec) {pc : Nat} {Ls : Array Slot} {z : Int32} {rest : List Value} (hret : meth.sig.returnType = some .int) (hd : decode c.code pc = .ok (.ireturn, 1)) {fs : List Frame}
    (hl : ∀ (f : JFrame) (acts : List Action), f.method = m → f.locked = none → f.entered = [] → (doReturn e (T.setTop f) acts (some (.int z))).1 = T.setFrames fs) : Steps p.tables e below (T.setTop (mkF m pc Ls (.int z :: rest))) (T.setFrames fs) := by
  have hm' : T.vm.method? m = some meth := X.method'
  have hn : narrow .int (.int z) = .int z := rfl
  show Steps p.tables e below (T.setTop { method := m, pc := pc, locals := Ls, stack := _ :: rest, locked := none }) _
  jvm_step X.here [X.here.top, hx, hd, hm', hret, hn]
  first | (intro acts; rw [hl _ acts rfl rfl rfl]) | rw [hl _ _ rfl rfl rfl]
  exact Steps.refl _
end New
end Jvm.RoadKit
namespace Jvm.Pilot.@@N@@
open Jvm Jvm.ClassFile Sem Op Lib Jvm.Free Jvm.Stand Jvm.LawKit Jvm.RoadKit Bundle Jvm.Pilot.@@N@@.Jvm.D

def own_a (q : Int64) : Int64 := ((1 : Int64) + ((q &&& (9223372036854775807 : Int64)) - ((q &&& (9223372036854775807 : Int64)) / (9223372036854775807 : Int64)) * (9223372036854775807 : Int64)))
def own_eqv (a b : Int64) : Int32 := if a = b then 1 else 0
def own_cmp (a b : Int64) : Int32 := if a < b then -1 else if a = b then 0 else 1
def own_hash (q1 : Int64) : Int32 := (q1 ^^^ ((q1.toUInt64 >>> ((32 : Int32) &&& 0x3f).toInt64.toUInt64).toInt64)).toInt32
theorem own_a_pos (q : Int64) : ¬ (lcmpW (own_a q) (1 : Int64) < (0 : Int32)) := by
  have e1 : (1 : Int64).toInt = 1 := rfl
  have em : (q &&& (9223372036854775807 : Int64)).toInt = q.toInt % 2 ^ 63 := Jvm.Kit.i64_mask q (9223372036854775807 : Int64) (k := 63) (by decide) (by decide)
  have ex : ((9223372036854775807 : Int64)).toInt = 9223372036854775807 := by decide
  have er : ((q &&& (9223372036854775807 : Int64)) - ((q &&& (9223372036854775807 : Int64)) / (9223372036854775807 : Int64)) * (9223372036854775807 : Int64)).toInt = (q.toInt % 2 ^ 63) % 9223372036854775807 := by
    rw [Jvm.Kit.i64_rem_nonneg (by omega), em, ex]
  rw [lw_lt, Int64.lt_iff_toInt_lt, e1]
  unfold own_a
  rw [Jvm.Kit.i64_add (by rw [er, e1]; omega) (by rw [er, e1]; omega), er, e1]
  omega
theorem own_self (a : Int64) : lcmpW a a = (0 : Int32) := (lw_eq _ _).mpr rfl
theorem own_eqv_f {a b : Int64} (h : lcmpW a b = (0 : Int32)) : own_eqv a b = 1 := if_pos ((lw_eq _ _).mp h)
theorem own_eqv_t {a b : Int64} (h : ¬ (lcmpW a b = (0 : Int32))) : own_eqv a b = 0 := if_neg (fun q => h ((lw_eq _ _).mpr q))
theorem own_cmp_lt {a b : Int64} (h : lcmpW a b < (0 : Int32)) : own_cmp a b = -1 := if_pos ((lw_lt _ _).mp h)
theorem own_cmp_eq {a b : Int64} (h3 : ¬ (lcmpW a b < (0 : Int32))) (h : lcmpW a b = (0 : Int32)) : own_cmp a b = 0 := by
  unfold own_cmp
  rw [if_neg (fun q => h3 ((lw_lt _ _).mpr q)), if_pos ((lw_eq _ _).mp h)]
theorem own_cmp_gt {a b : Int64} (h3 : ¬ (lcmpW a b < (0 : Int32))) (h : ¬ (lcmpW a b = (0 : Int32))) : own_cmp a b = 1 := by
  unfold own_cmp
  rw [if_neg (fun q => h3 ((lw_lt _ _).mpr q)), if_neg (fun q => h ((lw_eq _ _).mpr q))]
/-! the three ways of two values, each with all that the law's branches ask -/
theorem own_way_eq {a b : Int64} (h : a = b) : lcmpW a b = (0 : Int32) ∧ ¬ (lcmpW a b < (0 : Int32)) ∧ ¬ ((0 : Int32) < lcmpW a b) ∧ own_eqv a b = 1 ∧ ¬ (own_cmp a b < (0 : Int32)) ∧ ¬ ((0 : Int32) < own_cmp a b) ∧ own_hash a = own_hash b := by
  have h0 : lcmpW a b = (0 : Int32) := (lw_eq _ _).mpr h
  have h1 : ¬ (lcmpW a b < (0 : Int32)) := by rw [h0]; decide
  have h2 : ¬ ((0 : Int32) < lcmpW a b) := by rw [h0]; decide
  refine ⟨h0, h1, h2, own_eqv_f h0, ?_, ?_, by rw [h]⟩
  · rw [own_cmp_eq h1 h0]; decide
  · rw [own_cmp_eq h1 h0]; decide
theorem own_way_lt {a b : Int64} (h : a < b) : ¬ (lcmpW a b = (0 : Int32)) ∧ lcmpW a b < (0 : Int32) ∧ own_eqv a b = 0 ∧ own_cmp a b < (0 : Int32) := by
  have h1 : lcmpW a b < (0 : Int32) := (lw_lt _ _).mpr h
  have h0 : ¬ (lcmpW a b = (0 : Int32)) := fun q => by rw [q] at h1; exact absurd h1 (by decide)
  refine ⟨h0, h1, own_eqv_t h0, ?_⟩
  rw [own_cmp_lt h1]; decide
theorem own_way_gt {a b : Int64} (h : b < a) : ¬ (lcmpW a b = (0 : Int32)) ∧ ¬ (lcmpW a b < (0 : Int32)) ∧ (0 : Int32) < lcmpW a b ∧ own_eqv a b = 0 ∧ ¬ (own_cmp a b < (0 : Int32)) ∧ (0 : Int32) < own_cmp a b := by
  have h1 : (0 : Int32) < lcmpW a b := (lw_gt _ _).mpr h
  have h0 : ¬ (lcmpW a b = (0 : Int32)) := fun q => by rw [q] at h1; exact absurd h1 (by decide)
  have h2 : ¬ (lcmpW a b < (0 : Int32)) := fun q => by
    have h' := (lw_lt _ _).mp q
    rw [Int64.lt_iff_toInt_lt] at h h'; omega
  refine ⟨h0, h2, h1, own_eqv_t h0, ?_, ?_⟩
  · rw [own_cmp_gt h2 h0]; decide
  · rw [own_cmp_gt h2 h0]; decide
theorem d2_0 : decode prog_1_method_1_code 0 = .ok (.aload_n 0, 1) := by decide +kernel
theorem d2_1 : decode prog_1_method_1_code 1 = .ok (.invokespecial 1, 3) := by decide +kernel
theorem d2_4 : decode prog_1_method_1_code 4 = .ok (.aload_n 0, 1) := by decide +kernel
theorem d2_5 : decode prog_1_method_1_code 5 = .ok (.lload_n 1, 1) := by decide +kernel
theorem d2_6 : decode prog_1_method_1_code 6 = .ok (.putfield 7, 3) := by decide +kernel
theorem d2_9 : decode prog_1_method_1_code 9 = .ok (.return_, 1) := by decide +kernel
theorem pn_2 : plainName "com/example/portunus/portunus/FencingToken" = true := by first | (simp [plainName, overriddenIn]; done) | decide +kernel
theorem ef_2 (m : MethodId) (x0 : Addr) (x1 : Int64) : entryFrame m #[(.ref x0), (.long x1)] 3 = mkF m 0 #[.val (.ref x0), .val (.long x1), .second] [] := by first | (simp [entryFrame, mkF, argsToLocals, Value.category]; done) | rfl
def Q2 (Z : State) (a1 : Addr) (q2 : Int64) (u_value_a1 : Value) (h0 : Heap) (n0 : Nat) (v : Option Value) (h : Heap) (L : List Loc) : Prop := v = none ∧ Fr n0 L ∧ Keep h0 h [a1] ∧ Exa Z h a1 "com/example/portunus/portunus/FencingToken" ∧ Fld Z h a1 "com/example/portunus/portunus/FencingToken" "value" "J" (.long q2)
set_option maxRecDepth 65536 in
set_option maxHeartbeats 40000000 in
theorem rm2 (l : Launch) (Z : State) (a0 : Array Value) (hw : ∀ d ∈ tables_1, d.before a0 Z = true) (ws : List Jvm.Cond) (a1 : Addr) (q2 : Int64) (u_value_a1 : Value) (h0 : Heap) (n0 : Nat) (Z0 : n0 ≤ h0.size) (E_a1 : Exa Z h0 a1 "com/example/portunus/portunus/FencingToken") (F_value_a1 : Fld Z h0 a1 "com/example/portunus/portunus/FencingToken" "value" "J" u_value_a1) (g_a1 : n0 ≤ a1) :
    MetFree l (⟨"com/example/portunus/portunus/FencingToken", "<init>", "(J)V"⟩ : MethodName) (head1 (Jvm.Cond.code (⟨"com/example/portunus/portunus/FencingToken", "<init>", "(J)V"⟩ : MethodName) prog_1_method_1_code 3 none :: ws) ({ frames := 1, cells := 0, slots := 0, locals := 12 } : Room)) (fun a U => a = #[(.ref a1), (.long q2)] ∧ Z.Warmed39 U.vm ∧ U.heap = h0) (fun _ _ _ _ _ => True) (fun _ U o U' => ∃ v L, o = .returned v ∧ Q2 Z a1 q2 u_value_a1 h0 n0 v U'.heap L ∧ FrameEnd U o U' L ({ frames := 1, cells := 0, slots := 0, locals := 12 } : Room).cells ({ frames := 1, cells := 0, slots := 0, locals := 12 } : Room).slots) := by
  refine MetFree.of_bodySF (plainFor_of_name pn_2) hisR ?_
  intro p e s m args below meth c s₁ Bd hml0 hP hK
  obtain ⟨rfl, hZ, hh⟩ := hP
  have hx := Bd.exec
  have hby := Bd.bytes
  have hml : c.maxLocals = 3 := hml0
  have hown : s.vm.findClass "com/example/portunus/portunus/FencingToken" = some m.cls := findClass_of_methodNamed Bd.named
  have hnm := (name_of_methodNamed Bd.named Bd.method).1
  have X0 : Stand p l e ({ frames := 1, cells := 0, slots := 0, locals := 12 } : Room) s m #[(.ref a1), (.long q2)] below meth c s₁ [] 0 0 := Stand.of_body Bd
  have e0 : s₁.heap = h0 := by rw [← hh, Bd.state]; rfl
  have N0 := Fr.nil n0
  have pre0 : ∀ t, Steps p.tables e below (s₁.setTop (mkF m 0 #[.val (.ref a1), .val (.long q2), .second] [])) t → Steps p.tables e below (s₁.setTop (entryFrame m #[(.ref a1), (.long q2)] 3)) t := fun t k => castTop (ef_2 m a1 q2) k
  obtain ⟨T3, X3, e3, st3⟩ := initO X0 hx hZ hown (hw _ (List.mem_of_getElem? (i := 10) rfl)) (hw _ (List.mem_of_getElem? (i := 11) rfl)) (hw _ (List.mem_of_getElem? (i := 12) rfl)) e0 (g := (mkF m 1 #[.val (.ref a1), .val (.long q2), .second] [(.ref a1)])) rfl (by rw [hml]; rfl) rfl (hb hby d2_1) (by decide) (W := 0) (by show 2 * 0 + _ ≤ _; exact Nat.le_of_eq rfl) (by decide)
  obtain ⟨T4, h4, X4, e4, W4, st4⟩ := putF X3 hx hZ hown (host := "") (Or.inl (hw _ (List.mem_of_getElem? (i := 13) rfl))) Via.refl e3 F_value_a1 E_a1 (Or.inr ⟨(hw _ (List.mem_of_getElem? (i := 14) rfl)), rfl, hnm⟩) (hw _ (List.mem_of_getElem? (i := 6) rfl)) (ty := .long) (by decide) rfl rfl (g := (mkF m 6 #[.val (.ref a1), .val (.long q2), .second] [(.long q2), (.ref a1)])) rfl rfl (hb hby d2_6)
  have Fw4 := F_value_a1.same W4
  have K4 : Keep h0 h4 [a1] := (Keep.refl h0 [a1]).wr W4 (Or.inl (List.mem_of_getElem? (i := 0) rfl))
  have N4 := Fr.snoc X4 N0 g_a1
  obtain ⟨fs, hr, hrun, hended, hW, hsame⟩ := X4.leave (v := none) (fun _ => rfl)
  refine ⟨_, _, pre0 _ ?_, hrun, hended, _, _, rfl, ?_, ⟨_, rfl⟩, hW, hsame.mono (by decide) (by decide)⟩
  · show Steps p.tables e below (s₁.setTop (mkF m 0 #[.val (.ref a1), .val (.long q2), .second] [])) _
    refine XS.aloadN X0.here hx rfl (hb hby d2_0) rfl rfl ?_
    show Steps p.tables e below (s₁.setTop (mkF m 1 #[.val (.ref a1), .val (.long q2), .second] [(.ref a1)])) _
    refine st3 _ ?_
    show Steps p.tables e below (T3.setTop (mkF m 4 #[.val (.ref a1), .val (.long q2), .second] [])) _
    refine XS.aloadN X3.here hx rfl (hb hby d2_4) rfl rfl ?_
    show Steps p.tables e below (T3.setTop (mkF m 5 #[.val (.ref a1), .val (.long q2), .second] [(.ref a1)])) _
    refine XS.lloadN X3.here hx rfl (hb hby d2_5) rfl ?_
    show Steps p.tables e below (T3.setTop (mkF m 6 #[.val (.ref a1), .val (.long q2), .second] [(.long q2), (.ref a1)])) _
    refine st4 _ ?_
    show Steps p.tables e below (T4.setTop (mkF m 9 #[.val (.ref a1), .val (.long q2), .second] [])) _
    exact X4.returnOut hx Bd.returns (hb hby d2_9) hr
  · show Q2 Z a1 q2 u_value_a1 h0 n0 _ T4.heap _
    rw [e4]
    exact ⟨rfl, N4, K4, (E_a1.wr W4), Fw4⟩
theorem d1_0 : decode prog_1_method_2_code 0 = .ok (.lload_n 0, 1) := by decide +kernel
theorem d1_1 : decode prog_1_method_2_code 1 = .ok (.lconst 1, 1) := by decide +kernel
theorem d1_2 : decode prog_1_method_2_code 2 = .ok (.lcmp, 1) := by decide +kernel
theorem d1_3 : decode prog_1_method_2_code 3 = .ok (.ifCond .ge 17, 3) := by decide +kernel
theorem d1_20 : decode prog_1_method_2_code 20 = .ok (.new 8, 3) := by decide +kernel
theorem d1_23 : decode prog_1_method_2_code 23 = .ok (.dup, 1) := by decide +kernel
theorem d1_24 : decode prog_1_method_2_code 24 = .ok (.lload_n 0, 1) := by decide +kernel
theorem d1_25 : decode prog_1_method_2_code 25 = .ok (.invokespecial 22, 3) := by decide +kernel
theorem d1_28 : decode prog_1_method_2_code 28 = .ok (.areturn, 1) := by decide +kernel
theorem pn_1 : plainName "com/example/portunus/portunus/FencingToken" = true := by first | (simp [plainName, overriddenIn]; done) | decide +kernel
theorem pd_1_1 : parseMethodDescriptor "(J)V" = some ⟨[.long], none⟩ := by decide +kernel
theorem ef_1 (m : MethodId) (x0 : Int64) : entryFrame m #[(.long x0)] 2 = mkF m 0 #[.val (.long x0), .second] [] := by first | (simp [entryFrame, mkF, argsToLocals, Value.category]; done) | rfl
def Q1 (Z : State) (q1 : Int64) (h0 : Heap) (n0 : Nat) (v : Option Value) (h : Heap) (L : List Loc) : Prop := ∃ b, v = some (.ref b) ∧ Fr n0 L ∧ Keep h0 h [] ∧ h0.size ≤ b ∧ Exa Z h b "com/example/portunus/portunus/FencingToken" ∧ Fld Z h b "com/example/portunus/portunus/FencingToken" "value" "J" (.long q1)
set_option maxRecDepth 65536 in
set_option maxHeartbeats 40000000 in
theorem rm1 (l : Launch) (Z : State) (a0 : Array Value) (hw : ∀ d ∈ tables_1, d.before a0 Z = true) (ws : List Jvm.Cond) (q1 : Int64) (h0 : Heap) (n0 : Nat) (Z0 : n0 ≤ h0.size) (hc3 : ¬ ((lcmpW q1 (1 : Int64)) < (0 : Int32))) :
    MetFree l (⟨"com/example/portunus/portunus/FencingToken", "of", "(J)Lcom/example/portunus/portunus/FencingToken;"⟩ : MethodName) (head1 (Jvm.Cond.code (⟨"com/example/portunus/portunus/FencingToken", "of", "(J)Lcom/example/portunus/portunus/FencingToken;"⟩ : MethodName) prog_1_method_2_code 2 (some (.object "com/example/portunus/portunus/FencingToken")) :: ws) ({ frames := 2, cells := 1, slots := 1, locals := 27 } : Room)) (fun a U => a = #[(.long q1)] ∧ Z.Warmed39 U.vm ∧ U.heap = h0) (fun _ _ _ _ _ => True) (fun _ U o U' => ∃ v L, o = .returned v ∧ Q1 Z q1 h0 n0 v U'.heap L ∧ FrameEnd U o U' L ({ frames := 2, cells := 1, slots := 1, locals := 27 } : Room).cells ({ frames := 2, cells := 1, slots := 1, locals := 27 } : Room).slots) := by
  refine MetFree.of_bodySF (plainFor_of_name pn_1) hisR ?_
  intro p e s m args below meth c s₁ Bd hml0 hP hK
  obtain ⟨rfl, hZ, hh⟩ := hP
  have hx := Bd.exec
  have hby := Bd.bytes
  have hml : c.maxLocals = 2 := hml0
  have hown : s.vm.findClass "com/example/portunus/portunus/FencingToken" = some m.cls := findClass_of_methodNamed Bd.named
  have hnm := (name_of_methodNamed Bd.named Bd.method).1
  have X0 : Stand p l e ({ frames := 2, cells := 1, slots := 1, locals := 27 } : Room) s m #[(.long q1)] below meth c s₁ [] 0 0 := Stand.of_body Bd
  have e0 : s₁.heap = h0 := by rw [← hh, Bd.state]; rfl
  have N0 := Fr.nil n0
  have pre0 : ∀ t, Steps p.tables e below (s₁.setTop (mkF m 0 #[.val (.long q1), .second] [])) t → Steps p.tables e below (s₁.setTop (entryFrame m #[(.long q1)] 2)) t := fun t k => castTop (ef_1 m q1) k
  obtain ⟨T2, h2, X2, e2, E2, A2, D2, -, st2⟩ := newO X0 hx hZ hown (hw _ (List.mem_of_getElem? (i := 5) rfl)) (hw _ (List.mem_of_getElem? (i := 6) rfl)) (hw _ (List.mem_of_getElem? (i := 3) rfl)) e0 (g := (mkF m 20 #[.val (.long q1), .second] [])) rfl (hb hby d1_20) (by decide) (by decide)
  obtain ⟨b2, g2⟩ : ∃ z, z = h0.size := ⟨_, rfl⟩
  rw [← g2] at A2 D2 st2
  have F_value_b2 : Fld Z h2 b2 "com/example/portunus/portunus/FencingToken" "value" "J" (.long (0 : Int64)) := D2 (Or.inr (hw _ (List.mem_of_getElem? (i := 14) rfl))) (ty := .long) (by decide)
  have E_b2 := A2
  have g_b2 : n0 ≤ b2 := Nat.le_trans Z0 (Nat.le_of_eq g2.symm)
  have sz_b2 : h0.size ≤ b2 := (Nat.le_trans (Keep.refl h0 []).1 (Nat.le_of_eq g2.symm))
  have K2 : Keep h0 h2 [] := (Keep.refl h0 []).ext E2
  obtain ⟨_, _, ⟨T3, L3, k3, n3⟩, -, X3, ⟨Lc3, hQ3, l3, y3, z3⟩, st3⟩ := X2.specialBack hx (y := (⟨"com/example/portunus/portunus/FencingToken", "<init>", "(J)V"⟩ : MethodName)) rfl hown (mvT hZ (hw _ (List.mem_of_getElem? (i := 7) rfl))) (mvT hZ (hw _ (List.mem_of_getElem? (i := 8) rfl))) (mvT hZ (hw _ (List.mem_of_getElem? (i := 9) rfl))) (by decide) (backOf (W := 1) (rm2 l Z a0 hw [] b2 q1 (.long (0 : Int64)) h2 n0 (Nat.le_trans Z0 E2.1) A2 F_value_b2 g_b2) hZ (hw _ (List.mem_of_getElem? (i := 9) rfl)) (hw _ (List.mem_of_getElem? (i := 3) rfl)) (by decide) (by decide)) (g := (mkF m 25 #[.val (.long q1), .second] [(.long q1), (.ref b2), (.ref b2)])) rfl (by rw [hml]; rfl) (Steps.refl _) (a := b2) (argsL := [(.long q1)]) (rest := [(.ref b2)]) (lenOf pd_1_1 rfl) rfl (by show 2 * 0 + _ ≤ _; exact Nat.le_of_eq rfl) (hb hby d1_25) (fun _ _ => ⟨rfl, e2, (by decide : 1 + 0 ≤ _), (by decide : 1 + 0 ≤ _)⟩)
  dsimp only [Pt.U, Pt.locs, Pt.cells, Pt.slots] at X3 l3 y3 z3 st3 hQ3
  subst l3 y3 z3
  obtain ⟨rfl, N3q, K3, Ex3, Fv3⟩ := hQ3
  have N3 := Fr.app N0 N3q
  obtain ⟨fs, hr, hrun, hended, hW, hsame⟩ := X3.leave (v := some (.ref b2)) (fun h => by rw [Bd.returns] at h; cases h)
  refine ⟨_, _, pre0 _ ?_, hrun, hended, _, _, rfl, ?_, ⟨_, rfl⟩, hW, hsame.mono (by decide) (by decide)⟩
  · show Steps p.tables e below (s₁.setTop (mkF m 0 #[.val (.long q1), .second] [])) _
    refine XS.lloadN X0.here hx rfl (hb hby d1_0) rfl ?_
    show Steps p.tables e below (s₁.setTop (mkF m 1 #[.val (.long q1), .second] [(.long q1)])) _
    refine XS.lconst X0.here hx rfl (hb hby d1_1) ?_
    show Steps p.tables e below (s₁.setTop (mkF m 2 #[.val (.long q1), .second] [(.long (1 : Int64)), (.long q1)])) _
    refine XS.lcmp X0.here hx rfl (hb hby d1_2) rfl ?_
    show Steps p.tables e below (s₁.setTop (mkF m 3 #[.val (.long q1), .second] [(.int (lcmpW q1 (1 : Int64)))])) _
    refine XS.ifYes X0.here hx rfl (pc0 := 3) (pc' := 20) rfl (hb hby d1_3) rfl ((if0 _ _).trans (flt hc3).2.1) (by decide) (by decide) ?_
    show Steps p.tables e below (s₁.setTop (mkF m 20 #[.val (.long q1), .second] [])) _
    refine st2 _ ?_
    show Steps p.tables e below (T2.setTop (mkF m 23 #[.val (.long q1), .second] [(.ref b2)])) _
    refine XS.dup X2.here hx rfl (hb hby d1_23) rfl rfl ?_
    show Steps p.tables e below (T2.setTop (mkF m 24 #[.val (.long q1), .second] [(.ref b2), (.ref b2)])) _
    refine XS.lloadN X2.here hx rfl (hb hby d1_24) rfl ?_
    show Steps p.tables e below (T2.setTop (mkF m 25 #[.val (.long q1), .second] [(.long q1), (.ref b2), (.ref b2)])) _
    refine st3.trans ?_
    show Steps p.tables e below (T3.setTop (mkF m 28 #[.val (.long q1), .second] [(.ref b2)])) _
    jvm_step X3.here [X3.here.top, hx, (hb hby d1_28), X3.method', Bd.returns, Value.isRef, FieldType.isReference]
    first | (intro acts; rw [hr _ acts rfl rfl rfl]) | rw [hr _ _ rfl rfl rfl]
    exact Steps.refl _
  · show Q1 Z q1 h0 n0 _ T3.heap _
    exact ⟨b2, rfl, N3, K2.trans K3 (fun x hx => by cases List.mem_singleton.mp hx; exact Or.inr sz_b2), sz_b2, Ex3, Fv3⟩
theorem d4_0 : decode prog_1_method_3_code 0 = .ok (.aload_n 0, 1) := by decide +kernel
theorem d4_1 : decode prog_1_method_3_code 1 = .ok (.getfield 7, 3) := by decide +kernel
theorem d4_4 : decode prog_1_method_3_code 4 = .ok (.lreturn, 1) := by decide +kernel
theorem pn_4 : plainName "com/example/portunus/portunus/FencingToken" = true := by first | (simp [plainName, overriddenIn]; done) | decide +kernel
theorem ef_4 (m : MethodId) (x0 : Addr) : entryFrame m #[(.ref x0)] 1 = mkF m 0 #[.val (.ref x0)] [] := by first | (simp [entryFrame, mkF, argsToLocals, Value.category]; done) | rfl
def Q4 (Z : State) (a1 : Addr) (w2 : Int64) (h0 : Heap) (n0 : Nat) (v : Option Value) (h : Heap) (L : List Loc) : Prop := v = some (.long w2) ∧ Fr n0 L ∧ h = h0
set_option maxRecDepth 65536 in
set_option maxHeartbeats 40000000 in
theorem rm4 (l : Launch) (Z : State) (a0 : Array Value) (hw : ∀ d ∈ tables_1, d.before a0 Z = true) (ws : List Jvm.Cond) (a1 : Addr) (w2 : Int64) (h0 : Heap) (n0 : Nat) (Z0 : n0 ≤ h0.size) (F_value_a1 : Fld Z h0 a1 "com/example/portunus/portunus/FencingToken" "value" "J" (.long w2)) :
    MetFree l (⟨"com/example/portunus/portunus/FencingToken", "value", "()J"⟩ : MethodName) (head1 (Jvm.Cond.code (⟨"com/example/portunus/portunus/FencingToken", "value", "()J"⟩ : MethodName) prog_1_method_3_code 1 (some .long) :: ws) ({ frames := 0, cells := 0, slots := 0, locals := 0 } : Room)) (fun a U => a = #[(.ref a1)] ∧ Z.Warmed39 U.vm ∧ U.heap = h0) (fun _ _ _ _ _ => True) (fun _ U o U' => ∃ v L, o = .returned v ∧ Q4 Z a1 w2 h0 n0 v U'.heap L ∧ FrameEnd U o U' L ({ frames := 0, cells := 0, slots := 0, locals := 0 } : Room).cells ({ frames := 0, cells := 0, slots := 0, locals := 0 } : Room).slots) := by
  refine MetFree.of_bodySF (plainFor_of_name pn_4) hisR ?_
  intro p e s m args below meth c s₁ Bd hml0 hP hK
  obtain ⟨rfl, hZ, hh⟩ := hP
  have hx := Bd.exec
  have hby := Bd.bytes
  have hml : c.maxLocals = 1 := hml0
  have hown : s.vm.findClass "com/example/portunus/portunus/FencingToken" = some m.cls := findClass_of_methodNamed Bd.named
  have hnm := (name_of_methodNamed Bd.named Bd.method).1
  have X0 : Stand p l e ({ frames := 0, cells := 0, slots := 0, locals := 0 } : Room) s m #[(.ref a1)] below meth c s₁ [] 0 0 := Stand.of_body Bd
  have e0 : s₁.heap = h0 := by rw [← hh, Bd.state]; rfl
  have N0 := Fr.nil n0
  have pre0 : ∀ t, Steps p.tables e below (s₁.setTop (mkF m 0 #[.val (.ref a1)] [])) t → Steps p.tables e below (s₁.setTop (entryFrame m #[(.ref a1)] 1)) t := fun t k => castTop (ef_4 m a1) k
  obtain ⟨T3, X3, e3, st3⟩ := getF X0 hx hZ hown (host := "") (Or.inl (hw _ (List.mem_of_getElem? (i := 13) rfl))) Via.refl e0 F_value_a1 (g := (mkF m 1 #[.val (.ref a1)] [(.ref a1)])) rfl rfl (hb hby d4_1)
  obtain ⟨fs, hr, hrun, hended, hW, hsame⟩ := X3.leave (v := some (.long w2)) (fun h => by rw [Bd.returns] at h; cases h)
  refine ⟨_, _, pre0 _ ?_, hrun, hended, _, _, rfl, ?_, ⟨_, rfl⟩, hW, hsame.mono (by decide) (by decide)⟩
  · show Steps p.tables e below (s₁.setTop (mkF m 0 #[.val (.ref a1)] [])) _
    refine XS.aloadN X0.here hx rfl (hb hby d4_0) rfl rfl ?_
    show Steps p.tables e below (s₁.setTop (mkF m 1 #[.val (.ref a1)] [(.ref a1)])) _
    refine st3 _ ?_
    show Steps p.tables e below (T3.setTop (mkF m 4 #[.val (.ref a1)] [(.long w2)])) _
    jvm_step X3.here [X3.here.top, hx, (hb hby d4_4), X3.method', Bd.returns, narrow]
    first | (intro acts; rw [hr _ acts rfl rfl rfl]) | rw [hr _ _ rfl rfl rfl]
    exact Steps.refl _
  · show Q4 Z a1 w2 h0 n0 _ T3.heap _
    rw [e3]
    exact ⟨rfl, N0, rfl⟩
theorem d5_0 : decode prog_1_method_5_code 0 = .ok (.aload_n 0, 1) := by decide +kernel
theorem d5_1 : decode prog_1_method_5_code 1 = .ok (.aload_n 1, 1) := by decide +kernel
theorem d5_2 : decode prog_1_method_5_code 2 = .ok (.if_acmp .ne 5, 3) := by decide +kernel
theorem d5_7 : decode prog_1_method_5_code 7 = .ok (.aload_n 1, 1) := by decide +kernel
theorem d5_8 : decode prog_1_method_5_code 8 = .ok (.instanceof 8, 3) := by decide +kernel
theorem d5_11 : decode prog_1_method_5_code 11 = .ok (.ifCond .eq 11, 3) := by decide +kernel
theorem d5_14 : decode prog_1_method_5_code 14 = .ok (.aload_n 1, 1) := by decide +kernel
theorem d5_15 : decode prog_1_method_5_code 15 = .ok (.checkcast 8, 3) := by decide +kernel
theorem d5_18 : decode prog_1_method_5_code 18 = .ok (.astore_n 2, 1) := by decide +kernel
theorem d5_19 : decode prog_1_method_5_code 19 = .ok (.goto 5, 3) := by decide +kernel
theorem d5_24 : decode prog_1_method_5_code 24 = .ok (.aload_n 0, 1) := by decide +kernel
theorem d5_25 : decode prog_1_method_5_code 25 = .ok (.getfield 7, 3) := by decide +kernel
theorem d5_28 : decode prog_1_method_5_code 28 = .ok (.aload_n 2, 1) := by decide +kernel
theorem d5_29 : decode prog_1_method_5_code 29 = .ok (.getfield 7, 3) := by decide +kernel
theorem d5_32 : decode prog_1_method_5_code 32 = .ok (.lcmp, 1) := by decide +kernel
theorem d5_33 : decode prog_1_method_5_code 33 = .ok (.ifCond .ne 7, 3) := by decide +kernel
theorem d5_36 : decode prog_1_method_5_code 36 = .ok (.iconst 1, 1) := by decide +kernel
theorem d5_37 : decode prog_1_method_5_code 37 = .ok (.goto 4, 3) := by decide +kernel
theorem d5_41 : decode prog_1_method_5_code 41 = .ok (.ireturn, 1) := by decide +kernel
theorem pn_5 : plainName "com/example/portunus/portunus/FencingToken" = true := by first | (simp [plainName, overriddenIn]; done) | decide +kernel
theorem ef_5 (m : MethodId) (x0 : Addr) (x1 : Addr) : entryFrame m #[(.ref x0), (.ref x1)] 3 = mkF m 0 #[.val (.ref x0), .val (.ref x1), .unset] [] := by first | (simp [entryFrame, mkF, argsToLocals, Value.category]; done) | rfl
def Q5 (Z : State) (a1 : Addr) (a2 : Addr) (w5 : Int64) (w7 : Int64) (h0 : Heap) (n0 : Nat) (v : Option Value) (h : Heap) (L : List Loc) : Prop := v = some (.int (own_eqv w5 w7)) ∧ Fr n0 L ∧ h = h0
set_option maxRecDepth 65536 in
set_option maxHeartbeats 40000000 in
theorem rm5tff (l : Launch) (Z : State) (a0 : Array Value) (hw : ∀ d ∈ tables_1, d.before a0 Z = true) (ws : List Jvm.Cond) (a1 : Addr) (a2 : Addr) (w5 : Int64) (w7 : Int64) (h0 : Heap) (n0 : Nat) (Z0 : n0 ≤ h0.size) (I_a2 : Ins Z h0 a2 "com/example/portunus/portunus/FencingToken" true) (F_value_a1 : Fld Z h0 a1 "com/example/portunus/portunus/FencingToken" "value" "J" (.long w5)) (F_value_a2 : Fld Z h0 a2 "com/example/portunus/portunus/FencingToken" "value" "J" (.long w7)) (ha2 : ¬ (a1 = a2)) (hc11 : ¬ ((1 : Int32) = (0 : Int32))) (hc33 : (lcmpW w5 w7) = (0 : Int32)) :
    MetFree l (⟨"com/example/portunus/portunus/FencingToken", "equals", "(Ljava/lang/Object;)Z"⟩ : MethodName) (head1 (Jvm.Cond.code (⟨"com/example/portunus/portunus/FencingToken", "equals", "(Ljava/lang/Object;)Z"⟩ : MethodName) prog_1_method_5_code 3 (some .boolean) :: ws) ({ frames := 0, cells := 0, slots := 0, locals := 0 } : Room)) (fun a U => a = #[(.ref a1), (.ref a2)] ∧ Z.Warmed39 U.vm ∧ U.heap = h0) (fun _ _ _ _ _ => True) (fun _ U o U' => ∃ v L, o = .returned v ∧ Q5 Z a1 a2 w5 w7 h0 n0 v U'.heap L ∧ FrameEnd U o U' L ({ frames := 0, cells := 0, slots := 0, locals := 0 } : Room).cells ({ frames := 0, cells := 0, slots := 0, locals := 0 } : Room).slots) := by
  refine MetFree.of_bodySF (plainFor_of_name pn_5) hisR ?_
  intro p e s m args below meth c s₁ Bd hml0 hP hK
  obtain ⟨rfl, hZ, hh⟩ := hP
  have hx := Bd.exec
  have hby := Bd.bytes
  have hml : c.maxLocals = 3 := hml0
  have hown : s.vm.findClass "com/example/portunus/portunus/FencingToken" = some m.cls := findClass_of_methodNamed Bd.named
  have hnm := (name_of_methodNamed Bd.named Bd.method).1
  have X0 : Stand p l e ({ frames := 0, cells := 0, slots := 0, locals := 0 } : Room) s m #[(.ref a1), (.ref a2)] below meth c s₁ [] 0 0 := Stand.of_body Bd
  have e0 : s₁.heap = h0 := by rw [← hh, Bd.state]; rfl
  have N0 := Fr.nil n0
  have pre0 : ∀ t, Steps p.tables e below (s₁.setTop (mkF m 0 #[.val (.ref a1), .val (.ref a2), .unset] [])) t → Steps p.tables e below (s₁.setTop (entryFrame m #[(.ref a1), (.ref a2)] 3)) t := fun t k => castTop (ef_5 m a1 a2) k
  obtain ⟨T3, X3, e3, st3⟩ := instY X0 hx hZ hown (hw _ (List.mem_of_getElem? (i := 5) rfl)) e0 I_a2 (g := (mkF m 8 #[.val (.ref a1), .val (.ref a2), .unset] [(.ref a2)])) rfl rfl (hb hby d5_8)
  obtain ⟨T4, X4, e4, st4⟩ := castY X3 hx hZ hown (hw _ (List.mem_of_getElem? (i := 5) rfl)) e3 I_a2 (g := (mkF m 15 #[.val (.ref a1), .val (.ref a2), .unset] [(.ref a2)])) rfl rfl (hb hby d5_15)
  obtain ⟨T6, X6, e6, st6⟩ := getF X4 hx hZ hown (host := "") (Or.inl (hw _ (List.mem_of_getElem? (i := 13) rfl))) Via.refl e4 F_value_a1 (g := (mkF m 25 #[.val (.ref a1), .val (.ref a2), .val (.ref a2)] [(.ref a1)])) rfl rfl (hb hby d5_25)
  obtain ⟨T8, X8, e8, st8⟩ := getF X6 hx hZ hown (host := "") (Or.inl (hw _ (List.mem_of_getElem? (i := 13) rfl))) Via.refl e6 F_value_a2 (g := (mkF m 29 #[.val (.ref a1), .val (.ref a2), .val (.ref a2)] [(.ref a2), (.long w5)])) rfl rfl (hb hby d5_29)
  obtain ⟨fs, hr, hrun, hended, hW, hsame⟩ := X8.leave (v := some (.int (1 : Int32))) (fun h => by rw [Bd.returns] at h; cases h)
  refine ⟨_, _, pre0 _ ?_, hrun, hended, _, _, rfl, ?_, ⟨_, rfl⟩, hW, hsame.mono (by decide) (by decide)⟩
  · show Steps p.tables e below (s₁.setTop (mkF m 0 #[.val (.ref a1), .val (.ref a2), .unset] [])) _
    refine XS.aloadN X0.here hx rfl (hb hby d5_0) rfl rfl ?_
    show Steps p.tables e below (s₁.setTop (mkF m 1 #[.val (.ref a1), .val (.ref a2), .unset] [(.ref a1)])) _
    refine XS.aloadN X0.here hx rfl (hb hby d5_1) rfl rfl ?_
    show Steps p.tables e below (s₁.setTop (mkF m 2 #[.val (.ref a1), .val (.ref a2), .unset] [(.ref a2), (.ref a1)])) _
    refine Jvm.RoadKit.acmp (g := (mkF m 2 #[.val (.ref a1), .val (.ref a2), .unset] [(.ref a2), (.ref a1)])) X0 hx rfl rfl rfl (pc0 := 2) (pc' := 7) (same := false) rfl (hb hby d5_2) rfl (decide_eq_false fun q => ha2 (Value.ref.inj q)) (by decide) (by decide) ?_
    show Steps p.tables e below (s₁.setTop (mkF m 7 #[.val (.ref a1), .val (.ref a2), .unset] [])) _
    refine XS.aloadN X0.here hx rfl (hb hby d5_7) rfl rfl ?_
    show Steps p.tables e below (s₁.setTop (mkF m 8 #[.val (.ref a1), .val (.ref a2), .unset] [(.ref a2)])) _
    refine st3 _ ?_
    show Steps p.tables e below (T3.setTop (mkF m 11 #[.val (.ref a1), .val (.ref a2), .unset] [(.int (1 : Int32))])) _
    refine XS.ifNo X3.here hx rfl (hb hby d5_11) rfl ((if0 _ _).trans (feq hc11).1) ?_
    show Steps p.tables e below (T3.setTop (mkF m 14 #[.val (.ref a1), .val (.ref a2), .unset] [])) _
    refine XS.aloadN X3.here hx rfl (hb hby d5_14) rfl rfl ?_
    show Steps p.tables e below (T3.setTop (mkF m 15 #[.val (.ref a1), .val (.ref a2), .unset] [(.ref a2)])) _
    refine st4 _ ?_
    show Steps p.tables e below (T4.setTop (mkF m 18 #[.val (.ref a1), .val (.ref a2), .unset] [(.ref a2)])) _
    refine XS.astoreN X4.here hx rfl (hb hby d5_18) rfl rfl (l' := #[.val (.ref a1), .val (.ref a2), .val (.ref a2)]) rfl ?_
    show Steps p.tables e below (T4.setTop (mkF m 19 #[.val (.ref a1), .val (.ref a2), .val (.ref a2)] [])) _
    refine XS.goto X4.here hx rfl (pc0 := 19) (pc' := 24) rfl (hb hby d5_19) (by decide) (by decide) ?_
    show Steps p.tables e below (T4.setTop (mkF m 24 #[.val (.ref a1), .val (.ref a2), .val (.ref a2)] [])) _
    refine XS.aloadN X4.here hx rfl (hb hby d5_24) rfl rfl ?_
    show Steps p.tables e below (T4.setTop (mkF m 25 #[.val (.ref a1), .val (.ref a2), .val (.ref a2)] [(.ref a1)])) _
    refine st6 _ ?_
    show Steps p.tables e below (T6.setTop (mkF m 28 #[.val (.ref a1), .val (.ref a2), .val (.ref a2)] [(.long w5)])) _
    refine XS.aloadN X6.here hx rfl (hb hby d5_28) rfl rfl ?_
    show Steps p.tables e below (T6.setTop (mkF m 29 #[.val (.ref a1), .val (.ref a2), .val (.ref a2)] [(.ref a2), (.long w5)])) _
    refine st8 _ ?_
    show Steps p.tables e below (T8.setTop (mkF m 32 #[.val (.ref a1), .val (.ref a2), .val (.ref a2)] [(.long w7), (.long w5)])) _
    refine XS.lcmp X8.here hx rfl (hb hby d5_32) rfl ?_
    show Steps p.tables e below (T8.setTop (mkF m 33 #[.val (.ref a1), .val (.ref a2), .val (.ref a2)] [(.int (lcmpW w5 w7))])) _
    refine XS.ifNo X8.here hx rfl (hb hby d5_33) rfl ((if0 _ _).trans (teq hc33).2) ?_
    show Steps p.tables e below (T8.setTop (mkF m 36 #[.val (.ref a1), .val (.ref a2), .val (.ref a2)] [])) _
    refine XS.iconst X8.here hx rfl (hb hby d5_36) ?_
    show Steps p.tables e below (T8.setTop (mkF m 37 #[.val (.ref a1), .val (.ref a2), .val (.ref a2)] [(.int (1 : Int32))])) _
    refine XS.goto X8.here hx rfl (pc0 := 37) (pc' := 41) rfl (hb hby d5_37) (by decide) (by decide) ?_
    show Steps p.tables e below (T8.setTop (mkF m 41 #[.val (.ref a1), .val (.ref a2), .val (.ref a2)] [(.int (1 : Int32))])) _
    exact retN X8 hx (t := .boolean) Bd.returns (by simp) (hb hby d5_41) hr
  · show Q5 Z a1 a2 w5 w7 h0 n0 _ T8.heap _
    rw [e8]
    exact ⟨congrArg (fun z => some (Value.int z)) (own_eqv_f hc33).symm, N0, rfl⟩
theorem d5_40 : decode prog_1_method_5_code 40 = .ok (.iconst 0, 1) := by decide +kernel
set_option maxRecDepth 65536 in
set_option maxHeartbeats 40000000 in
theorem rm5tft (l : Launch) (Z : State) (a0 : Array Value) (hw : ∀ d ∈ tables_1, d.before a0 Z = true) (ws : List Jvm.Cond) (a1 : Addr) (a2 : Addr) (w5 : Int64) (w7 : Int64) (h0 : Heap) (n0 : Nat) (Z0 : n0 ≤ h0.size) (I_a2 : Ins Z h0 a2 "com/example/portunus/portunus/FencingToken" true) (F_value_a1 : Fld Z h0 a1 "com/example/portunus/portunus/FencingToken" "value" "J" (.long w5)) (F_value_a2 : Fld Z h0 a2 "com/example/portunus/portunus/FencingToken" "value" "J" (.long w7)) (ha2 : ¬ (a1 = a2)) (hc11 : ¬ ((1 : Int32) = (0 : Int32))) (hc33 : ¬ ((lcmpW w5 w7) = (0 : Int32))) :
    MetFree l (⟨"com/example/portunus/portunus/FencingToken", "equals", "(Ljava/lang/Object;)Z"⟩ : MethodName) (head1 (Jvm.Cond.code (⟨"com/example/portunus/portunus/FencingToken", "equals", "(Ljava/lang/Object;)Z"⟩ : MethodName) prog_1_method_5_code 3 (some .boolean) :: ws) ({ frames := 0, cells := 0, slots := 0, locals := 0 } : Room)) (fun a U => a = #[(.ref a1), (.ref a2)] ∧ Z.Warmed39 U.vm ∧ U.heap = h0) (fun _ _ _ _ _ => True) (fun _ U o U' => ∃ v L, o = .returned v ∧ Q5 Z a1 a2 w5 w7 h0 n0 v U'.heap L ∧ FrameEnd U o U' L ({ frames := 0, cells := 0, slots := 0, locals := 0 } : Room).cells ({ frames := 0, cells := 0, slots := 0, locals := 0 } : Room).slots) := by
  refine MetFree.of_bodySF (plainFor_of_name pn_5) hisR ?_
  intro p e s m args below meth c s₁ Bd hml0 hP hK
  obtain ⟨rfl, hZ, hh⟩ := hP
  have hx := Bd.exec
  have hby := Bd.bytes
  have hml : c.maxLocals = 3 := hml0
  have hown : s.vm.findClass "com/example/portunus/portunus/FencingToken" = some m.cls := findClass_of_methodNamed Bd.named
  have hnm := (name_of_methodNamed Bd.named Bd.method).1
  have X0 : Stand p l e ({ frames := 0, cells := 0, slots := 0, locals := 0 } : Room) s m #[(.ref a1), (.ref a2)] below meth c s₁ [] 0 0 := Stand.of_body Bd
  have e0 : s₁.heap = h0 := by rw [← hh, Bd.state]; rfl
  have N0 := Fr.nil n0
  have pre0 : ∀ t, Steps p.tables e below (s₁.setTop (mkF m 0 #[.val (.ref a1), .val (.ref a2), .unset] [])) t → Steps p.tables e below (s₁.setTop (entryFrame m #[(.ref a1), (.ref a2)] 3)) t := fun t k => castTop (ef_5 m a1 a2) k
  obtain ⟨T3, X3, e3, st3⟩ := instY X0 hx hZ hown (hw _ (List.mem_of_getElem? (i := 5) rfl)) e0 I_a2 (g := (mkF m 8 #[.val (.ref a1), .val (.ref a2), .unset] [(.ref a2)])) rfl rfl (hb hby d5_8)
  obtain ⟨T4, X4, e4, st4⟩ := castY X3 hx hZ hown (hw _ (List.mem_of_getElem? (i := 5) rfl)) e3 I_a2 (g := (mkF m 15 #[.val (.ref a1), .val (.ref a2), .unset] [(.ref a2)])) rfl rfl (hb hby d5_15)
  obtain ⟨T6, X6, e6, st6⟩ := getF X4 hx hZ hown (host := "") (Or.inl (hw _ (List.mem_of_getElem? (i := 13) rfl))) Via.refl e4 F_value_a1 (g := (mkF m 25 #[.val (.ref a1), .val (.ref a2), .val (.ref a2)] [(.ref a1)])) rfl rfl (hb hby d5_25)
  obtain ⟨T8, X8, e8, st8⟩ := getF X6 hx hZ hown (host := "") (Or.inl (hw _ (List.mem_of_getElem? (i := 13) rfl))) Via.refl e6 F_value_a2 (g := (mkF m 29 #[.val (.ref a1), .val (.ref a2), .val (.ref a2)] [(.ref a2), (.long w5)])) rfl rfl (hb hby d5_29)
  obtain ⟨fs, hr, hrun, hended, hW, hsame⟩ := X8.leave (v := some (.int (0 : Int32))) (fun h => by rw [Bd.returns] at h; cases h)
  refine ⟨_, _, pre0 _ ?_, hrun, hended, _, _, rfl, ?_, ⟨_, rfl⟩, hW, hsame.mono (by decide) (by decide)⟩
  · show Steps p.tables e below (s₁.setTop (mkF m 0 #[.val (.ref a1), .val (.ref a2), .unset] [])) _
    refine XS.aloadN X0.here hx rfl (hb hby d5_0) rfl rfl ?_
    show Steps p.tables e below (s₁.setTop (mkF m 1 #[.val (.ref a1), .val (.ref a2), .unset] [(.ref a1)])) _
    refine XS.aloadN X0.here hx rfl (hb hby d5_1) rfl rfl ?_
    show Steps p.tables e below (s₁.setTop (mkF m 2 #[.val (.ref a1), .val (.ref a2), .unset] [(.ref a2), (.ref a1)])) _
    refine Jvm.RoadKit.acmp (g := (mkF m 2 #[.val (.ref a1), .val (.ref a2), .unset] [(.ref a2), (.ref a1)])) X0 hx rfl rfl rfl (pc0 := 2) (pc' := 7) (same := false) rfl (hb hby d5_2) rfl (decide_eq_false fun q => ha2 (Value.ref.inj q)) (by decide) (by decide) ?_
    show Steps p.tables e below (s₁.setTop (mkF m 7 #[.val (.ref a1), .val (.ref a2), .unset] [])) _
    refine XS.aloadN X0.here hx rfl (hb hby d5_7) rfl rfl ?_
    show Steps p.tables e below (s₁.setTop (mkF m 8 #[.val (.ref a1), .val (.ref a2), .unset] [(.ref a2)])) _
    refine st3 _ ?_
    show Steps p.tables e below (T3.setTop (mkF m 11 #[.val (.ref a1), .val (.ref a2), .unset] [(.int (1 : Int32))])) _
    refine XS.ifNo X3.here hx rfl (hb hby d5_11) rfl ((if0 _ _).trans (feq hc11).1) ?_
    show Steps p.tables e below (T3.setTop (mkF m 14 #[.val (.ref a1), .val (.ref a2), .unset] [])) _
    refine XS.aloadN X3.here hx rfl (hb hby d5_14) rfl rfl ?_
    show Steps p.tables e below (T3.setTop (mkF m 15 #[.val (.ref a1), .val (.ref a2), .unset] [(.ref a2)])) _
    refine st4 _ ?_
    show Steps p.tables e below (T4.setTop (mkF m 18 #[.val (.ref a1), .val (.ref a2), .unset] [(.ref a2)])) _
    refine XS.astoreN X4.here hx rfl (hb hby d5_18) rfl rfl (l' := #[.val (.ref a1), .val (.ref a2), .val (.ref a2)]) rfl ?_
    show Steps p.tables e below (T4.setTop (mkF m 19 #[.val (.ref a1), .val (.ref a2), .val (.ref a2)] [])) _
    refine XS.goto X4.here hx rfl (pc0 := 19) (pc' := 24) rfl (hb hby d5_19) (by decide) (by decide) ?_
    show Steps p.tables e below (T4.setTop (mkF m 24 #[.val (.ref a1), .val (.ref a2), .val (.ref a2)] [])) _
    refine XS.aloadN X4.here hx rfl (hb hby d5_24) rfl rfl ?_
    show Steps p.tables e below (T4.setTop (mkF m 25 #[.val (.ref a1), .val (.ref a2), .val (.ref a2)] [(.ref a1)])) _
    refine st6 _ ?_
    show Steps p.tables e below (T6.setTop (mkF m 28 #[.val (.ref a1), .val (.ref a2), .val (.ref a2)] [(.long w5)])) _
    refine XS.aloadN X6.here hx rfl (hb hby d5_28) rfl rfl ?_
    show Steps p.tables e below (T6.setTop (mkF m 29 #[.val (.ref a1), .val (.ref a2), .val (.ref a2)] [(.ref a2), (.long w5)])) _
    refine st8 _ ?_
    show Steps p.tables e below (T8.setTop (mkF m 32 #[.val (.ref a1), .val (.ref a2), .val (.ref a2)] [(.long w7), (.long w5)])) _
    refine XS.lcmp X8.here hx rfl (hb hby d5_32) rfl ?_
    show Steps p.tables e below (T8.setTop (mkF m 33 #[.val (.ref a1), .val (.ref a2), .val (.ref a2)] [(.int (lcmpW w5 w7))])) _
    refine XS.ifYes X8.here hx rfl (pc0 := 33) (pc' := 40) rfl (hb hby d5_33) rfl ((if0 _ _).trans (feq hc33).2) (by decide) (by decide) ?_
    show Steps p.tables e below (T8.setTop (mkF m 40 #[.val (.ref a1), .val (.ref a2), .val (.ref a2)] [])) _
    refine XS.iconst X8.here hx rfl (hb hby d5_40) ?_
    show Steps p.tables e below (T8.setTop (mkF m 41 #[.val (.ref a1), .val (.ref a2), .val (.ref a2)] [(.int (0 : Int32))])) _
    exact retN X8 hx (t := .boolean) Bd.returns (by simp) (hb hby d5_41) hr
  · show Q5 Z a1 a2 w5 w7 h0 n0 _ T8.heap _
    rw [e8]
    exact ⟨congrArg (fun z => some (Value.int z)) (own_eqv_t hc33).symm, N0, rfl⟩
theorem rm5 (l : Launch) (Z : State) (a0 : Array Value) (hw : ∀ d ∈ tables_1, d.before a0 Z = true) (ws : List Jvm.Cond) (a1 : Addr) (a2 : Addr) (w5 : Int64) (w7 : Int64) (h0 : Heap) (n0 : Nat) (Z0 : n0 ≤ h0.size) (I_a2 : Ins Z h0 a2 "com/example/portunus/portunus/FencingToken" true) (F_value_a1 : Fld Z h0 a1 "com/example/portunus/portunus/FencingToken" "value" "J" (.long w5)) (F_value_a2 : Fld Z h0 a2 "com/example/portunus/portunus/FencingToken" "value" "J" (.long w7)) (ha2 : ¬ (a1 = a2)) :
    MetFree l (⟨"com/example/portunus/portunus/FencingToken", "equals", "(Ljava/lang/Object;)Z"⟩ : MethodName) (head1 (Jvm.Cond.code (⟨"com/example/portunus/portunus/FencingToken", "equals", "(Ljava/lang/Object;)Z"⟩ : MethodName) prog_1_method_5_code 3 (some .boolean) :: ws) ({ frames := 0, cells := 0, slots := 0, locals := 0 } : Room)) (fun a U => a = #[(.ref a1), (.ref a2)] ∧ Z.Warmed39 U.vm ∧ U.heap = h0) (fun _ _ _ _ _ => True) (fun _ U o U' => ∃ v L, o = .returned v ∧ Q5 Z a1 a2 w5 w7 h0 n0 v U'.heap L ∧ FrameEnd U o U' L ({ frames := 0, cells := 0, slots := 0, locals := 0 } : Room).cells ({ frames := 0, cells := 0, slots := 0, locals := 0 } : Room).slots) := by
  by_cases hcase : (lcmpW w5 w7) = (0 : Int32)
  · exact rm5tff l Z a0 hw ws a1 a2 w5 w7 h0 n0 Z0 I_a2 F_value_a1 F_value_a2 ha2 (by decide) hcase
  · exact rm5tft l Z a0 hw ws a1 a2 w5 w7 h0 n0 Z0 I_a2 F_value_a1 F_value_a2 ha2 (by decide) hcase
theorem d7_0 : decode jdk_35_method_42_code 0 = .ok (.lload_n 0, 1) := by decide +kernel
theorem d7_1 : decode jdk_35_method_42_code 1 = .ok (.lload_n 2, 1) := by decide +kernel
theorem d7_2 : decode jdk_35_method_42_code 2 = .ok (.lcmp, 1) := by decide +kernel
theorem d7_3 : decode jdk_35_method_42_code 3 = .ok (.ifCond .ge 7, 3) := by decide +kernel
theorem d7_6 : decode jdk_35_method_42_code 6 = .ok (.iconst (-1), 1) := by decide +kernel
theorem d7_7 : decode jdk_35_method_42_code 7 = .ok (.goto 14, 3) := by decide +kernel
theorem d7_21 : decode jdk_35_method_42_code 21 = .ok (.ireturn, 1) := by decide +kernel
theorem pn_7 : plainName "java/lang/Long" = true := by first | (simp [plainName, overriddenIn]; done) | decide +kernel
theorem ef_7 (m : MethodId) (x0 : Int64) (x1 : Int64) : entryFrame m #[(.long x0), (.long x1)] 4 = mkF m 0 #[.val (.long x0), .second, .val (.long x1), .second] [] := by first | (simp [entryFrame, mkF, argsToLocals, Value.category]; done) | rfl
def Q7 (Z : State) (q1 : Int64) (q2 : Int64) (h0 : Heap) (n0 : Nat) (v : Option Value) (h : Heap) (L : List Loc) : Prop := v = some (.int (own_cmp q1 q2)) ∧ Fr n0 L ∧ h = h0
set_option maxRecDepth 65536 in
set_option maxHeartbeats 40000000 in
theorem rm7f (l : Launch) (Z : State) (a0 : Array Value) (hw : ∀ d ∈ tables_1, d.before a0 Z = true) (ws : List Jvm.Cond) (q1 : Int64) (q2 : Int64) (h0 : Heap) (n0 : Nat) (Z0 : n0 ≤ h0.size) (hc3 : (lcmpW q1 q2) < (0 : Int32)) :
    MetFree l (⟨"java/lang/Long", "compare", "(JJ)I"⟩ : MethodName) (head1 (Jvm.Cond.code (⟨"java/lang/Long", "compare", "(JJ)I"⟩ : MethodName) jdk_35_method_42_code 4 (some .int) :: ws) ({ frames := 0, cells := 0, slots := 0, locals := 0 } : Room)) (fun a U => a = #[(.long q1), (.long q2)] ∧ Z.Warmed39 U.vm ∧ U.heap = h0) (fun _ _ _ _ _ => True) (fun _ U o U' => ∃ v L, o = .returned v ∧ Q7 Z q1 q2 h0 n0 v U'.heap L ∧ FrameEnd U o U' L ({ frames := 0, cells := 0, slots := 0, locals := 0 } : Room).cells ({ frames := 0, cells := 0, slots := 0, locals := 0 } : Room).slots) := by
  refine MetFree.of_bodySF (plainFor_of_name pn_7) hisR ?_
  intro p e s m args below meth c s₁ Bd hml0 hP hK
  obtain ⟨rfl, hZ, hh⟩ := hP
  have hx := Bd.exec
  have hby := Bd.bytes
  have hml : c.maxLocals = 4 := hml0
  have hown : s.vm.findClass "java/lang/Long" = some m.cls := findClass_of_methodNamed Bd.named
  have hnm := (name_of_methodNamed Bd.named Bd.method).1
  have X0 : Stand p l e ({ frames := 0, cells := 0, slots := 0, locals := 0 } : Room) s m #[(.long q1), (.long q2)] below meth c s₁ [] 0 0 := Stand.of_body Bd
  have e0 : s₁.heap = h0 := by rw [← hh, Bd.state]; rfl
  have N0 := Fr.nil n0
  have pre0 : ∀ t, Steps p.tables e below (s₁.setTop (mkF m 0 #[.val (.long q1), .second, .val (.long q2), .second] [])) t → Steps p.tables e below (s₁.setTop (entryFrame m #[(.long q1), (.long q2)] 4)) t := fun t k => castTop (ef_7 m q1 q2) k

  obtain ⟨fs, hr, hrun, hended, hW, hsame⟩ := X0.leave (v := some (.int (-1 : Int32))) (fun h => by rw [Bd.returns] at h; cases h)
  refine ⟨_, _, pre0 _ ?_, hrun, hended, _, _, rfl, ?_, ⟨_, rfl⟩, hW, hsame.mono (by decide) (by decide)⟩
  · show Steps p.tables e below (s₁.setTop (mkF m 0 #[.val (.long q1), .second, .val (.long q2), .second] [])) _
    refine XS.lloadN X0.here hx rfl (hb hby d7_0) rfl ?_
    show Steps p.tables e below (s₁.setTop (mkF m 1 #[.val (.long q1), .second, .val (.long q2), .second] [(.long q1)])) _
    refine XS.lloadN X0.here hx rfl (hb hby d7_1) rfl ?_
    show Steps p.tables e below (s₁.setTop (mkF m 2 #[.val (.long q1), .second, .val (.long q2), .second] [(.long q2), (.long q1)])) _
    refine XS.lcmp X0.here hx rfl (hb hby d7_2) rfl ?_
    show Steps p.tables e below (s₁.setTop (mkF m 3 #[.val (.long q1), .second, .val (.long q2), .second] [(.int (lcmpW q1 q2))])) _
    refine XS.ifNo X0.here hx rfl (hb hby d7_3) rfl ((if0 _ _).trans (tlt hc3).2.1) ?_
    show Steps p.tables e below (s₁.setTop (mkF m 6 #[.val (.long q1), .second, .val (.long q2), .second] [])) _
    refine XS.iconst X0.here hx rfl (hb hby d7_6) ?_
    show Steps p.tables e below (s₁.setTop (mkF m 7 #[.val (.long q1), .second, .val (.long q2), .second] [(.int (-1 : Int32))])) _
    refine XS.goto X0.here hx rfl (pc0 := 7) (pc' := 21) rfl (hb hby d7_7) (by decide) (by decide) ?_
    show Steps p.tables e below (s₁.setTop (mkF m 21 #[.val (.long q1), .second, .val (.long q2), .second] [(.int (-1 : Int32))])) _
    exact retI X0 hx Bd.returns (hb hby d7_21) hr
  · show Q7 Z q1 q2 h0 n0 _ s₁.heap _
    rw [e0]
    exact ⟨congrArg (fun z => some (Value.int z)) (own_cmp_lt hc3).symm, N0, rfl⟩
theorem d7_10 : decode jdk_35_method_42_code 10 = .ok (.lload_n 0, 1) := by decide +kernel
theorem d7_11 : decode jdk_35_method_42_code 11 = .ok (.lload_n 2, 1) := by decide +kernel
theorem d7_12 : decode jdk_35_method_42_code 12 = .ok (.lcmp, 1) := by decide +kernel
theorem d7_13 : decode jdk_35_method_42_code 13 = .ok (.ifCond .ne 7, 3) := by decide +kernel
theorem d7_16 : decode jdk_35_method_42_code 16 = .ok (.iconst 0, 1) := by decide +kernel
theorem d7_17 : decode jdk_35_method_42_code 17 = .ok (.goto 4, 3) := by decide +kernel
set_option maxRecDepth 65536 in
set_option maxHeartbeats 40000000 in
theorem rm7tf (l : Launch) (Z : State) (a0 : Array Value) (hw : ∀ d ∈ tables_1, d.before a0 Z = true) (ws : List Jvm.Cond) (q1 : Int64) (q2 : Int64) (h0 : Heap) (n0 : Nat) (Z0 : n0 ≤ h0.size) (hc3 : ¬ ((lcmpW q1 q2) < (0 : Int32))) (hc13 : (lcmpW q1 q2) = (0 : Int32)) :
    MetFree l (⟨"java/lang/Long", "compare", "(JJ)I"⟩ : MethodName) (head1 (Jvm.Cond.code (⟨"java/lang/Long", "compare", "(JJ)I"⟩ : MethodName) jdk_35_method_42_code 4 (some .int) :: ws) ({ frames := 0, cells := 0, slots := 0, locals := 0 } : Room)) (fun a U => a = #[(.long q1), (.long q2)] ∧ Z.Warmed39 U.vm ∧ U.heap = h0) (fun _ _ _ _ _ => True) (fun _ U o U' => ∃ v L, o = .returned v ∧ Q7 Z q1 q2 h0 n0 v U'.heap L ∧ FrameEnd U o U' L ({ frames := 0, cells := 0, slots := 0, locals := 0 } : Room).cells ({ frames := 0, cells := 0, slots := 0, locals := 0 } : Room).slots) := by
  refine MetFree.of_bodySF (plainFor_of_name pn_7) hisR ?_
  intro p e s m args below meth c s₁ Bd hml0 hP hK
  obtain ⟨rfl, hZ, hh⟩ := hP
  have hx := Bd.exec
  have hby := Bd.bytes
  have hml : c.maxLocals = 4 := hml0
  have hown : s.vm.findClass "java/lang/Long" = some m.cls := findClass_of_methodNamed Bd.named
  have hnm := (name_of_methodNamed Bd.named Bd.method).1
  have X0 : Stand p l e ({ frames := 0, cells := 0, slots := 0, locals := 0 } : Room) s m #[(.long q1), (.long q2)] below meth c s₁ [] 0 0 := Stand.of_body Bd
  have e0 : s₁.heap = h0 := by rw [← hh, Bd.state]; rfl
  have N0 := Fr.nil n0
  have pre0 : ∀ t, Steps p.tables e below (s₁.setTop (mkF m 0 #[.val (.long q1), .second, .val (.long q2), .second] [])) t → Steps p.tables e below (s₁.setTop (entryFrame m #[(.long q1), (.long q2)] 4)) t := fun t k => castTop (ef_7 m q1 q2) k

  obtain ⟨fs, hr, hrun, hended, hW, hsame⟩ := X0.leave (v := some (.int (0 : Int32))) (fun h => by rw [Bd.returns] at h; cases h)
  refine ⟨_, _, pre0 _ ?_, hrun, hended, _, _, rfl, ?_, ⟨_, rfl⟩, hW, hsame.mono (by decide) (by decide)⟩
  · show Steps p.tables e below (s₁.setTop (mkF m 0 #[.val (.long q1), .second, .val (.long q2), .second] [])) _
    refine XS.lloadN X0.here hx rfl (hb hby d7_0) rfl ?_
    show Steps p.tables e below (s₁.setTop (mkF m 1 #[.val (.long q1), .second, .val (.long q2), .second] [(.long q1)])) _
    refine XS.lloadN X0.here hx rfl (hb hby d7_1) rfl ?_
    show Steps p.tables e below (s₁.setTop (mkF m 2 #[.val (.long q1), .second, .val (.long q2), .second] [(.long q2), (.long q1)])) _
    refine XS.lcmp X0.here hx rfl (hb hby d7_2) rfl ?_
    show Steps p.tables e below (s₁.setTop (mkF m 3 #[.val (.long q1), .second, .val (.long q2), .second] [(.int (lcmpW q1 q2))])) _
    refine XS.ifYes X0.here hx rfl (pc0 := 3) (pc' := 10) rfl (hb hby d7_3) rfl ((if0 _ _).trans (flt hc3).2.1) (by decide) (by decide) ?_
    show Steps p.tables e below (s₁.setTop (mkF m 10 #[.val (.long q1), .second, .val (.long q2), .second] [])) _
    refine XS.lloadN X0.here hx rfl (hb hby d7_10) rfl ?_
    show Steps p.tables e below (s₁.setTop (mkF m 11 #[.val (.long q1), .second, .val (.long q2), .second] [(.long q1)])) _
    refine XS.lloadN X0.here hx rfl (hb hby d7_11) rfl ?_
    show Steps p.tables e below (s₁.setTop (mkF m 12 #[.val (.long q1), .second, .val (.long q2), .second] [(.long q2), (.long q1)])) _
    refine XS.lcmp X0.here hx rfl (hb hby d7_12) rfl ?_
    show Steps p.tables e below (s₁.setTop (mkF m 13 #[.val (.long q1), .second, .val (.long q2), .second] [(.int (lcmpW q1 q2))])) _
    refine XS.ifNo X0.here hx rfl (hb hby d7_13) rfl ((if0 _ _).trans (teq hc13).2) ?_
    show Steps p.tables e below (s₁.setTop (mkF m 16 #[.val (.long q1), .second, .val (.long q2), .second] [])) _
    refine XS.iconst X0.here hx rfl (hb hby d7_16) ?_
    show Steps p.tables e below (s₁.setTop (mkF m 17 #[.val (.long q1), .second, .val (.long q2), .second] [(.int (0 : Int32))])) _
    refine XS.goto X0.here hx rfl (pc0 := 17) (pc' := 21) rfl (hb hby d7_17) (by decide) (by decide) ?_
    show Steps p.tables e below (s₁.setTop (mkF m 21 #[.val (.long q1), .second, .val (.long q2), .second] [(.int (0 : Int32))])) _
    exact retI X0 hx Bd.returns (hb hby d7_21) hr
  · show Q7 Z q1 q2 h0 n0 _ s₁.heap _
    rw [e0]
    exact ⟨congrArg (fun z => some (Value.int z)) (own_cmp_eq hc3 hc13).symm, N0, rfl⟩
theorem d7_20 : decode jdk_35_method_42_code 20 = .ok (.iconst 1, 1) := by decide +kernel
set_option maxRecDepth 65536 in
set_option maxHeartbeats 40000000 in
theorem rm7tt (l : Launch) (Z : State) (a0 : Array Value) (hw : ∀ d ∈ tables_1, d.before a0 Z = true) (ws : List Jvm.Cond) (q1 : Int64) (q2 : Int64) (h0 : Heap) (n0 : Nat) (Z0 : n0 ≤ h0.size) (hc3 : ¬ ((lcmpW q1 q2) < (0 : Int32))) (hc13 : ¬ ((lcmpW q1 q2) = (0 : Int32))) :
    MetFree l (⟨"java/lang/Long", "compare", "(JJ)I"⟩ : MethodName) (head1 (Jvm.Cond.code (⟨"java/lang/Long", "compare", "(JJ)I"⟩ : MethodName) jdk_35_method_42_code 4 (some .int) :: ws) ({ frames := 0, cells := 0, slots := 0, locals := 0 } : Room)) (fun a U => a = #[(.long q1), (.long q2)] ∧ Z.Warmed39 U.vm ∧ U.heap = h0) (fun _ _ _ _ _ => True) (fun _ U o U' => ∃ v L, o = .returned v ∧ Q7 Z q1 q2 h0 n0 v U'.heap L ∧ FrameEnd U o U' L ({ frames := 0, cells := 0, slots := 0, locals := 0 } : Room).cells ({ frames := 0, cells := 0, slots := 0, locals := 0 } : Room).slots) := by
  refine MetFree.of_bodySF (plainFor_of_name pn_7) hisR ?_
  intro p e s m args below meth c s₁ Bd hml0 hP hK
  obtain ⟨rfl, hZ, hh⟩ := hP
  have hx := Bd.exec
  have hby := Bd.bytes
  have hml : c.maxLocals = 4 := hml0
  have hown : s.vm.findClass "java/lang/Long" = some m.cls := findClass_of_methodNamed Bd.named
  have hnm := (name_of_methodNamed Bd.named Bd.method).1
  have X0 : Stand p l e ({ frames := 0, cells := 0, slots := 0, locals := 0 } : Room) s m #[(.long q1), (.long q2)] below meth c s₁ [] 0 0 := Stand.of_body Bd
  have e0 : s₁.heap = h0 := by rw [← hh, Bd.state]; rfl
  have N0 := Fr.nil n0
  have pre0 : ∀ t, Steps p.tables e below (s₁.setTop (mkF m 0 #[.val (.long q1), .second, .val (.long q2), .second] [])) t → Steps p.tables e below (s₁.setTop (entryFrame m #[(.long q1), (.long q2)] 4)) t := fun t k => castTop (ef_7 m q1 q2) k

  obtain ⟨fs, hr, hrun, hended, hW, hsame⟩ := X0.leave (v := some (.int (1 : Int32))) (fun h => by rw [Bd.returns] at h; cases h)
  refine ⟨_, _, pre0 _ ?_, hrun, hended, _, _, rfl, ?_, ⟨_, rfl⟩, hW, hsame.mono (by decide) (by decide)⟩
  · show Steps p.tables e below (s₁.setTop (mkF m 0 #[.val (.long q1), .second, .val (.long q2), .second] [])) _
    refine XS.lloadN X0.here hx rfl (hb hby d7_0) rfl ?_
    show Steps p.tables e below (s₁.setTop (mkF m 1 #[.val (.long q1), .second, .val (.long q2), .second] [(.long q1)])) _
    refine XS.lloadN X0.here hx rfl (hb hby d7_1) rfl ?_
    show Steps p.tables e below (s₁.setTop (mkF m 2 #[.val (.long q1), .second, .val (.long q2), .second] [(.long q2), (.long q1)])) _
    refine XS.lcmp X0.here hx rfl (hb hby d7_2) rfl ?_
    show Steps p.tables e below (s₁.setTop (mkF m 3 #[.val (.long q1), .second, .val (.long q2), .second] [(.int (lcmpW q1 q2))])) _
    refine XS.ifYes X0.here hx rfl (pc0 := 3) (pc' := 10) rfl (hb hby d7_3) rfl ((if0 _ _).trans (flt hc3).2.1) (by decide) (by decide) ?_
    show Steps p.tables e below (s₁.setTop (mkF m 10 #[.val (.long q1), .second, .val (.long q2), .second] [])) _
    refine XS.lloadN X0.here hx rfl (hb hby d7_10) rfl ?_
    show Steps p.tables e below (s₁.setTop (mkF m 11 #[.val (.long q1), .second, .val (.long q2), .second] [(.long q1)])) _
    refine XS.lloadN X0.here hx rfl (hb hby d7_11) rfl ?_
    show Steps p.tables e below (s₁.setTop (mkF m 12 #[.val (.long q1), .second, .val (.long q2), .second] [(.long q2), (.long q1)])) _
    refine XS.lcmp X0.here hx rfl (hb hby d7_12) rfl ?_
    show Steps p.tables e below (s₁.setTop (mkF m 13 #[.val (.long q1), .second, .val (.long q2), .second] [(.int (lcmpW q1 q2))])) _
    refine XS.ifYes X0.here hx rfl (pc0 := 13) (pc' := 20) rfl (hb hby d7_13) rfl ((if0 _ _).trans (feq hc13).2) (by decide) (by decide) ?_
    show Steps p.tables e below (s₁.setTop (mkF m 20 #[.val (.long q1), .second, .val (.long q2), .second] [])) _
    refine XS.iconst X0.here hx rfl (hb hby d7_20) ?_
    show Steps p.tables e below (s₁.setTop (mkF m 21 #[.val (.long q1), .second, .val (.long q2), .second] [(.int (1 : Int32))])) _
    exact retI X0 hx Bd.returns (hb hby d7_21) hr
  · show Q7 Z q1 q2 h0 n0 _ s₁.heap _
    rw [e0]
    exact ⟨congrArg (fun z => some (Value.int z)) (own_cmp_gt hc3 hc13).symm, N0, rfl⟩
theorem rm7 (l : Launch) (Z : State) (a0 : Array Value) (hw : ∀ d ∈ tables_1, d.before a0 Z = true) (ws : List Jvm.Cond) (q1 : Int64) (q2 : Int64) (h0 : Heap) (n0 : Nat) (Z0 : n0 ≤ h0.size) :
    MetFree l (⟨"java/lang/Long", "compare", "(JJ)I"⟩ : MethodName) (head1 (Jvm.Cond.code (⟨"java/lang/Long", "compare", "(JJ)I"⟩ : MethodName) jdk_35_method_42_code 4 (some .int) :: ws) ({ frames := 0, cells := 0, slots := 0, locals := 0 } : Room)) (fun a U => a = #[(.long q1), (.long q2)] ∧ Z.Warmed39 U.vm ∧ U.heap = h0) (fun _ _ _ _ _ => True) (fun _ U o U' => ∃ v L, o = .returned v ∧ Q7 Z q1 q2 h0 n0 v U'.heap L ∧ FrameEnd U o U' L ({ frames := 0, cells := 0, slots := 0, locals := 0 } : Room).cells ({ frames := 0, cells := 0, slots := 0, locals := 0 } : Room).slots) := by
  by_cases hcase : (lcmpW q1 q2) < (0 : Int32)
  · exact rm7f l Z a0 hw ws q1 q2 h0 n0 Z0 hcase
  · by_cases hcase2 : (lcmpW q1 q2) = (0 : Int32)
    · exact rm7tf l Z a0 hw ws q1 q2 h0 n0 Z0 hcase hcase2
    · exact rm7tt l Z a0 hw ws q1 q2 h0 n0 Z0 hcase hcase2
theorem d6_0 : decode prog_1_method_4_code 0 = .ok (.aload_n 0, 1) := by decide +kernel
theorem d6_1 : decode prog_1_method_4_code 1 = .ok (.getfield 7, 3) := by decide +kernel
theorem d6_4 : decode prog_1_method_4_code 4 = .ok (.aload_n 1, 1) := by decide +kernel
theorem d6_5 : decode prog_1_method_4_code 5 = .ok (.getfield 7, 3) := by decide +kernel
theorem d6_8 : decode prog_1_method_4_code 8 = .ok (.invokestatic 25, 3) := by decide +kernel
theorem d6_11 : decode prog_1_method_4_code 11 = .ok (.ireturn, 1) := by decide +kernel
theorem pn_6 : plainName "com/example/portunus/portunus/FencingToken" = true := by first | (simp [plainName, overriddenIn]; done) | decide +kernel
theorem pd_6_6 : parseMethodDescriptor "(JJ)I" = some ⟨[.long, .long], some .int⟩ := by decide +kernel
theorem ef_6 (m : MethodId) (x0 : Addr) (x1 : Addr) : entryFrame m #[(.ref x0), (.ref x1)] 2 = mkF m 0 #[.val (.ref x0), .val (.ref x1)] [] := by first | (simp [entryFrame, mkF, argsToLocals, Value.category]; done) | rfl
def Q6 (Z : State) (a1 : Addr) (a2 : Addr) (w3 : Int64) (w5 : Int64) (h0 : Heap) (n0 : Nat) (v : Option Value) (h : Heap) (L : List Loc) : Prop := v = some (.int (own_cmp w3 w5)) ∧ Fr n0 L ∧ h = h0
set_option maxRecDepth 65536 in
set_option maxHeartbeats 40000000 in
theorem rm6 (l : Launch) (Z : State) (a0 : Array Value) (hw : ∀ d ∈ tables_1, d.before a0 Z = true) (ws : List Jvm.Cond) (a1 : Addr) (a2 : Addr) (w3 : Int64) (w5 : Int64) (h0 : Heap) (n0 : Nat) (Z0 : n0 ≤ h0.size) (F_value_a1 : Fld Z h0 a1 "com/example/portunus/portunus/FencingToken" "value" "J" (.long w3)) (F_value_a2 : Fld Z h0 a2 "com/example/portunus/portunus/FencingToken" "value" "J" (.long w5)) :
    MetFree l (⟨"com/example/portunus/portunus/FencingToken", "compareTo", "(Lcom/example/portunus/portunus/FencingToken;)I"⟩ : MethodName) (head1 (Jvm.Cond.code (⟨"com/example/portunus/portunus/FencingToken", "compareTo", "(Lcom/example/portunus/portunus/FencingToken;)I"⟩ : MethodName) prog_1_method_4_code 2 (some .int) :: ws) ({ frames := 1, cells := 0, slots := 0, locals := 15 } : Room)) (fun a U => a = #[(.ref a1), (.ref a2)] ∧ Z.Warmed39 U.vm ∧ U.heap = h0) (fun _ _ _ _ _ => True) (fun _ U o U' => ∃ v L, o = .returned v ∧ Q6 Z a1 a2 w3 w5 h0 n0 v U'.heap L ∧ FrameEnd U o U' L ({ frames := 1, cells := 0, slots := 0, locals := 15 } : Room).cells ({ frames := 1, cells := 0, slots := 0, locals := 15 } : Room).slots) := by
  refine MetFree.of_bodySF (plainFor_of_name pn_6) hisR ?_
  intro p e s m args below meth c s₁ Bd hml0 hP hK
  obtain ⟨rfl, hZ, hh⟩ := hP
  have hx := Bd.exec
  have hby := Bd.bytes
  have hml : c.maxLocals = 2 := hml0
  have hown : s.vm.findClass "com/example/portunus/portunus/FencingToken" = some m.cls := findClass_of_methodNamed Bd.named
  have hnm := (name_of_methodNamed Bd.named Bd.method).1
  have X0 : Stand p l e ({ frames := 1, cells := 0, slots := 0, locals := 15 } : Room) s m #[(.ref a1), (.ref a2)] below meth c s₁ [] 0 0 := Stand.of_body Bd
  have e0 : s₁.heap = h0 := by rw [← hh, Bd.state]; rfl
  have N0 := Fr.nil n0
  have pre0 : ∀ t, Steps p.tables e below (s₁.setTop (mkF m 0 #[.val (.ref a1), .val (.ref a2)] [])) t → Steps p.tables e below (s₁.setTop (entryFrame m #[(.ref a1), (.ref a2)] 2)) t := fun t k => castTop (ef_6 m a1 a2) k
  obtain ⟨T4, X4, e4, st4⟩ := getF X0 hx hZ hown (host := "") (Or.inl (hw _ (List.mem_of_getElem? (i := 13) rfl))) Via.refl e0 F_value_a1 (g := (mkF m 1 #[.val (.ref a1), .val (.ref a2)] [(.ref a1)])) rfl rfl (hb hby d6_1)
  obtain ⟨T6, X6, e6, st6⟩ := getF X4 hx hZ hown (host := "") (Or.inl (hw _ (List.mem_of_getElem? (i := 13) rfl))) Via.refl e4 F_value_a2 (g := (mkF m 5 #[.val (.ref a1), .val (.ref a2)] [(.ref a2), (.long w3)])) rfl rfl (hb hby d6_5)
  obtain ⟨_, _, ⟨T7, L7, k7, n7⟩, -, X7, ⟨Lc7, hQ7, l7, y7, z7⟩, st7⟩ := Jvm.LawKit.callS X6 hx (y := (⟨"java/lang/Long", "compare", "(JJ)I"⟩ : MethodName)) hown (mvT hZ (hw _ (List.mem_of_getElem? (i := 31) rfl))) (mvT hZ (hw _ (List.mem_of_getElem? (i := 32) rfl))) (mvT hZ (hw _ (List.mem_of_getElem? (i := 33) rfl))) (mvT hZ (hw _ (List.mem_of_getElem? (i := 34) rfl))) (by decide) (backOf (W := 0) (rm7 l Z a0 hw [] w3 w5 h0 n0 Z0) hZ (hw _ (List.mem_of_getElem? (i := 34) rfl)) (hw _ (List.mem_of_getElem? (i := 33) rfl)) (by decide) (by decide)) (g := (mkF m 8 #[.val (.ref a1), .val (.ref a2)] [(.long w5), (.long w3)])) rfl (by rw [hml]; rfl) (argsL := [(.long w3), (.long w5)]) (rest := []) (lenOf pd_6_6 rfl) rfl (by show 2 * 0 + _ ≤ _; exact Nat.le_of_eq rfl) (hb hby d6_8) (fun _ _ => ⟨rfl, e6, (by decide : 0 + 0 ≤ _), (by decide : 0 + 0 ≤ _)⟩)
  dsimp only [Pt.U, Pt.locs, Pt.cells, Pt.slots] at X7 l7 y7 z7 st7 hQ7
  subst l7 y7 z7
  obtain ⟨rfl, N7q, e7q⟩ := hQ7
  have N7 := Fr.app N0 N7q
  obtain ⟨fs, hr, hrun, hended, hW, hsame⟩ := X7.leave (v := some (.int (own_cmp w3 w5))) (fun h => by rw [Bd.returns] at h; cases h)
  refine ⟨_, _, pre0 _ ?_, hrun, hended, _, _, rfl, ?_, ⟨_, rfl⟩, hW, hsame.mono (by decide) (by decide)⟩
  · show Steps p.tables e below (s₁.setTop (mkF m 0 #[.val (.ref a1), .val (.ref a2)] [])) _
    refine XS.aloadN X0.here hx rfl (hb hby d6_0) rfl rfl ?_
    show Steps p.tables e below (s₁.setTop (mkF m 1 #[.val (.ref a1), .val (.ref a2)] [(.ref a1)])) _
    refine st4 _ ?_
    show Steps p.tables e below (T4.setTop (mkF m 4 #[.val (.ref a1), .val (.ref a2)] [(.long w3)])) _
    refine XS.aloadN X4.here hx rfl (hb hby d6_4) rfl rfl ?_
    show Steps p.tables e below (T4.setTop (mkF m 5 #[.val (.ref a1), .val (.ref a2)] [(.ref a2), (.long w3)])) _
    refine st6 _ ?_
    show Steps p.tables e below (T6.setTop (mkF m 8 #[.val (.ref a1), .val (.ref a2)] [(.long w5), (.long w3)])) _
    refine st7 _ ?_
    show Steps p.tables e below (T7.setTop (mkF m 11 #[.val (.ref a1), .val (.ref a2)] [(.int (own_cmp w3 w5))])) _
    exact retI X7 hx Bd.returns (hb hby d6_11) hr
  · show Q6 Z a1 a2 w3 w5 h0 n0 _ T7.heap _
    exact ⟨rfl, N7, e7q⟩
theorem d9_0 : decode jdk_35_method_36_code 0 = .ok (.lload_n 0, 1) := by decide +kernel
theorem d9_1 : decode jdk_35_method_36_code 1 = .ok (.lload_n 0, 1) := by decide +kernel
theorem d9_2 : decode jdk_35_method_36_code 2 = .ok (.bipush 32, 2) := by decide +kernel
theorem d9_4 : decode jdk_35_method_36_code 4 = .ok (.lushr, 1) := by decide +kernel
theorem d9_5 : decode jdk_35_method_36_code 5 = .ok (.lxor, 1) := by decide +kernel
theorem d9_6 : decode jdk_35_method_36_code 6 = .ok (.l2i, 1) := by decide +kernel
theorem d9_7 : decode jdk_35_method_36_code 7 = .ok (.ireturn, 1) := by decide +kernel
theorem pn_9 : plainName "java/lang/Long" = true := by first | (simp [plainName, overriddenIn]; done) | decide +kernel
theorem ef_9 (m : MethodId) (x0 : Int64) : entryFrame m #[(.long x0)] 2 = mkF m 0 #[.val (.long x0), .second] [] := by first | (simp [entryFrame, mkF, argsToLocals, Value.category]; done) | rfl
def Q9 (Z : State) (q1 : Int64) (h0 : Heap) (n0 : Nat) (v : Option Value) (h : Heap) (L : List Loc) : Prop := v = some (.int (own_hash q1)) ∧ Fr n0 L ∧ h = h0
set_option maxRecDepth 65536 in
set_option maxHeartbeats 40000000 in
theorem rm9 (l : Launch) (Z : State) (a0 : Array Value) (hw : ∀ d ∈ tables_1, d.before a0 Z = true) (ws : List Jvm.Cond) (q1 : Int64) (h0 : Heap) (n0 : Nat) (Z0 : n0 ≤ h0.size) :
    MetFree l (⟨"java/lang/Long", "hashCode", "(J)I"⟩ : MethodName) (head1 (Jvm.Cond.code (⟨"java/lang/Long", "hashCode", "(J)I"⟩ : MethodName) jdk_35_method_36_code 2 (some .int) :: ws) ({ frames := 0, cells := 0, slots := 0, locals := 0 } : Room)) (fun a U => a = #[(.long q1)] ∧ Z.Warmed39 U.vm ∧ U.heap = h0) (fun _ _ _ _ _ => True) (fun _ U o U' => ∃ v L, o = .returned v ∧ Q9 Z q1 h0 n0 v U'.heap L ∧ FrameEnd U o U' L ({ frames := 0, cells := 0, slots := 0, locals := 0 } : Room).cells ({ frames := 0, cells := 0, slots := 0, locals := 0 } : Room).slots) := by
  refine MetFree.of_bodySF (plainFor_of_name pn_9) hisR ?_
  intro p e s m args below meth c s₁ Bd hml0 hP hK
  obtain ⟨rfl, hZ, hh⟩ := hP
  have hx := Bd.exec
  have hby := Bd.bytes
  have hml : c.maxLocals = 2 := hml0
  have hown : s.vm.findClass "java/lang/Long" = some m.cls := findClass_of_methodNamed Bd.named
  have hnm := (name_of_methodNamed Bd.named Bd.method).1
  have X0 : Stand p l e ({ frames := 0, cells := 0, slots := 0, locals := 0 } : Room) s m #[(.long q1)] below meth c s₁ [] 0 0 := Stand.of_body Bd
  have e0 : s₁.heap = h0 := by rw [← hh, Bd.state]; rfl
  have N0 := Fr.nil n0
  have pre0 : ∀ t, Steps p.tables e below (s₁.setTop (mkF m 0 #[.val (.long q1), .second] [])) t → Steps p.tables e below (s₁.setTop (entryFrame m #[(.long q1)] 2)) t := fun t k => castTop (ef_9 m q1) k

  obtain ⟨fs, hr, hrun, hended, hW, hsame⟩ := X0.leave (v := some (.int ((q1 ^^^ ((q1.toUInt64 >>> ((32 : Int32) &&& 0x3f).toInt64.toUInt64).toInt64)).toInt32))) (fun h => by rw [Bd.returns] at h; cases h)
  refine ⟨_, _, pre0 _ ?_, hrun, hended, _, _, rfl, ?_, ⟨_, rfl⟩, hW, hsame.mono (by decide) (by decide)⟩
  · show Steps p.tables e below (s₁.setTop (mkF m 0 #[.val (.long q1), .second] [])) _
    refine XS.lloadN X0.here hx rfl (hb hby d9_0) rfl ?_
    show Steps p.tables e below (s₁.setTop (mkF m 1 #[.val (.long q1), .second] [(.long q1)])) _
    refine XS.lloadN X0.here hx rfl (hb hby d9_1) rfl ?_
    show Steps p.tables e below (s₁.setTop (mkF m 2 #[.val (.long q1), .second] [(.long q1), (.long q1)])) _
    refine XS.bipush X0.here hx rfl (hb hby d9_2) ?_
    show Steps p.tables e below (s₁.setTop (mkF m 4 #[.val (.long q1), .second] [(.int (32 : Int32)), (.long q1), (.long q1)])) _
    refine XS.lushr X0.here hx rfl (hb hby d9_4) rfl ?_
    show Steps p.tables e below (s₁.setTop (mkF m 5 #[.val (.long q1), .second] [(.long ((q1.toUInt64 >>> ((32 : Int32) &&& 0x3f).toInt64.toUInt64).toInt64)), (.long q1)])) _
    refine XS.lxor X0.here hx rfl (hb hby d9_5) rfl ?_
    show Steps p.tables e below (s₁.setTop (mkF m 6 #[.val (.long q1), .second] [(.long (q1 ^^^ ((q1.toUInt64 >>> ((32 : Int32) &&& 0x3f).toInt64.toUInt64).toInt64)))])) _
    refine XS.l2i X0.here hx rfl (hb hby d9_6) rfl ?_
    show Steps p.tables e below (s₁.setTop (mkF m 7 #[.val (.long q1), .second] [(.int ((q1 ^^^ ((q1.toUInt64 >>> ((32 : Int32) &&& 0x3f).toInt64.toUInt64).toInt64)).toInt32))])) _
    exact retI X0 hx Bd.returns (hb hby d9_7) hr
  · show Q9 Z q1 h0 n0 _ s₁.heap _
    rw [e0]
    exact ⟨rfl, N0, rfl⟩
theorem d8_0 : decode prog_1_method_6_code 0 = .ok (.aload_n 0, 1) := by decide +kernel
theorem d8_1 : decode prog_1_method_6_code 1 = .ok (.getfield 7, 3) := by decide +kernel
theorem d8_4 : decode prog_1_method_6_code 4 = .ok (.invokestatic 31, 3) := by decide +kernel
theorem d8_7 : decode prog_1_method_6_code 7 = .ok (.ireturn, 1) := by decide +kernel
theorem pn_8 : plainName "com/example/portunus/portunus/FencingToken" = true := by first | (simp [plainName, overriddenIn]; done) | decide +kernel
theorem pd_8_8 : parseMethodDescriptor "(J)I" = some ⟨[.long], some .int⟩ := by decide +kernel
theorem ef_8 (m : MethodId) (x0 : Addr) : entryFrame m #[(.ref x0)] 1 = mkF m 0 #[.val (.ref x0)] [] := by first | (simp [entryFrame, mkF, argsToLocals, Value.category]; done) | rfl
def Q8 (Z : State) (a1 : Addr) (w2 : Int64) (h0 : Heap) (n0 : Nat) (v : Option Value) (h : Heap) (L : List Loc) : Prop := v = some (.int (own_hash w2)) ∧ Fr n0 L ∧ h = h0
set_option maxRecDepth 65536 in
set_option maxHeartbeats 40000000 in
theorem rm8 (l : Launch) (Z : State) (a0 : Array Value) (hw : ∀ d ∈ tables_1, d.before a0 Z = true) (ws : List Jvm.Cond) (a1 : Addr) (w2 : Int64) (h0 : Heap) (n0 : Nat) (Z0 : n0 ≤ h0.size) (F_value_a1 : Fld Z h0 a1 "com/example/portunus/portunus/FencingToken" "value" "J" (.long w2)) :
    MetFree l (⟨"com/example/portunus/portunus/FencingToken", "hashCode", "()I"⟩ : MethodName) (head1 (Jvm.Cond.code (⟨"com/example/portunus/portunus/FencingToken", "hashCode", "()I"⟩ : MethodName) prog_1_method_6_code 1 (some .int) :: ws) ({ frames := 1, cells := 0, slots := 0, locals := 13 } : Room)) (fun a U => a = #[(.ref a1)] ∧ Z.Warmed39 U.vm ∧ U.heap = h0) (fun _ _ _ _ _ => True) (fun _ U o U' => ∃ v L, o = .returned v ∧ Q8 Z a1 w2 h0 n0 v U'.heap L ∧ FrameEnd U o U' L ({ frames := 1, cells := 0, slots := 0, locals := 13 } : Room).cells ({ frames := 1, cells := 0, slots := 0, locals := 13 } : Room).slots) := by
  refine MetFree.of_bodySF (plainFor_of_name pn_8) hisR ?_
  intro p e s m args below meth c s₁ Bd hml0 hP hK
  obtain ⟨rfl, hZ, hh⟩ := hP
  have hx := Bd.exec
  have hby := Bd.bytes
  have hml : c.maxLocals = 1 := hml0
  have hown : s.vm.findClass "com/example/portunus/portunus/FencingToken" = some m.cls := findClass_of_methodNamed Bd.named
  have hnm := (name_of_methodNamed Bd.named Bd.method).1
  have X0 : Stand p l e ({ frames := 1, cells := 0, slots := 0, locals := 13 } : Room) s m #[(.ref a1)] below meth c s₁ [] 0 0 := Stand.of_body Bd
  have e0 : s₁.heap = h0 := by rw [← hh, Bd.state]; rfl
  have N0 := Fr.nil n0
  have pre0 : ∀ t, Steps p.tables e below (s₁.setTop (mkF m 0 #[.val (.ref a1)] [])) t → Steps p.tables e below (s₁.setTop (entryFrame m #[(.ref a1)] 1)) t := fun t k => castTop (ef_8 m a1) k
  obtain ⟨T3, X3, e3, st3⟩ := getF X0 hx hZ hown (host := "") (Or.inl (hw _ (List.mem_of_getElem? (i := 13) rfl))) Via.refl e0 F_value_a1 (g := (mkF m 1 #[.val (.ref a1)] [(.ref a1)])) rfl rfl (hb hby d8_1)
  obtain ⟨_, _, ⟨T4, L4, k4, n4⟩, -, X4, ⟨Lc4, hQ4, l4, y4, z4⟩, st4⟩ := Jvm.LawKit.callS X3 hx (y := (⟨"java/lang/Long", "hashCode", "(J)I"⟩ : MethodName)) hown (mvT hZ (hw _ (List.mem_of_getElem? (i := 40) rfl))) (mvT hZ (hw _ (List.mem_of_getElem? (i := 41) rfl))) (mvT hZ (hw _ (List.mem_of_getElem? (i := 33) rfl))) (mvT hZ (hw _ (List.mem_of_getElem? (i := 42) rfl))) (by decide) (backOf (W := 0) (rm9 l Z a0 hw [] w2 h0 n0 Z0) hZ (hw _ (List.mem_of_getElem? (i := 42) rfl)) (hw _ (List.mem_of_getElem? (i := 33) rfl)) (by decide) (by decide)) (g := (mkF m 4 #[.val (.ref a1)] [(.long w2)])) rfl (by rw [hml]; rfl) (argsL := [(.long w2)]) (rest := []) (lenOf pd_8_8 rfl) rfl (by show 2 * 0 + _ ≤ _; exact Nat.le_of_eq rfl) (hb hby d8_4) (fun _ _ => ⟨rfl, e3, (by decide : 0 + 0 ≤ _), (by decide : 0 + 0 ≤ _)⟩)
  dsimp only [Pt.U, Pt.locs, Pt.cells, Pt.slots] at X4 l4 y4 z4 st4 hQ4
  subst l4 y4 z4
  obtain ⟨rfl, N4q, e4q⟩ := hQ4
  have N4 := Fr.app N0 N4q
  obtain ⟨fs, hr, hrun, hended, hW, hsame⟩ := X4.leave (v := some (.int (own_hash w2))) (fun h => by rw [Bd.returns] at h; cases h)
  refine ⟨_, _, pre0 _ ?_, hrun, hended, _, _, rfl, ?_, ⟨_, rfl⟩, hW, hsame.mono (by decide) (by decide)⟩
  · show Steps p.tables e below (s₁.setTop (mkF m 0 #[.val (.ref a1)] [])) _
    refine XS.aloadN X0.here hx rfl (hb hby d8_0) rfl rfl ?_
    show Steps p.tables e below (s₁.setTop (mkF m 1 #[.val (.ref a1)] [(.ref a1)])) _
    refine st3 _ ?_
    show Steps p.tables e below (T3.setTop (mkF m 4 #[.val (.ref a1)] [(.long w2)])) _
    refine st4 _ ?_
    show Steps p.tables e below (T4.setTop (mkF m 7 #[.val (.ref a1)] [(.int (own_hash w2))])) _
    exact retI X4 hx Bd.returns (hb hby d8_7) hr
  · show Q8 Z a1 w2 h0 n0 _ T4.heap _
    exact ⟨rfl, N4, e4q⟩
theorem pn_0 : plainName "com/example/portunus/portunus/FencingTokenOfPinLaw" = true := by first | (simp [plainName, overriddenIn]; done) | decide +kernel
theorem pd_0_0 : parseMethodDescriptor "(J)Lcom/example/portunus/portunus/FencingToken;" = some ⟨[.long], some (.object "com/example/portunus/portunus/FencingToken")⟩ := by decide +kernel
theorem pd_0_3 : parseMethodDescriptor "()J" = some ⟨[], some .long⟩ := by decide +kernel
theorem pd_0_4 : parseMethodDescriptor "(Ljava/lang/Object;)Z" = some ⟨[(.object "java/lang/Object")], some .boolean⟩ := by decide +kernel
theorem pd_0_5 : parseMethodDescriptor "(Lcom/example/portunus/portunus/FencingToken;)I" = some ⟨[(.object "com/example/portunus/portunus/FencingToken")], some .int⟩ := by decide +kernel
theorem pd_0_7 : parseMethodDescriptor "()I" = some ⟨[], some .int⟩ := by decide +kernel
theorem ef_0 (m : MethodId) (x0 : Int64) (x1 : Int64) (x2 : Int32) : entryFrame m #[(.long x0), (.long x1), (.int x2)] maxLocals = mkF m 0 #[.val (.long x0), .second, .val (.long x1), .second, .val (.int x2), .unset, .unset, .unset, .unset, .unset, .unset, .unset, .unset, .unset, .unset] [] := by first | (simp [entryFrame, mkF, argsToLocals, Value.category, maxLocals]; done) | rfl
def Q0 (Z : State) (q1 : Int64) (q2 : Int64) (p3 : Int32) (h0 : Heap) (n0 : Nat) (v : Option Value) (h : Heap) (L : List Loc) : Prop := v = some (.int (1 : Int32)) ∧ Fr n0 L
set_option maxRecDepth 65536 in
set_option maxHeartbeats 40000000 in
theorem rm0A (l : Launch) (Z : State) (a0 : Array Value) (hw : ∀ d ∈ tables_1, d.before a0 Z = true) (ws : List Jvm.Cond) (q1 : Int64) (q2 : Int64) (p3 : Int32) (h0 : Heap) (n0 : Nat) (Z0 : n0 ≤ h0.size) (hord : (own_a q1) = (own_a q1)) (hnz9 : ¬ ((9223372036854775807 : Int64) = (0 : Int64))) (hc17 : ¬ ((p3 &&& (1 : Int32)) = (0 : Int32))) (hc94 : (lcmpW (own_a q1) (own_a q1)) = (0 : Int32)) (hc142 : ¬ ((lcmpW (own_a q1) (own_a q1)) < (0 : Int32))) (hc154 : ¬ ((0 : Int32) < (lcmpW (own_a q1) (own_a q1)))) (hc178 : (lcmpW (own_a q1) (own_a q1)) = (0 : Int32)) :
    MetFree l x (head1 (Jvm.Cond.code x code maxLocals ret :: ws) room_1) (fun a U => a = #[(.long q1), (.long q2), (.int p3)] ∧ Z.Warmed39 U.vm ∧ U.heap = h0) (fun _ _ _ _ _ => True) (fun _ U o U' => ∃ v L, o = .returned v ∧ Q0 Z q1 q2 p3 h0 n0 v U'.heap L ∧ FrameEnd U o U' L room_1.cells room_1.slots) := by
  refine MetFree.of_bodySF (plainFor_of_name pn_0) hisR ?_
  intro p e s m args below meth c s₁ Bd hml0 hP hK
  obtain ⟨rfl, hZ, hh⟩ := hP
  have hx := Bd.exec
  have hby := Bd.bytes
  have hml : c.maxLocals = 15 := hml0
  have hown : s.vm.findClass "com/example/portunus/portunus/FencingTokenOfPinLaw" = some m.cls := findClass_of_methodNamed Bd.named
  have hnm := (name_of_methodNamed Bd.named Bd.method).1
  have X0 : Stand p l e room_1 s m #[(.long q1), (.long q2), (.int p3)] below meth c s₁ [] 0 0 := Stand.of_body Bd
  have e0 : s₁.heap = h0 := by rw [← hh, Bd.state]; rfl
  have N0 := Fr.nil n0
  have hway := own_way_eq hord
  have pre0 : ∀ t, Steps p.tables e below (s₁.setTop (mkF m 0 #[.val (.long q1), .second, .val (.long q2), .second, .val (.int p3), .unset, .unset, .unset, .unset, .unset, .unset, .unset, .unset, .unset, .unset] [])) t → Steps p.tables e below (s₁.setTop (entryFrame m #[(.long q1), (.long q2), (.int p3)] maxLocals)) t := fun t k => castTop (ef_0 m q1 q2 p3) k
  obtain ⟨_, _, ⟨T4, L4, k4, n4⟩, -, X4, ⟨Lc4, hQ4, l4, y4, z4⟩, st4⟩ := Jvm.LawKit.callS X0 hx (y := (⟨"com/example/portunus/portunus/FencingToken", "of", "(J)Lcom/example/portunus/portunus/FencingToken;"⟩ : MethodName)) hown (mvT hZ (hw _ (List.mem_of_getElem? (i := 1) rfl))) (mvT hZ (hw _ (List.mem_of_getElem? (i := 2) rfl))) (mvT hZ (hw _ (List.mem_of_getElem? (i := 3) rfl))) (mvT hZ (hw _ (List.mem_of_getElem? (i := 4) rfl))) (by decide) (backOf (W := 0) (rm1 l Z a0 hw [] (own_a q1) h0 n0 Z0 (own_a_pos q1)) hZ (hw _ (List.mem_of_getElem? (i := 4) rfl)) (hw _ (List.mem_of_getElem? (i := 3) rfl)) (by decide) (by decide)) (g := (mkF m 40 #[.val (.long q1), .second, .val (.long q2), .second, .val (.int p3), .val (.long (own_a q1)), .second, .val (.long (own_a q1)), .second, .unset, .unset, .unset, .unset, .unset, .unset] [(.long (own_a q1))])) rfl (by rw [hml]; rfl) (argsL := [(.long (own_a q1))]) (rest := []) (lenOf pd_0_0 rfl) rfl (by show 2 * 0 + _ ≤ _; exact Nat.le_of_eq rfl) (hb hby at_40) (fun _ _ => ⟨rfl, e0, (by decide : 0 + 1 ≤ _), (by decide : 0 + 1 ≤ _)⟩)
  dsimp only [Pt.U, Pt.locs, Pt.cells, Pt.slots] at X4 l4 y4 z4 st4 hQ4
  subst l4 y4 z4
  obtain ⟨b4, rfl, N4q, K4, sz4, Ex4, Fv4⟩ := hQ4
  have N4 := Fr.app N0 N4q
  have Z4 : n0 ≤ T4.heap.size := Nat.le_trans Z0 K4.1
  obtain ⟨_, _, ⟨T5, L5, k5, n5⟩, -, X5, ⟨Lc5, hQ5, l5, y5, z5⟩, st5⟩ := Jvm.LawKit.callS X4 hx (y := (⟨"com/example/portunus/portunus/FencingToken", "of", "(J)Lcom/example/portunus/portunus/FencingToken;"⟩ : MethodName)) hown (mvT hZ (hw _ (List.mem_of_getElem? (i := 1) rfl))) (mvT hZ (hw _ (List.mem_of_getElem? (i := 2) rfl))) (mvT hZ (hw _ (List.mem_of_getElem? (i := 3) rfl))) (mvT hZ (hw _ (List.mem_of_getElem? (i := 4) rfl))) (by decide) (backOf (W := 0) (rm1 l Z a0 hw [] (own_a q1) T4.heap n0 Z4 (own_a_pos q1)) hZ (hw _ (List.mem_of_getElem? (i := 4) rfl)) (hw _ (List.mem_of_getElem? (i := 3) rfl)) (by decide) (by decide)) (g := (mkF m 47 #[.val (.long q1), .second, .val (.long q2), .second, .val (.int p3), .val (.long (own_a q1)), .second, .val (.long (own_a q1)), .second, .val (.ref b4), .unset, .unset, .unset, .unset, .unset] [(.long (own_a q1))])) rfl (by rw [hml]; rfl) (argsL := [(.long (own_a q1))]) (rest := []) (lenOf pd_0_0 rfl) rfl (by show 2 * 0 + _ ≤ _; exact Nat.le_of_eq rfl) (hb hby at_47) (fun _ _ => ⟨rfl, rfl, (by decide : 0 + (1 + 1) ≤ _), (by decide : 0 + (1 + 1) ≤ _)⟩)
  dsimp only [Pt.U, Pt.locs, Pt.cells, Pt.slots] at X5 l5 y5 z5 st5 hQ5
  subst l5 y5 z5
  obtain ⟨b5, rfl, N5q, K5, sz5, Ex5, Fv5⟩ := hQ5
  have N5 := Fr.app N4 N5q
  have Z5 : n0 ≤ T5.heap.size := Nat.le_trans Z4 K5.1
  have hne : ¬ (b4 = b5) := fun q => Nat.lt_irrefl _ (Nat.lt_of_lt_of_le Ex4.lt (q ▸ sz5))
  have Ex4b := Ex4.keep K5
  have Fv4b := Fv4.keep K5 (fun q => nomatch q)
  obtain ⟨cq6, kq6, q6a, q6b, q6c⟩ := isOf hZ rfl Ex4b
  obtain ⟨_, _, ⟨T6, L6, k6, n6⟩, -, X6, ⟨Lc6, hQ6, l6, y6, z6⟩, st6⟩ := X5.virtualBack hx (y := (⟨"com/example/portunus/portunus/FencingToken", "value", "()J"⟩ : MethodName)) (z := (⟨"com/example/portunus/portunus/FencingToken", "value", "()J"⟩ : MethodName)) hown (mvT hZ (hw _ (List.mem_of_getElem? (i := 15) rfl))) (mvT hZ (hw _ (List.mem_of_getElem? (i := 16) rfl))) (notFace_of_selects (args := #[]) (mvT hZ (hw _ (List.mem_of_getElem? (i := 18) rfl)))) (mvT hZ (hw _ (List.mem_of_getElem? (i := 18) rfl))) (mvT hZ (hw _ (List.mem_of_getElem? (i := 17) rfl))) (by decide) (backOf (W := 0) (rm4 l Z a0 hw [] b4 (own_a q1) T5.heap n0 Z5 Fv4b) hZ (hw _ (List.mem_of_getElem? (i := 19) rfl)) (hw _ (List.mem_of_getElem? (i := 3) rfl)) (by decide) (by decide)) q6a q6c (g := (mkF m 54 #[.val (.long q1), .second, .val (.long q2), .second, .val (.int p3), .val (.long (own_a q1)), .second, .val (.long (own_a q1)), .second, .val (.ref b4), .val (.ref b5), .unset, .unset, .unset, .unset] [(.ref b4)])) rfl (by rw [hml]; rfl) (Steps.refl _) (argsL := []) (rest := []) (lenOf pd_0_3 rfl) rfl (by show 2 * 0 + _ ≤ _; exact Nat.le_of_eq rfl) (hb hby at_54) (fun _ _ => ⟨rfl, rfl, (by decide : 0 + (2 + 0) ≤ _), (by decide : 0 + (2 + 0) ≤ _)⟩)
  dsimp only [Pt.U, Pt.locs, Pt.cells, Pt.slots] at X6 l6 y6 z6 st6 hQ6
  subst l6 y6 z6
  obtain ⟨rfl, N6q, e6q⟩ := hQ6
  have N6 := Fr.app N5 N6q
  have K6 : Keep T5.heap T6.heap [] := by rw [e6q]; exact Keep.refl T5.heap []
  have Z6 : n0 ≤ T6.heap.size := Nat.le_trans Z5 K6.1
  obtain ⟨cq7, kq7, q7a, q7b, q7c⟩ := isOf hZ rfl (Ex5.keep K6)
  obtain ⟨_, _, ⟨T7, L7, k7, n7⟩, -, X7, ⟨Lc7, hQ7, l7, y7, z7⟩, st7⟩ := X6.virtualBack hx (y := (⟨"com/example/portunus/portunus/FencingToken", "value", "()J"⟩ : MethodName)) (z := (⟨"com/example/portunus/portunus/FencingToken", "value", "()J"⟩ : MethodName)) hown (mvT hZ (hw _ (List.mem_of_getElem? (i := 15) rfl))) (mvT hZ (hw _ (List.mem_of_getElem? (i := 16) rfl))) (notFace_of_selects (args := #[]) (mvT hZ (hw _ (List.mem_of_getElem? (i := 18) rfl)))) (mvT hZ (hw _ (List.mem_of_getElem? (i := 18) rfl))) (mvT hZ (hw _ (List.mem_of_getElem? (i := 17) rfl))) (by decide) (backOf (W := 0) (rm4 l Z a0 hw [] b5 (own_a q1) T6.heap n0 Z6 (Fv5.keep K6 (fun q => nomatch q))) hZ (hw _ (List.mem_of_getElem? (i := 19) rfl)) (hw _ (List.mem_of_getElem? (i := 3) rfl)) (by decide) (by decide)) q7a q7c (g := (mkF m 67 #[.val (.long q1), .second, .val (.long q2), .second, .val (.int p3), .val (.long (own_a q1)), .second, .val (.long (own_a q1)), .second, .val (.ref b4), .val (.ref b5), .unset, .unset, .unset, .unset] [(.ref b5)])) rfl (by rw [hml]; rfl) (Steps.refl _) (argsL := []) (rest := []) (lenOf pd_0_3 rfl) rfl (by show 2 * 0 + _ ≤ _; exact Nat.le_of_eq rfl) (hb hby at_67) (fun _ _ => ⟨rfl, rfl, (by decide : 0 + (2 + 0) ≤ _), (by decide : 0 + (2 + 0) ≤ _)⟩)
  dsimp only [Pt.U, Pt.locs, Pt.cells, Pt.slots] at X7 l7 y7 z7 st7 hQ7
  subst l7 y7 z7
  obtain ⟨rfl, N7q, e7q⟩ := hQ7
  have N7 := Fr.app N6 N7q
  have K7 : Keep T6.heap T7.heap [] := by rw [e7q]; exact Keep.refl T6.heap []
  have Z7 : n0 ≤ T7.heap.size := Nat.le_trans Z6 K7.1
  obtain ⟨cq8, kq8, q8a, q8b, q8c⟩ := isOf hZ rfl ((Ex4b.keep K6).keep K7)
  obtain ⟨_, _, ⟨T8, L8, k8, n8⟩, -, X8, ⟨Lc8, hQ8, l8, y8, z8⟩, st8⟩ := X7.virtualBack hx (y := (⟨"com/example/portunus/portunus/FencingToken", "equals", "(Ljava/lang/Object;)Z"⟩ : MethodName)) (z := (⟨"com/example/portunus/portunus/FencingToken", "equals", "(Ljava/lang/Object;)Z"⟩ : MethodName)) hown (mvT hZ (hw _ (List.mem_of_getElem? (i := 20) rfl))) (mvT hZ (hw _ (List.mem_of_getElem? (i := 21) rfl))) (notFace_of_selects (args := #[]) (mvT hZ (hw _ (List.mem_of_getElem? (i := 23) rfl)))) (mvT hZ (hw _ (List.mem_of_getElem? (i := 23) rfl))) (mvT hZ (hw _ (List.mem_of_getElem? (i := 22) rfl))) (by decide) (backOf (W := 0) (rm5 l Z a0 hw [] b4 b5 (own_a q1) (own_a q1) T7.heap n0 Z7 (Ins.self ((Ex5.keep K6).keep K7)) ((Fv4b.keep K6 (fun q => nomatch q)).keep K7 (fun q => nomatch q)) ((Fv5.keep K6 (fun q => nomatch q)).keep K7 (fun q => nomatch q)) hne) hZ (hw _ (List.mem_of_getElem? (i := 24) rfl)) (hw _ (List.mem_of_getElem? (i := 3) rfl)) (by decide) (by decide)) q8a q8c (g := (mkF m 82 #[.val (.long q1), .second, .val (.long q2), .second, .val (.int p3), .val (.long (own_a q1)), .second, .val (.long (own_a q1)), .second, .val (.ref b4), .val (.ref b5), .unset, .unset, .unset, .unset] [(.ref b5), (.ref b4)])) rfl (by rw [hml]; rfl) (Steps.refl _) (argsL := [(.ref b5)]) (rest := []) (lenOf pd_0_4 rfl) rfl (by show 2 * 0 + _ ≤ _; exact Nat.le_of_eq rfl) (hb hby at_82) (fun _ _ => ⟨rfl, rfl, (by decide : 0 + (2 + 0) ≤ _), (by decide : 0 + (2 + 0) ≤ _)⟩)
  dsimp only [Pt.U, Pt.locs, Pt.cells, Pt.slots] at X8 l8 y8 z8 st8 hQ8
  subst l8 y8 z8
  obtain ⟨rfl, N8q, e8q⟩ := hQ8
  have N8 := Fr.app N7 N8q
  have K8 : Keep T7.heap T8.heap [] := by rw [e8q]; exact Keep.refl T7.heap []
  have Z8 : n0 ≤ T8.heap.size := Nat.le_trans Z7 K8.1
  obtain ⟨cq9, kq9, q9a, q9b, q9c⟩ := isOf hZ rfl (((Ex4b.keep K6).keep K7).keep K8)
  obtain ⟨_, _, ⟨T9, L9, k9, n9⟩, -, X9, ⟨Lc9, hQ9, l9, y9, z9⟩, st9⟩ := X8.virtualBack hx (y := (⟨"com/example/portunus/portunus/FencingToken", "compareTo", "(Lcom/example/portunus/portunus/FencingToken;)I"⟩ : MethodName)) (z := (⟨"com/example/portunus/portunus/FencingToken", "compareTo", "(Lcom/example/portunus/portunus/FencingToken;)I"⟩ : MethodName)) hown (mvT hZ (hw _ (List.mem_of_getElem? (i := 26) rfl))) (mvT hZ (hw _ (List.mem_of_getElem? (i := 27) rfl))) (notFace_of_selects (args := #[]) (mvT hZ (hw _ (List.mem_of_getElem? (i := 29) rfl)))) (mvT hZ (hw _ (List.mem_of_getElem? (i := 29) rfl))) (mvT hZ (hw _ (List.mem_of_getElem? (i := 28) rfl))) (by decide) (backOf (W := 0) (rm6 l Z a0 hw [] b4 b5 (own_a q1) (own_a q1) T8.heap n0 Z8 (((Fv4b.keep K6 (fun q => nomatch q)).keep K7 (fun q => nomatch q)).keep K8 (fun q => nomatch q)) (((Fv5.keep K6 (fun q => nomatch q)).keep K7 (fun q => nomatch q)).keep K8 (fun q => nomatch q))) hZ (hw _ (List.mem_of_getElem? (i := 30) rfl)) (hw _ (List.mem_of_getElem? (i := 3) rfl)) (by decide) (by decide)) q9a q9c (g := (mkF m 111 #[.val (.long q1), .second, .val (.long q2), .second, .val (.int p3), .val (.long (own_a q1)), .second, .val (.long (own_a q1)), .second, .val (.ref b4), .val (.ref b5), .val (.int (own_eqv (own_a q1) (own_a q1))), .unset, .unset, .unset] [(.ref b5), (.ref b4)])) rfl (by rw [hml]; rfl) (Steps.refl _) (argsL := [(.ref b5)]) (rest := []) (lenOf pd_0_5 rfl) rfl (by show 2 * 0 + _ ≤ _; exact Nat.le_of_eq rfl) (hb hby at_111) (fun _ _ => ⟨rfl, rfl, (by decide : 0 + (2 + 0) ≤ _), (by decide : 0 + (2 + 0) ≤ _)⟩)
  dsimp only [Pt.U, Pt.locs, Pt.cells, Pt.slots] at X9 l9 y9 z9 st9 hQ9
  subst l9 y9 z9
  obtain ⟨rfl, N9q, e9q⟩ := hQ9
  have N9 := Fr.app N8 N9q
  have K9 : Keep T8.heap T9.heap [] := by rw [e9q]; exact Keep.refl T8.heap []
  have Z9 : n0 ≤ T9.heap.size := Nat.le_trans Z8 K9.1
  obtain ⟨cq10, kq10, q10a, q10b, q10c⟩ := isOf hZ rfl ((((Ex4b.keep K6).keep K7).keep K8).keep K9)
  obtain ⟨_, _, ⟨T10, L10, k10, n10⟩, -, X10, ⟨Lc10, hQ10, l10, y10, z10⟩, st10⟩ := X9.virtualBack hx (y := (⟨"com/example/portunus/portunus/FencingToken", "hashCode", "()I"⟩ : MethodName)) (z := (⟨"com/example/portunus/portunus/FencingToken", "hashCode", "()I"⟩ : MethodName)) hown (mvT hZ (hw _ (List.mem_of_getElem? (i := 35) rfl))) (mvT hZ (hw _ (List.mem_of_getElem? (i := 36) rfl))) (notFace_of_selects (args := #[]) (mvT hZ (hw _ (List.mem_of_getElem? (i := 38) rfl)))) (mvT hZ (hw _ (List.mem_of_getElem? (i := 38) rfl))) (mvT hZ (hw _ (List.mem_of_getElem? (i := 37) rfl))) (by decide) (backOf (W := 0) (rm8 l Z a0 hw [] b4 (own_a q1) T9.heap n0 Z9 ((((Fv4b.keep K6 (fun q => nomatch q)).keep K7 (fun q => nomatch q)).keep K8 (fun q => nomatch q)).keep K9 (fun q => nomatch q))) hZ (hw _ (List.mem_of_getElem? (i := 39) rfl)) (hw _ (List.mem_of_getElem? (i := 3) rfl)) (by decide) (by decide)) q10a q10c (g := (mkF m 183 #[.val (.long q1), .second, .val (.long q2), .second, .val (.int p3), .val (.long (own_a q1)), .second, .val (.long (own_a q1)), .second, .val (.ref b4), .val (.ref b5), .val (.int (own_eqv (own_a q1) (own_a q1))), .val (.int (own_cmp (own_a q1) (own_a q1))), .val (.int (0 : Int32)), .val (.int (0 : Int32))] [(.ref b4)])) rfl (by rw [hml]; rfl) (Steps.refl _) (argsL := []) (rest := []) (lenOf pd_0_7 rfl) rfl (by show 2 * 0 + _ ≤ _; exact Nat.le_of_eq rfl) (hb hby at_183) (fun _ _ => ⟨rfl, rfl, (by decide : 0 + (2 + 0) ≤ _), (by decide : 0 + (2 + 0) ≤ _)⟩)
  dsimp only [Pt.U, Pt.locs, Pt.cells, Pt.slots] at X10 l10 y10 z10 st10 hQ10
  subst l10 y10 z10
  obtain ⟨rfl, N10q, e10q⟩ := hQ10
  have N10 := Fr.app N9 N10q
  have K10 : Keep T9.heap T10.heap [] := by rw [e10q]; exact Keep.refl T9.heap []
  have Z10 : n0 ≤ T10.heap.size := Nat.le_trans Z9 K10.1
  obtain ⟨cq11, kq11, q11a, q11b, q11c⟩ := isOf hZ rfl (((((Ex5.keep K6).keep K7).keep K8).keep K9).keep K10)
  obtain ⟨_, _, ⟨T11, L11, k11, n11⟩, -, X11, ⟨Lc11, hQ11, l11, y11, z11⟩, st11⟩ := X10.virtualBack hx (y := (⟨"com/example/portunus/portunus/FencingToken", "hashCode", "()I"⟩ : MethodName)) (z := (⟨"com/example/portunus/portunus/FencingToken", "hashCode", "()I"⟩ : MethodName)) hown (mvT hZ (hw _ (List.mem_of_getElem? (i := 35) rfl))) (mvT hZ (hw _ (List.mem_of_getElem? (i := 36) rfl))) (notFace_of_selects (args := #[]) (mvT hZ (hw _ (List.mem_of_getElem? (i := 38) rfl)))) (mvT hZ (hw _ (List.mem_of_getElem? (i := 38) rfl))) (mvT hZ (hw _ (List.mem_of_getElem? (i := 37) rfl))) (by decide) (backOf (W := 1) (rm8 l Z a0 hw [] b5 (own_a q1) T10.heap n0 Z10 (((((Fv5.keep K6 (fun q => nomatch q)).keep K7 (fun q => nomatch q)).keep K8 (fun q => nomatch q)).keep K9 (fun q => nomatch q)).keep K10 (fun q => nomatch q))) hZ (hw _ (List.mem_of_getElem? (i := 39) rfl)) (hw _ (List.mem_of_getElem? (i := 3) rfl)) (by decide) (by decide)) q11a q11c (g := (mkF m 188 #[.val (.long q1), .second, .val (.long q2), .second, .val (.int p3), .val (.long (own_a q1)), .second, .val (.long (own_a q1)), .second, .val (.ref b4), .val (.ref b5), .val (.int (own_eqv (own_a q1) (own_a q1))), .val (.int (own_cmp (own_a q1) (own_a q1))), .val (.int (0 : Int32)), .val (.int (0 : Int32))] [(.ref b5), (.int (own_hash (own_a q1)))])) rfl (by rw [hml]; rfl) (Steps.refl _) (argsL := []) (rest := [(.int (own_hash (own_a q1)))]) (lenOf pd_0_7 rfl) rfl (by show 2 * 0 + _ ≤ _; exact Nat.le_of_eq rfl) (hb hby at_188) (fun _ _ => ⟨rfl, rfl, (by decide : 0 + (2 + 0) ≤ _), (by decide : 0 + (2 + 0) ≤ _)⟩)
  dsimp only [Pt.U, Pt.locs, Pt.cells, Pt.slots] at X11 l11 y11 z11 st11 hQ11
  subst l11 y11 z11
  obtain ⟨rfl, N11q, e11q⟩ := hQ11
  have N11 := Fr.app N10 N11q
  have K11 : Keep T10.heap T11.heap [] := by rw [e11q]; exact Keep.refl T10.heap []
  have Z11 : n0 ≤ T11.heap.size := Nat.le_trans Z10 K11.1
  obtain ⟨fs, hr, hrun, hended, hW, hsame⟩ := X11.leave (v := some (.int (1 : Int32))) (fun h => by rw [Bd.returns] at h; cases h)
  refine ⟨_, _, pre0 _ ?_, hrun, hended, _, _, rfl, ?_, ⟨_, rfl⟩, hW, hsame.mono (by decide) (by decide)⟩
  · show Steps p.tables e below (s₁.setTop (mkF m 0 #[.val (.long q1), .second, .val (.long q2), .second, .val (.int p3), .unset, .unset, .unset, .unset, .unset, .unset, .unset, .unset, .unset, .unset] [])) _
    refine XS.lconst X0.here hx rfl (hb hby at_0) ?_
    show Steps p.tables e below (s₁.setTop (mkF m 1 #[.val (.long q1), .second, .val (.long q2), .second, .val (.int p3), .unset, .unset, .unset, .unset, .unset, .unset, .unset, .unset, .unset, .unset] [(.long (1 : Int64))])) _
    refine XS.lloadN X0.here hx rfl (hb hby at_1) rfl ?_
    show Steps p.tables e below (s₁.setTop (mkF m 2 #[.val (.long q1), .second, .val (.long q2), .second, .val (.int p3), .unset, .unset, .unset, .unset, .unset, .unset, .unset, .unset, .unset, .unset] [(.long q1), (.long (1 : Int64))])) _
    refine X0.ldc2Long hx hown (mvT hZ (hw _ (List.mem_of_getElem? (i := 0) rfl))) (g := (mkF m 2 #[.val (.long q1), .second, .val (.long q2), .second, .val (.int p3), .unset, .unset, .unset, .unset, .unset, .unset, .unset, .unset, .unset, .unset] [(.long q1), (.long (1 : Int64))])) rfl (hb hby at_2) _ ?_
    show Steps p.tables e below (s₁.setTop (mkF m 5 #[.val (.long q1), .second, .val (.long q2), .second, .val (.int p3), .unset, .unset, .unset, .unset, .unset, .unset, .unset, .unset, .unset, .unset] [(.long (9223372036854775807 : Int64)), (.long q1), (.long (1 : Int64))])) _
    refine XS.land X0.here hx rfl (hb hby at_5) rfl ?_
    show Steps p.tables e below (s₁.setTop (mkF m 6 #[.val (.long q1), .second, .val (.long q2), .second, .val (.int p3), .unset, .unset, .unset, .unset, .unset, .unset, .unset, .unset, .unset, .unset] [(.long (q1 &&& (9223372036854775807 : Int64))), (.long (1 : Int64))])) _
    refine X0.ldc2Long hx hown (mvT hZ (hw _ (List.mem_of_getElem? (i := 0) rfl))) (g := (mkF m 6 #[.val (.long q1), .second, .val (.long q2), .second, .val (.int p3), .unset, .unset, .unset, .unset, .unset, .unset, .unset, .unset, .unset, .unset] [(.long (q1 &&& (9223372036854775807 : Int64))), (.long (1 : Int64))])) rfl (hb hby at_6) _ ?_
    show Steps p.tables e below (s₁.setTop (mkF m 9 #[.val (.long q1), .second, .val (.long q2), .second, .val (.int p3), .unset, .unset, .unset, .unset, .unset, .unset, .unset, .unset, .unset, .unset] [(.long (9223372036854775807 : Int64)), (.long (q1 &&& (9223372036854775807 : Int64))), (.long (1 : Int64))])) _
    refine XS.lrem X0.here hx rfl (hb hby at_9) rfl hnz9 ?_
    show Steps p.tables e below (s₁.setTop (mkF m 10 #[.val (.long q1), .second, .val (.long q2), .second, .val (.int p3), .unset, .unset, .unset, .unset, .unset, .unset, .unset, .unset, .unset, .unset] [(.long ((q1 &&& (9223372036854775807 : Int64)) - ((q1 &&& (9223372036854775807 : Int64)) / (9223372036854775807 : Int64)) * (9223372036854775807 : Int64))), (.long (1 : Int64))])) _
    refine XS.ladd X0.here hx rfl (hb hby at_10) rfl ?_
    show Steps p.tables e below (s₁.setTop (mkF m 11 #[.val (.long q1), .second, .val (.long q2), .second, .val (.int p3), .unset, .unset, .unset, .unset, .unset, .unset, .unset, .unset, .unset, .unset] [(.long (own_a q1))])) _
    refine XS.lstore X0.here hx rfl (hb hby at_11) rfl (l' := #[.val (.long q1), .second, .val (.long q2), .second, .val (.int p3), .val (.long (own_a q1)), .second, .unset, .unset, .unset, .unset, .unset, .unset, .unset, .unset]) rfl ?_
    show Steps p.tables e below (s₁.setTop (mkF m 13 #[.val (.long q1), .second, .val (.long q2), .second, .val (.int p3), .val (.long (own_a q1)), .second, .unset, .unset, .unset, .unset, .unset, .unset, .unset, .unset] [])) _
    refine XS.iload X0.here hx rfl (hb hby at_13) rfl ?_
    show Steps p.tables e below (s₁.setTop (mkF m 15 #[.val (.long q1), .second, .val (.long q2), .second, .val (.int p3), .val (.long (own_a q1)), .second, .unset, .unset, .unset, .unset, .unset, .unset, .unset, .unset] [(.int p3)])) _
    refine XS.iconst X0.here hx rfl (hb hby at_15) ?_
    show Steps p.tables e below (s₁.setTop (mkF m 16 #[.val (.long q1), .second, .val (.long q2), .second, .val (.int p3), .val (.long (own_a q1)), .second, .unset, .unset, .unset, .unset, .unset, .unset, .unset, .unset] [(.int (1 : Int32)), (.int p3)])) _
    refine XS.iand X0.here hx rfl (hb hby at_16) rfl ?_
    show Steps p.tables e below (s₁.setTop (mkF m 17 #[.val (.long q1), .second, .val (.long q2), .second, .val (.int p3), .val (.long (own_a q1)), .second, .unset, .unset, .unset, .unset, .unset, .unset, .unset, .unset] [(.int (p3 &&& (1 : Int32)))])) _
    refine XS.ifNo X0.here hx rfl (hb hby at_17) rfl ((if0 _ _).trans (feq hc17).1) ?_
    show Steps p.tables e below (s₁.setTop (mkF m 20 #[.val (.long q1), .second, .val (.long q2), .second, .val (.int p3), .val (.long (own_a q1)), .second, .unset, .unset, .unset, .unset, .unset, .unset, .unset, .unset] [])) _
    refine XS.lload X0.here hx rfl (hb hby at_20) rfl ?_
    show Steps p.tables e below (s₁.setTop (mkF m 22 #[.val (.long q1), .second, .val (.long q2), .second, .val (.int p3), .val (.long (own_a q1)), .second, .unset, .unset, .unset, .unset, .unset, .unset, .unset, .unset] [(.long (own_a q1))])) _
    refine XS.goto X0.here hx rfl (pc0 := 22) (pc' := 36) rfl (hb hby at_22) (by decide) (by decide) ?_
    show Steps p.tables e below (s₁.setTop (mkF m 36 #[.val (.long q1), .second, .val (.long q2), .second, .val (.int p3), .val (.long (own_a q1)), .second, .unset, .unset, .unset, .unset, .unset, .unset, .unset, .unset] [(.long (own_a q1))])) _
    refine XS.lstore X0.here hx rfl (hb hby at_36) rfl (l' := #[.val (.long q1), .second, .val (.long q2), .second, .val (.int p3), .val (.long (own_a q1)), .second, .val (.long (own_a q1)), .second, .unset, .unset, .unset, .unset, .unset, .unset]) rfl ?_
    show Steps p.tables e below (s₁.setTop (mkF m 38 #[.val (.long q1), .second, .val (.long q2), .second, .val (.int p3), .val (.long (own_a q1)), .second, .val (.long (own_a q1)), .second, .unset, .unset, .unset, .unset, .unset, .unset] [])) _
    refine XS.lload X0.here hx rfl (hb hby at_38) rfl ?_
    show Steps p.tables e below (s₁.setTop (mkF m 40 #[.val (.long q1), .second, .val (.long q2), .second, .val (.int p3), .val (.long (own_a q1)), .second, .val (.long (own_a q1)), .second, .unset, .unset, .unset, .unset, .unset, .unset] [(.long (own_a q1))])) _
    refine st4 _ ?_
    show Steps p.tables e below (T4.setTop (mkF m 43 #[.val (.long q1), .second, .val (.long q2), .second, .val (.int p3), .val (.long (own_a q1)), .second, .val (.long (own_a q1)), .second, .unset, .unset, .unset, .unset, .unset, .unset] [(.ref b4)])) _
    refine XS.astore X4.here hx rfl (hb hby at_43) rfl rfl (l' := #[.val (.long q1), .second, .val (.long q2), .second, .val (.int p3), .val (.long (own_a q1)), .second, .val (.long (own_a q1)), .second, .val (.ref b4), .unset, .unset, .unset, .unset, .unset]) rfl ?_
    show Steps p.tables e below (T4.setTop (mkF m 45 #[.val (.long q1), .second, .val (.long q2), .second, .val (.int p3), .val (.long (own_a q1)), .second, .val (.long (own_a q1)), .second, .val (.ref b4), .unset, .unset, .unset, .unset, .unset] [])) _
    refine XS.lload X4.here hx rfl (hb hby at_45) rfl ?_
    show Steps p.tables e below (T4.setTop (mkF m 47 #[.val (.long q1), .second, .val (.long q2), .second, .val (.int p3), .val (.long (own_a q1)), .second, .val (.long (own_a q1)), .second, .val (.ref b4), .unset, .unset, .unset, .unset, .unset] [(.long (own_a q1))])) _
    refine st5 _ ?_
    show Steps p.tables e below (T5.setTop (mkF m 50 #[.val (.long q1), .second, .val (.long q2), .second, .val (.int p3), .val (.long (own_a q1)), .second, .val (.long (own_a q1)), .second, .val (.ref b4), .unset, .unset, .unset, .unset, .unset] [(.ref b5)])) _
    refine XS.astore X5.here hx rfl (hb hby at_50) rfl rfl (l' := #[.val (.long q1), .second, .val (.long q2), .second, .val (.int p3), .val (.long (own_a q1)), .second, .val (.long (own_a q1)), .second, .val (.ref b4), .val (.ref b5), .unset, .unset, .unset, .unset]) rfl ?_
    show Steps p.tables e below (T5.setTop (mkF m 52 #[.val (.long q1), .second, .val (.long q2), .second, .val (.int p3), .val (.long (own_a q1)), .second, .val (.long (own_a q1)), .second, .val (.ref b4), .val (.ref b5), .unset, .unset, .unset, .unset] [])) _
    refine XS.aload X5.here hx rfl (hb hby at_52) rfl rfl ?_
    show Steps p.tables e below (T5.setTop (mkF m 54 #[.val (.long q1), .second, .val (.long q2), .second, .val (.int p3), .val (.long (own_a q1)), .second, .val (.long (own_a q1)), .second, .val (.ref b4), .val (.ref b5), .unset, .unset, .unset, .unset] [(.ref b4)])) _
    refine st6.trans ?_
    show Steps p.tables e below (T6.setTop (mkF m 57 #[.val (.long q1), .second, .val (.long q2), .second, .val (.int p3), .val (.long (own_a q1)), .second, .val (.long (own_a q1)), .second, .val (.ref b4), .val (.ref b5), .unset, .unset, .unset, .unset] [(.long (own_a q1))])) _
    refine XS.lload X6.here hx rfl (hb hby at_57) rfl ?_
    show Steps p.tables e below (T6.setTop (mkF m 59 #[.val (.long q1), .second, .val (.long q2), .second, .val (.int p3), .val (.long (own_a q1)), .second, .val (.long (own_a q1)), .second, .val (.ref b4), .val (.ref b5), .unset, .unset, .unset, .unset] [(.long (own_a q1)), (.long (own_a q1))])) _
    refine XS.lcmp X6.here hx rfl (hb hby at_59) rfl ?_
    show Steps p.tables e below (T6.setTop (mkF m 60 #[.val (.long q1), .second, .val (.long q2), .second, .val (.int p3), .val (.long (own_a q1)), .second, .val (.long (own_a q1)), .second, .val (.ref b4), .val (.ref b5), .unset, .unset, .unset, .unset] [(.int (lcmpW (own_a q1) (own_a q1)))])) _
    refine XS.ifYes X6.here hx rfl (pc0 := 60) (pc' := 65) rfl (hb hby at_60) rfl ((if0 _ _).trans (teq ((own_self _) : (lcmpW (own_a q1) (own_a q1)) = (0 : Int32))).1) (by decide) (by decide) ?_
    show Steps p.tables e below (T6.setTop (mkF m 65 #[.val (.long q1), .second, .val (.long q2), .second, .val (.int p3), .val (.long (own_a q1)), .second, .val (.long (own_a q1)), .second, .val (.ref b4), .val (.ref b5), .unset, .unset, .unset, .unset] [])) _
    refine XS.aload X6.here hx rfl (hb hby at_65) rfl rfl ?_
    show Steps p.tables e below (T6.setTop (mkF m 67 #[.val (.long q1), .second, .val (.long q2), .second, .val (.int p3), .val (.long (own_a q1)), .second, .val (.long (own_a q1)), .second, .val (.ref b4), .val (.ref b5), .unset, .unset, .unset, .unset] [(.ref b5)])) _
    refine st7.trans ?_
    show Steps p.tables e below (T7.setTop (mkF m 70 #[.val (.long q1), .second, .val (.long q2), .second, .val (.int p3), .val (.long (own_a q1)), .second, .val (.long (own_a q1)), .second, .val (.ref b4), .val (.ref b5), .unset, .unset, .unset, .unset] [(.long (own_a q1))])) _
    refine XS.lload X7.here hx rfl (hb hby at_70) rfl ?_
    show Steps p.tables e below (T7.setTop (mkF m 72 #[.val (.long q1), .second, .val (.long q2), .second, .val (.int p3), .val (.long (own_a q1)), .second, .val (.long (own_a q1)), .second, .val (.ref b4), .val (.ref b5), .unset, .unset, .unset, .unset] [(.long (own_a q1)), (.long (own_a q1))])) _
    refine XS.lcmp X7.here hx rfl (hb hby at_72) rfl ?_
    show Steps p.tables e below (T7.setTop (mkF m 73 #[.val (.long q1), .second, .val (.long q2), .second, .val (.int p3), .val (.long (own_a q1)), .second, .val (.long (own_a q1)), .second, .val (.ref b4), .val (.ref b5), .unset, .unset, .unset, .unset] [(.int (lcmpW (own_a q1) (own_a q1)))])) _
    refine XS.ifYes X7.here hx rfl (pc0 := 73) (pc' := 78) rfl (hb hby at_73) rfl ((if0 _ _).trans (teq ((own_self _) : (lcmpW (own_a q1) (own_a q1)) = (0 : Int32))).1) (by decide) (by decide) ?_
    show Steps p.tables e below (T7.setTop (mkF m 78 #[.val (.long q1), .second, .val (.long q2), .second, .val (.int p3), .val (.long (own_a q1)), .second, .val (.long (own_a q1)), .second, .val (.ref b4), .val (.ref b5), .unset, .unset, .unset, .unset] [])) _
    refine XS.aload X7.here hx rfl (hb hby at_78) rfl rfl ?_
    show Steps p.tables e below (T7.setTop (mkF m 80 #[.val (.long q1), .second, .val (.long q2), .second, .val (.int p3), .val (.long (own_a q1)), .second, .val (.long (own_a q1)), .second, .val (.ref b4), .val (.ref b5), .unset, .unset, .unset, .unset] [(.ref b4)])) _
    refine XS.aload X7.here hx rfl (hb hby at_80) rfl rfl ?_
    show Steps p.tables e below (T7.setTop (mkF m 82 #[.val (.long q1), .second, .val (.long q2), .second, .val (.int p3), .val (.long (own_a q1)), .second, .val (.long (own_a q1)), .second, .val (.ref b4), .val (.ref b5), .unset, .unset, .unset, .unset] [(.ref b5), (.ref b4)])) _
    refine st8.trans ?_
    show Steps p.tables e below (T8.setTop (mkF m 85 #[.val (.long q1), .second, .val (.long q2), .second, .val (.int p3), .val (.long (own_a q1)), .second, .val (.long (own_a q1)), .second, .val (.ref b4), .val (.ref b5), .unset, .unset, .unset, .unset] [(.int (own_eqv (own_a q1) (own_a q1)))])) _
    refine XS.istore X8.here hx rfl (hb hby at_85) rfl (l' := #[.val (.long q1), .second, .val (.long q2), .second, .val (.int p3), .val (.long (own_a q1)), .second, .val (.long (own_a q1)), .second, .val (.ref b4), .val (.ref b5), .val (.int (own_eqv (own_a q1) (own_a q1))), .unset, .unset, .unset]) rfl ?_
    show Steps p.tables e below (T8.setTop (mkF m 87 #[.val (.long q1), .second, .val (.long q2), .second, .val (.int p3), .val (.long (own_a q1)), .second, .val (.long (own_a q1)), .second, .val (.ref b4), .val (.ref b5), .val (.int (own_eqv (own_a q1) (own_a q1))), .unset, .unset, .unset] [])) _
    refine XS.iload X8.here hx rfl (hb hby at_87) rfl ?_
    show Steps p.tables e below (T8.setTop (mkF m 89 #[.val (.long q1), .second, .val (.long q2), .second, .val (.int p3), .val (.long (own_a q1)), .second, .val (.long (own_a q1)), .second, .val (.ref b4), .val (.ref b5), .val (.int (own_eqv (own_a q1) (own_a q1))), .unset, .unset, .unset] [(.int (own_eqv (own_a q1) (own_a q1)))])) _
    refine XS.lload X8.here hx rfl (hb hby at_89) rfl ?_
    show Steps p.tables e below (T8.setTop (mkF m 91 #[.val (.long q1), .second, .val (.long q2), .second, .val (.int p3), .val (.long (own_a q1)), .second, .val (.long (own_a q1)), .second, .val (.ref b4), .val (.ref b5), .val (.int (own_eqv (own_a q1) (own_a q1))), .unset, .unset, .unset] [(.long (own_a q1)), (.int (own_eqv (own_a q1) (own_a q1)))])) _
    refine XS.lload X8.here hx rfl (hb hby at_91) rfl ?_
    show Steps p.tables e below (T8.setTop (mkF m 93 #[.val (.long q1), .second, .val (.long q2), .second, .val (.int p3), .val (.long (own_a q1)), .second, .val (.long (own_a q1)), .second, .val (.ref b4), .val (.ref b5), .val (.int (own_eqv (own_a q1) (own_a q1))), .unset, .unset, .unset] [(.long (own_a q1)), (.long (own_a q1)), (.int (own_eqv (own_a q1) (own_a q1)))])) _
    refine XS.lcmp X8.here hx rfl (hb hby at_93) rfl ?_
    show Steps p.tables e below (T8.setTop (mkF m 94 #[.val (.long q1), .second, .val (.long q2), .second, .val (.int p3), .val (.long (own_a q1)), .second, .val (.long (own_a q1)), .second, .val (.ref b4), .val (.ref b5), .val (.int (own_eqv (own_a q1) (own_a q1))), .unset, .unset, .unset] [(.int (lcmpW (own_a q1) (own_a q1))), (.int (own_eqv (own_a q1) (own_a q1)))])) _
    refine XS.ifNo X8.here hx rfl (hb hby at_94) rfl ((if0 _ _).trans (teq hc94).2) ?_
    show Steps p.tables e below (T8.setTop (mkF m 97 #[.val (.long q1), .second, .val (.long q2), .second, .val (.int p3), .val (.long (own_a q1)), .second, .val (.long (own_a q1)), .second, .val (.ref b4), .val (.ref b5), .val (.int (own_eqv (own_a q1) (own_a q1))), .unset, .unset, .unset] [(.int (own_eqv (own_a q1) (own_a q1)))])) _
    refine XS.iconst X8.here hx rfl (hb hby at_97) ?_
    show Steps p.tables e below (T8.setTop (mkF m 98 #[.val (.long q1), .second, .val (.long q2), .second, .val (.int p3), .val (.long (own_a q1)), .second, .val (.long (own_a q1)), .second, .val (.ref b4), .val (.ref b5), .val (.int (own_eqv (own_a q1) (own_a q1))), .unset, .unset, .unset] [(.int (1 : Int32)), (.int (own_eqv (own_a q1) (own_a q1)))])) _
    refine XS.goto X8.here hx rfl (pc0 := 98) (pc' := 102) rfl (hb hby at_98) (by decide) (by decide) ?_
    show Steps p.tables e below (T8.setTop (mkF m 102 #[.val (.long q1), .second, .val (.long q2), .second, .val (.int p3), .val (.long (own_a q1)), .second, .val (.long (own_a q1)), .second, .val (.ref b4), .val (.ref b5), .val (.int (own_eqv (own_a q1) (own_a q1))), .unset, .unset, .unset] [(.int (1 : Int32)), (.int (own_eqv (own_a q1) (own_a q1)))])) _
    refine XS.icmpYes X8.here hx rfl (pc0 := 102) (pc' := 107) rfl (hb hby at_102) rfl (teq (hway.2.2.2.1 : (own_eqv (own_a q1) (own_a q1)) = (1 : Int32))).1 (by decide) (by decide) ?_
    show Steps p.tables e below (T8.setTop (mkF m 107 #[.val (.long q1), .second, .val (.long q2), .second, .val (.int p3), .val (.long (own_a q1)), .second, .val (.long (own_a q1)), .second, .val (.ref b4), .val (.ref b5), .val (.int (own_eqv (own_a q1) (own_a q1))), .unset, .unset, .unset] [])) _
    refine XS.aload X8.here hx rfl (hb hby at_107) rfl rfl ?_
    show Steps p.tables e below (T8.setTop (mkF m 109 #[.val (.long q1), .second, .val (.long q2), .second, .val (.int p3), .val (.long (own_a q1)), .second, .val (.long (own_a q1)), .second, .val (.ref b4), .val (.ref b5), .val (.int (own_eqv (own_a q1) (own_a q1))), .unset, .unset, .unset] [(.ref b4)])) _
    refine XS.aload X8.here hx rfl (hb hby at_109) rfl rfl ?_
    show Steps p.tables e below (T8.setTop (mkF m 111 #[.val (.long q1), .second, .val (.long q2), .second, .val (.int p3), .val (.long (own_a q1)), .second, .val (.long (own_a q1)), .second, .val (.ref b4), .val (.ref b5), .val (.int (own_eqv (own_a q1) (own_a q1))), .unset, .unset, .unset] [(.ref b5), (.ref b4)])) _
    refine st9.trans ?_
    show Steps p.tables e below (T9.setTop (mkF m 114 #[.val (.long q1), .second, .val (.long q2), .second, .val (.int p3), .val (.long (own_a q1)), .second, .val (.long (own_a q1)), .second, .val (.ref b4), .val (.ref b5), .val (.int (own_eqv (own_a q1) (own_a q1))), .unset, .unset, .unset] [(.int (own_cmp (own_a q1) (own_a q1)))])) _
    refine XS.istore X9.here hx rfl (hb hby at_114) rfl (l' := #[.val (.long q1), .second, .val (.long q2), .second, .val (.int p3), .val (.long (own_a q1)), .second, .val (.long (own_a q1)), .second, .val (.ref b4), .val (.ref b5), .val (.int (own_eqv (own_a q1) (own_a q1))), .val (.int (own_cmp (own_a q1) (own_a q1))), .unset, .unset]) rfl ?_
    show Steps p.tables e below (T9.setTop (mkF m 116 #[.val (.long q1), .second, .val (.long q2), .second, .val (.int p3), .val (.long (own_a q1)), .second, .val (.long (own_a q1)), .second, .val (.ref b4), .val (.ref b5), .val (.int (own_eqv (own_a q1) (own_a q1))), .val (.int (own_cmp (own_a q1) (own_a q1))), .unset, .unset] [])) _
    refine XS.iload X9.here hx rfl (hb hby at_116) rfl ?_
    show Steps p.tables e below (T9.setTop (mkF m 118 #[.val (.long q1), .second, .val (.long q2), .second, .val (.int p3), .val (.long (own_a q1)), .second, .val (.long (own_a q1)), .second, .val (.ref b4), .val (.ref b5), .val (.int (own_eqv (own_a q1) (own_a q1))), .val (.int (own_cmp (own_a q1) (own_a q1))), .unset, .unset] [(.int (own_cmp (own_a q1) (own_a q1)))])) _
    refine XS.ifYes X9.here hx rfl (pc0 := 118) (pc' := 125) rfl (hb hby at_118) rfl ((if0 _ _).trans (flt (hway.2.2.2.2.1 : ¬ ((own_cmp (own_a q1) (own_a q1)) < (0 : Int32)))).2.1) (by decide) (by decide) ?_
    show Steps p.tables e below (T9.setTop (mkF m 125 #[.val (.long q1), .second, .val (.long q2), .second, .val (.int p3), .val (.long (own_a q1)), .second, .val (.long (own_a q1)), .second, .val (.ref b4), .val (.ref b5), .val (.int (own_eqv (own_a q1) (own_a q1))), .val (.int (own_cmp (own_a q1) (own_a q1))), .unset, .unset] [])) _
    refine XS.iload X9.here hx rfl (hb hby at_125) rfl ?_
    show Steps p.tables e below (T9.setTop (mkF m 127 #[.val (.long q1), .second, .val (.long q2), .second, .val (.int p3), .val (.long (own_a q1)), .second, .val (.long (own_a q1)), .second, .val (.ref b4), .val (.ref b5), .val (.int (own_eqv (own_a q1) (own_a q1))), .val (.int (own_cmp (own_a q1) (own_a q1))), .unset, .unset] [(.int (own_cmp (own_a q1) (own_a q1)))])) _
    refine XS.ifYes X9.here hx rfl (pc0 := 127) (pc' := 134) rfl (hb hby at_127) rfl ((if0 _ _).trans (flt (hway.2.2.2.2.2.1 : ¬ ((0 : Int32) < (own_cmp (own_a q1) (own_a q1))))).2.2.2) (by decide) (by decide) ?_
    show Steps p.tables e below (T9.setTop (mkF m 134 #[.val (.long q1), .second, .val (.long q2), .second, .val (.int p3), .val (.long (own_a q1)), .second, .val (.long (own_a q1)), .second, .val (.ref b4), .val (.ref b5), .val (.int (own_eqv (own_a q1) (own_a q1))), .val (.int (own_cmp (own_a q1) (own_a q1))), .unset, .unset] [])) _
    refine XS.iconst X9.here hx rfl (hb hby at_134) ?_
    show Steps p.tables e below (T9.setTop (mkF m 135 #[.val (.long q1), .second, .val (.long q2), .second, .val (.int p3), .val (.long (own_a q1)), .second, .val (.long (own_a q1)), .second, .val (.ref b4), .val (.ref b5), .val (.int (own_eqv (own_a q1) (own_a q1))), .val (.int (own_cmp (own_a q1) (own_a q1))), .unset, .unset] [(.int (0 : Int32))])) _
    refine XS.istore X9.here hx rfl (hb hby at_135) rfl (l' := #[.val (.long q1), .second, .val (.long q2), .second, .val (.int p3), .val (.long (own_a q1)), .second, .val (.long (own_a q1)), .second, .val (.ref b4), .val (.ref b5), .val (.int (own_eqv (own_a q1) (own_a q1))), .val (.int (own_cmp (own_a q1) (own_a q1))), .val (.int (0 : Int32)), .unset]) rfl ?_
    show Steps p.tables e below (T9.setTop (mkF m 137 #[.val (.long q1), .second, .val (.long q2), .second, .val (.int p3), .val (.long (own_a q1)), .second, .val (.long (own_a q1)), .second, .val (.ref b4), .val (.ref b5), .val (.int (own_eqv (own_a q1) (own_a q1))), .val (.int (own_cmp (own_a q1) (own_a q1))), .val (.int (0 : Int32)), .unset] [])) _
    refine XS.lload X9.here hx rfl (hb hby at_137) rfl ?_
    show Steps p.tables e below (T9.setTop (mkF m 139 #[.val (.long q1), .second, .val (.long q2), .second, .val (.int p3), .val (.long (own_a q1)), .second, .val (.long (own_a q1)), .second, .val (.ref b4), .val (.ref b5), .val (.int (own_eqv (own_a q1) (own_a q1))), .val (.int (own_cmp (own_a q1) (own_a q1))), .val (.int (0 : Int32)), .unset] [(.long (own_a q1))])) _
    refine XS.lload X9.here hx rfl (hb hby at_139) rfl ?_
    show Steps p.tables e below (T9.setTop (mkF m 141 #[.val (.long q1), .second, .val (.long q2), .second, .val (.int p3), .val (.long (own_a q1)), .second, .val (.long (own_a q1)), .second, .val (.ref b4), .val (.ref b5), .val (.int (own_eqv (own_a q1) (own_a q1))), .val (.int (own_cmp (own_a q1) (own_a q1))), .val (.int (0 : Int32)), .unset] [(.long (own_a q1)), (.long (own_a q1))])) _
    refine XS.lcmp X9.here hx rfl (hb hby at_141) rfl ?_
    show Steps p.tables e below (T9.setTop (mkF m 142 #[.val (.long q1), .second, .val (.long q2), .second, .val (.int p3), .val (.long (own_a q1)), .second, .val (.long (own_a q1)), .second, .val (.ref b4), .val (.ref b5), .val (.int (own_eqv (own_a q1) (own_a q1))), .val (.int (own_cmp (own_a q1) (own_a q1))), .val (.int (0 : Int32)), .unset] [(.int (lcmpW (own_a q1) (own_a q1)))])) _
    refine XS.ifYes X9.here hx rfl (pc0 := 142) (pc' := 149) rfl (hb hby at_142) rfl ((if0 _ _).trans (flt hc142).2.1) (by decide) (by decide) ?_
    show Steps p.tables e below (T9.setTop (mkF m 149 #[.val (.long q1), .second, .val (.long q2), .second, .val (.int p3), .val (.long (own_a q1)), .second, .val (.long (own_a q1)), .second, .val (.ref b4), .val (.ref b5), .val (.int (own_eqv (own_a q1) (own_a q1))), .val (.int (own_cmp (own_a q1) (own_a q1))), .val (.int (0 : Int32)), .unset] [])) _
    refine XS.lload X9.here hx rfl (hb hby at_149) rfl ?_
    show Steps p.tables e below (T9.setTop (mkF m 151 #[.val (.long q1), .second, .val (.long q2), .second, .val (.int p3), .val (.long (own_a q1)), .second, .val (.long (own_a q1)), .second, .val (.ref b4), .val (.ref b5), .val (.int (own_eqv (own_a q1) (own_a q1))), .val (.int (own_cmp (own_a q1) (own_a q1))), .val (.int (0 : Int32)), .unset] [(.long (own_a q1))])) _
    refine XS.lload X9.here hx rfl (hb hby at_151) rfl ?_
    show Steps p.tables e below (T9.setTop (mkF m 153 #[.val (.long q1), .second, .val (.long q2), .second, .val (.int p3), .val (.long (own_a q1)), .second, .val (.long (own_a q1)), .second, .val (.ref b4), .val (.ref b5), .val (.int (own_eqv (own_a q1) (own_a q1))), .val (.int (own_cmp (own_a q1) (own_a q1))), .val (.int (0 : Int32)), .unset] [(.long (own_a q1)), (.long (own_a q1))])) _
    refine XS.lcmp X9.here hx rfl (hb hby at_153) rfl ?_
    show Steps p.tables e below (T9.setTop (mkF m 154 #[.val (.long q1), .second, .val (.long q2), .second, .val (.int p3), .val (.long (own_a q1)), .second, .val (.long (own_a q1)), .second, .val (.ref b4), .val (.ref b5), .val (.int (own_eqv (own_a q1) (own_a q1))), .val (.int (own_cmp (own_a q1) (own_a q1))), .val (.int (0 : Int32)), .unset] [(.int (lcmpW (own_a q1) (own_a q1)))])) _
    refine XS.ifYes X9.here hx rfl (pc0 := 154) (pc' := 161) rfl (hb hby at_154) rfl ((if0 _ _).trans (flt hc154).2.2.2) (by decide) (by decide) ?_
    show Steps p.tables e below (T9.setTop (mkF m 161 #[.val (.long q1), .second, .val (.long q2), .second, .val (.int p3), .val (.long (own_a q1)), .second, .val (.long (own_a q1)), .second, .val (.ref b4), .val (.ref b5), .val (.int (own_eqv (own_a q1) (own_a q1))), .val (.int (own_cmp (own_a q1) (own_a q1))), .val (.int (0 : Int32)), .unset] [])) _
    refine XS.iconst X9.here hx rfl (hb hby at_161) ?_
    show Steps p.tables e below (T9.setTop (mkF m 162 #[.val (.long q1), .second, .val (.long q2), .second, .val (.int p3), .val (.long (own_a q1)), .second, .val (.long (own_a q1)), .second, .val (.ref b4), .val (.ref b5), .val (.int (own_eqv (own_a q1) (own_a q1))), .val (.int (own_cmp (own_a q1) (own_a q1))), .val (.int (0 : Int32)), .unset] [(.int (0 : Int32))])) _
    refine XS.istore X9.here hx rfl (hb hby at_162) rfl (l' := #[.val (.long q1), .second, .val (.long q2), .second, .val (.int p3), .val (.long (own_a q1)), .second, .val (.long (own_a q1)), .second, .val (.ref b4), .val (.ref b5), .val (.int (own_eqv (own_a q1) (own_a q1))), .val (.int (own_cmp (own_a q1) (own_a q1))), .val (.int (0 : Int32)), .val (.int (0 : Int32))]) rfl ?_
    show Steps p.tables e below (T9.setTop (mkF m 164 #[.val (.long q1), .second, .val (.long q2), .second, .val (.int p3), .val (.long (own_a q1)), .second, .val (.long (own_a q1)), .second, .val (.ref b4), .val (.ref b5), .val (.int (own_eqv (own_a q1) (own_a q1))), .val (.int (own_cmp (own_a q1) (own_a q1))), .val (.int (0 : Int32)), .val (.int (0 : Int32))] [])) _
    refine XS.iload X9.here hx rfl (hb hby at_164) rfl ?_
    show Steps p.tables e below (T9.setTop (mkF m 166 #[.val (.long q1), .second, .val (.long q2), .second, .val (.int p3), .val (.long (own_a q1)), .second, .val (.long (own_a q1)), .second, .val (.ref b4), .val (.ref b5), .val (.int (own_eqv (own_a q1) (own_a q1))), .val (.int (own_cmp (own_a q1) (own_a q1))), .val (.int (0 : Int32)), .val (.int (0 : Int32))] [(.int (0 : Int32))])) _
    refine XS.iload X9.here hx rfl (hb hby at_166) rfl ?_
    show Steps p.tables e below (T9.setTop (mkF m 168 #[.val (.long q1), .second, .val (.long q2), .second, .val (.int p3), .val (.long (own_a q1)), .second, .val (.long (own_a q1)), .second, .val (.ref b4), .val (.ref b5), .val (.int (own_eqv (own_a q1) (own_a q1))), .val (.int (own_cmp (own_a q1) (own_a q1))), .val (.int (0 : Int32)), .val (.int (0 : Int32))] [(.int (0 : Int32)), (.int (0 : Int32))])) _
    refine XS.icmpYes X9.here hx rfl (pc0 := 168) (pc' := 173) rfl (hb hby at_168) rfl (teq (rfl : (0 : Int32) = (0 : Int32))).1 (by decide) (by decide) ?_
    show Steps p.tables e below (T9.setTop (mkF m 173 #[.val (.long q1), .second, .val (.long q2), .second, .val (.int p3), .val (.long (own_a q1)), .second, .val (.long (own_a q1)), .second, .val (.ref b4), .val (.ref b5), .val (.int (own_eqv (own_a q1) (own_a q1))), .val (.int (own_cmp (own_a q1) (own_a q1))), .val (.int (0 : Int32)), .val (.int (0 : Int32))] [])) _
    refine XS.lload X9.here hx rfl (hb hby at_173) rfl ?_
    show Steps p.tables e below (T9.setTop (mkF m 175 #[.val (.long q1), .second, .val (.long q2), .second, .val (.int p3), .val (.long (own_a q1)), .second, .val (.long (own_a q1)), .second, .val (.ref b4), .val (.ref b5), .val (.int (own_eqv (own_a q1) (own_a q1))), .val (.int (own_cmp (own_a q1) (own_a q1))), .val (.int (0 : Int32)), .val (.int (0 : Int32))] [(.long (own_a q1))])) _
    refine XS.lload X9.here hx rfl (hb hby at_175) rfl ?_
    show Steps p.tables e below (T9.setTop (mkF m 177 #[.val (.long q1), .second, .val (.long q2), .second, .val (.int p3), .val (.long (own_a q1)), .second, .val (.long (own_a q1)), .second, .val (.ref b4), .val (.ref b5), .val (.int (own_eqv (own_a q1) (own_a q1))), .val (.int (own_cmp (own_a q1) (own_a q1))), .val (.int (0 : Int32)), .val (.int (0 : Int32))] [(.long (own_a q1)), (.long (own_a q1))])) _
    refine XS.lcmp X9.here hx rfl (hb hby at_177) rfl ?_
    show Steps p.tables e below (T9.setTop (mkF m 178 #[.val (.long q1), .second, .val (.long q2), .second, .val (.int p3), .val (.long (own_a q1)), .second, .val (.long (own_a q1)), .second, .val (.ref b4), .val (.ref b5), .val (.int (own_eqv (own_a q1) (own_a q1))), .val (.int (own_cmp (own_a q1) (own_a q1))), .val (.int (0 : Int32)), .val (.int (0 : Int32))] [(.int (lcmpW (own_a q1) (own_a q1)))])) _
    refine XS.ifNo X9.here hx rfl (hb hby at_178) rfl ((if0 _ _).trans (teq hc178).2) ?_
    show Steps p.tables e below (T9.setTop (mkF m 181 #[.val (.long q1), .second, .val (.long q2), .second, .val (.int p3), .val (.long (own_a q1)), .second, .val (.long (own_a q1)), .second, .val (.ref b4), .val (.ref b5), .val (.int (own_eqv (own_a q1) (own_a q1))), .val (.int (own_cmp (own_a q1) (own_a q1))), .val (.int (0 : Int32)), .val (.int (0 : Int32))] [])) _
    refine XS.aload X9.here hx rfl (hb hby at_181) rfl rfl ?_
    show Steps p.tables e below (T9.setTop (mkF m 183 #[.val (.long q1), .second, .val (.long q2), .second, .val (.int p3), .val (.long (own_a q1)), .second, .val (.long (own_a q1)), .second, .val (.ref b4), .val (.ref b5), .val (.int (own_eqv (own_a q1) (own_a q1))), .val (.int (own_cmp (own_a q1) (own_a q1))), .val (.int (0 : Int32)), .val (.int (0 : Int32))] [(.ref b4)])) _
    refine st10.trans ?_
    show Steps p.tables e below (T10.setTop (mkF m 186 #[.val (.long q1), .second, .val (.long q2), .second, .val (.int p3), .val (.long (own_a q1)), .second, .val (.long (own_a q1)), .second, .val (.ref b4), .val (.ref b5), .val (.int (own_eqv (own_a q1) (own_a q1))), .val (.int (own_cmp (own_a q1) (own_a q1))), .val (.int (0 : Int32)), .val (.int (0 : Int32))] [(.int (own_hash (own_a q1)))])) _
    refine XS.aload X10.here hx rfl (hb hby at_186) rfl rfl ?_
    show Steps p.tables e below (T10.setTop (mkF m 188 #[.val (.long q1), .second, .val (.long q2), .second, .val (.int p3), .val (.long (own_a q1)), .second, .val (.long (own_a q1)), .second, .val (.ref b4), .val (.ref b5), .val (.int (own_eqv (own_a q1) (own_a q1))), .val (.int (own_cmp (own_a q1) (own_a q1))), .val (.int (0 : Int32)), .val (.int (0 : Int32))] [(.ref b5), (.int (own_hash (own_a q1)))])) _
    refine st11.trans ?_
    show Steps p.tables e below (T11.setTop (mkF m 191 #[.val (.long q1), .second, .val (.long q2), .second, .val (.int p3), .val (.long (own_a q1)), .second, .val (.long (own_a q1)), .second, .val (.ref b4), .val (.ref b5), .val (.int (own_eqv (own_a q1) (own_a q1))), .val (.int (own_cmp (own_a q1) (own_a q1))), .val (.int (0 : Int32)), .val (.int (0 : Int32))] [(.int (own_hash (own_a q1))), (.int (own_hash (own_a q1)))])) _
    refine XS.icmpYes X11.here hx rfl (pc0 := 191) (pc' := 196) rfl (hb hby at_191) rfl (teq (hway.2.2.2.2.2.2 : (own_hash (own_a q1)) = (own_hash (own_a q1)))).1 (by decide) (by decide) ?_
    show Steps p.tables e below (T11.setTop (mkF m 196 #[.val (.long q1), .second, .val (.long q2), .second, .val (.int p3), .val (.long (own_a q1)), .second, .val (.long (own_a q1)), .second, .val (.ref b4), .val (.ref b5), .val (.int (own_eqv (own_a q1) (own_a q1))), .val (.int (own_cmp (own_a q1) (own_a q1))), .val (.int (0 : Int32)), .val (.int (0 : Int32))] [])) _
    refine XS.iconst X11.here hx rfl (hb hby at_196) ?_
    show Steps p.tables e below (T11.setTop (mkF m 197 #[.val (.long q1), .second, .val (.long q2), .second, .val (.int p3), .val (.long (own_a q1)), .second, .val (.long (own_a q1)), .second, .val (.ref b4), .val (.ref b5), .val (.int (own_eqv (own_a q1) (own_a q1))), .val (.int (own_cmp (own_a q1) (own_a q1))), .val (.int (0 : Int32)), .val (.int (0 : Int32))] [(.int (1 : Int32))])) _
    exact retN X11 hx (t := .boolean) Bd.returns (by simp) (hb hby at_197) hr
  · show Q0 Z q1 q2 p3 h0 n0 _ T11.heap _
    exact ⟨rfl, N11⟩
set_option maxRecDepth 65536 in
set_option maxHeartbeats 40000000 in
theorem rm0B (l : Launch) (Z : State) (a0 : Array Value) (hw : ∀ d ∈ tables_1, d.before a0 Z = true) (ws : List Jvm.Cond) (q1 : Int64) (q2 : Int64) (p3 : Int32) (h0 : Heap) (n0 : Nat) (Z0 : n0 ≤ h0.size) (hord : (own_a q1) = (own_a q2)) (hnz9 : ¬ ((9223372036854775807 : Int64) = (0 : Int64))) (hc17 : (p3 &&& (1 : Int32)) = (0 : Int32)) (hnz34 : ¬ ((9223372036854775807 : Int64) = (0 : Int64))) (hc94 : (lcmpW (own_a q1) (own_a q2)) = (0 : Int32)) (hc142 : ¬ ((lcmpW (own_a q1) (own_a q2)) < (0 : Int32))) (hc154 : ¬ ((0 : Int32) < (lcmpW (own_a q1) (own_a q2)))) (hc178 : (lcmpW (own_a q1) (own_a q2)) = (0 : Int32)) :
    MetFree l x (head1 (Jvm.Cond.code x code maxLocals ret :: ws) room_1) (fun a U => a = #[(.long q1), (.long q2), (.int p3)] ∧ Z.Warmed39 U.vm ∧ U.heap = h0) (fun _ _ _ _ _ => True) (fun _ U o U' => ∃ v L, o = .returned v ∧ Q0 Z q1 q2 p3 h0 n0 v U'.heap L ∧ FrameEnd U o U' L room_1.cells room_1.slots) := by
  refine MetFree.of_bodySF (plainFor_of_name pn_0) hisR ?_
  intro p e s m args below meth c s₁ Bd hml0 hP hK
  obtain ⟨rfl, hZ, hh⟩ := hP
  have hx := Bd.exec
  have hby := Bd.bytes
  have hml : c.maxLocals = 15 := hml0
  have hown : s.vm.findClass "com/example/portunus/portunus/FencingTokenOfPinLaw" = some m.cls := findClass_of_methodNamed Bd.named
  have hnm := (name_of_methodNamed Bd.named Bd.method).1
  have X0 : Stand p l e room_1 s m #[(.long q1), (.long q2), (.int p3)] below meth c s₁ [] 0 0 := Stand.of_body Bd
  have e0 : s₁.heap = h0 := by rw [← hh, Bd.state]; rfl
  have N0 := Fr.nil n0
  have hway := own_way_eq hord
  have pre0 : ∀ t, Steps p.tables e below (s₁.setTop (mkF m 0 #[.val (.long q1), .second, .val (.long q2), .second, .val (.int p3), .unset, .unset, .unset, .unset, .unset, .unset, .unset, .unset, .unset, .unset] [])) t → Steps p.tables e below (s₁.setTop (entryFrame m #[(.long q1), (.long q2), (.int p3)] maxLocals)) t := fun t k => castTop (ef_0 m q1 q2 p3) k
  obtain ⟨_, _, ⟨T4, L4, k4, n4⟩, -, X4, ⟨Lc4, hQ4, l4, y4, z4⟩, st4⟩ := Jvm.LawKit.callS X0 hx (y := (⟨"com/example/portunus/portunus/FencingToken", "of", "(J)Lcom/example/portunus/portunus/FencingToken;"⟩ : MethodName)) hown (mvT hZ (hw _ (List.mem_of_getElem? (i := 1) rfl))) (mvT hZ (hw _ (List.mem_of_getElem? (i := 2) rfl))) (mvT hZ (hw _ (List.mem_of_getElem? (i := 3) rfl))) (mvT hZ (hw _ (List.mem_of_getElem? (i := 4) rfl))) (by decide) (backOf (W := 0) (rm1 l Z a0 hw [] (own_a q1) h0 n0 Z0 (own_a_pos q1)) hZ (hw _ (List.mem_of_getElem? (i := 4) rfl)) (hw _ (List.mem_of_getElem? (i := 3) rfl)) (by decide) (by decide)) (g := (mkF m 40 #[.val (.long q1), .second, .val (.long q2), .second, .val (.int p3), .val (.long (own_a q1)), .second, .val (.long (own_a q2)), .second, .unset, .unset, .unset, .unset, .unset, .unset] [(.long (own_a q1))])) rfl (by rw [hml]; rfl) (argsL := [(.long (own_a q1))]) (rest := []) (lenOf pd_0_0 rfl) rfl (by show 2 * 0 + _ ≤ _; exact Nat.le_of_eq rfl) (hb hby at_40) (fun _ _ => ⟨rfl, e0, (by decide : 0 + 1 ≤ _), (by decide : 0 + 1 ≤ _)⟩)
  dsimp only [Pt.U, Pt.locs, Pt.cells, Pt.slots] at X4 l4 y4 z4 st4 hQ4
  subst l4 y4 z4
  obtain ⟨b4, rfl, N4q, K4, sz4, Ex4, Fv4⟩ := hQ4
  have N4 := Fr.app N0 N4q
  have Z4 : n0 ≤ T4.heap.size := Nat.le_trans Z0 K4.1
  obtain ⟨_, _, ⟨T5, L5, k5, n5⟩, -, X5, ⟨Lc5, hQ5, l5, y5, z5⟩, st5⟩ := Jvm.LawKit.callS X4 hx (y := (⟨"com/example/portunus/portunus/FencingToken", "of", "(J)Lcom/example/portunus/portunus/FencingToken;"⟩ : MethodName)) hown (mvT hZ (hw _ (List.mem_of_getElem? (i := 1) rfl))) (mvT hZ (hw _ (List.mem_of_getElem? (i := 2) rfl))) (mvT hZ (hw _ (List.mem_of_getElem? (i := 3) rfl))) (mvT hZ (hw _ (List.mem_of_getElem? (i := 4) rfl))) (by decide) (backOf (W := 0) (rm1 l Z a0 hw [] (own_a q2) T4.heap n0 Z4 (own_a_pos q2)) hZ (hw _ (List.mem_of_getElem? (i := 4) rfl)) (hw _ (List.mem_of_getElem? (i := 3) rfl)) (by decide) (by decide)) (g := (mkF m 47 #[.val (.long q1), .second, .val (.long q2), .second, .val (.int p3), .val (.long (own_a q1)), .second, .val (.long (own_a q2)), .second, .val (.ref b4), .unset, .unset, .unset, .unset, .unset] [(.long (own_a q2))])) rfl (by rw [hml]; rfl) (argsL := [(.long (own_a q2))]) (rest := []) (lenOf pd_0_0 rfl) rfl (by show 2 * 0 + _ ≤ _; exact Nat.le_of_eq rfl) (hb hby at_47) (fun _ _ => ⟨rfl, rfl, (by decide : 0 + (1 + 1) ≤ _), (by decide : 0 + (1 + 1) ≤ _)⟩)
  dsimp only [Pt.U, Pt.locs, Pt.cells, Pt.slots] at X5 l5 y5 z5 st5 hQ5
  subst l5 y5 z5
  obtain ⟨b5, rfl, N5q, K5, sz5, Ex5, Fv5⟩ := hQ5
  have N5 := Fr.app N4 N5q
  have Z5 : n0 ≤ T5.heap.size := Nat.le_trans Z4 K5.1
  have hne : ¬ (b4 = b5) := fun q => Nat.lt_irrefl _ (Nat.lt_of_lt_of_le Ex4.lt (q ▸ sz5))
  have Ex4b := Ex4.keep K5
  have Fv4b := Fv4.keep K5 (fun q => nomatch q)
  obtain ⟨cq6, kq6, q6a, q6b, q6c⟩ := isOf hZ rfl Ex4b
  obtain ⟨_, _, ⟨T6, L6, k6, n6⟩, -, X6, ⟨Lc6, hQ6, l6, y6, z6⟩, st6⟩ := X5.virtualBack hx (y := (⟨"com/example/portunus/portunus/FencingToken", "value", "()J"⟩ : MethodName)) (z := (⟨"com/example/portunus/portunus/FencingToken", "value", "()J"⟩ : MethodName)) hown (mvT hZ (hw _ (List.mem_of_getElem? (i := 15) rfl))) (mvT hZ (hw _ (List.mem_of_getElem? (i := 16) rfl))) (notFace_of_selects (args := #[]) (mvT hZ (hw _ (List.mem_of_getElem? (i := 18) rfl)))) (mvT hZ (hw _ (List.mem_of_getElem? (i := 18) rfl))) (mvT hZ (hw _ (List.mem_of_getElem? (i := 17) rfl))) (by decide) (backOf (W := 0) (rm4 l Z a0 hw [] b4 (own_a q1) T5.heap n0 Z5 Fv4b) hZ (hw _ (List.mem_of_getElem? (i := 19) rfl)) (hw _ (List.mem_of_getElem? (i := 3) rfl)) (by decide) (by decide)) q6a q6c (g := (mkF m 54 #[.val (.long q1), .second, .val (.long q2), .second, .val (.int p3), .val (.long (own_a q1)), .second, .val (.long (own_a q2)), .second, .val (.ref b4), .val (.ref b5), .unset, .unset, .unset, .unset] [(.ref b4)])) rfl (by rw [hml]; rfl) (Steps.refl _) (argsL := []) (rest := []) (lenOf pd_0_3 rfl) rfl (by show 2 * 0 + _ ≤ _; exact Nat.le_of_eq rfl) (hb hby at_54) (fun _ _ => ⟨rfl, rfl, (by decide : 0 + (2 + 0) ≤ _), (by decide : 0 + (2 + 0) ≤ _)⟩)
  dsimp only [Pt.U, Pt.locs, Pt.cells, Pt.slots] at X6 l6 y6 z6 st6 hQ6
  subst l6 y6 z6
  obtain ⟨rfl, N6q, e6q⟩ := hQ6
  have N6 := Fr.app N5 N6q
  have K6 : Keep T5.heap T6.heap [] := by rw [e6q]; exact Keep.refl T5.heap []
  have Z6 : n0 ≤ T6.heap.size := Nat.le_trans Z5 K6.1
  obtain ⟨cq7, kq7, q7a, q7b, q7c⟩ := isOf hZ rfl (Ex5.keep K6)
  obtain ⟨_, _, ⟨T7, L7, k7, n7⟩, -, X7, ⟨Lc7, hQ7, l7, y7, z7⟩, st7⟩ := X6.virtualBack hx (y := (⟨"com/example/portunus/portunus/FencingToken", "value", "()J"⟩ : MethodName)) (z := (⟨"com/example/portunus/portunus/FencingToken", "value", "()J"⟩ : MethodName)) hown (mvT hZ (hw _ (List.mem_of_getElem? (i := 15) rfl))) (mvT hZ (hw _ (List.mem_of_getElem? (i := 16) rfl))) (notFace_of_selects (args := #[]) (mvT hZ (hw _ (List.mem_of_getElem? (i := 18) rfl)))) (mvT hZ (hw _ (List.mem_of_getElem? (i := 18) rfl))) (mvT hZ (hw _ (List.mem_of_getElem? (i := 17) rfl))) (by decide) (backOf (W := 0) (rm4 l Z a0 hw [] b5 (own_a q2) T6.heap n0 Z6 (Fv5.keep K6 (fun q => nomatch q))) hZ (hw _ (List.mem_of_getElem? (i := 19) rfl)) (hw _ (List.mem_of_getElem? (i := 3) rfl)) (by decide) (by decide)) q7a q7c (g := (mkF m 67 #[.val (.long q1), .second, .val (.long q2), .second, .val (.int p3), .val (.long (own_a q1)), .second, .val (.long (own_a q2)), .second, .val (.ref b4), .val (.ref b5), .unset, .unset, .unset, .unset] [(.ref b5)])) rfl (by rw [hml]; rfl) (Steps.refl _) (argsL := []) (rest := []) (lenOf pd_0_3 rfl) rfl (by show 2 * 0 + _ ≤ _; exact Nat.le_of_eq rfl) (hb hby at_67) (fun _ _ => ⟨rfl, rfl, (by decide : 0 + (2 + 0) ≤ _), (by decide : 0 + (2 + 0) ≤ _)⟩)
  dsimp only [Pt.U, Pt.locs, Pt.cells, Pt.slots] at X7 l7 y7 z7 st7 hQ7
  subst l7 y7 z7
  obtain ⟨rfl, N7q, e7q⟩ := hQ7
  have N7 := Fr.app N6 N7q
  have K7 : Keep T6.heap T7.heap [] := by rw [e7q]; exact Keep.refl T6.heap []
  have Z7 : n0 ≤ T7.heap.size := Nat.le_trans Z6 K7.1
  obtain ⟨cq8, kq8, q8a, q8b, q8c⟩ := isOf hZ rfl ((Ex4b.keep K6).keep K7)
  obtain ⟨_, _, ⟨T8, L8, k8, n8⟩, -, X8, ⟨Lc8, hQ8, l8, y8, z8⟩, st8⟩ := X7.virtualBack hx (y := (⟨"com/example/portunus/portunus/FencingToken", "equals", "(Ljava/lang/Object;)Z"⟩ : MethodName)) (z := (⟨"com/example/portunus/portunus/FencingToken", "equals", "(Ljava/lang/Object;)Z"⟩ : MethodName)) hown (mvT hZ (hw _ (List.mem_of_getElem? (i := 20) rfl))) (mvT hZ (hw _ (List.mem_of_getElem? (i := 21) rfl))) (notFace_of_selects (args := #[]) (mvT hZ (hw _ (List.mem_of_getElem? (i := 23) rfl)))) (mvT hZ (hw _ (List.mem_of_getElem? (i := 23) rfl))) (mvT hZ (hw _ (List.mem_of_getElem? (i := 22) rfl))) (by decide) (backOf (W := 0) (rm5 l Z a0 hw [] b4 b5 (own_a q1) (own_a q2) T7.heap n0 Z7 (Ins.self ((Ex5.keep K6).keep K7)) ((Fv4b.keep K6 (fun q => nomatch q)).keep K7 (fun q => nomatch q)) ((Fv5.keep K6 (fun q => nomatch q)).keep K7 (fun q => nomatch q)) hne) hZ (hw _ (List.mem_of_getElem? (i := 24) rfl)) (hw _ (List.mem_of_getElem? (i := 3) rfl)) (by decide) (by decide)) q8a q8c (g := (mkF m 82 #[.val (.long q1), .second, .val (.long q2), .second, .val (.int p3), .val (.long (own_a q1)), .second, .val (.long (own_a q2)), .second, .val (.ref b4), .val (.ref b5), .unset, .unset, .unset, .unset] [(.ref b5), (.ref b4)])) rfl (by rw [hml]; rfl) (Steps.refl _) (argsL := [(.ref b5)]) (rest := []) (lenOf pd_0_4 rfl) rfl (by show 2 * 0 + _ ≤ _; exact Nat.le_of_eq rfl) (hb hby at_82) (fun _ _ => ⟨rfl, rfl, (by decide : 0 + (2 + 0) ≤ _), (by decide : 0 + (2 + 0) ≤ _)⟩)
  dsimp only [Pt.U, Pt.locs, Pt.cells, Pt.slots] at X8 l8 y8 z8 st8 hQ8
  subst l8 y8 z8
  obtain ⟨rfl, N8q, e8q⟩ := hQ8
  have N8 := Fr.app N7 N8q
  have K8 : Keep T7.heap T8.heap [] := by rw [e8q]; exact Keep.refl T7.heap []
  have Z8 : n0 ≤ T8.heap.size := Nat.le_trans Z7 K8.1
  obtain ⟨cq9, kq9, q9a, q9b, q9c⟩ := isOf hZ rfl (((Ex4b.keep K6).keep K7).keep K8)
  obtain ⟨_, _, ⟨T9, L9, k9, n9⟩, -, X9, ⟨Lc9, hQ9, l9, y9, z9⟩, st9⟩ := X8.virtualBack hx (y := (⟨"com/example/portunus/portunus/FencingToken", "compareTo", "(Lcom/example/portunus/portunus/FencingToken;)I"⟩ : MethodName)) (z := (⟨"com/example/portunus/portunus/FencingToken", "compareTo", "(Lcom/example/portunus/portunus/FencingToken;)I"⟩ : MethodName)) hown (mvT hZ (hw _ (List.mem_of_getElem? (i := 26) rfl))) (mvT hZ (hw _ (List.mem_of_getElem? (i := 27) rfl))) (notFace_of_selects (args := #[]) (mvT hZ (hw _ (List.mem_of_getElem? (i := 29) rfl)))) (mvT hZ (hw _ (List.mem_of_getElem? (i := 29) rfl))) (mvT hZ (hw _ (List.mem_of_getElem? (i := 28) rfl))) (by decide) (backOf (W := 0) (rm6 l Z a0 hw [] b4 b5 (own_a q1) (own_a q2) T8.heap n0 Z8 (((Fv4b.keep K6 (fun q => nomatch q)).keep K7 (fun q => nomatch q)).keep K8 (fun q => nomatch q)) (((Fv5.keep K6 (fun q => nomatch q)).keep K7 (fun q => nomatch q)).keep K8 (fun q => nomatch q))) hZ (hw _ (List.mem_of_getElem? (i := 30) rfl)) (hw _ (List.mem_of_getElem? (i := 3) rfl)) (by decide) (by decide)) q9a q9c (g := (mkF m 111 #[.val (.long q1), .second, .val (.long q2), .second, .val (.int p3), .val (.long (own_a q1)), .second, .val (.long (own_a q2)), .second, .val (.ref b4), .val (.ref b5), .val (.int (own_eqv (own_a q1) (own_a q2))), .unset, .unset, .unset] [(.ref b5), (.ref b4)])) rfl (by rw [hml]; rfl) (Steps.refl _) (argsL := [(.ref b5)]) (rest := []) (lenOf pd_0_5 rfl) rfl (by show 2 * 0 + _ ≤ _; exact Nat.le_of_eq rfl) (hb hby at_111) (fun _ _ => ⟨rfl, rfl, (by decide : 0 + (2 + 0) ≤ _), (by decide : 0 + (2 + 0) ≤ _)⟩)
  dsimp only [Pt.U, Pt.locs, Pt.cells, Pt.slots] at X9 l9 y9 z9 st9 hQ9
  subst l9 y9 z9
  obtain ⟨rfl, N9q, e9q⟩ := hQ9
  have N9 := Fr.app N8 N9q
  have K9 : Keep T8.heap T9.heap [] := by rw [e9q]; exact Keep.refl T8.heap []
  have Z9 : n0 ≤ T9.heap.size := Nat.le_trans Z8 K9.1
  obtain ⟨cq10, kq10, q10a, q10b, q10c⟩ := isOf hZ rfl ((((Ex4b.keep K6).keep K7).keep K8).keep K9)
  obtain ⟨_, _, ⟨T10, L10, k10, n10⟩, -, X10, ⟨Lc10, hQ10, l10, y10, z10⟩, st10⟩ := X9.virtualBack hx (y := (⟨"com/example/portunus/portunus/FencingToken", "hashCode", "()I"⟩ : MethodName)) (z := (⟨"com/example/portunus/portunus/FencingToken", "hashCode", "()I"⟩ : MethodName)) hown (mvT hZ (hw _ (List.mem_of_getElem? (i := 35) rfl))) (mvT hZ (hw _ (List.mem_of_getElem? (i := 36) rfl))) (notFace_of_selects (args := #[]) (mvT hZ (hw _ (List.mem_of_getElem? (i := 38) rfl)))) (mvT hZ (hw _ (List.mem_of_getElem? (i := 38) rfl))) (mvT hZ (hw _ (List.mem_of_getElem? (i := 37) rfl))) (by decide) (backOf (W := 0) (rm8 l Z a0 hw [] b4 (own_a q1) T9.heap n0 Z9 ((((Fv4b.keep K6 (fun q => nomatch q)).keep K7 (fun q => nomatch q)).keep K8 (fun q => nomatch q)).keep K9 (fun q => nomatch q))) hZ (hw _ (List.mem_of_getElem? (i := 39) rfl)) (hw _ (List.mem_of_getElem? (i := 3) rfl)) (by decide) (by decide)) q10a q10c (g := (mkF m 183 #[.val (.long q1), .second, .val (.long q2), .second, .val (.int p3), .val (.long (own_a q1)), .second, .val (.long (own_a q2)), .second, .val (.ref b4), .val (.ref b5), .val (.int (own_eqv (own_a q1) (own_a q2))), .val (.int (own_cmp (own_a q1) (own_a q2))), .val (.int (0 : Int32)), .val (.int (0 : Int32))] [(.ref b4)])) rfl (by rw [hml]; rfl) (Steps.refl _) (argsL := []) (rest := []) (lenOf pd_0_7 rfl) rfl (by show 2 * 0 + _ ≤ _; exact Nat.le_of_eq rfl) (hb hby at_183) (fun _ _ => ⟨rfl, rfl, (by decide : 0 + (2 + 0) ≤ _), (by decide : 0 + (2 + 0) ≤ _)⟩)
  dsimp only [Pt.U, Pt.locs, Pt.cells, Pt.slots] at X10 l10 y10 z10 st10 hQ10
  subst l10 y10 z10
  obtain ⟨rfl, N10q, e10q⟩ := hQ10
  have N10 := Fr.app N9 N10q
  have K10 : Keep T9.heap T10.heap [] := by rw [e10q]; exact Keep.refl T9.heap []
  have Z10 : n0 ≤ T10.heap.size := Nat.le_trans Z9 K10.1
  obtain ⟨cq11, kq11, q11a, q11b, q11c⟩ := isOf hZ rfl (((((Ex5.keep K6).keep K7).keep K8).keep K9).keep K10)
  obtain ⟨_, _, ⟨T11, L11, k11, n11⟩, -, X11, ⟨Lc11, hQ11, l11, y11, z11⟩, st11⟩ := X10.virtualBack hx (y := (⟨"com/example/portunus/portunus/FencingToken", "hashCode", "()I"⟩ : MethodName)) (z := (⟨"com/example/portunus/portunus/FencingToken", "hashCode", "()I"⟩ : MethodName)) hown (mvT hZ (hw _ (List.mem_of_getElem? (i := 35) rfl))) (mvT hZ (hw _ (List.mem_of_getElem? (i := 36) rfl))) (notFace_of_selects (args := #[]) (mvT hZ (hw _ (List.mem_of_getElem? (i := 38) rfl)))) (mvT hZ (hw _ (List.mem_of_getElem? (i := 38) rfl))) (mvT hZ (hw _ (List.mem_of_getElem? (i := 37) rfl))) (by decide) (backOf (W := 1) (rm8 l Z a0 hw [] b5 (own_a q2) T10.heap n0 Z10 (((((Fv5.keep K6 (fun q => nomatch q)).keep K7 (fun q => nomatch q)).keep K8 (fun q => nomatch q)).keep K9 (fun q => nomatch q)).keep K10 (fun q => nomatch q))) hZ (hw _ (List.mem_of_getElem? (i := 39) rfl)) (hw _ (List.mem_of_getElem? (i := 3) rfl)) (by decide) (by decide)) q11a q11c (g := (mkF m 188 #[.val (.long q1), .second, .val (.long q2), .second, .val (.int p3), .val (.long (own_a q1)), .second, .val (.long (own_a q2)), .second, .val (.ref b4), .val (.ref b5), .val (.int (own_eqv (own_a q1) (own_a q2))), .val (.int (own_cmp (own_a q1) (own_a q2))), .val (.int (0 : Int32)), .val (.int (0 : Int32))] [(.ref b5), (.int (own_hash (own_a q1)))])) rfl (by rw [hml]; rfl) (Steps.refl _) (argsL := []) (rest := [(.int (own_hash (own_a q1)))]) (lenOf pd_0_7 rfl) rfl (by show 2 * 0 + _ ≤ _; exact Nat.le_of_eq rfl) (hb hby at_188) (fun _ _ => ⟨rfl, rfl, (by decide : 0 + (2 + 0) ≤ _), (by decide : 0 + (2 + 0) ≤ _)⟩)
  dsimp only [Pt.U, Pt.locs, Pt.cells, Pt.slots] at X11 l11 y11 z11 st11 hQ11
  subst l11 y11 z11
  obtain ⟨rfl, N11q, e11q⟩ := hQ11
  have N11 := Fr.app N10 N11q
  have K11 : Keep T10.heap T11.heap [] := by rw [e11q]; exact Keep.refl T10.heap []
  have Z11 : n0 ≤ T11.heap.size := Nat.le_trans Z10 K11.1
  obtain ⟨fs, hr, hrun, hended, hW, hsame⟩ := X11.leave (v := some (.int (1 : Int32))) (fun h => by rw [Bd.returns] at h; cases h)
  refine ⟨_, _, pre0 _ ?_, hrun, hended, _, _, rfl, ?_, ⟨_, rfl⟩, hW, hsame.mono (by decide) (by decide)⟩
  · show Steps p.tables e below (s₁.setTop (mkF m 0 #[.val (.long q1), .second, .val (.long q2), .second, .val (.int p3), .unset, .unset, .unset, .unset, .unset, .unset, .unset, .unset, .unset, .unset] [])) _
    refine XS.lconst X0.here hx rfl (hb hby at_0) ?_
    show Steps p.tables e below (s₁.setTop (mkF m 1 #[.val (.long q1), .second, .val (.long q2), .second, .val (.int p3), .unset, .unset, .unset, .unset, .unset, .unset, .unset, .unset, .unset, .unset] [(.long (1 : Int64))])) _
    refine XS.lloadN X0.here hx rfl (hb hby at_1) rfl ?_
    show Steps p.tables e below (s₁.setTop (mkF m 2 #[.val (.long q1), .second, .val (.long q2), .second, .val (.int p3), .unset, .unset, .unset, .unset, .unset, .unset, .unset, .unset, .unset, .unset] [(.long q1), (.long (1 : Int64))])) _
    refine X0.ldc2Long hx hown (mvT hZ (hw _ (List.mem_of_getElem? (i := 0) rfl))) (g := (mkF m 2 #[.val (.long q1), .second, .val (.long q2), .second, .val (.int p3), .unset, .unset, .unset, .unset, .unset, .unset, .unset, .unset, .unset, .unset] [(.long q1), (.long (1 : Int64))])) rfl (hb hby at_2) _ ?_
    show Steps p.tables e below (s₁.setTop (mkF m 5 #[.val (.long q1), .second, .val (.long q2), .second, .val (.int p3), .unset, .unset, .unset, .unset, .unset, .unset, .unset, .unset, .unset, .unset] [(.long (9223372036854775807 : Int64)), (.long q1), (.long (1 : Int64))])) _
    refine XS.land X0.here hx rfl (hb hby at_5) rfl ?_
    show Steps p.tables e below (s₁.setTop (mkF m 6 #[.val (.long q1), .second, .val (.long q2), .second, .val (.int p3), .unset, .unset, .unset, .unset, .unset, .unset, .unset, .unset, .unset, .unset] [(.long (q1 &&& (9223372036854775807 : Int64))), (.long (1 : Int64))])) _
    refine X0.ldc2Long hx hown (mvT hZ (hw _ (List.mem_of_getElem? (i := 0) rfl))) (g := (mkF m 6 #[.val (.long q1), .second, .val (.long q2), .second, .val (.int p3), .unset, .unset, .unset, .unset, .unset, .unset, .unset, .unset, .unset, .unset] [(.long (q1 &&& (9223372036854775807 : Int64))), (.long (1 : Int64))])) rfl (hb hby at_6) _ ?_
    show Steps p.tables e below (s₁.setTop (mkF m 9 #[.val (.long q1), .second, .val (.long q2), .second, .val (.int p3), .unset, .unset, .unset, .unset, .unset, .unset, .unset, .unset, .unset, .unset] [(.long (9223372036854775807 : Int64)), (.long (q1 &&& (9223372036854775807 : Int64))), (.long (1 : Int64))])) _
    refine XS.lrem X0.here hx rfl (hb hby at_9) rfl hnz9 ?_
    show Steps p.tables e below (s₁.setTop (mkF m 10 #[.val (.long q1), .second, .val (.long q2), .second, .val (.int p3), .unset, .unset, .unset, .unset, .unset, .unset, .unset, .unset, .unset, .unset] [(.long ((q1 &&& (9223372036854775807 : Int64)) - ((q1 &&& (9223372036854775807 : Int64)) / (9223372036854775807 : Int64)) * (9223372036854775807 : Int64))), (.long (1 : Int64))])) _
    refine XS.ladd X0.here hx rfl (hb hby at_10) rfl ?_
    show Steps p.tables e below (s₁.setTop (mkF m 11 #[.val (.long q1), .second, .val (.long q2), .second, .val (.int p3), .unset, .unset, .unset, .unset, .unset, .unset, .unset, .unset, .unset, .unset] [(.long (own_a q1))])) _
    refine XS.lstore X0.here hx rfl (hb hby at_11) rfl (l' := #[.val (.long q1), .second, .val (.long q2), .second, .val (.int p3), .val (.long (own_a q1)), .second, .unset, .unset, .unset, .unset, .unset, .unset, .unset, .unset]) rfl ?_
    show Steps p.tables e below (s₁.setTop (mkF m 13 #[.val (.long q1), .second, .val (.long q2), .second, .val (.int p3), .val (.long (own_a q1)), .second, .unset, .unset, .unset, .unset, .unset, .unset, .unset, .unset] [])) _
    refine XS.iload X0.here hx rfl (hb hby at_13) rfl ?_
    show Steps p.tables e below (s₁.setTop (mkF m 15 #[.val (.long q1), .second, .val (.long q2), .second, .val (.int p3), .val (.long (own_a q1)), .second, .unset, .unset, .unset, .unset, .unset, .unset, .unset, .unset] [(.int p3)])) _
    refine XS.iconst X0.here hx rfl (hb hby at_15) ?_
    show Steps p.tables e below (s₁.setTop (mkF m 16 #[.val (.long q1), .second, .val (.long q2), .second, .val (.int p3), .val (.long (own_a q1)), .second, .unset, .unset, .unset, .unset, .unset, .unset, .unset, .unset] [(.int (1 : Int32)), (.int p3)])) _
    refine XS.iand X0.here hx rfl (hb hby at_16) rfl ?_
    show Steps p.tables e below (s₁.setTop (mkF m 17 #[.val (.long q1), .second, .val (.long q2), .second, .val (.int p3), .val (.long (own_a q1)), .second, .unset, .unset, .unset, .unset, .unset, .unset, .unset, .unset] [(.int (p3 &&& (1 : Int32)))])) _
    refine XS.ifYes X0.here hx rfl (pc0 := 17) (pc' := 25) rfl (hb hby at_17) rfl ((if0 _ _).trans (teq hc17).1) (by decide) (by decide) ?_
    show Steps p.tables e below (s₁.setTop (mkF m 25 #[.val (.long q1), .second, .val (.long q2), .second, .val (.int p3), .val (.long (own_a q1)), .second, .unset, .unset, .unset, .unset, .unset, .unset, .unset, .unset] [])) _
    refine XS.lconst X0.here hx rfl (hb hby at_25) ?_
    show Steps p.tables e below (s₁.setTop (mkF m 26 #[.val (.long q1), .second, .val (.long q2), .second, .val (.int p3), .val (.long (own_a q1)), .second, .unset, .unset, .unset, .unset, .unset, .unset, .unset, .unset] [(.long (1 : Int64))])) _
    refine XS.lloadN X0.here hx rfl (hb hby at_26) rfl ?_
    show Steps p.tables e below (s₁.setTop (mkF m 27 #[.val (.long q1), .second, .val (.long q2), .second, .val (.int p3), .val (.long (own_a q1)), .second, .unset, .unset, .unset, .unset, .unset, .unset, .unset, .unset] [(.long q2), (.long (1 : Int64))])) _
    refine X0.ldc2Long hx hown (mvT hZ (hw _ (List.mem_of_getElem? (i := 0) rfl))) (g := (mkF m 27 #[.val (.long q1), .second, .val (.long q2), .second, .val (.int p3), .val (.long (own_a q1)), .second, .unset, .unset, .unset, .unset, .unset, .unset, .unset, .unset] [(.long q2), (.long (1 : Int64))])) rfl (hb hby at_27) _ ?_
    show Steps p.tables e below (s₁.setTop (mkF m 30 #[.val (.long q1), .second, .val (.long q2), .second, .val (.int p3), .val (.long (own_a q1)), .second, .unset, .unset, .unset, .unset, .unset, .unset, .unset, .unset] [(.long (9223372036854775807 : Int64)), (.long q2), (.long (1 : Int64))])) _
    refine XS.land X0.here hx rfl (hb hby at_30) rfl ?_
    show Steps p.tables e below (s₁.setTop (mkF m 31 #[.val (.long q1), .second, .val (.long q2), .second, .val (.int p3), .val (.long (own_a q1)), .second, .unset, .unset, .unset, .unset, .unset, .unset, .unset, .unset] [(.long (q2 &&& (9223372036854775807 : Int64))), (.long (1 : Int64))])) _
    refine X0.ldc2Long hx hown (mvT hZ (hw _ (List.mem_of_getElem? (i := 0) rfl))) (g := (mkF m 31 #[.val (.long q1), .second, .val (.long q2), .second, .val (.int p3), .val (.long (own_a q1)), .second, .unset, .unset, .unset, .unset, .unset, .unset, .unset, .unset] [(.long (q2 &&& (9223372036854775807 : Int64))), (.long (1 : Int64))])) rfl (hb hby at_31) _ ?_
    show Steps p.tables e below (s₁.setTop (mkF m 34 #[.val (.long q1), .second, .val (.long q2), .second, .val (.int p3), .val (.long (own_a q1)), .second, .unset, .unset, .unset, .unset, .unset, .unset, .unset, .unset] [(.long (9223372036854775807 : Int64)), (.long (q2 &&& (9223372036854775807 : Int64))), (.long (1 : Int64))])) _
    refine XS.lrem X0.here hx rfl (hb hby at_34) rfl hnz34 ?_
    show Steps p.tables e below (s₁.setTop (mkF m 35 #[.val (.long q1), .second, .val (.long q2), .second, .val (.int p3), .val (.long (own_a q1)), .second, .unset, .unset, .unset, .unset, .unset, .unset, .unset, .unset] [(.long ((q2 &&& (9223372036854775807 : Int64)) - ((q2 &&& (9223372036854775807 : Int64)) / (9223372036854775807 : Int64)) * (9223372036854775807 : Int64))), (.long (1 : Int64))])) _
    refine XS.ladd X0.here hx rfl (hb hby at_35) rfl ?_
    show Steps p.tables e below (s₁.setTop (mkF m 36 #[.val (.long q1), .second, .val (.long q2), .second, .val (.int p3), .val (.long (own_a q1)), .second, .unset, .unset, .unset, .unset, .unset, .unset, .unset, .unset] [(.long (own_a q2))])) _
    refine XS.lstore X0.here hx rfl (hb hby at_36) rfl (l' := #[.val (.long q1), .second, .val (.long q2), .second, .val (.int p3), .val (.long (own_a q1)), .second, .val (.long (own_a q2)), .second, .unset, .unset, .unset, .unset, .unset, .unset]) rfl ?_
    show Steps p.tables e below (s₁.setTop (mkF m 38 #[.val (.long q1), .second, .val (.long q2), .second, .val (.int p3), .val (.long (own_a q1)), .second, .val (.long (own_a q2)), .second, .unset, .unset, .unset, .unset, .unset, .unset] [])) _
    refine XS.lload X0.here hx rfl (hb hby at_38) rfl ?_
    show Steps p.tables e below (s₁.setTop (mkF m 40 #[.val (.long q1), .second, .val (.long q2), .second, .val (.int p3), .val (.long (own_a q1)), .second, .val (.long (own_a q2)), .second, .unset, .unset, .unset, .unset, .unset, .unset] [(.long (own_a q1))])) _
    refine st4 _ ?_
    show Steps p.tables e below (T4.setTop (mkF m 43 #[.val (.long q1), .second, .val (.long q2), .second, .val (.int p3), .val (.long (own_a q1)), .second, .val (.long (own_a q2)), .second, .unset, .unset, .unset, .unset, .unset, .unset] [(.ref b4)])) _
    refine XS.astore X4.here hx rfl (hb hby at_43) rfl rfl (l' := #[.val (.long q1), .second, .val (.long q2), .second, .val (.int p3), .val (.long (own_a q1)), .second, .val (.long (own_a q2)), .second, .val (.ref b4), .unset, .unset, .unset, .unset, .unset]) rfl ?_
    show Steps p.tables e below (T4.setTop (mkF m 45 #[.val (.long q1), .second, .val (.long q2), .second, .val (.int p3), .val (.long (own_a q1)), .second, .val (.long (own_a q2)), .second, .val (.ref b4), .unset, .unset, .unset, .unset, .unset] [])) _
    refine XS.lload X4.here hx rfl (hb hby at_45) rfl ?_
    show Steps p.tables e below (T4.setTop (mkF m 47 #[.val (.long q1), .second, .val (.long q2), .second, .val (.int p3), .val (.long (own_a q1)), .second, .val (.long (own_a q2)), .second, .val (.ref b4), .unset, .unset, .unset, .unset, .unset] [(.long (own_a q2))])) _
    refine st5 _ ?_
    show Steps p.tables e below (T5.setTop (mkF m 50 #[.val (.long q1), .second, .val (.long q2), .second, .val (.int p3), .val (.long (own_a q1)), .second, .val (.long (own_a q2)), .second, .val (.ref b4), .unset, .unset, .unset, .unset, .unset] [(.ref b5)])) _
    refine XS.astore X5.here hx rfl (hb hby at_50) rfl rfl (l' := #[.val (.long q1), .second, .val (.long q2), .second, .val (.int p3), .val (.long (own_a q1)), .second, .val (.long (own_a q2)), .second, .val (.ref b4), .val (.ref b5), .unset, .unset, .unset, .unset]) rfl ?_
    show Steps p.tables e below (T5.setTop (mkF m 52 #[.val (.long q1), .second, .val (.long q2), .second, .val (.int p3), .val (.long (own_a q1)), .second, .val (.long (own_a q2)), .second, .val (.ref b4), .val (.ref b5), .unset, .unset, .unset, .unset] [])) _
    refine XS.aload X5.here hx rfl (hb hby at_52) rfl rfl ?_
    show Steps p.tables e below (T5.setTop (mkF m 54 #[.val (.long q1), .second, .val (.long q2), .second, .val (.int p3), .val (.long (own_a q1)), .second, .val (.long (own_a q2)), .second, .val (.ref b4), .val (.ref b5), .unset, .unset, .unset, .unset] [(.ref b4)])) _
    refine st6.trans ?_
    show Steps p.tables e below (T6.setTop (mkF m 57 #[.val (.long q1), .second, .val (.long q2), .second, .val (.int p3), .val (.long (own_a q1)), .second, .val (.long (own_a q2)), .second, .val (.ref b4), .val (.ref b5), .unset, .unset, .unset, .unset] [(.long (own_a q1))])) _
    refine XS.lload X6.here hx rfl (hb hby at_57) rfl ?_
    show Steps p.tables e below (T6.setTop (mkF m 59 #[.val (.long q1), .second, .val (.long q2), .second, .val (.int p3), .val (.long (own_a q1)), .second, .val (.long (own_a q2)), .second, .val (.ref b4), .val (.ref b5), .unset, .unset, .unset, .unset] [(.long (own_a q1)), (.long (own_a q1))])) _
    refine XS.lcmp X6.here hx rfl (hb hby at_59) rfl ?_
    show Steps p.tables e below (T6.setTop (mkF m 60 #[.val (.long q1), .second, .val (.long q2), .second, .val (.int p3), .val (.long (own_a q1)), .second, .val (.long (own_a q2)), .second, .val (.ref b4), .val (.ref b5), .unset, .unset, .unset, .unset] [(.int (lcmpW (own_a q1) (own_a q1)))])) _
    refine XS.ifYes X6.here hx rfl (pc0 := 60) (pc' := 65) rfl (hb hby at_60) rfl ((if0 _ _).trans (teq ((own_self _) : (lcmpW (own_a q1) (own_a q1)) = (0 : Int32))).1) (by decide) (by decide) ?_
    show Steps p.tables e below (T6.setTop (mkF m 65 #[.val (.long q1), .second, .val (.long q2), .second, .val (.int p3), .val (.long (own_a q1)), .second, .val (.long (own_a q2)), .second, .val (.ref b4), .val (.ref b5), .unset, .unset, .unset, .unset] [])) _
    refine XS.aload X6.here hx rfl (hb hby at_65) rfl rfl ?_
    show Steps p.tables e below (T6.setTop (mkF m 67 #[.val (.long q1), .second, .val (.long q2), .second, .val (.int p3), .val (.long (own_a q1)), .second, .val (.long (own_a q2)), .second, .val (.ref b4), .val (.ref b5), .unset, .unset, .unset, .unset] [(.ref b5)])) _
    refine st7.trans ?_
    show Steps p.tables e below (T7.setTop (mkF m 70 #[.val (.long q1), .second, .val (.long q2), .second, .val (.int p3), .val (.long (own_a q1)), .second, .val (.long (own_a q2)), .second, .val (.ref b4), .val (.ref b5), .unset, .unset, .unset, .unset] [(.long (own_a q2))])) _
    refine XS.lload X7.here hx rfl (hb hby at_70) rfl ?_
    show Steps p.tables e below (T7.setTop (mkF m 72 #[.val (.long q1), .second, .val (.long q2), .second, .val (.int p3), .val (.long (own_a q1)), .second, .val (.long (own_a q2)), .second, .val (.ref b4), .val (.ref b5), .unset, .unset, .unset, .unset] [(.long (own_a q2)), (.long (own_a q2))])) _
    refine XS.lcmp X7.here hx rfl (hb hby at_72) rfl ?_
    show Steps p.tables e below (T7.setTop (mkF m 73 #[.val (.long q1), .second, .val (.long q2), .second, .val (.int p3), .val (.long (own_a q1)), .second, .val (.long (own_a q2)), .second, .val (.ref b4), .val (.ref b5), .unset, .unset, .unset, .unset] [(.int (lcmpW (own_a q2) (own_a q2)))])) _
    refine XS.ifYes X7.here hx rfl (pc0 := 73) (pc' := 78) rfl (hb hby at_73) rfl ((if0 _ _).trans (teq ((own_self _) : (lcmpW (own_a q2) (own_a q2)) = (0 : Int32))).1) (by decide) (by decide) ?_
    show Steps p.tables e below (T7.setTop (mkF m 78 #[.val (.long q1), .second, .val (.long q2), .second, .val (.int p3), .val (.long (own_a q1)), .second, .val (.long (own_a q2)), .second, .val (.ref b4), .val (.ref b5), .unset, .unset, .unset, .unset] [])) _
    refine XS.aload X7.here hx rfl (hb hby at_78) rfl rfl ?_
    show Steps p.tables e below (T7.setTop (mkF m 80 #[.val (.long q1), .second, .val (.long q2), .second, .val (.int p3), .val (.long (own_a q1)), .second, .val (.long (own_a q2)), .second, .val (.ref b4), .val (.ref b5), .unset, .unset, .unset, .unset] [(.ref b4)])) _
    refine XS.aload X7.here hx rfl (hb hby at_80) rfl rfl ?_
    show Steps p.tables e below (T7.setTop (mkF m 82 #[.val (.long q1), .second, .val (.long q2), .second, .val (.int p3), .val (.long (own_a q1)), .second, .val (.long (own_a q2)), .second, .val (.ref b4), .val (.ref b5), .unset, .unset, .unset, .unset] [(.ref b5), (.ref b4)])) _
    refine st8.trans ?_
    show Steps p.tables e below (T8.setTop (mkF m 85 #[.val (.long q1), .second, .val (.long q2), .second, .val (.int p3), .val (.long (own_a q1)), .second, .val (.long (own_a q2)), .second, .val (.ref b4), .val (.ref b5), .unset, .unset, .unset, .unset] [(.int (own_eqv (own_a q1) (own_a q2)))])) _
    refine XS.istore X8.here hx rfl (hb hby at_85) rfl (l' := #[.val (.long q1), .second, .val (.long q2), .second, .val (.int p3), .val (.long (own_a q1)), .second, .val (.long (own_a q2)), .second, .val (.ref b4), .val (.ref b5), .val (.int (own_eqv (own_a q1) (own_a q2))), .unset, .unset, .unset]) rfl ?_
    show Steps p.tables e below (T8.setTop (mkF m 87 #[.val (.long q1), .second, .val (.long q2), .second, .val (.int p3), .val (.long (own_a q1)), .second, .val (.long (own_a q2)), .second, .val (.ref b4), .val (.ref b5), .val (.int (own_eqv (own_a q1) (own_a q2))), .unset, .unset, .unset] [])) _
    refine XS.iload X8.here hx rfl (hb hby at_87) rfl ?_
    show Steps p.tables e below (T8.setTop (mkF m 89 #[.val (.long q1), .second, .val (.long q2), .second, .val (.int p3), .val (.long (own_a q1)), .second, .val (.long (own_a q2)), .second, .val (.ref b4), .val (.ref b5), .val (.int (own_eqv (own_a q1) (own_a q2))), .unset, .unset, .unset] [(.int (own_eqv (own_a q1) (own_a q2)))])) _
    refine XS.lload X8.here hx rfl (hb hby at_89) rfl ?_
    show Steps p.tables e below (T8.setTop (mkF m 91 #[.val (.long q1), .second, .val (.long q2), .second, .val (.int p3), .val (.long (own_a q1)), .second, .val (.long (own_a q2)), .second, .val (.ref b4), .val (.ref b5), .val (.int (own_eqv (own_a q1) (own_a q2))), .unset, .unset, .unset] [(.long (own_a q1)), (.int (own_eqv (own_a q1) (own_a q2)))])) _
    refine XS.lload X8.here hx rfl (hb hby at_91) rfl ?_
    show Steps p.tables e below (T8.setTop (mkF m 93 #[.val (.long q1), .second, .val (.long q2), .second, .val (.int p3), .val (.long (own_a q1)), .second, .val (.long (own_a q2)), .second, .val (.ref b4), .val (.ref b5), .val (.int (own_eqv (own_a q1) (own_a q2))), .unset, .unset, .unset] [(.long (own_a q2)), (.long (own_a q1)), (.int (own_eqv (own_a q1) (own_a q2)))])) _
    refine XS.lcmp X8.here hx rfl (hb hby at_93) rfl ?_
    show Steps p.tables e below (T8.setTop (mkF m 94 #[.val (.long q1), .second, .val (.long q2), .second, .val (.int p3), .val (.long (own_a q1)), .second, .val (.long (own_a q2)), .second, .val (.ref b4), .val (.ref b5), .val (.int (own_eqv (own_a q1) (own_a q2))), .unset, .unset, .unset] [(.int (lcmpW (own_a q1) (own_a q2))), (.int (own_eqv (own_a q1) (own_a q2)))])) _
    refine XS.ifNo X8.here hx rfl (hb hby at_94) rfl ((if0 _ _).trans (teq hc94).2) ?_
    show Steps p.tables e below (T8.setTop (mkF m 97 #[.val (.long q1), .second, .val (.long q2), .second, .val (.int p3), .val (.long (own_a q1)), .second, .val (.long (own_a q2)), .second, .val (.ref b4), .val (.ref b5), .val (.int (own_eqv (own_a q1) (own_a q2))), .unset, .unset, .unset] [(.int (own_eqv (own_a q1) (own_a q2)))])) _
    refine XS.iconst X8.here hx rfl (hb hby at_97) ?_
    show Steps p.tables e below (T8.setTop (mkF m 98 #[.val (.long q1), .second, .val (.long q2), .second, .val (.int p3), .val (.long (own_a q1)), .second, .val (.long (own_a q2)), .second, .val (.ref b4), .val (.ref b5), .val (.int (own_eqv (own_a q1) (own_a q2))), .unset, .unset, .unset] [(.int (1 : Int32)), (.int (own_eqv (own_a q1) (own_a q2)))])) _
    refine XS.goto X8.here hx rfl (pc0 := 98) (pc' := 102) rfl (hb hby at_98) (by decide) (by decide) ?_
    show Steps p.tables e below (T8.setTop (mkF m 102 #[.val (.long q1), .second, .val (.long q2), .second, .val (.int p3), .val (.long (own_a q1)), .second, .val (.long (own_a q2)), .second, .val (.ref b4), .val (.ref b5), .val (.int (own_eqv (own_a q1) (own_a q2))), .unset, .unset, .unset] [(.int (1 : Int32)), (.int (own_eqv (own_a q1) (own_a q2)))])) _
    refine XS.icmpYes X8.here hx rfl (pc0 := 102) (pc' := 107) rfl (hb hby at_102) rfl (teq (hway.2.2.2.1 : (own_eqv (own_a q1) (own_a q2)) = (1 : Int32))).1 (by decide) (by decide) ?_
    show Steps p.tables e below (T8.setTop (mkF m 107 #[.val (.long q1), .second, .val (.long q2), .second, .val (.int p3), .val (.long (own_a q1)), .second, .val (.long (own_a q2)), .second, .val (.ref b4), .val (.ref b5), .val (.int (own_eqv (own_a q1) (own_a q2))), .unset, .unset, .unset] [])) _
    refine XS.aload X8.here hx rfl (hb hby at_107) rfl rfl ?_
    show Steps p.tables e below (T8.setTop (mkF m 109 #[.val (.long q1), .second, .val (.long q2), .second, .val (.int p3), .val (.long (own_a q1)), .second, .val (.long (own_a q2)), .second, .val (.ref b4), .val (.ref b5), .val (.int (own_eqv (own_a q1) (own_a q2))), .unset, .unset, .unset] [(.ref b4)])) _
    refine XS.aload X8.here hx rfl (hb hby at_109) rfl rfl ?_
    show Steps p.tables e below (T8.setTop (mkF m 111 #[.val (.long q1), .second, .val (.long q2), .second, .val (.int p3), .val (.long (own_a q1)), .second, .val (.long (own_a q2)), .second, .val (.ref b4), .val (.ref b5), .val (.int (own_eqv (own_a q1) (own_a q2))), .unset, .unset, .unset] [(.ref b5), (.ref b4)])) _
    refine st9.trans ?_
    show Steps p.tables e below (T9.setTop (mkF m 114 #[.val (.long q1), .second, .val (.long q2), .second, .val (.int p3), .val (.long (own_a q1)), .second, .val (.long (own_a q2)), .second, .val (.ref b4), .val (.ref b5), .val (.int (own_eqv (own_a q1) (own_a q2))), .unset, .unset, .unset] [(.int (own_cmp (own_a q1) (own_a q2)))])) _
    refine XS.istore X9.here hx rfl (hb hby at_114) rfl (l' := #[.val (.long q1), .second, .val (.long q2), .second, .val (.int p3), .val (.long (own_a q1)), .second, .val (.long (own_a q2)), .second, .val (.ref b4), .val (.ref b5), .val (.int (own_eqv (own_a q1) (own_a q2))), .val (.int (own_cmp (own_a q1) (own_a q2))), .unset, .unset]) rfl ?_
    show Steps p.tables e below (T9.setTop (mkF m 116 #[.val (.long q1), .second, .val (.long q2), .second, .val (.int p3), .val (.long (own_a q1)), .second, .val (.long (own_a q2)), .second, .val (.ref b4), .val (.ref b5), .val (.int (own_eqv (own_a q1) (own_a q2))), .val (.int (own_cmp (own_a q1) (own_a q2))), .unset, .unset] [])) _
    refine XS.iload X9.here hx rfl (hb hby at_116) rfl ?_
    show Steps p.tables e below (T9.setTop (mkF m 118 #[.val (.long q1), .second, .val (.long q2), .second, .val (.int p3), .val (.long (own_a q1)), .second, .val (.long (own_a q2)), .second, .val (.ref b4), .val (.ref b5), .val (.int (own_eqv (own_a q1) (own_a q2))), .val (.int (own_cmp (own_a q1) (own_a q2))), .unset, .unset] [(.int (own_cmp (own_a q1) (own_a q2)))])) _
    refine XS.ifYes X9.here hx rfl (pc0 := 118) (pc' := 125) rfl (hb hby at_118) rfl ((if0 _ _).trans (flt (hway.2.2.2.2.1 : ¬ ((own_cmp (own_a q1) (own_a q2)) < (0 : Int32)))).2.1) (by decide) (by decide) ?_
    show Steps p.tables e below (T9.setTop (mkF m 125 #[.val (.long q1), .second, .val (.long q2), .second, .val (.int p3), .val (.long (own_a q1)), .second, .val (.long (own_a q2)), .second, .val (.ref b4), .val (.ref b5), .val (.int (own_eqv (own_a q1) (own_a q2))), .val (.int (own_cmp (own_a q1) (own_a q2))), .unset, .unset] [])) _
    refine XS.iload X9.here hx rfl (hb hby at_125) rfl ?_
    show Steps p.tables e below (T9.setTop (mkF m 127 #[.val (.long q1), .second, .val (.long q2), .second, .val (.int p3), .val (.long (own_a q1)), .second, .val (.long (own_a q2)), .second, .val (.ref b4), .val (.ref b5), .val (.int (own_eqv (own_a q1) (own_a q2))), .val (.int (own_cmp (own_a q1) (own_a q2))), .unset, .unset] [(.int (own_cmp (own_a q1) (own_a q2)))])) _
    refine XS.ifYes X9.here hx rfl (pc0 := 127) (pc' := 134) rfl (hb hby at_127) rfl ((if0 _ _).trans (flt (hway.2.2.2.2.2.1 : ¬ ((0 : Int32) < (own_cmp (own_a q1) (own_a q2))))).2.2.2) (by decide) (by decide) ?_
    show Steps p.tables e below (T9.setTop (mkF m 134 #[.val (.long q1), .second, .val (.long q2), .second, .val (.int p3), .val (.long (own_a q1)), .second, .val (.long (own_a q2)), .second, .val (.ref b4), .val (.ref b5), .val (.int (own_eqv (own_a q1) (own_a q2))), .val (.int (own_cmp (own_a q1) (own_a q2))), .unset, .unset] [])) _
    refine XS.iconst X9.here hx rfl (hb hby at_134) ?_
    show Steps p.tables e below (T9.setTop (mkF m 135 #[.val (.long q1), .second, .val (.long q2), .second, .val (.int p3), .val (.long (own_a q1)), .second, .val (.long (own_a q2)), .second, .val (.ref b4), .val (.ref b5), .val (.int (own_eqv (own_a q1) (own_a q2))), .val (.int (own_cmp (own_a q1) (own_a q2))), .unset, .unset] [(.int (0 : Int32))])) _
    refine XS.istore X9.here hx rfl (hb hby at_135) rfl (l' := #[.val (.long q1), .second, .val (.long q2), .second, .val (.int p3), .val (.long (own_a q1)), .second, .val (.long (own_a q2)), .second, .val (.ref b4), .val (.ref b5), .val (.int (own_eqv (own_a q1) (own_a q2))), .val (.int (own_cmp (own_a q1) (own_a q2))), .val (.int (0 : Int32)), .unset]) rfl ?_
    show Steps p.tables e below (T9.setTop (mkF m 137 #[.val (.long q1), .second, .val (.long q2), .second, .val (.int p3), .val (.long (own_a q1)), .second, .val (.long (own_a q2)), .second, .val (.ref b4), .val (.ref b5), .val (.int (own_eqv (own_a q1) (own_a q2))), .val (.int (own_cmp (own_a q1) (own_a q2))), .val (.int (0 : Int32)), .unset] [])) _
    refine XS.lload X9.here hx rfl (hb hby at_137) rfl ?_
    show Steps p.tables e below (T9.setTop (mkF m 139 #[.val (.long q1), .second, .val (.long q2), .second, .val (.int p3), .val (.long (own_a q1)), .second, .val (.long (own_a q2)), .second, .val (.ref b4), .val (.ref b5), .val (.int (own_eqv (own_a q1) (own_a q2))), .val (.int (own_cmp (own_a q1) (own_a q2))), .val (.int (0 : Int32)), .unset] [(.long (own_a q1))])) _
    refine XS.lload X9.here hx rfl (hb hby at_139) rfl ?_
    show Steps p.tables e below (T9.setTop (mkF m 141 #[.val (.long q1), .second, .val (.long q2), .second, .val (.int p3), .val (.long (own_a q1)), .second, .val (.long (own_a q2)), .second, .val (.ref b4), .val (.ref b5), .val (.int (own_eqv (own_a q1) (own_a q2))), .val (.int (own_cmp (own_a q1) (own_a q2))), .val (.int (0 : Int32)), .unset] [(.long (own_a q2)), (.long (own_a q1))])) _
    refine XS.lcmp X9.here hx rfl (hb hby at_141) rfl ?_
    show Steps p.tables e below (T9.setTop (mkF m 142 #[.val (.long q1), .second, .val (.long q2), .second, .val (.int p3), .val (.long (own_a q1)), .second, .val (.long (own_a q2)), .second, .val (.ref b4), .val (.ref b5), .val (.int (own_eqv (own_a q1) (own_a q2))), .val (.int (own_cmp (own_a q1) (own_a q2))), .val (.int (0 : Int32)), .unset] [(.int (lcmpW (own_a q1) (own_a q2)))])) _
    refine XS.ifYes X9.here hx rfl (pc0 := 142) (pc' := 149) rfl (hb hby at_142) rfl ((if0 _ _).trans (flt hc142).2.1) (by decide) (by decide) ?_
    show Steps p.tables e below (T9.setTop (mkF m 149 #[.val (.long q1), .second, .val (.long q2), .second, .val (.int p3), .val (.long (own_a q1)), .second, .val (.long (own_a q2)), .second, .val (.ref b4), .val (.ref b5), .val (.int (own_eqv (own_a q1) (own_a q2))), .val (.int (own_cmp (own_a q1) (own_a q2))), .val (.int (0 : Int32)), .unset] [])) _
    refine XS.lload X9.here hx rfl (hb hby at_149) rfl ?_
    show Steps p.tables e below (T9.setTop (mkF m 151 #[.val (.long q1), .second, .val (.long q2), .second, .val (.int p3), .val (.long (own_a q1)), .second, .val (.long (own_a q2)), .second, .val (.ref b4), .val (.ref b5), .val (.int (own_eqv (own_a q1) (own_a q2))), .val (.int (own_cmp (own_a q1) (own_a q2))), .val (.int (0 : Int32)), .unset] [(.long (own_a q1))])) _
    refine XS.lload X9.here hx rfl (hb hby at_151) rfl ?_
    show Steps p.tables e below (T9.setTop (mkF m 153 #[.val (.long q1), .second, .val (.long q2), .second, .val (.int p3), .val (.long (own_a q1)), .second, .val (.long (own_a q2)), .second, .val (.ref b4), .val (.ref b5), .val (.int (own_eqv (own_a q1) (own_a q2))), .val (.int (own_cmp (own_a q1) (own_a q2))), .val (.int (0 : Int32)), .unset] [(.long (own_a q2)), (.long (own_a q1))])) _
    refine XS.lcmp X9.here hx rfl (hb hby at_153) rfl ?_
    show Steps p.tables e below (T9.setTop (mkF m 154 #[.val (.long q1), .second, .val (.long q2), .second, .val (.int p3), .val (.long (own_a q1)), .second, .val (.long (own_a q2)), .second, .val (.ref b4), .val (.ref b5), .val (.int (own_eqv (own_a q1) (own_a q2))), .val (.int (own_cmp (own_a q1) (own_a q2))), .val (.int (0 : Int32)), .unset] [(.int (lcmpW (own_a q1) (own_a q2)))])) _
    refine XS.ifYes X9.here hx rfl (pc0 := 154) (pc' := 161) rfl (hb hby at_154) rfl ((if0 _ _).trans (flt hc154).2.2.2) (by decide) (by decide) ?_
    show Steps p.tables e below (T9.setTop (mkF m 161 #[.val (.long q1), .second, .val (.long q2), .second, .val (.int p3), .val (.long (own_a q1)), .second, .val (.long (own_a q2)), .second, .val (.ref b4), .val (.ref b5), .val (.int (own_eqv (own_a q1) (own_a q2))), .val (.int (own_cmp (own_a q1) (own_a q2))), .val (.int (0 : Int32)), .unset] [])) _
    refine XS.iconst X9.here hx rfl (hb hby at_161) ?_
    show Steps p.tables e below (T9.setTop (mkF m 162 #[.val (.long q1), .second, .val (.long q2), .second, .val (.int p3), .val (.long (own_a q1)), .second, .val (.long (own_a q2)), .second, .val (.ref b4), .val (.ref b5), .val (.int (own_eqv (own_a q1) (own_a q2))), .val (.int (own_cmp (own_a q1) (own_a q2))), .val (.int (0 : Int32)), .unset] [(.int (0 : Int32))])) _
    refine XS.istore X9.here hx rfl (hb hby at_162) rfl (l' := #[.val (.long q1), .second, .val (.long q2), .second, .val (.int p3), .val (.long (own_a q1)), .second, .val (.long (own_a q2)), .second, .val (.ref b4), .val (.ref b5), .val (.int (own_eqv (own_a q1) (own_a q2))), .val (.int (own_cmp (own_a q1) (own_a q2))), .val (.int (0 : Int32)), .val (.int (0 : Int32))]) rfl ?_
    show Steps p.tables e below (T9.setTop (mkF m 164 #[.val (.long q1), .second, .val (.long q2), .second, .val (.int p3), .val (.long (own_a q1)), .second, .val (.long (own_a q2)), .second, .val (.ref b4), .val (.ref b5), .val (.int (own_eqv (own_a q1) (own_a q2))), .val (.int (own_cmp (own_a q1) (own_a q2))), .val (.int (0 : Int32)), .val (.int (0 : Int32))] [])) _
    refine XS.iload X9.here hx rfl (hb hby at_164) rfl ?_
    show Steps p.tables e below (T9.setTop (mkF m 166 #[.val (.long q1), .second, .val (.long q2), .second, .val (.int p3), .val (.long (own_a q1)), .second, .val (.long (own_a q2)), .second, .val (.ref b4), .val (.ref b5), .val (.int (own_eqv (own_a q1) (own_a q2))), .val (.int (own_cmp (own_a q1) (own_a q2))), .val (.int (0 : Int32)), .val (.int (0 : Int32))] [(.int (0 : Int32))])) _
    refine XS.iload X9.here hx rfl (hb hby at_166) rfl ?_
    show Steps p.tables e below (T9.setTop (mkF m 168 #[.val (.long q1), .second, .val (.long q2), .second, .val (.int p3), .val (.long (own_a q1)), .second, .val (.long (own_a q2)), .second, .val (.ref b4), .val (.ref b5), .val (.int (own_eqv (own_a q1) (own_a q2))), .val (.int (own_cmp (own_a q1) (own_a q2))), .val (.int (0 : Int32)), .val (.int (0 : Int32))] [(.int (0 : Int32)), (.int (0 : Int32))])) _
    refine XS.icmpYes X9.here hx rfl (pc0 := 168) (pc' := 173) rfl (hb hby at_168) rfl (teq (rfl : (0 : Int32) = (0 : Int32))).1 (by decide) (by decide) ?_
    show Steps p.tables e below (T9.setTop (mkF m 173 #[.val (.long q1), .second, .val (.long q2), .second, .val (.int p3), .val (.long (own_a q1)), .second, .val (.long (own_a q2)), .second, .val (.ref b4), .val (.ref b5), .val (.int (own_eqv (own_a q1) (own_a q2))), .val (.int (own_cmp (own_a q1) (own_a q2))), .val (.int (0 : Int32)), .val (.int (0 : Int32))] [])) _
    refine XS.lload X9.here hx rfl (hb hby at_173) rfl ?_
    show Steps p.tables e below (T9.setTop (mkF m 175 #[.val (.long q1), .second, .val (.long q2), .second, .val (.int p3), .val (.long (own_a q1)), .second, .val (.long (own_a q2)), .second, .val (.ref b4), .val (.ref b5), .val (.int (own_eqv (own_a q1) (own_a q2))), .val (.int (own_cmp (own_a q1) (own_a q2))), .val (.int (0 : Int32)), .val (.int (0 : Int32))] [(.long (own_a q1))])) _
    refine XS.lload X9.here hx rfl (hb hby at_175) rfl ?_
    show Steps p.tables e below (T9.setTop (mkF m 177 #[.val (.long q1), .second, .val (.long q2), .second, .val (.int p3), .val (.long (own_a q1)), .second, .val (.long (own_a q2)), .second, .val (.ref b4), .val (.ref b5), .val (.int (own_eqv (own_a q1) (own_a q2))), .val (.int (own_cmp (own_a q1) (own_a q2))), .val (.int (0 : Int32)), .val (.int (0 : Int32))] [(.long (own_a q2)), (.long (own_a q1))])) _
    refine XS.lcmp X9.here hx rfl (hb hby at_177) rfl ?_
    show Steps p.tables e below (T9.setTop (mkF m 178 #[.val (.long q1), .second, .val (.long q2), .second, .val (.int p3), .val (.long (own_a q1)), .second, .val (.long (own_a q2)), .second, .val (.ref b4), .val (.ref b5), .val (.int (own_eqv (own_a q1) (own_a q2))), .val (.int (own_cmp (own_a q1) (own_a q2))), .val (.int (0 : Int32)), .val (.int (0 : Int32))] [(.int (lcmpW (own_a q1) (own_a q2)))])) _
    refine XS.ifNo X9.here hx rfl (hb hby at_178) rfl ((if0 _ _).trans (teq hc178).2) ?_
    show Steps p.tables e below (T9.setTop (mkF m 181 #[.val (.long q1), .second, .val (.long q2), .second, .val (.int p3), .val (.long (own_a q1)), .second, .val (.long (own_a q2)), .second, .val (.ref b4), .val (.ref b5), .val (.int (own_eqv (own_a q1) (own_a q2))), .val (.int (own_cmp (own_a q1) (own_a q2))), .val (.int (0 : Int32)), .val (.int (0 : Int32))] [])) _
    refine XS.aload X9.here hx rfl (hb hby at_181) rfl rfl ?_
    show Steps p.tables e below (T9.setTop (mkF m 183 #[.val (.long q1), .second, .val (.long q2), .second, .val (.int p3), .val (.long (own_a q1)), .second, .val (.long (own_a q2)), .second, .val (.ref b4), .val (.ref b5), .val (.int (own_eqv (own_a q1) (own_a q2))), .val (.int (own_cmp (own_a q1) (own_a q2))), .val (.int (0 : Int32)), .val (.int (0 : Int32))] [(.ref b4)])) _
    refine st10.trans ?_
    show Steps p.tables e below (T10.setTop (mkF m 186 #[.val (.long q1), .second, .val (.long q2), .second, .val (.int p3), .val (.long (own_a q1)), .second, .val (.long (own_a q2)), .second, .val (.ref b4), .val (.ref b5), .val (.int (own_eqv (own_a q1) (own_a q2))), .val (.int (own_cmp (own_a q1) (own_a q2))), .val (.int (0 : Int32)), .val (.int (0 : Int32))] [(.int (own_hash (own_a q1)))])) _
    refine XS.aload X10.here hx rfl (hb hby at_186) rfl rfl ?_
    show Steps p.tables e below (T10.setTop (mkF m 188 #[.val (.long q1), .second, .val (.long q2), .second, .val (.int p3), .val (.long (own_a q1)), .second, .val (.long (own_a q2)), .second, .val (.ref b4), .val (.ref b5), .val (.int (own_eqv (own_a q1) (own_a q2))), .val (.int (own_cmp (own_a q1) (own_a q2))), .val (.int (0 : Int32)), .val (.int (0 : Int32))] [(.ref b5), (.int (own_hash (own_a q1)))])) _
    refine st11.trans ?_
    show Steps p.tables e below (T11.setTop (mkF m 191 #[.val (.long q1), .second, .val (.long q2), .second, .val (.int p3), .val (.long (own_a q1)), .second, .val (.long (own_a q2)), .second, .val (.ref b4), .val (.ref b5), .val (.int (own_eqv (own_a q1) (own_a q2))), .val (.int (own_cmp (own_a q1) (own_a q2))), .val (.int (0 : Int32)), .val (.int (0 : Int32))] [(.int (own_hash (own_a q2))), (.int (own_hash (own_a q1)))])) _
    refine XS.icmpYes X11.here hx rfl (pc0 := 191) (pc' := 196) rfl (hb hby at_191) rfl (teq (hway.2.2.2.2.2.2 : (own_hash (own_a q1)) = (own_hash (own_a q2)))).1 (by decide) (by decide) ?_
    show Steps p.tables e below (T11.setTop (mkF m 196 #[.val (.long q1), .second, .val (.long q2), .second, .val (.int p3), .val (.long (own_a q1)), .second, .val (.long (own_a q2)), .second, .val (.ref b4), .val (.ref b5), .val (.int (own_eqv (own_a q1) (own_a q2))), .val (.int (own_cmp (own_a q1) (own_a q2))), .val (.int (0 : Int32)), .val (.int (0 : Int32))] [])) _
    refine XS.iconst X11.here hx rfl (hb hby at_196) ?_
    show Steps p.tables e below (T11.setTop (mkF m 197 #[.val (.long q1), .second, .val (.long q2), .second, .val (.int p3), .val (.long (own_a q1)), .second, .val (.long (own_a q2)), .second, .val (.ref b4), .val (.ref b5), .val (.int (own_eqv (own_a q1) (own_a q2))), .val (.int (own_cmp (own_a q1) (own_a q2))), .val (.int (0 : Int32)), .val (.int (0 : Int32))] [(.int (1 : Int32))])) _
    exact retN X11 hx (t := .boolean) Bd.returns (by simp) (hb hby at_197) hr
  · show Q0 Z q1 q2 p3 h0 n0 _ T11.heap _
    exact ⟨rfl, N11⟩
set_option maxRecDepth 65536 in
set_option maxHeartbeats 40000000 in
theorem rm0C (l : Launch) (Z : State) (a0 : Array Value) (hw : ∀ d ∈ tables_1, d.before a0 Z = true) (ws : List Jvm.Cond) (q1 : Int64) (q2 : Int64) (p3 : Int32) (h0 : Heap) (n0 : Nat) (Z0 : n0 ≤ h0.size) (hord : (own_a q1) < (own_a q2)) (hnz9 : ¬ ((9223372036854775807 : Int64) = (0 : Int64))) (hc17 : (p3 &&& (1 : Int32)) = (0 : Int32)) (hnz34 : ¬ ((9223372036854775807 : Int64) = (0 : Int64))) (hc94 : ¬ ((lcmpW (own_a q1) (own_a q2)) = (0 : Int32))) (hc142 : (lcmpW (own_a q1) (own_a q2)) < (0 : Int32)) (hc178 : ¬ ((lcmpW (own_a q1) (own_a q2)) = (0 : Int32))) :
    MetFree l x (head1 (Jvm.Cond.code x code maxLocals ret :: ws) room_1) (fun a U => a = #[(.long q1), (.long q2), (.int p3)] ∧ Z.Warmed39 U.vm ∧ U.heap = h0) (fun _ _ _ _ _ => True) (fun _ U o U' => ∃ v L, o = .returned v ∧ Q0 Z q1 q2 p3 h0 n0 v U'.heap L ∧ FrameEnd U o U' L room_1.cells room_1.slots) := by
  refine MetFree.of_bodySF (plainFor_of_name pn_0) hisR ?_
  intro p e s m args below meth c s₁ Bd hml0 hP hK
  obtain ⟨rfl, hZ, hh⟩ := hP
  have hx := Bd.exec
  have hby := Bd.bytes
  have hml : c.maxLocals = 15 := hml0
  have hown : s.vm.findClass "com/example/portunus/portunus/FencingTokenOfPinLaw" = some m.cls := findClass_of_methodNamed Bd.named
  have hnm := (name_of_methodNamed Bd.named Bd.method).1
  have X0 : Stand p l e room_1 s m #[(.long q1), (.long q2), (.int p3)] below meth c s₁ [] 0 0 := Stand.of_body Bd
  have e0 : s₁.heap = h0 := by rw [← hh, Bd.state]; rfl
  have N0 := Fr.nil n0
  have hway := own_way_lt hord
  have pre0 : ∀ t, Steps p.tables e below (s₁.setTop (mkF m 0 #[.val (.long q1), .second, .val (.long q2), .second, .val (.int p3), .unset, .unset, .unset, .unset, .unset, .unset, .unset, .unset, .unset, .unset] [])) t → Steps p.tables e below (s₁.setTop (entryFrame m #[(.long q1), (.long q2), (.int p3)] maxLocals)) t := fun t k => castTop (ef_0 m q1 q2 p3) k
  obtain ⟨_, _, ⟨T4, L4, k4, n4⟩, -, X4, ⟨Lc4, hQ4, l4, y4, z4⟩, st4⟩ := Jvm.LawKit.callS X0 hx (y := (⟨"com/example/portunus/portunus/FencingToken", "of", "(J)Lcom/example/portunus/portunus/FencingToken;"⟩ : MethodName)) hown (mvT hZ (hw _ (List.mem_of_getElem? (i := 1) rfl))) (mvT hZ (hw _ (List.mem_of_getElem? (i := 2) rfl))) (mvT hZ (hw _ (List.mem_of_getElem? (i := 3) rfl))) (mvT hZ (hw _ (List.mem_of_getElem? (i := 4) rfl))) (by decide) (backOf (W := 0) (rm1 l Z a0 hw [] (own_a q1) h0 n0 Z0 (own_a_pos q1)) hZ (hw _ (List.mem_of_getElem? (i := 4) rfl)) (hw _ (List.mem_of_getElem? (i := 3) rfl)) (by decide) (by decide)) (g := (mkF m 40 #[.val (.long q1), .second, .val (.long q2), .second, .val (.int p3), .val (.long (own_a q1)), .second, .val (.long (own_a q2)), .second, .unset, .unset, .unset, .unset, .unset, .unset] [(.long (own_a q1))])) rfl (by rw [hml]; rfl) (argsL := [(.long (own_a q1))]) (rest := []) (lenOf pd_0_0 rfl) rfl (by show 2 * 0 + _ ≤ _; exact Nat.le_of_eq rfl) (hb hby at_40) (fun _ _ => ⟨rfl, e0, (by decide : 0 + 1 ≤ _), (by decide : 0 + 1 ≤ _)⟩)
  dsimp only [Pt.U, Pt.locs, Pt.cells, Pt.slots] at X4 l4 y4 z4 st4 hQ4
  subst l4 y4 z4
  obtain ⟨b4, rfl, N4q, K4, sz4, Ex4, Fv4⟩ := hQ4
  have N4 := Fr.app N0 N4q
  have Z4 : n0 ≤ T4.heap.size := Nat.le_trans Z0 K4.1
  obtain ⟨_, _, ⟨T5, L5, k5, n5⟩, -, X5, ⟨Lc5, hQ5, l5, y5, z5⟩, st5⟩ := Jvm.LawKit.callS X4 hx (y := (⟨"com/example/portunus/portunus/FencingToken", "of", "(J)Lcom/example/portunus/portunus/FencingToken;"⟩ : MethodName)) hown (mvT hZ (hw _ (List.mem_of_getElem? (i := 1) rfl))) (mvT hZ (hw _ (List.mem_of_getElem? (i := 2) rfl))) (mvT hZ (hw _ (List.mem_of_getElem? (i := 3) rfl))) (mvT hZ (hw _ (List.mem_of_getElem? (i := 4) rfl))) (by decide) (backOf (W := 0) (rm1 l Z a0 hw [] (own_a q2) T4.heap n0 Z4 (own_a_pos q2)) hZ (hw _ (List.mem_of_getElem? (i := 4) rfl)) (hw _ (List.mem_of_getElem? (i := 3) rfl)) (by decide) (by decide)) (g := (mkF m 47 #[.val (.long q1), .second, .val (.long q2), .second, .val (.int p3), .val (.long (own_a q1)), .second, .val (.long (own_a q2)), .second, .val (.ref b4), .unset, .unset, .unset, .unset, .unset] [(.long (own_a q2))])) rfl (by rw [hml]; rfl) (argsL := [(.long (own_a q2))]) (rest := []) (lenOf pd_0_0 rfl) rfl (by show 2 * 0 + _ ≤ _; exact Nat.le_of_eq rfl) (hb hby at_47) (fun _ _ => ⟨rfl, rfl, (by decide : 0 + (1 + 1) ≤ _), (by decide : 0 + (1 + 1) ≤ _)⟩)
  dsimp only [Pt.U, Pt.locs, Pt.cells, Pt.slots] at X5 l5 y5 z5 st5 hQ5
  subst l5 y5 z5
  obtain ⟨b5, rfl, N5q, K5, sz5, Ex5, Fv5⟩ := hQ5
  have N5 := Fr.app N4 N5q
  have Z5 : n0 ≤ T5.heap.size := Nat.le_trans Z4 K5.1
  have hne : ¬ (b4 = b5) := fun q => Nat.lt_irrefl _ (Nat.lt_of_lt_of_le Ex4.lt (q ▸ sz5))
  have Ex4b := Ex4.keep K5
  have Fv4b := Fv4.keep K5 (fun q => nomatch q)
  obtain ⟨cq6, kq6, q6a, q6b, q6c⟩ := isOf hZ rfl Ex4b
  obtain ⟨_, _, ⟨T6, L6, k6, n6⟩, -, X6, ⟨Lc6, hQ6, l6, y6, z6⟩, st6⟩ := X5.virtualBack hx (y := (⟨"com/example/portunus/portunus/FencingToken", "value", "()J"⟩ : MethodName)) (z := (⟨"com/example/portunus/portunus/FencingToken", "value", "()J"⟩ : MethodName)) hown (mvT hZ (hw _ (List.mem_of_getElem? (i := 15) rfl))) (mvT hZ (hw _ (List.mem_of_getElem? (i := 16) rfl))) (notFace_of_selects (args := #[]) (mvT hZ (hw _ (List.mem_of_getElem? (i := 18) rfl)))) (mvT hZ (hw _ (List.mem_of_getElem? (i := 18) rfl))) (mvT hZ (hw _ (List.mem_of_getElem? (i := 17) rfl))) (by decide) (backOf (W := 0) (rm4 l Z a0 hw [] b4 (own_a q1) T5.heap n0 Z5 Fv4b) hZ (hw _ (List.mem_of_getElem? (i := 19) rfl)) (hw _ (List.mem_of_getElem? (i := 3) rfl)) (by decide) (by decide)) q6a q6c (g := (mkF m 54 #[.val (.long q1), .second, .val (.long q2), .second, .val (.int p3), .val (.long (own_a q1)), .second, .val (.long (own_a q2)), .second, .val (.ref b4), .val (.ref b5), .unset, .unset, .unset, .unset] [(.ref b4)])) rfl (by rw [hml]; rfl) (Steps.refl _) (argsL := []) (rest := []) (lenOf pd_0_3 rfl) rfl (by show 2 * 0 + _ ≤ _; exact Nat.le_of_eq rfl) (hb hby at_54) (fun _ _ => ⟨rfl, rfl, (by decide : 0 + (2 + 0) ≤ _), (by decide : 0 + (2 + 0) ≤ _)⟩)
  dsimp only [Pt.U, Pt.locs, Pt.cells, Pt.slots] at X6 l6 y6 z6 st6 hQ6
  subst l6 y6 z6
  obtain ⟨rfl, N6q, e6q⟩ := hQ6
  have N6 := Fr.app N5 N6q
  have K6 : Keep T5.heap T6.heap [] := by rw [e6q]; exact Keep.refl T5.heap []
  have Z6 : n0 ≤ T6.heap.size := Nat.le_trans Z5 K6.1
  obtain ⟨cq7, kq7, q7a, q7b, q7c⟩ := isOf hZ rfl (Ex5.keep K6)
  obtain ⟨_, _, ⟨T7, L7, k7, n7⟩, -, X7, ⟨Lc7, hQ7, l7, y7, z7⟩, st7⟩ := X6.virtualBack hx (y := (⟨"com/example/portunus/portunus/FencingToken", "value", "()J"⟩ : MethodName)) (z := (⟨"com/example/portunus/portunus/FencingToken", "value", "()J"⟩ : MethodName)) hown (mvT hZ (hw _ (List.mem_of_getElem? (i := 15) rfl))) (mvT hZ (hw _ (List.mem_of_getElem? (i := 16) rfl))) (notFace_of_selects (args := #[]) (mvT hZ (hw _ (List.mem_of_getElem? (i := 18) rfl)))) (mvT hZ (hw _ (List.mem_of_getElem? (i := 18) rfl))) (mvT hZ (hw _ (List.mem_of_getElem? (i := 17) rfl))) (by decide) (backOf (W := 0) (rm4 l Z a0 hw [] b5 (own_a q2) T6.heap n0 Z6 (Fv5.keep K6 (fun q => nomatch q))) hZ (hw _ (List.mem_of_getElem? (i := 19) rfl)) (hw _ (List.mem_of_getElem? (i := 3) rfl)) (by decide) (by decide)) q7a q7c (g := (mkF m 67 #[.val (.long q1), .second, .val (.long q2), .second, .val (.int p3), .val (.long (own_a q1)), .second, .val (.long (own_a q2)), .second, .val (.ref b4), .val (.ref b5), .unset, .unset, .unset, .unset] [(.ref b5)])) rfl (by rw [hml]; rfl) (Steps.refl _) (argsL := []) (rest := []) (lenOf pd_0_3 rfl) rfl (by show 2 * 0 + _ ≤ _; exact Nat.le_of_eq rfl) (hb hby at_67) (fun _ _ => ⟨rfl, rfl, (by decide : 0 + (2 + 0) ≤ _), (by decide : 0 + (2 + 0) ≤ _)⟩)
  dsimp only [Pt.U, Pt.locs, Pt.cells, Pt.slots] at X7 l7 y7 z7 st7 hQ7
  subst l7 y7 z7
  obtain ⟨rfl, N7q, e7q⟩ := hQ7
  have N7 := Fr.app N6 N7q
  have K7 : Keep T6.heap T7.heap [] := by rw [e7q]; exact Keep.refl T6.heap []
  have Z7 : n0 ≤ T7.heap.size := Nat.le_trans Z6 K7.1
  obtain ⟨cq8, kq8, q8a, q8b, q8c⟩ := isOf hZ rfl ((Ex4b.keep K6).keep K7)
  obtain ⟨_, _, ⟨T8, L8, k8, n8⟩, -, X8, ⟨Lc8, hQ8, l8, y8, z8⟩, st8⟩ := X7.virtualBack hx (y := (⟨"com/example/portunus/portunus/FencingToken", "equals", "(Ljava/lang/Object;)Z"⟩ : MethodName)) (z := (⟨"com/example/portunus/portunus/FencingToken", "equals", "(Ljava/lang/Object;)Z"⟩ : MethodName)) hown (mvT hZ (hw _ (List.mem_of_getElem? (i := 20) rfl))) (mvT hZ (hw _ (List.mem_of_getElem? (i := 21) rfl))) (notFace_of_selects (args := #[]) (mvT hZ (hw _ (List.mem_of_getElem? (i := 23) rfl)))) (mvT hZ (hw _ (List.mem_of_getElem? (i := 23) rfl))) (mvT hZ (hw _ (List.mem_of_getElem? (i := 22) rfl))) (by decide) (backOf (W := 0) (rm5 l Z a0 hw [] b4 b5 (own_a q1) (own_a q2) T7.heap n0 Z7 (Ins.self ((Ex5.keep K6).keep K7)) ((Fv4b.keep K6 (fun q => nomatch q)).keep K7 (fun q => nomatch q)) ((Fv5.keep K6 (fun q => nomatch q)).keep K7 (fun q => nomatch q)) hne) hZ (hw _ (List.mem_of_getElem? (i := 24) rfl)) (hw _ (List.mem_of_getElem? (i := 3) rfl)) (by decide) (by decide)) q8a q8c (g := (mkF m 82 #[.val (.long q1), .second, .val (.long q2), .second, .val (.int p3), .val (.long (own_a q1)), .second, .val (.long (own_a q2)), .second, .val (.ref b4), .val (.ref b5), .unset, .unset, .unset, .unset] [(.ref b5), (.ref b4)])) rfl (by rw [hml]; rfl) (Steps.refl _) (argsL := [(.ref b5)]) (rest := []) (lenOf pd_0_4 rfl) rfl (by show 2 * 0 + _ ≤ _; exact Nat.le_of_eq rfl) (hb hby at_82) (fun _ _ => ⟨rfl, rfl, (by decide : 0 + (2 + 0) ≤ _), (by decide : 0 + (2 + 0) ≤ _)⟩)
  dsimp only [Pt.U, Pt.locs, Pt.cells, Pt.slots] at X8 l8 y8 z8 st8 hQ8
  subst l8 y8 z8
  obtain ⟨rfl, N8q, e8q⟩ := hQ8
  have N8 := Fr.app N7 N8q
  have K8 : Keep T7.heap T8.heap [] := by rw [e8q]; exact Keep.refl T7.heap []
  have Z8 : n0 ≤ T8.heap.size := Nat.le_trans Z7 K8.1
  obtain ⟨cq9, kq9, q9a, q9b, q9c⟩ := isOf hZ rfl (((Ex4b.keep K6).keep K7).keep K8)
  obtain ⟨_, _, ⟨T9, L9, k9, n9⟩, -, X9, ⟨Lc9, hQ9, l9, y9, z9⟩, st9⟩ := X8.virtualBack hx (y := (⟨"com/example/portunus/portunus/FencingToken", "compareTo", "(Lcom/example/portunus/portunus/FencingToken;)I"⟩ : MethodName)) (z := (⟨"com/example/portunus/portunus/FencingToken", "compareTo", "(Lcom/example/portunus/portunus/FencingToken;)I"⟩ : MethodName)) hown (mvT hZ (hw _ (List.mem_of_getElem? (i := 26) rfl))) (mvT hZ (hw _ (List.mem_of_getElem? (i := 27) rfl))) (notFace_of_selects (args := #[]) (mvT hZ (hw _ (List.mem_of_getElem? (i := 29) rfl)))) (mvT hZ (hw _ (List.mem_of_getElem? (i := 29) rfl))) (mvT hZ (hw _ (List.mem_of_getElem? (i := 28) rfl))) (by decide) (backOf (W := 0) (rm6 l Z a0 hw [] b4 b5 (own_a q1) (own_a q2) T8.heap n0 Z8 (((Fv4b.keep K6 (fun q => nomatch q)).keep K7 (fun q => nomatch q)).keep K8 (fun q => nomatch q)) (((Fv5.keep K6 (fun q => nomatch q)).keep K7 (fun q => nomatch q)).keep K8 (fun q => nomatch q))) hZ (hw _ (List.mem_of_getElem? (i := 30) rfl)) (hw _ (List.mem_of_getElem? (i := 3) rfl)) (by decide) (by decide)) q9a q9c (g := (mkF m 111 #[.val (.long q1), .second, .val (.long q2), .second, .val (.int p3), .val (.long (own_a q1)), .second, .val (.long (own_a q2)), .second, .val (.ref b4), .val (.ref b5), .val (.int (own_eqv (own_a q1) (own_a q2))), .unset, .unset, .unset] [(.ref b5), (.ref b4)])) rfl (by rw [hml]; rfl) (Steps.refl _) (argsL := [(.ref b5)]) (rest := []) (lenOf pd_0_5 rfl) rfl (by show 2 * 0 + _ ≤ _; exact Nat.le_of_eq rfl) (hb hby at_111) (fun _ _ => ⟨rfl, rfl, (by decide : 0 + (2 + 0) ≤ _), (by decide : 0 + (2 + 0) ≤ _)⟩)
  dsimp only [Pt.U, Pt.locs, Pt.cells, Pt.slots] at X9 l9 y9 z9 st9 hQ9
  subst l9 y9 z9
  obtain ⟨rfl, N9q, e9q⟩ := hQ9
  have N9 := Fr.app N8 N9q
  have K9 : Keep T8.heap T9.heap [] := by rw [e9q]; exact Keep.refl T8.heap []
  have Z9 : n0 ≤ T9.heap.size := Nat.le_trans Z8 K9.1
  obtain ⟨fs, hr, hrun, hended, hW, hsame⟩ := X9.leave (v := some (.int (1 : Int32))) (fun h => by rw [Bd.returns] at h; cases h)
  refine ⟨_, _, pre0 _ ?_, hrun, hended, _, _, rfl, ?_, ⟨_, rfl⟩, hW, hsame.mono (by decide) (by decide)⟩
  · show Steps p.tables e below (s₁.setTop (mkF m 0 #[.val (.long q1), .second, .val (.long q2), .second, .val (.int p3), .unset, .unset, .unset, .unset, .unset, .unset, .unset, .unset, .unset, .unset] [])) _
    refine XS.lconst X0.here hx rfl (hb hby at_0) ?_
    show Steps p.tables e below (s₁.setTop (mkF m 1 #[.val (.long q1), .second, .val (.long q2), .second, .val (.int p3), .unset, .unset, .unset, .unset, .unset, .unset, .unset, .unset, .unset, .unset] [(.long (1 : Int64))])) _
    refine XS.lloadN X0.here hx rfl (hb hby at_1) rfl ?_
    show Steps p.tables e below (s₁.setTop (mkF m 2 #[.val (.long q1), .second, .val (.long q2), .second, .val (.int p3), .unset, .unset, .unset, .unset, .unset, .unset, .unset, .unset, .unset, .unset] [(.long q1), (.long (1 : Int64))])) _
    refine X0.ldc2Long hx hown (mvT hZ (hw _ (List.mem_of_getElem? (i := 0) rfl))) (g := (mkF m 2 #[.val (.long q1), .second, .val (.long q2), .second, .val (.int p3), .unset, .unset, .unset, .unset, .unset, .unset, .unset, .unset, .unset, .unset] [(.long q1), (.long (1 : Int64))])) rfl (hb hby at_2) _ ?_
    show Steps p.tables e below (s₁.setTop (mkF m 5 #[.val (.long q1), .second, .val (.long q2), .second, .val (.int p3), .unset, .unset, .unset, .unset, .unset, .unset, .unset, .unset, .unset, .unset] [(.long (9223372036854775807 : Int64)), (.long q1), (.long (1 : Int64))])) _
    refine XS.land X0.here hx rfl (hb hby at_5) rfl ?_
    show Steps p.tables e below (s₁.setTop (mkF m 6 #[.val (.long q1), .second, .val (.long q2), .second, .val (.int p3), .unset, .unset, .unset, .unset, .unset, .unset, .unset, .unset, .unset, .unset] [(.long (q1 &&& (9223372036854775807 : Int64))), (.long (1 : Int64))])) _
    refine X0.ldc2Long hx hown (mvT hZ (hw _ (List.mem_of_getElem? (i := 0) rfl))) (g := (mkF m 6 #[.val (.long q1), .second, .val (.long q2), .second, .val (.int p3), .unset, .unset, .unset, .unset, .unset, .unset, .unset, .unset, .unset, .unset] [(.long (q1 &&& (9223372036854775807 : Int64))), (.long (1 : Int64))])) rfl (hb hby at_6) _ ?_
    show Steps p.tables e below (s₁.setTop (mkF m 9 #[.val (.long q1), .second, .val (.long q2), .second, .val (.int p3), .unset, .unset, .unset, .unset, .unset, .unset, .unset, .unset, .unset, .unset] [(.long (9223372036854775807 : Int64)), (.long (q1 &&& (9223372036854775807 : Int64))), (.long (1 : Int64))])) _
    refine XS.lrem X0.here hx rfl (hb hby at_9) rfl hnz9 ?_
    show Steps p.tables e below (s₁.setTop (mkF m 10 #[.val (.long q1), .second, .val (.long q2), .second, .val (.int p3), .unset, .unset, .unset, .unset, .unset, .unset, .unset, .unset, .unset, .unset] [(.long ((q1 &&& (9223372036854775807 : Int64)) - ((q1 &&& (9223372036854775807 : Int64)) / (9223372036854775807 : Int64)) * (9223372036854775807 : Int64))), (.long (1 : Int64))])) _
    refine XS.ladd X0.here hx rfl (hb hby at_10) rfl ?_
    show Steps p.tables e below (s₁.setTop (mkF m 11 #[.val (.long q1), .second, .val (.long q2), .second, .val (.int p3), .unset, .unset, .unset, .unset, .unset, .unset, .unset, .unset, .unset, .unset] [(.long (own_a q1))])) _
    refine XS.lstore X0.here hx rfl (hb hby at_11) rfl (l' := #[.val (.long q1), .second, .val (.long q2), .second, .val (.int p3), .val (.long (own_a q1)), .second, .unset, .unset, .unset, .unset, .unset, .unset, .unset, .unset]) rfl ?_
    show Steps p.tables e below (s₁.setTop (mkF m 13 #[.val (.long q1), .second, .val (.long q2), .second, .val (.int p3), .val (.long (own_a q1)), .second, .unset, .unset, .unset, .unset, .unset, .unset, .unset, .unset] [])) _
    refine XS.iload X0.here hx rfl (hb hby at_13) rfl ?_
    show Steps p.tables e below (s₁.setTop (mkF m 15 #[.val (.long q1), .second, .val (.long q2), .second, .val (.int p3), .val (.long (own_a q1)), .second, .unset, .unset, .unset, .unset, .unset, .unset, .unset, .unset] [(.int p3)])) _
    refine XS.iconst X0.here hx rfl (hb hby at_15) ?_
    show Steps p.tables e below (s₁.setTop (mkF m 16 #[.val (.long q1), .second, .val (.long q2), .second, .val (.int p3), .val (.long (own_a q1)), .second, .unset, .unset, .unset, .unset, .unset, .unset, .unset, .unset] [(.int (1 : Int32)), (.int p3)])) _
    refine XS.iand X0.here hx rfl (hb hby at_16) rfl ?_
    show Steps p.tables e below (s₁.setTop (mkF m 17 #[.val (.long q1), .second, .val (.long q2), .second, .val (.int p3), .val (.long (own_a q1)), .second, .unset, .unset, .unset, .unset, .unset, .unset, .unset, .unset] [(.int (p3 &&& (1 : Int32)))])) _
    refine XS.ifYes X0.here hx rfl (pc0 := 17) (pc' := 25) rfl (hb hby at_17) rfl ((if0 _ _).trans (teq hc17).1) (by decide) (by decide) ?_
    show Steps p.tables e below (s₁.setTop (mkF m 25 #[.val (.long q1), .second, .val (.long q2), .second, .val (.int p3), .val (.long (own_a q1)), .second, .unset, .unset, .unset, .unset, .unset, .unset, .unset, .unset] [])) _
    refine XS.lconst X0.here hx rfl (hb hby at_25) ?_
    show Steps p.tables e below (s₁.setTop (mkF m 26 #[.val (.long q1), .second, .val (.long q2), .second, .val (.int p3), .val (.long (own_a q1)), .second, .unset, .unset, .unset, .unset, .unset, .unset, .unset, .unset] [(.long (1 : Int64))])) _
    refine XS.lloadN X0.here hx rfl (hb hby at_26) rfl ?_
    show Steps p.tables e below (s₁.setTop (mkF m 27 #[.val (.long q1), .second, .val (.long q2), .second, .val (.int p3), .val (.long (own_a q1)), .second, .unset, .unset, .unset, .unset, .unset, .unset, .unset, .unset] [(.long q2), (.long (1 : Int64))])) _
    refine X0.ldc2Long hx hown (mvT hZ (hw _ (List.mem_of_getElem? (i := 0) rfl))) (g := (mkF m 27 #[.val (.long q1), .second, .val (.long q2), .second, .val (.int p3), .val (.long (own_a q1)), .second, .unset, .unset, .unset, .unset, .unset, .unset, .unset, .unset] [(.long q2), (.long (1 : Int64))])) rfl (hb hby at_27) _ ?_
    show Steps p.tables e below (s₁.setTop (mkF m 30 #[.val (.long q1), .second, .val (.long q2), .second, .val (.int p3), .val (.long (own_a q1)), .second, .unset, .unset, .unset, .unset, .unset, .unset, .unset, .unset] [(.long (9223372036854775807 : Int64)), (.long q2), (.long (1 : Int64))])) _
    refine XS.land X0.here hx rfl (hb hby at_30) rfl ?_
    show Steps p.tables e below (s₁.setTop (mkF m 31 #[.val (.long q1), .second, .val (.long q2), .second, .val (.int p3), .val (.long (own_a q1)), .second, .unset, .unset, .unset, .unset, .unset, .unset, .unset, .unset] [(.long (q2 &&& (9223372036854775807 : Int64))), (.long (1 : Int64))])) _
    refine X0.ldc2Long hx hown (mvT hZ (hw _ (List.mem_of_getElem? (i := 0) rfl))) (g := (mkF m 31 #[.val (.long q1), .second, .val (.long q2), .second, .val (.int p3), .val (.long (own_a q1)), .second, .unset, .unset, .unset, .unset, .unset, .unset, .unset, .unset] [(.long (q2 &&& (9223372036854775807 : Int64))), (.long (1 : Int64))])) rfl (hb hby at_31) _ ?_
    show Steps p.tables e below (s₁.setTop (mkF m 34 #[.val (.long q1), .second, .val (.long q2), .second, .val (.int p3), .val (.long (own_a q1)), .second, .unset, .unset, .unset, .unset, .unset, .unset, .unset, .unset] [(.long (9223372036854775807 : Int64)), (.long (q2 &&& (9223372036854775807 : Int64))), (.long (1 : Int64))])) _
    refine XS.lrem X0.here hx rfl (hb hby at_34) rfl hnz34 ?_
    show Steps p.tables e below (s₁.setTop (mkF m 35 #[.val (.long q1), .second, .val (.long q2), .second, .val (.int p3), .val (.long (own_a q1)), .second, .unset, .unset, .unset, .unset, .unset, .unset, .unset, .unset] [(.long ((q2 &&& (9223372036854775807 : Int64)) - ((q2 &&& (9223372036854775807 : Int64)) / (9223372036854775807 : Int64)) * (9223372036854775807 : Int64))), (.long (1 : Int64))])) _
    refine XS.ladd X0.here hx rfl (hb hby at_35) rfl ?_
    show Steps p.tables e below (s₁.setTop (mkF m 36 #[.val (.long q1), .second, .val (.long q2), .second, .val (.int p3), .val (.long (own_a q1)), .second, .unset, .unset, .unset, .unset, .unset, .unset, .unset, .unset] [(.long (own_a q2))])) _
    refine XS.lstore X0.here hx rfl (hb hby at_36) rfl (l' := #[.val (.long q1), .second, .val (.long q2), .second, .val (.int p3), .val (.long (own_a q1)), .second, .val (.long (own_a q2)), .second, .unset, .unset, .unset, .unset, .unset, .unset]) rfl ?_
    show Steps p.tables e below (s₁.setTop (mkF m 38 #[.val (.long q1), .second, .val (.long q2), .second, .val (.int p3), .val (.long (own_a q1)), .second, .val (.long (own_a q2)), .second, .unset, .unset, .unset, .unset, .unset, .unset] [])) _
    refine XS.lload X0.here hx rfl (hb hby at_38) rfl ?_
    show Steps p.tables e below (s₁.setTop (mkF m 40 #[.val (.long q1), .second, .val (.long q2), .second, .val (.int p3), .val (.long (own_a q1)), .second, .val (.long (own_a q2)), .second, .unset, .unset, .unset, .unset, .unset, .unset] [(.long (own_a q1))])) _
    refine st4 _ ?_
    show Steps p.tables e below (T4.setTop (mkF m 43 #[.val (.long q1), .second, .val (.long q2), .second, .val (.int p3), .val (.long (own_a q1)), .second, .val (.long (own_a q2)), .second, .unset, .unset, .unset, .unset, .unset, .unset] [(.ref b4)])) _
    refine XS.astore X4.here hx rfl (hb hby at_43) rfl rfl (l' := #[.val (.long q1), .second, .val (.long q2), .second, .val (.int p3), .val (.long (own_a q1)), .second, .val (.long (own_a q2)), .second, .val (.ref b4), .unset, .unset, .unset, .unset, .unset]) rfl ?_
    show Steps p.tables e below (T4.setTop (mkF m 45 #[.val (.long q1), .second, .val (.long q2), .second, .val (.int p3), .val (.long (own_a q1)), .second, .val (.long (own_a q2)), .second, .val (.ref b4), .unset, .unset, .unset, .unset, .unset] [])) _
    refine XS.lload X4.here hx rfl (hb hby at_45) rfl ?_
    show Steps p.tables e below (T4.setTop (mkF m 47 #[.val (.long q1), .second, .val (.long q2), .second, .val (.int p3), .val (.long (own_a q1)), .second, .val (.long (own_a q2)), .second, .val (.ref b4), .unset, .unset, .unset, .unset, .unset] [(.long (own_a q2))])) _
    refine st5 _ ?_
    show Steps p.tables e below (T5.setTop (mkF m 50 #[.val (.long q1), .second, .val (.long q2), .second, .val (.int p3), .val (.long (own_a q1)), .second, .val (.long (own_a q2)), .second, .val (.ref b4), .unset, .unset, .unset, .unset, .unset] [(.ref b5)])) _
    refine XS.astore X5.here hx rfl (hb hby at_50) rfl rfl (l' := #[.val (.long q1), .second, .val (.long q2), .second, .val (.int p3), .val (.long (own_a q1)), .second, .val (.long (own_a q2)), .second, .val (.ref b4), .val (.ref b5), .unset, .unset, .unset, .unset]) rfl ?_
    show Steps p.tables e below (T5.setTop (mkF m 52 #[.val (.long q1), .second, .val (.long q2), .second, .val (.int p3), .val (.long (own_a q1)), .second, .val (.long (own_a q2)), .second, .val (.ref b4), .val (.ref b5), .unset, .unset, .unset, .unset] [])) _
    refine XS.aload X5.here hx rfl (hb hby at_52) rfl rfl ?_
    show Steps p.tables e below (T5.setTop (mkF m 54 #[.val (.long q1), .second, .val (.long q2), .second, .val (.int p3), .val (.long (own_a q1)), .second, .val (.long (own_a q2)), .second, .val (.ref b4), .val (.ref b5), .unset, .unset, .unset, .unset] [(.ref b4)])) _
    refine st6.trans ?_
    show Steps p.tables e below (T6.setTop (mkF m 57 #[.val (.long q1), .second, .val (.long q2), .second, .val (.int p3), .val (.long (own_a q1)), .second, .val (.long (own_a q2)), .second, .val (.ref b4), .val (.ref b5), .unset, .unset, .unset, .unset] [(.long (own_a q1))])) _
    refine XS.lload X6.here hx rfl (hb hby at_57) rfl ?_
    show Steps p.tables e below (T6.setTop (mkF m 59 #[.val (.long q1), .second, .val (.long q2), .second, .val (.int p3), .val (.long (own_a q1)), .second, .val (.long (own_a q2)), .second, .val (.ref b4), .val (.ref b5), .unset, .unset, .unset, .unset] [(.long (own_a q1)), (.long (own_a q1))])) _
    refine XS.lcmp X6.here hx rfl (hb hby at_59) rfl ?_
    show Steps p.tables e below (T6.setTop (mkF m 60 #[.val (.long q1), .second, .val (.long q2), .second, .val (.int p3), .val (.long (own_a q1)), .second, .val (.long (own_a q2)), .second, .val (.ref b4), .val (.ref b5), .unset, .unset, .unset, .unset] [(.int (lcmpW (own_a q1) (own_a q1)))])) _
    refine XS.ifYes X6.here hx rfl (pc0 := 60) (pc' := 65) rfl (hb hby at_60) rfl ((if0 _ _).trans (teq ((own_self _) : (lcmpW (own_a q1) (own_a q1)) = (0 : Int32))).1) (by decide) (by decide) ?_
    show Steps p.tables e below (T6.setTop (mkF m 65 #[.val (.long q1), .second, .val (.long q2), .second, .val (.int p3), .val (.long (own_a q1)), .second, .val (.long (own_a q2)), .second, .val (.ref b4), .val (.ref b5), .unset, .unset, .unset, .unset] [])) _
    refine XS.aload X6.here hx rfl (hb hby at_65) rfl rfl ?_
    show Steps p.tables e below (T6.setTop (mkF m 67 #[.val (.long q1), .second, .val (.long q2), .second, .val (.int p3), .val (.long (own_a q1)), .second, .val (.long (own_a q2)), .second, .val (.ref b4), .val (.ref b5), .unset, .unset, .unset, .unset] [(.ref b5)])) _
    refine st7.trans ?_
    show Steps p.tables e below (T7.setTop (mkF m 70 #[.val (.long q1), .second, .val (.long q2), .second, .val (.int p3), .val (.long (own_a q1)), .second, .val (.long (own_a q2)), .second, .val (.ref b4), .val (.ref b5), .unset, .unset, .unset, .unset] [(.long (own_a q2))])) _
    refine XS.lload X7.here hx rfl (hb hby at_70) rfl ?_
    show Steps p.tables e below (T7.setTop (mkF m 72 #[.val (.long q1), .second, .val (.long q2), .second, .val (.int p3), .val (.long (own_a q1)), .second, .val (.long (own_a q2)), .second, .val (.ref b4), .val (.ref b5), .unset, .unset, .unset, .unset] [(.long (own_a q2)), (.long (own_a q2))])) _
    refine XS.lcmp X7.here hx rfl (hb hby at_72) rfl ?_
    show Steps p.tables e below (T7.setTop (mkF m 73 #[.val (.long q1), .second, .val (.long q2), .second, .val (.int p3), .val (.long (own_a q1)), .second, .val (.long (own_a q2)), .second, .val (.ref b4), .val (.ref b5), .unset, .unset, .unset, .unset] [(.int (lcmpW (own_a q2) (own_a q2)))])) _
    refine XS.ifYes X7.here hx rfl (pc0 := 73) (pc' := 78) rfl (hb hby at_73) rfl ((if0 _ _).trans (teq ((own_self _) : (lcmpW (own_a q2) (own_a q2)) = (0 : Int32))).1) (by decide) (by decide) ?_
    show Steps p.tables e below (T7.setTop (mkF m 78 #[.val (.long q1), .second, .val (.long q2), .second, .val (.int p3), .val (.long (own_a q1)), .second, .val (.long (own_a q2)), .second, .val (.ref b4), .val (.ref b5), .unset, .unset, .unset, .unset] [])) _
    refine XS.aload X7.here hx rfl (hb hby at_78) rfl rfl ?_
    show Steps p.tables e below (T7.setTop (mkF m 80 #[.val (.long q1), .second, .val (.long q2), .second, .val (.int p3), .val (.long (own_a q1)), .second, .val (.long (own_a q2)), .second, .val (.ref b4), .val (.ref b5), .unset, .unset, .unset, .unset] [(.ref b4)])) _
    refine XS.aload X7.here hx rfl (hb hby at_80) rfl rfl ?_
    show Steps p.tables e below (T7.setTop (mkF m 82 #[.val (.long q1), .second, .val (.long q2), .second, .val (.int p3), .val (.long (own_a q1)), .second, .val (.long (own_a q2)), .second, .val (.ref b4), .val (.ref b5), .unset, .unset, .unset, .unset] [(.ref b5), (.ref b4)])) _
    refine st8.trans ?_
    show Steps p.tables e below (T8.setTop (mkF m 85 #[.val (.long q1), .second, .val (.long q2), .second, .val (.int p3), .val (.long (own_a q1)), .second, .val (.long (own_a q2)), .second, .val (.ref b4), .val (.ref b5), .unset, .unset, .unset, .unset] [(.int (own_eqv (own_a q1) (own_a q2)))])) _
    refine XS.istore X8.here hx rfl (hb hby at_85) rfl (l' := #[.val (.long q1), .second, .val (.long q2), .second, .val (.int p3), .val (.long (own_a q1)), .second, .val (.long (own_a q2)), .second, .val (.ref b4), .val (.ref b5), .val (.int (own_eqv (own_a q1) (own_a q2))), .unset, .unset, .unset]) rfl ?_
    show Steps p.tables e below (T8.setTop (mkF m 87 #[.val (.long q1), .second, .val (.long q2), .second, .val (.int p3), .val (.long (own_a q1)), .second, .val (.long (own_a q2)), .second, .val (.ref b4), .val (.ref b5), .val (.int (own_eqv (own_a q1) (own_a q2))), .unset, .unset, .unset] [])) _
    refine XS.iload X8.here hx rfl (hb hby at_87) rfl ?_
    show Steps p.tables e below (T8.setTop (mkF m 89 #[.val (.long q1), .second, .val (.long q2), .second, .val (.int p3), .val (.long (own_a q1)), .second, .val (.long (own_a q2)), .second, .val (.ref b4), .val (.ref b5), .val (.int (own_eqv (own_a q1) (own_a q2))), .unset, .unset, .unset] [(.int (own_eqv (own_a q1) (own_a q2)))])) _
    refine XS.lload X8.here hx rfl (hb hby at_89) rfl ?_
    show Steps p.tables e below (T8.setTop (mkF m 91 #[.val (.long q1), .second, .val (.long q2), .second, .val (.int p3), .val (.long (own_a q1)), .second, .val (.long (own_a q2)), .second, .val (.ref b4), .val (.ref b5), .val (.int (own_eqv (own_a q1) (own_a q2))), .unset, .unset, .unset] [(.long (own_a q1)), (.int (own_eqv (own_a q1) (own_a q2)))])) _
    refine XS.lload X8.here hx rfl (hb hby at_91) rfl ?_
    show Steps p.tables e below (T8.setTop (mkF m 93 #[.val (.long q1), .second, .val (.long q2), .second, .val (.int p3), .val (.long (own_a q1)), .second, .val (.long (own_a q2)), .second, .val (.ref b4), .val (.ref b5), .val (.int (own_eqv (own_a q1) (own_a q2))), .unset, .unset, .unset] [(.long (own_a q2)), (.long (own_a q1)), (.int (own_eqv (own_a q1) (own_a q2)))])) _
    refine XS.lcmp X8.here hx rfl (hb hby at_93) rfl ?_
    show Steps p.tables e below (T8.setTop (mkF m 94 #[.val (.long q1), .second, .val (.long q2), .second, .val (.int p3), .val (.long (own_a q1)), .second, .val (.long (own_a q2)), .second, .val (.ref b4), .val (.ref b5), .val (.int (own_eqv (own_a q1) (own_a q2))), .unset, .unset, .unset] [(.int (lcmpW (own_a q1) (own_a q2))), (.int (own_eqv (own_a q1) (own_a q2)))])) _
    refine XS.ifYes X8.here hx rfl (pc0 := 94) (pc' := 101) rfl (hb hby at_94) rfl ((if0 _ _).trans (feq hc94).2) (by decide) (by decide) ?_
    show Steps p.tables e below (T8.setTop (mkF m 101 #[.val (.long q1), .second, .val (.long q2), .second, .val (.int p3), .val (.long (own_a q1)), .second, .val (.long (own_a q2)), .second, .val (.ref b4), .val (.ref b5), .val (.int (own_eqv (own_a q1) (own_a q2))), .unset, .unset, .unset] [(.int (own_eqv (own_a q1) (own_a q2)))])) _
    refine XS.iconst X8.here hx rfl (hb hby at_101) ?_
    show Steps p.tables e below (T8.setTop (mkF m 102 #[.val (.long q1), .second, .val (.long q2), .second, .val (.int p3), .val (.long (own_a q1)), .second, .val (.long (own_a q2)), .second, .val (.ref b4), .val (.ref b5), .val (.int (own_eqv (own_a q1) (own_a q2))), .unset, .unset, .unset] [(.int (0 : Int32)), (.int (own_eqv (own_a q1) (own_a q2)))])) _
    refine XS.icmpYes X8.here hx rfl (pc0 := 102) (pc' := 107) rfl (hb hby at_102) rfl (teq (hway.2.2.1 : (own_eqv (own_a q1) (own_a q2)) = (0 : Int32))).1 (by decide) (by decide) ?_
    show Steps p.tables e below (T8.setTop (mkF m 107 #[.val (.long q1), .second, .val (.long q2), .second, .val (.int p3), .val (.long (own_a q1)), .second, .val (.long (own_a q2)), .second, .val (.ref b4), .val (.ref b5), .val (.int (own_eqv (own_a q1) (own_a q2))), .unset, .unset, .unset] [])) _
    refine XS.aload X8.here hx rfl (hb hby at_107) rfl rfl ?_
    show Steps p.tables e below (T8.setTop (mkF m 109 #[.val (.long q1), .second, .val (.long q2), .second, .val (.int p3), .val (.long (own_a q1)), .second, .val (.long (own_a q2)), .second, .val (.ref b4), .val (.ref b5), .val (.int (own_eqv (own_a q1) (own_a q2))), .unset, .unset, .unset] [(.ref b4)])) _
    refine XS.aload X8.here hx rfl (hb hby at_109) rfl rfl ?_
    show Steps p.tables e below (T8.setTop (mkF m 111 #[.val (.long q1), .second, .val (.long q2), .second, .val (.int p3), .val (.long (own_a q1)), .second, .val (.long (own_a q2)), .second, .val (.ref b4), .val (.ref b5), .val (.int (own_eqv (own_a q1) (own_a q2))), .unset, .unset, .unset] [(.ref b5), (.ref b4)])) _
    refine st9.trans ?_
    show Steps p.tables e below (T9.setTop (mkF m 114 #[.val (.long q1), .second, .val (.long q2), .second, .val (.int p3), .val (.long (own_a q1)), .second, .val (.long (own_a q2)), .second, .val (.ref b4), .val (.ref b5), .val (.int (own_eqv (own_a q1) (own_a q2))), .unset, .unset, .unset] [(.int (own_cmp (own_a q1) (own_a q2)))])) _
    refine XS.istore X9.here hx rfl (hb hby at_114) rfl (l' := #[.val (.long q1), .second, .val (.long q2), .second, .val (.int p3), .val (.long (own_a q1)), .second, .val (.long (own_a q2)), .second, .val (.ref b4), .val (.ref b5), .val (.int (own_eqv (own_a q1) (own_a q2))), .val (.int (own_cmp (own_a q1) (own_a q2))), .unset, .unset]) rfl ?_
    show Steps p.tables e below (T9.setTop (mkF m 116 #[.val (.long q1), .second, .val (.long q2), .second, .val (.int p3), .val (.long (own_a q1)), .second, .val (.long (own_a q2)), .second, .val (.ref b4), .val (.ref b5), .val (.int (own_eqv (own_a q1) (own_a q2))), .val (.int (own_cmp (own_a q1) (own_a q2))), .unset, .unset] [])) _
    refine XS.iload X9.here hx rfl (hb hby at_116) rfl ?_
    show Steps p.tables e below (T9.setTop (mkF m 118 #[.val (.long q1), .second, .val (.long q2), .second, .val (.int p3), .val (.long (own_a q1)), .second, .val (.long (own_a q2)), .second, .val (.ref b4), .val (.ref b5), .val (.int (own_eqv (own_a q1) (own_a q2))), .val (.int (own_cmp (own_a q1) (own_a q2))), .unset, .unset] [(.int (own_cmp (own_a q1) (own_a q2)))])) _
    refine XS.ifNo X9.here hx rfl (hb hby at_118) rfl ((if0 _ _).trans (tlt (hway.2.2.2 : (own_cmp (own_a q1) (own_a q2)) < (0 : Int32))).2.1) ?_
    show Steps p.tables e below (T9.setTop (mkF m 121 #[.val (.long q1), .second, .val (.long q2), .second, .val (.int p3), .val (.long (own_a q1)), .second, .val (.long (own_a q2)), .second, .val (.ref b4), .val (.ref b5), .val (.int (own_eqv (own_a q1) (own_a q2))), .val (.int (own_cmp (own_a q1) (own_a q2))), .unset, .unset] [])) _
    refine XS.iconst X9.here hx rfl (hb hby at_121) ?_
    show Steps p.tables e below (T9.setTop (mkF m 122 #[.val (.long q1), .second, .val (.long q2), .second, .val (.int p3), .val (.long (own_a q1)), .second, .val (.long (own_a q2)), .second, .val (.ref b4), .val (.ref b5), .val (.int (own_eqv (own_a q1) (own_a q2))), .val (.int (own_cmp (own_a q1) (own_a q2))), .unset, .unset] [(.int (-1 : Int32))])) _
    refine XS.goto X9.here hx rfl (pc0 := 122) (pc' := 135) rfl (hb hby at_122) (by decide) (by decide) ?_
    show Steps p.tables e below (T9.setTop (mkF m 135 #[.val (.long q1), .second, .val (.long q2), .second, .val (.int p3), .val (.long (own_a q1)), .second, .val (.long (own_a q2)), .second, .val (.ref b4), .val (.ref b5), .val (.int (own_eqv (own_a q1) (own_a q2))), .val (.int (own_cmp (own_a q1) (own_a q2))), .unset, .unset] [(.int (-1 : Int32))])) _
    refine XS.istore X9.here hx rfl (hb hby at_135) rfl (l' := #[.val (.long q1), .second, .val (.long q2), .second, .val (.int p3), .val (.long (own_a q1)), .second, .val (.long (own_a q2)), .second, .val (.ref b4), .val (.ref b5), .val (.int (own_eqv (own_a q1) (own_a q2))), .val (.int (own_cmp (own_a q1) (own_a q2))), .val (.int (-1 : Int32)), .unset]) rfl ?_
    show Steps p.tables e below (T9.setTop (mkF m 137 #[.val (.long q1), .second, .val (.long q2), .second, .val (.int p3), .val (.long (own_a q1)), .second, .val (.long (own_a q2)), .second, .val (.ref b4), .val (.ref b5), .val (.int (own_eqv (own_a q1) (own_a q2))), .val (.int (own_cmp (own_a q1) (own_a q2))), .val (.int (-1 : Int32)), .unset] [])) _
    refine XS.lload X9.here hx rfl (hb hby at_137) rfl ?_
    show Steps p.tables e below (T9.setTop (mkF m 139 #[.val (.long q1), .second, .val (.long q2), .second, .val (.int p3), .val (.long (own_a q1)), .second, .val (.long (own_a q2)), .second, .val (.ref b4), .val (.ref b5), .val (.int (own_eqv (own_a q1) (own_a q2))), .val (.int (own_cmp (own_a q1) (own_a q2))), .val (.int (-1 : Int32)), .unset] [(.long (own_a q1))])) _
    refine XS.lload X9.here hx rfl (hb hby at_139) rfl ?_
    show Steps p.tables e below (T9.setTop (mkF m 141 #[.val (.long q1), .second, .val (.long q2), .second, .val (.int p3), .val (.long (own_a q1)), .second, .val (.long (own_a q2)), .second, .val (.ref b4), .val (.ref b5), .val (.int (own_eqv (own_a q1) (own_a q2))), .val (.int (own_cmp (own_a q1) (own_a q2))), .val (.int (-1 : Int32)), .unset] [(.long (own_a q2)), (.long (own_a q1))])) _
    refine XS.lcmp X9.here hx rfl (hb hby at_141) rfl ?_
    show Steps p.tables e below (T9.setTop (mkF m 142 #[.val (.long q1), .second, .val (.long q2), .second, .val (.int p3), .val (.long (own_a q1)), .second, .val (.long (own_a q2)), .second, .val (.ref b4), .val (.ref b5), .val (.int (own_eqv (own_a q1) (own_a q2))), .val (.int (own_cmp (own_a q1) (own_a q2))), .val (.int (-1 : Int32)), .unset] [(.int (lcmpW (own_a q1) (own_a q2)))])) _
    refine XS.ifNo X9.here hx rfl (hb hby at_142) rfl ((if0 _ _).trans (tlt hc142).2.1) ?_
    show Steps p.tables e below (T9.setTop (mkF m 145 #[.val (.long q1), .second, .val (.long q2), .second, .val (.int p3), .val (.long (own_a q1)), .second, .val (.long (own_a q2)), .second, .val (.ref b4), .val (.ref b5), .val (.int (own_eqv (own_a q1) (own_a q2))), .val (.int (own_cmp (own_a q1) (own_a q2))), .val (.int (-1 : Int32)), .unset] [])) _
    refine XS.iconst X9.here hx rfl (hb hby at_145) ?_
    show Steps p.tables e below (T9.setTop (mkF m 146 #[.val (.long q1), .second, .val (.long q2), .second, .val (.int p3), .val (.long (own_a q1)), .second, .val (.long (own_a q2)), .second, .val (.ref b4), .val (.ref b5), .val (.int (own_eqv (own_a q1) (own_a q2))), .val (.int (own_cmp (own_a q1) (own_a q2))), .val (.int (-1 : Int32)), .unset] [(.int (-1 : Int32))])) _
    refine XS.goto X9.here hx rfl (pc0 := 146) (pc' := 162) rfl (hb hby at_146) (by decide) (by decide) ?_
    show Steps p.tables e below (T9.setTop (mkF m 162 #[.val (.long q1), .second, .val (.long q2), .second, .val (.int p3), .val (.long (own_a q1)), .second, .val (.long (own_a q2)), .second, .val (.ref b4), .val (.ref b5), .val (.int (own_eqv (own_a q1) (own_a q2))), .val (.int (own_cmp (own_a q1) (own_a q2))), .val (.int (-1 : Int32)), .unset] [(.int (-1 : Int32))])) _
    refine XS.istore X9.here hx rfl (hb hby at_162) rfl (l' := #[.val (.long q1), .second, .val (.long q2), .second, .val (.int p3), .val (.long (own_a q1)), .second, .val (.long (own_a q2)), .second, .val (.ref b4), .val (.ref b5), .val (.int (own_eqv (own_a q1) (own_a q2))), .val (.int (own_cmp (own_a q1) (own_a q2))), .val (.int (-1 : Int32)), .val (.int (-1 : Int32))]) rfl ?_
    show Steps p.tables e below (T9.setTop (mkF m 164 #[.val (.long q1), .second, .val (.long q2), .second, .val (.int p3), .val (.long (own_a q1)), .second, .val (.long (own_a q2)), .second, .val (.ref b4), .val (.ref b5), .val (.int (own_eqv (own_a q1) (own_a q2))), .val (.int (own_cmp (own_a q1) (own_a q2))), .val (.int (-1 : Int32)), .val (.int (-1 : Int32))] [])) _
    refine XS.iload X9.here hx rfl (hb hby at_164) rfl ?_
    show Steps p.tables e below (T9.setTop (mkF m 166 #[.val (.long q1), .second, .val (.long q2), .second, .val (.int p3), .val (.long (own_a q1)), .second, .val (.long (own_a q2)), .second, .val (.ref b4), .val (.ref b5), .val (.int (own_eqv (own_a q1) (own_a q2))), .val (.int (own_cmp (own_a q1) (own_a q2))), .val (.int (-1 : Int32)), .val (.int (-1 : Int32))] [(.int (-1 : Int32))])) _
    refine XS.iload X9.here hx rfl (hb hby at_166) rfl ?_
    show Steps p.tables e below (T9.setTop (mkF m 168 #[.val (.long q1), .second, .val (.long q2), .second, .val (.int p3), .val (.long (own_a q1)), .second, .val (.long (own_a q2)), .second, .val (.ref b4), .val (.ref b5), .val (.int (own_eqv (own_a q1) (own_a q2))), .val (.int (own_cmp (own_a q1) (own_a q2))), .val (.int (-1 : Int32)), .val (.int (-1 : Int32))] [(.int (-1 : Int32)), (.int (-1 : Int32))])) _
    refine XS.icmpYes X9.here hx rfl (pc0 := 168) (pc' := 173) rfl (hb hby at_168) rfl (teq (rfl : (-1 : Int32) = (-1 : Int32))).1 (by decide) (by decide) ?_
    show Steps p.tables e below (T9.setTop (mkF m 173 #[.val (.long q1), .second, .val (.long q2), .second, .val (.int p3), .val (.long (own_a q1)), .second, .val (.long (own_a q2)), .second, .val (.ref b4), .val (.ref b5), .val (.int (own_eqv (own_a q1) (own_a q2))), .val (.int (own_cmp (own_a q1) (own_a q2))), .val (.int (-1 : Int32)), .val (.int (-1 : Int32))] [])) _
    refine XS.lload X9.here hx rfl (hb hby at_173) rfl ?_
    show Steps p.tables e below (T9.setTop (mkF m 175 #[.val (.long q1), .second, .val (.long q2), .second, .val (.int p3), .val (.long (own_a q1)), .second, .val (.long (own_a q2)), .second, .val (.ref b4), .val (.ref b5), .val (.int (own_eqv (own_a q1) (own_a q2))), .val (.int (own_cmp (own_a q1) (own_a q2))), .val (.int (-1 : Int32)), .val (.int (-1 : Int32))] [(.long (own_a q1))])) _
    refine XS.lload X9.here hx rfl (hb hby at_175) rfl ?_
    show Steps p.tables e below (T9.setTop (mkF m 177 #[.val (.long q1), .second, .val (.long q2), .second, .val (.int p3), .val (.long (own_a q1)), .second, .val (.long (own_a q2)), .second, .val (.ref b4), .val (.ref b5), .val (.int (own_eqv (own_a q1) (own_a q2))), .val (.int (own_cmp (own_a q1) (own_a q2))), .val (.int (-1 : Int32)), .val (.int (-1 : Int32))] [(.long (own_a q2)), (.long (own_a q1))])) _
    refine XS.lcmp X9.here hx rfl (hb hby at_177) rfl ?_
    show Steps p.tables e below (T9.setTop (mkF m 178 #[.val (.long q1), .second, .val (.long q2), .second, .val (.int p3), .val (.long (own_a q1)), .second, .val (.long (own_a q2)), .second, .val (.ref b4), .val (.ref b5), .val (.int (own_eqv (own_a q1) (own_a q2))), .val (.int (own_cmp (own_a q1) (own_a q2))), .val (.int (-1 : Int32)), .val (.int (-1 : Int32))] [(.int (lcmpW (own_a q1) (own_a q2)))])) _
    refine XS.ifYes X9.here hx rfl (pc0 := 178) (pc' := 196) rfl (hb hby at_178) rfl ((if0 _ _).trans (feq hc178).2) (by decide) (by decide) ?_
    show Steps p.tables e below (T9.setTop (mkF m 196 #[.val (.long q1), .second, .val (.long q2), .second, .val (.int p3), .val (.long (own_a q1)), .second, .val (.long (own_a q2)), .second, .val (.ref b4), .val (.ref b5), .val (.int (own_eqv (own_a q1) (own_a q2))), .val (.int (own_cmp (own_a q1) (own_a q2))), .val (.int (-1 : Int32)), .val (.int (-1 : Int32))] [])) _
    refine XS.iconst X9.here hx rfl (hb hby at_196) ?_
    show Steps p.tables e below (T9.setTop (mkF m 197 #[.val (.long q1), .second, .val (.long q2), .second, .val (.int p3), .val (.long (own_a q1)), .second, .val (.long (own_a q2)), .second, .val (.ref b4), .val (.ref b5), .val (.int (own_eqv (own_a q1) (own_a q2))), .val (.int (own_cmp (own_a q1) (own_a q2))), .val (.int (-1 : Int32)), .val (.int (-1 : Int32))] [(.int (1 : Int32))])) _
    exact retN X9 hx (t := .boolean) Bd.returns (by simp) (hb hby at_197) hr
  · show Q0 Z q1 q2 p3 h0 n0 _ T9.heap _
    exact ⟨rfl, N9⟩
set_option maxRecDepth 65536 in
set_option maxHeartbeats 40000000 in
theorem rm0D (l : Launch) (Z : State) (a0 : Array Value) (hw : ∀ d ∈ tables_1, d.before a0 Z = true) (ws : List Jvm.Cond) (q1 : Int64) (q2 : Int64) (p3 : Int32) (h0 : Heap) (n0 : Nat) (Z0 : n0 ≤ h0.size) (hord : (own_a q2) < (own_a q1)) (hnz9 : ¬ ((9223372036854775807 : Int64) = (0 : Int64))) (hc17 : (p3 &&& (1 : Int32)) = (0 : Int32)) (hnz34 : ¬ ((9223372036854775807 : Int64) = (0 : Int64))) (hc94 : ¬ ((lcmpW (own_a q1) (own_a q2)) = (0 : Int32))) (hc142 : ¬ ((lcmpW (own_a q1) (own_a q2)) < (0 : Int32))) (hc154 : (0 : Int32) < (lcmpW (own_a q1) (own_a q2))) (hc178 : ¬ ((lcmpW (own_a q1) (own_a q2)) = (0 : Int32))) :
    MetFree l x (head1 (Jvm.Cond.code x code maxLocals ret :: ws) room_1) (fun a U => a = #[(.long q1), (.long q2), (.int p3)] ∧ Z.Warmed39 U.vm ∧ U.heap = h0) (fun _ _ _ _ _ => True) (fun _ U o U' => ∃ v L, o = .returned v ∧ Q0 Z q1 q2 p3 h0 n0 v U'.heap L ∧ FrameEnd U o U' L room_1.cells room_1.slots) := by
  refine MetFree.of_bodySF (plainFor_of_name pn_0) hisR ?_
  intro p e s m args below meth c s₁ Bd hml0 hP hK
  obtain ⟨rfl, hZ, hh⟩ := hP
  have hx := Bd.exec
  have hby := Bd.bytes
  have hml : c.maxLocals = 15 := hml0
  have hown : s.vm.findClass "com/example/portunus/portunus/FencingTokenOfPinLaw" = some m.cls := findClass_of_methodNamed Bd.named
  have hnm := (name_of_methodNamed Bd.named Bd.method).1
  have X0 : Stand p l e room_1 s m #[(.long q1), (.long q2), (.int p3)] below meth c s₁ [] 0 0 := Stand.of_body Bd
  have e0 : s₁.heap = h0 := by rw [← hh, Bd.state]; rfl
  have N0 := Fr.nil n0
  have hway := own_way_gt hord
  have pre0 : ∀ t, Steps p.tables e below (s₁.setTop (mkF m 0 #[.val (.long q1), .second, .val (.long q2), .second, .val (.int p3), .unset, .unset, .unset, .unset, .unset, .unset, .unset, .unset, .unset, .unset] [])) t → Steps p.tables e below (s₁.setTop (entryFrame m #[(.long q1), (.long q2), (.int p3)] maxLocals)) t := fun t k => castTop (ef_0 m q1 q2 p3) k
  obtain ⟨_, _, ⟨T4, L4, k4, n4⟩, -, X4, ⟨Lc4, hQ4, l4, y4, z4⟩, st4⟩ := Jvm.LawKit.callS X0 hx (y := (⟨"com/example/portunus/portunus/FencingToken", "of", "(J)Lcom/example/portunus/portunus/FencingToken;"⟩ : MethodName)) hown (mvT hZ (hw _ (List.mem_of_getElem? (i := 1) rfl))) (mvT hZ (hw _ (List.mem_of_getElem? (i := 2) rfl))) (mvT hZ (hw _ (List.mem_of_getElem? (i := 3) rfl))) (mvT hZ (hw _ (List.mem_of_getElem? (i := 4) rfl))) (by decide) (backOf (W := 0) (rm1 l Z a0 hw [] (own_a q1) h0 n0 Z0 (own_a_pos q1)) hZ (hw _ (List.mem_of_getElem? (i := 4) rfl)) (hw _ (List.mem_of_getElem? (i := 3) rfl)) (by decide) (by decide)) (g := (mkF m 40 #[.val (.long q1), .second, .val (.long q2), .second, .val (.int p3), .val (.long (own_a q1)), .second, .val (.long (own_a q2)), .second, .unset, .unset, .unset, .unset, .unset, .unset] [(.long (own_a q1))])) rfl (by rw [hml]; rfl) (argsL := [(.long (own_a q1))]) (rest := []) (lenOf pd_0_0 rfl) rfl (by show 2 * 0 + _ ≤ _; exact Nat.le_of_eq rfl) (hb hby at_40) (fun _ _ => ⟨rfl, e0, (by decide : 0 + 1 ≤ _), (by decide : 0 + 1 ≤ _)⟩)
  dsimp only [Pt.U, Pt.locs, Pt.cells, Pt.slots] at X4 l4 y4 z4 st4 hQ4
  subst l4 y4 z4
  obtain ⟨b4, rfl, N4q, K4, sz4, Ex4, Fv4⟩ := hQ4
  have N4 := Fr.app N0 N4q
  have Z4 : n0 ≤ T4.heap.size := Nat.le_trans Z0 K4.1
  obtain ⟨_, _, ⟨T5, L5, k5, n5⟩, -, X5, ⟨Lc5, hQ5, l5, y5, z5⟩, st5⟩ := Jvm.LawKit.callS X4 hx (y := (⟨"com/example/portunus/portunus/FencingToken", "of", "(J)Lcom/example/portunus/portunus/FencingToken;"⟩ : MethodName)) hown (mvT hZ (hw _ (List.mem_of_getElem? (i := 1) rfl))) (mvT hZ (hw _ (List.mem_of_getElem? (i := 2) rfl))) (mvT hZ (hw _ (List.mem_of_getElem? (i := 3) rfl))) (mvT hZ (hw _ (List.mem_of_getElem? (i := 4) rfl))) (by decide) (backOf (W := 0) (rm1 l Z a0 hw [] (own_a q2) T4.heap n0 Z4 (own_a_pos q2)) hZ (hw _ (List.mem_of_getElem? (i := 4) rfl)) (hw _ (List.mem_of_getElem? (i := 3) rfl)) (by decide) (by decide)) (g := (mkF m 47 #[.val (.long q1), .second, .val (.long q2), .second, .val (.int p3), .val (.long (own_a q1)), .second, .val (.long (own_a q2)), .second, .val (.ref b4), .unset, .unset, .unset, .unset, .unset] [(.long (own_a q2))])) rfl (by rw [hml]; rfl) (argsL := [(.long (own_a q2))]) (rest := []) (lenOf pd_0_0 rfl) rfl (by show 2 * 0 + _ ≤ _; exact Nat.le_of_eq rfl) (hb hby at_47) (fun _ _ => ⟨rfl, rfl, (by decide : 0 + (1 + 1) ≤ _), (by decide : 0 + (1 + 1) ≤ _)⟩)
  dsimp only [Pt.U, Pt.locs, Pt.cells, Pt.slots] at X5 l5 y5 z5 st5 hQ5
  subst l5 y5 z5
  obtain ⟨b5, rfl, N5q, K5, sz5, Ex5, Fv5⟩ := hQ5
  have N5 := Fr.app N4 N5q
  have Z5 : n0 ≤ T5.heap.size := Nat.le_trans Z4 K5.1
  have hne : ¬ (b4 = b5) := fun q => Nat.lt_irrefl _ (Nat.lt_of_lt_of_le Ex4.lt (q ▸ sz5))
  have Ex4b := Ex4.keep K5
  have Fv4b := Fv4.keep K5 (fun q => nomatch q)
  obtain ⟨cq6, kq6, q6a, q6b, q6c⟩ := isOf hZ rfl Ex4b
  obtain ⟨_, _, ⟨T6, L6, k6, n6⟩, -, X6, ⟨Lc6, hQ6, l6, y6, z6⟩, st6⟩ := X5.virtualBack hx (y := (⟨"com/example/portunus/portunus/FencingToken", "value", "()J"⟩ : MethodName)) (z := (⟨"com/example/portunus/portunus/FencingToken", "value", "()J"⟩ : MethodName)) hown (mvT hZ (hw _ (List.mem_of_getElem? (i := 15) rfl))) (mvT hZ (hw _ (List.mem_of_getElem? (i := 16) rfl))) (notFace_of_selects (args := #[]) (mvT hZ (hw _ (List.mem_of_getElem? (i := 18) rfl)))) (mvT hZ (hw _ (List.mem_of_getElem? (i := 18) rfl))) (mvT hZ (hw _ (List.mem_of_getElem? (i := 17) rfl))) (by decide) (backOf (W := 0) (rm4 l Z a0 hw [] b4 (own_a q1) T5.heap n0 Z5 Fv4b) hZ (hw _ (List.mem_of_getElem? (i := 19) rfl)) (hw _ (List.mem_of_getElem? (i := 3) rfl)) (by decide) (by decide)) q6a q6c (g := (mkF m 54 #[.val (.long q1), .second, .val (.long q2), .second, .val (.int p3), .val (.long (own_a q1)), .second, .val (.long (own_a q2)), .second, .val (.ref b4), .val (.ref b5), .unset, .unset, .unset, .unset] [(.ref b4)])) rfl (by rw [hml]; rfl) (Steps.refl _) (argsL := []) (rest := []) (lenOf pd_0_3 rfl) rfl (by show 2 * 0 + _ ≤ _; exact Nat.le_of_eq rfl) (hb hby at_54) (fun _ _ => ⟨rfl, rfl, (by decide : 0 + (2 + 0) ≤ _), (by decide : 0 + (2 + 0) ≤ _)⟩)
  dsimp only [Pt.U, Pt.locs, Pt.cells, Pt.slots] at X6 l6 y6 z6 st6 hQ6
  subst l6 y6 z6
  obtain ⟨rfl, N6q, e6q⟩ := hQ6
  have N6 := Fr.app N5 N6q
  have K6 : Keep T5.heap T6.heap [] := by rw [e6q]; exact Keep.refl T5.heap []
  have Z6 : n0 ≤ T6.heap.size := Nat.le_trans Z5 K6.1
  obtain ⟨cq7, kq7, q7a, q7b, q7c⟩ := isOf hZ rfl (Ex5.keep K6)
  obtain ⟨_, _, ⟨T7, L7, k7, n7⟩, -, X7, ⟨Lc7, hQ7, l7, y7, z7⟩, st7⟩ := X6.virtualBack hx (y := (⟨"com/example/portunus/portunus/FencingToken", "value", "()J"⟩ : MethodName)) (z := (⟨"com/example/portunus/portunus/FencingToken", "value", "()J"⟩ : MethodName)) hown (mvT hZ (hw _ (List.mem_of_getElem? (i := 15) rfl))) (mvT hZ (hw _ (List.mem_of_getElem? (i := 16) rfl))) (notFace_of_selects (args := #[]) (mvT hZ (hw _ (List.mem_of_getElem? (i := 18) rfl)))) (mvT hZ (hw _ (List.mem_of_getElem? (i := 18) rfl))) (mvT hZ (hw _ (List.mem_of_getElem? (i := 17) rfl))) (by decide) (backOf (W := 0) (rm4 l Z a0 hw [] b5 (own_a q2) T6.heap n0 Z6 (Fv5.keep K6 (fun q => nomatch q))) hZ (hw _ (List.mem_of_getElem? (i := 19) rfl)) (hw _ (List.mem_of_getElem? (i := 3) rfl)) (by decide) (by decide)) q7a q7c (g := (mkF m 67 #[.val (.long q1), .second, .val (.long q2), .second, .val (.int p3), .val (.long (own_a q1)), .second, .val (.long (own_a q2)), .second, .val (.ref b4), .val (.ref b5), .unset, .unset, .unset, .unset] [(.ref b5)])) rfl (by rw [hml]; rfl) (Steps.refl _) (argsL := []) (rest := []) (lenOf pd_0_3 rfl) rfl (by show 2 * 0 + _ ≤ _; exact Nat.le_of_eq rfl) (hb hby at_67) (fun _ _ => ⟨rfl, rfl, (by decide : 0 + (2 + 0) ≤ _), (by decide : 0 + (2 + 0) ≤ _)⟩)
  dsimp only [Pt.U, Pt.locs, Pt.cells, Pt.slots] at X7 l7 y7 z7 st7 hQ7
  subst l7 y7 z7
  obtain ⟨rfl, N7q, e7q⟩ := hQ7
  have N7 := Fr.app N6 N7q
  have K7 : Keep T6.heap T7.heap [] := by rw [e7q]; exact Keep.refl T6.heap []
  have Z7 : n0 ≤ T7.heap.size := Nat.le_trans Z6 K7.1
  obtain ⟨cq8, kq8, q8a, q8b, q8c⟩ := isOf hZ rfl ((Ex4b.keep K6).keep K7)
  obtain ⟨_, _, ⟨T8, L8, k8, n8⟩, -, X8, ⟨Lc8, hQ8, l8, y8, z8⟩, st8⟩ := X7.virtualBack hx (y := (⟨"com/example/portunus/portunus/FencingToken", "equals", "(Ljava/lang/Object;)Z"⟩ : MethodName)) (z := (⟨"com/example/portunus/portunus/FencingToken", "equals", "(Ljava/lang/Object;)Z"⟩ : MethodName)) hown (mvT hZ (hw _ (List.mem_of_getElem? (i := 20) rfl))) (mvT hZ (hw _ (List.mem_of_getElem? (i := 21) rfl))) (notFace_of_selects (args := #[]) (mvT hZ (hw _ (List.mem_of_getElem? (i := 23) rfl)))) (mvT hZ (hw _ (List.mem_of_getElem? (i := 23) rfl))) (mvT hZ (hw _ (List.mem_of_getElem? (i := 22) rfl))) (by decide) (backOf (W := 0) (rm5 l Z a0 hw [] b4 b5 (own_a q1) (own_a q2) T7.heap n0 Z7 (Ins.self ((Ex5.keep K6).keep K7)) ((Fv4b.keep K6 (fun q => nomatch q)).keep K7 (fun q => nomatch q)) ((Fv5.keep K6 (fun q => nomatch q)).keep K7 (fun q => nomatch q)) hne) hZ (hw _ (List.mem_of_getElem? (i := 24) rfl)) (hw _ (List.mem_of_getElem? (i := 3) rfl)) (by decide) (by decide)) q8a q8c (g := (mkF m 82 #[.val (.long q1), .second, .val (.long q2), .second, .val (.int p3), .val (.long (own_a q1)), .second, .val (.long (own_a q2)), .second, .val (.ref b4), .val (.ref b5), .unset, .unset, .unset, .unset] [(.ref b5), (.ref b4)])) rfl (by rw [hml]; rfl) (Steps.refl _) (argsL := [(.ref b5)]) (rest := []) (lenOf pd_0_4 rfl) rfl (by show 2 * 0 + _ ≤ _; exact Nat.le_of_eq rfl) (hb hby at_82) (fun _ _ => ⟨rfl, rfl, (by decide : 0 + (2 + 0) ≤ _), (by decide : 0 + (2 + 0) ≤ _)⟩)
  dsimp only [Pt.U, Pt.locs, Pt.cells, Pt.slots] at X8 l8 y8 z8 st8 hQ8
  subst l8 y8 z8
  obtain ⟨rfl, N8q, e8q⟩ := hQ8
  have N8 := Fr.app N7 N8q
  have K8 : Keep T7.heap T8.heap [] := by rw [e8q]; exact Keep.refl T7.heap []
  have Z8 : n0 ≤ T8.heap.size := Nat.le_trans Z7 K8.1
  obtain ⟨cq9, kq9, q9a, q9b, q9c⟩ := isOf hZ rfl (((Ex4b.keep K6).keep K7).keep K8)
  obtain ⟨_, _, ⟨T9, L9, k9, n9⟩, -, X9, ⟨Lc9, hQ9, l9, y9, z9⟩, st9⟩ := X8.virtualBack hx (y := (⟨"com/example/portunus/portunus/FencingToken", "compareTo", "(Lcom/example/portunus/portunus/FencingToken;)I"⟩ : MethodName)) (z := (⟨"com/example/portunus/portunus/FencingToken", "compareTo", "(Lcom/example/portunus/portunus/FencingToken;)I"⟩ : MethodName)) hown (mvT hZ (hw _ (List.mem_of_getElem? (i := 26) rfl))) (mvT hZ (hw _ (List.mem_of_getElem? (i := 27) rfl))) (notFace_of_selects (args := #[]) (mvT hZ (hw _ (List.mem_of_getElem? (i := 29) rfl)))) (mvT hZ (hw _ (List.mem_of_getElem? (i := 29) rfl))) (mvT hZ (hw _ (List.mem_of_getElem? (i := 28) rfl))) (by decide) (backOf (W := 0) (rm6 l Z a0 hw [] b4 b5 (own_a q1) (own_a q2) T8.heap n0 Z8 (((Fv4b.keep K6 (fun q => nomatch q)).keep K7 (fun q => nomatch q)).keep K8 (fun q => nomatch q)) (((Fv5.keep K6 (fun q => nomatch q)).keep K7 (fun q => nomatch q)).keep K8 (fun q => nomatch q))) hZ (hw _ (List.mem_of_getElem? (i := 30) rfl)) (hw _ (List.mem_of_getElem? (i := 3) rfl)) (by decide) (by decide)) q9a q9c (g := (mkF m 111 #[.val (.long q1), .second, .val (.long q2), .second, .val (.int p3), .val (.long (own_a q1)), .second, .val (.long (own_a q2)), .second, .val (.ref b4), .val (.ref b5), .val (.int (own_eqv (own_a q1) (own_a q2))), .unset, .unset, .unset] [(.ref b5), (.ref b4)])) rfl (by rw [hml]; rfl) (Steps.refl _) (argsL := [(.ref b5)]) (rest := []) (lenOf pd_0_5 rfl) rfl (by show 2 * 0 + _ ≤ _; exact Nat.le_of_eq rfl) (hb hby at_111) (fun _ _ => ⟨rfl, rfl, (by decide : 0 + (2 + 0) ≤ _), (by decide : 0 + (2 + 0) ≤ _)⟩)
  dsimp only [Pt.U, Pt.locs, Pt.cells, Pt.slots] at X9 l9 y9 z9 st9 hQ9
  subst l9 y9 z9
  obtain ⟨rfl, N9q, e9q⟩ := hQ9
  have N9 := Fr.app N8 N9q
  have K9 : Keep T8.heap T9.heap [] := by rw [e9q]; exact Keep.refl T8.heap []
  have Z9 : n0 ≤ T9.heap.size := Nat.le_trans Z8 K9.1
  obtain ⟨fs, hr, hrun, hended, hW, hsame⟩ := X9.leave (v := some (.int (1 : Int32))) (fun h => by rw [Bd.returns] at h; cases h)
  refine ⟨_, _, pre0 _ ?_, hrun, hended, _, _, rfl, ?_, ⟨_, rfl⟩, hW, hsame.mono (by decide) (by decide)⟩
  · show Steps p.tables e below (s₁.setTop (mkF m 0 #[.val (.long q1), .second, .val (.long q2), .second, .val (.int p3), .unset, .unset, .unset, .unset, .unset, .unset, .unset, .unset, .unset, .unset] [])) _
    refine XS.lconst X0.here hx rfl (hb hby at_0) ?_
    show Steps p.tables e below (s₁.setTop (mkF m 1 #[.val (.long q1), .second, .val (.long q2), .second, .val (.int p3), .unset, .unset, .unset, .unset, .unset, .unset, .unset, .unset, .unset, .unset] [(.long (1 : Int64))])) _
    refine XS.lloadN X0.here hx rfl (hb hby at_1) rfl ?_
    show Steps p.tables e below (s₁.setTop (mkF m 2 #[.val (.long q1), .second, .val (.long q2), .second, .val (.int p3), .unset, .unset, .unset, .unset, .unset, .unset, .unset, .unset, .unset, .unset] [(.long q1), (.long (1 : Int64))])) _
    refine X0.ldc2Long hx hown (mvT hZ (hw _ (List.mem_of_getElem? (i := 0) rfl))) (g := (mkF m 2 #[.val (.long q1), .second, .val (.long q2), .second, .val (.int p3), .unset, .unset, .unset, .unset, .unset, .unset, .unset, .unset, .unset, .unset] [(.long q1), (.long (1 : Int64))])) rfl (hb hby at_2) _ ?_
    show Steps p.tables e below (s₁.setTop (mkF m 5 #[.val (.long q1), .second, .val (.long q2), .second, .val (.int p3), .unset, .unset, .unset, .unset, .unset, .unset, .unset, .unset, .unset, .unset] [(.long (9223372036854775807 : Int64)), (.long q1), (.long (1 : Int64))])) _
    refine XS.land X0.here hx rfl (hb hby at_5) rfl ?_
    show Steps p.tables e below (s₁.setTop (mkF m 6 #[.val (.long q1), .second, .val (.long q2), .second, .val (.int p3), .unset, .unset, .unset, .unset, .unset, .unset, .unset, .unset, .unset, .unset] [(.long (q1 &&& (9223372036854775807 : Int64))), (.long (1 : Int64))])) _
    refine X0.ldc2Long hx hown (mvT hZ (hw _ (List.mem_of_getElem? (i := 0) rfl))) (g := (mkF m 6 #[.val (.long q1), .second, .val (.long q2), .second, .val (.int p3), .unset, .unset, .unset, .unset, .unset, .unset, .unset, .unset, .unset, .unset] [(.long (q1 &&& (9223372036854775807 : Int64))), (.long (1 : Int64))])) rfl (hb hby at_6) _ ?_
    show Steps p.tables e below (s₁.setTop (mkF m 9 #[.val (.long q1), .second, .val (.long q2), .second, .val (.int p3), .unset, .unset, .unset, .unset, .unset, .unset, .unset, .unset, .unset, .unset] [(.long (9223372036854775807 : Int64)), (.long (q1 &&& (9223372036854775807 : Int64))), (.long (1 : Int64))])) _
    refine XS.lrem X0.here hx rfl (hb hby at_9) rfl hnz9 ?_
    show Steps p.tables e below (s₁.setTop (mkF m 10 #[.val (.long q1), .second, .val (.long q2), .second, .val (.int p3), .unset, .unset, .unset, .unset, .unset, .unset, .unset, .unset, .unset, .unset] [(.long ((q1 &&& (9223372036854775807 : Int64)) - ((q1 &&& (9223372036854775807 : Int64)) / (9223372036854775807 : Int64)) * (9223372036854775807 : Int64))), (.long (1 : Int64))])) _
    refine XS.ladd X0.here hx rfl (hb hby at_10) rfl ?_
    show Steps p.tables e below (s₁.setTop (mkF m 11 #[.val (.long q1), .second, .val (.long q2), .second, .val (.int p3), .unset, .unset, .unset, .unset, .unset, .unset, .unset, .unset, .unset, .unset] [(.long (own_a q1))])) _
    refine XS.lstore X0.here hx rfl (hb hby at_11) rfl (l' := #[.val (.long q1), .second, .val (.long q2), .second, .val (.int p3), .val (.long (own_a q1)), .second, .unset, .unset, .unset, .unset, .unset, .unset, .unset, .unset]) rfl ?_
    show Steps p.tables e below (s₁.setTop (mkF m 13 #[.val (.long q1), .second, .val (.long q2), .second, .val (.int p3), .val (.long (own_a q1)), .second, .unset, .unset, .unset, .unset, .unset, .unset, .unset, .unset] [])) _
    refine XS.iload X0.here hx rfl (hb hby at_13) rfl ?_
    show Steps p.tables e below (s₁.setTop (mkF m 15 #[.val (.long q1), .second, .val (.long q2), .second, .val (.int p3), .val (.long (own_a q1)), .second, .unset, .unset, .unset, .unset, .unset, .unset, .unset, .unset] [(.int p3)])) _
    refine XS.iconst X0.here hx rfl (hb hby at_15) ?_
    show Steps p.tables e below (s₁.setTop (mkF m 16 #[.val (.long q1), .second, .val (.long q2), .second, .val (.int p3), .val (.long (own_a q1)), .second, .unset, .unset, .unset, .unset, .unset, .unset, .unset, .unset] [(.int (1 : Int32)), (.int p3)])) _
    refine XS.iand X0.here hx rfl (hb hby at_16) rfl ?_
    show Steps p.tables e below (s₁.setTop (mkF m 17 #[.val (.long q1), .second, .val (.long q2), .second, .val (.int p3), .val (.long (own_a q1)), .second, .unset, .unset, .unset, .unset, .unset, .unset, .unset, .unset] [(.int (p3 &&& (1 : Int32)))])) _
    refine XS.ifYes X0.here hx rfl (pc0 := 17) (pc' := 25) rfl (hb hby at_17) rfl ((if0 _ _).trans (teq hc17).1) (by decide) (by decide) ?_
    show Steps p.tables e below (s₁.setTop (mkF m 25 #[.val (.long q1), .second, .val (.long q2), .second, .val (.int p3), .val (.long (own_a q1)), .second, .unset, .unset, .unset, .unset, .unset, .unset, .unset, .unset] [])) _
    refine XS.lconst X0.here hx rfl (hb hby at_25) ?_
    show Steps p.tables e below (s₁.setTop (mkF m 26 #[.val (.long q1), .second, .val (.long q2), .second, .val (.int p3), .val (.long (own_a q1)), .second, .unset, .unset, .unset, .unset, .unset, .unset, .unset, .unset] [(.long (1 : Int64))])) _
    refine XS.lloadN X0.here hx rfl (hb hby at_26) rfl ?_
    show Steps p.tables e below (s₁.setTop (mkF m 27 #[.val (.long q1), .second, .val (.long q2), .second, .val (.int p3), .val (.long (own_a q1)), .second, .unset, .unset, .unset, .unset, .unset, .unset, .unset, .unset] [(.long q2), (.long (1 : Int64))])) _
    refine X0.ldc2Long hx hown (mvT hZ (hw _ (List.mem_of_getElem? (i := 0) rfl))) (g := (mkF m 27 #[.val (.long q1), .second, .val (.long q2), .second, .val (.int p3), .val (.long (own_a q1)), .second, .unset, .unset, .unset, .unset, .unset, .unset, .unset, .unset] [(.long q2), (.long (1 : Int64))])) rfl (hb hby at_27) _ ?_
    show Steps p.tables e below (s₁.setTop (mkF m 30 #[.val (.long q1), .second, .val (.long q2), .second, .val (.int p3), .val (.long (own_a q1)), .second, .unset, .unset, .unset, .unset, .unset, .unset, .unset, .unset] [(.long (9223372036854775807 : Int64)), (.long q2), (.long (1 : Int64))])) _
    refine XS.land X0.here hx rfl (hb hby at_30) rfl ?_
    show Steps p.tables e below (s₁.setTop (mkF m 31 #[.val (.long q1), .second, .val (.long q2), .second, .val (.int p3), .val (.long (own_a q1)), .second, .unset, .unset, .unset, .unset, .unset, .unset, .unset, .unset] [(.long (q2 &&& (9223372036854775807 : Int64))), (.long (1 : Int64))])) _
    refine X0.ldc2Long hx hown (mvT hZ (hw _ (List.mem_of_getElem? (i := 0) rfl))) (g := (mkF m 31 #[.val (.long q1), .second, .val (.long q2), .second, .val (.int p3), .val (.long (own_a q1)), .second, .unset, .unset, .unset, .unset, .unset, .unset, .unset, .unset] [(.long (q2 &&& (9223372036854775807 : Int64))), (.long (1 : Int64))])) rfl (hb hby at_31) _ ?_
    show Steps p.tables e below (s₁.setTop (mkF m 34 #[.val (.long q1), .second, .val (.long q2), .second, .val (.int p3), .val (.long (own_a q1)), .second, .unset, .unset, .unset, .unset, .unset, .unset, .unset, .unset] [(.long (9223372036854775807 : Int64)), (.long (q2 &&& (9223372036854775807 : Int64))), (.long (1 : Int64))])) _
    refine XS.lrem X0.here hx rfl (hb hby at_34) rfl hnz34 ?_
    show Steps p.tables e below (s₁.setTop (mkF m 35 #[.val (.long q1), .second, .val (.long q2), .second, .val (.int p3), .val (.long (own_a q1)), .second, .unset, .unset, .unset, .unset, .unset, .unset, .unset, .unset] [(.long ((q2 &&& (9223372036854775807 : Int64)) - ((q2 &&& (9223372036854775807 : Int64)) / (9223372036854775807 : Int64)) * (9223372036854775807 : Int64))), (.long (1 : Int64))])) _
    refine XS.ladd X0.here hx rfl (hb hby at_35) rfl ?_
    show Steps p.tables e below (s₁.setTop (mkF m 36 #[.val (.long q1), .second, .val (.long q2), .second, .val (.int p3), .val (.long (own_a q1)), .second, .unset, .unset, .unset, .unset, .unset, .unset, .unset, .unset] [(.long (own_a q2))])) _
    refine XS.lstore X0.here hx rfl (hb hby at_36) rfl (l' := #[.val (.long q1), .second, .val (.long q2), .second, .val (.int p3), .val (.long (own_a q1)), .second, .val (.long (own_a q2)), .second, .unset, .unset, .unset, .unset, .unset, .unset]) rfl ?_
    show Steps p.tables e below (s₁.setTop (mkF m 38 #[.val (.long q1), .second, .val (.long q2), .second, .val (.int p3), .val (.long (own_a q1)), .second, .val (.long (own_a q2)), .second, .unset, .unset, .unset, .unset, .unset, .unset] [])) _
    refine XS.lload X0.here hx rfl (hb hby at_38) rfl ?_
    show Steps p.tables e below (s₁.setTop (mkF m 40 #[.val (.long q1), .second, .val (.long q2), .second, .val (.int p3), .val (.long (own_a q1)), .second, .val (.long (own_a q2)), .second, .unset, .unset, .unset, .unset, .unset, .unset] [(.long (own_a q1))])) _
    refine st4 _ ?_
    show Steps p.tables e below (T4.setTop (mkF m 43 #[.val (.long q1), .second, .val (.long q2), .second, .val (.int p3), .val (.long (own_a q1)), .second, .val (.long (own_a q2)), .second, .unset, .unset, .unset, .unset, .unset, .unset] [(.ref b4)])) _
    refine XS.astore X4.here hx rfl (hb hby at_43) rfl rfl (l' := #[.val (.long q1), .second, .val (.long q2), .second, .val (.int p3), .val (.long (own_a q1)), .second, .val (.long (own_a q2)), .second, .val (.ref b4), .unset, .unset, .unset, .unset, .unset]) rfl ?_
    show Steps p.tables e below (T4.setTop (mkF m 45 #[.val (.long q1), .second, .val (.long q2), .second, .val (.int p3), .val (.long (own_a q1)), .second, .val (.long (own_a q2)), .second, .val (.ref b4), .unset, .unset, .unset, .unset, .unset] [])) _
    refine XS.lload X4.here hx rfl (hb hby at_45) rfl ?_
    show Steps p.tables e below (T4.setTop (mkF m 47 #[.val (.long q1), .second, .val (.long q2), .second, .val (.int p3), .val (.long (own_a q1)), .second, .val (.long (own_a q2)), .second, .val (.ref b4), .unset, .unset, .unset, .unset, .unset] [(.long (own_a q2))])) _
    refine st5 _ ?_
    show Steps p.tables e below (T5.setTop (mkF m 50 #[.val (.long q1), .second, .val (.long q2), .second, .val (.int p3), .val (.long (own_a q1)), .second, .val (.long (own_a q2)), .second, .val (.ref b4), .unset, .unset, .unset, .unset, .unset] [(.ref b5)])) _
    refine XS.astore X5.here hx rfl (hb hby at_50) rfl rfl (l' := #[.val (.long q1), .second, .val (.long q2), .second, .val (.int p3), .val (.long (own_a q1)), .second, .val (.long (own_a q2)), .second, .val (.ref b4), .val (.ref b5), .unset, .unset, .unset, .unset]) rfl ?_
    show Steps p.tables e below (T5.setTop (mkF m 52 #[.val (.long q1), .second, .val (.long q2), .second, .val (.int p3), .val (.long (own_a q1)), .second, .val (.long (own_a q2)), .second, .val (.ref b4), .val (.ref b5), .unset, .unset, .unset, .unset] [])) _
    refine XS.aload X5.here hx rfl (hb hby at_52) rfl rfl ?_
    show Steps p.tables e below (T5.setTop (mkF m 54 #[.val (.long q1), .second, .val (.long q2), .second, .val (.int p3), .val (.long (own_a q1)), .second, .val (.long (own_a q2)), .second, .val (.ref b4), .val (.ref b5), .unset, .unset, .unset, .unset] [(.ref b4)])) _
    refine st6.trans ?_
    show Steps p.tables e below (T6.setTop (mkF m 57 #[.val (.long q1), .second, .val (.long q2), .second, .val (.int p3), .val (.long (own_a q1)), .second, .val (.long (own_a q2)), .second, .val (.ref b4), .val (.ref b5), .unset, .unset, .unset, .unset] [(.long (own_a q1))])) _
    refine XS.lload X6.here hx rfl (hb hby at_57) rfl ?_
    show Steps p.tables e below (T6.setTop (mkF m 59 #[.val (.long q1), .second, .val (.long q2), .second, .val (.int p3), .val (.long (own_a q1)), .second, .val (.long (own_a q2)), .second, .val (.ref b4), .val (.ref b5), .unset, .unset, .unset, .unset] [(.long (own_a q1)), (.long (own_a q1))])) _
    refine XS.lcmp X6.here hx rfl (hb hby at_59) rfl ?_
    show Steps p.tables e below (T6.setTop (mkF m 60 #[.val (.long q1), .second, .val (.long q2), .second, .val (.int p3), .val (.long (own_a q1)), .second, .val (.long (own_a q2)), .second, .val (.ref b4), .val (.ref b5), .unset, .unset, .unset, .unset] [(.int (lcmpW (own_a q1) (own_a q1)))])) _
    refine XS.ifYes X6.here hx rfl (pc0 := 60) (pc' := 65) rfl (hb hby at_60) rfl ((if0 _ _).trans (teq ((own_self _) : (lcmpW (own_a q1) (own_a q1)) = (0 : Int32))).1) (by decide) (by decide) ?_
    show Steps p.tables e below (T6.setTop (mkF m 65 #[.val (.long q1), .second, .val (.long q2), .second, .val (.int p3), .val (.long (own_a q1)), .second, .val (.long (own_a q2)), .second, .val (.ref b4), .val (.ref b5), .unset, .unset, .unset, .unset] [])) _
    refine XS.aload X6.here hx rfl (hb hby at_65) rfl rfl ?_
    show Steps p.tables e below (T6.setTop (mkF m 67 #[.val (.long q1), .second, .val (.long q2), .second, .val (.int p3), .val (.long (own_a q1)), .second, .val (.long (own_a q2)), .second, .val (.ref b4), .val (.ref b5), .unset, .unset, .unset, .unset] [(.ref b5)])) _
    refine st7.trans ?_
    show Steps p.tables e below (T7.setTop (mkF m 70 #[.val (.long q1), .second, .val (.long q2), .second, .val (.int p3), .val (.long (own_a q1)), .second, .val (.long (own_a q2)), .second, .val (.ref b4), .val (.ref b5), .unset, .unset, .unset, .unset] [(.long (own_a q2))])) _
    refine XS.lload X7.here hx rfl (hb hby at_70) rfl ?_
    show Steps p.tables e below (T7.setTop (mkF m 72 #[.val (.long q1), .second, .val (.long q2), .second, .val (.int p3), .val (.long (own_a q1)), .second, .val (.long (own_a q2)), .second, .val (.ref b4), .val (.ref b5), .unset, .unset, .unset, .unset] [(.long (own_a q2)), (.long (own_a q2))])) _
    refine XS.lcmp X7.here hx rfl (hb hby at_72) rfl ?_
    show Steps p.tables e below (T7.setTop (mkF m 73 #[.val (.long q1), .second, .val (.long q2), .second, .val (.int p3), .val (.long (own_a q1)), .second, .val (.long (own_a q2)), .second, .val (.ref b4), .val (.ref b5), .unset, .unset, .unset, .unset] [(.int (lcmpW (own_a q2) (own_a q2)))])) _
    refine XS.ifYes X7.here hx rfl (pc0 := 73) (pc' := 78) rfl (hb hby at_73) rfl ((if0 _ _).trans (teq ((own_self _) : (lcmpW (own_a q2) (own_a q2)) = (0 : Int32))).1) (by decide) (by decide) ?_
    show Steps p.tables e below (T7.setTop (mkF m 78 #[.val (.long q1), .second, .val (.long q2), .second, .val (.int p3), .val (.long (own_a q1)), .second, .val (.long (own_a q2)), .second, .val (.ref b4), .val (.ref b5), .unset, .unset, .unset, .unset] [])) _
    refine XS.aload X7.here hx rfl (hb hby at_78) rfl rfl ?_
    show Steps p.tables e below (T7.setTop (mkF m 80 #[.val (.long q1), .second, .val (.long q2), .second, .val (.int p3), .val (.long (own_a q1)), .second, .val (.long (own_a q2)), .second, .val (.ref b4), .val (.ref b5), .unset, .unset, .unset, .unset] [(.ref b4)])) _
    refine XS.aload X7.here hx rfl (hb hby at_80) rfl rfl ?_
    show Steps p.tables e below (T7.setTop (mkF m 82 #[.val (.long q1), .second, .val (.long q2), .second, .val (.int p3), .val (.long (own_a q1)), .second, .val (.long (own_a q2)), .second, .val (.ref b4), .val (.ref b5), .unset, .unset, .unset, .unset] [(.ref b5), (.ref b4)])) _
    refine st8.trans ?_
    show Steps p.tables e below (T8.setTop (mkF m 85 #[.val (.long q1), .second, .val (.long q2), .second, .val (.int p3), .val (.long (own_a q1)), .second, .val (.long (own_a q2)), .second, .val (.ref b4), .val (.ref b5), .unset, .unset, .unset, .unset] [(.int (own_eqv (own_a q1) (own_a q2)))])) _
    refine XS.istore X8.here hx rfl (hb hby at_85) rfl (l' := #[.val (.long q1), .second, .val (.long q2), .second, .val (.int p3), .val (.long (own_a q1)), .second, .val (.long (own_a q2)), .second, .val (.ref b4), .val (.ref b5), .val (.int (own_eqv (own_a q1) (own_a q2))), .unset, .unset, .unset]) rfl ?_
    show Steps p.tables e below (T8.setTop (mkF m 87 #[.val (.long q1), .second, .val (.long q2), .second, .val (.int p3), .val (.long (own_a q1)), .second, .val (.long (own_a q2)), .second, .val (.ref b4), .val (.ref b5), .val (.int (own_eqv (own_a q1) (own_a q2))), .unset, .unset, .unset] [])) _
    refine XS.iload X8.here hx rfl (hb hby at_87) rfl ?_
    show Steps p.tables e below (T8.setTop (mkF m 89 #[.val (.long q1), .second, .val (.long q2), .second, .val (.int p3), .val (.long (own_a q1)), .second, .val (.long (own_a q2)), .second, .val (.ref b4), .val (.ref b5), .val (.int (own_eqv (own_a q1) (own_a q2))), .unset, .unset, .unset] [(.int (own_eqv (own_a q1) (own_a q2)))])) _
    refine XS.lload X8.here hx rfl (hb hby at_89) rfl ?_
    show Steps p.tables e below (T8.setTop (mkF m 91 #[.val (.long q1), .second, .val (.long q2), .second, .val (.int p3), .val (.long (own_a q1)), .second, .val (.long (own_a q2)), .second, .val (.ref b4), .val (.ref b5), .val (.int (own_eqv (own_a q1) (own_a q2))), .unset, .unset, .unset] [(.long (own_a q1)), (.int (own_eqv (own_a q1) (own_a q2)))])) _
    refine XS.lload X8.here hx rfl (hb hby at_91) rfl ?_
    show Steps p.tables e below (T8.setTop (mkF m 93 #[.val (.long q1), .second, .val (.long q2), .second, .val (.int p3), .val (.long (own_a q1)), .second, .val (.long (own_a q2)), .second, .val (.ref b4), .val (.ref b5), .val (.int (own_eqv (own_a q1) (own_a q2))), .unset, .unset, .unset] [(.long (own_a q2)), (.long (own_a q1)), (.int (own_eqv (own_a q1) (own_a q2)))])) _
    refine XS.lcmp X8.here hx rfl (hb hby at_93) rfl ?_
    show Steps p.tables e below (T8.setTop (mkF m 94 #[.val (.long q1), .second, .val (.long q2), .second, .val (.int p3), .val (.long (own_a q1)), .second, .val (.long (own_a q2)), .second, .val (.ref b4), .val (.ref b5), .val (.int (own_eqv (own_a q1) (own_a q2))), .unset, .unset, .unset] [(.int (lcmpW (own_a q1) (own_a q2))), (.int (own_eqv (own_a q1) (own_a q2)))])) _
    refine XS.ifYes X8.here hx rfl (pc0 := 94) (pc' := 101) rfl (hb hby at_94) rfl ((if0 _ _).trans (feq hc94).2) (by decide) (by decide) ?_
    show Steps p.tables e below (T8.setTop (mkF m 101 #[.val (.long q1), .second, .val (.long q2), .second, .val (.int p3), .val (.long (own_a q1)), .second, .val (.long (own_a q2)), .second, .val (.ref b4), .val (.ref b5), .val (.int (own_eqv (own_a q1) (own_a q2))), .unset, .unset, .unset] [(.int (own_eqv (own_a q1) (own_a q2)))])) _
    refine XS.iconst X8.here hx rfl (hb hby at_101) ?_
    show Steps p.tables e below (T8.setTop (mkF m 102 #[.val (.long q1), .second, .val (.long q2), .second, .val (.int p3), .val (.long (own_a q1)), .second, .val (.long (own_a q2)), .second, .val (.ref b4), .val (.ref b5), .val (.int (own_eqv (own_a q1) (own_a q2))), .unset, .unset, .unset] [(.int (0 : Int32)), (.int (own_eqv (own_a q1) (own_a q2)))])) _
    refine XS.icmpYes X8.here hx rfl (pc0 := 102) (pc' := 107) rfl (hb hby at_102) rfl (teq (hway.2.2.2.1 : (own_eqv (own_a q1) (own_a q2)) = (0 : Int32))).1 (by decide) (by decide) ?_
    show Steps p.tables e below (T8.setTop (mkF m 107 #[.val (.long q1), .second, .val (.long q2), .second, .val (.int p3), .val (.long (own_a q1)), .second, .val (.long (own_a q2)), .second, .val (.ref b4), .val (.ref b5), .val (.int (own_eqv (own_a q1) (own_a q2))), .unset, .unset, .unset] [])) _
    refine XS.aload X8.here hx rfl (hb hby at_107) rfl rfl ?_
    show Steps p.tables e below (T8.setTop (mkF m 109 #[.val (.long q1), .second, .val (.long q2), .second, .val (.int p3), .val (.long (own_a q1)), .second, .val (.long (own_a q2)), .second, .val (.ref b4), .val (.ref b5), .val (.int (own_eqv (own_a q1) (own_a q2))), .unset, .unset, .unset] [(.ref b4)])) _
    refine XS.aload X8.here hx rfl (hb hby at_109) rfl rfl ?_
    show Steps p.tables e below (T8.setTop (mkF m 111 #[.val (.long q1), .second, .val (.long q2), .second, .val (.int p3), .val (.long (own_a q1)), .second, .val (.long (own_a q2)), .second, .val (.ref b4), .val (.ref b5), .val (.int (own_eqv (own_a q1) (own_a q2))), .unset, .unset, .unset] [(.ref b5), (.ref b4)])) _
    refine st9.trans ?_
    show Steps p.tables e below (T9.setTop (mkF m 114 #[.val (.long q1), .second, .val (.long q2), .second, .val (.int p3), .val (.long (own_a q1)), .second, .val (.long (own_a q2)), .second, .val (.ref b4), .val (.ref b5), .val (.int (own_eqv (own_a q1) (own_a q2))), .unset, .unset, .unset] [(.int (own_cmp (own_a q1) (own_a q2)))])) _
    refine XS.istore X9.here hx rfl (hb hby at_114) rfl (l' := #[.val (.long q1), .second, .val (.long q2), .second, .val (.int p3), .val (.long (own_a q1)), .second, .val (.long (own_a q2)), .second, .val (.ref b4), .val (.ref b5), .val (.int (own_eqv (own_a q1) (own_a q2))), .val (.int (own_cmp (own_a q1) (own_a q2))), .unset, .unset]) rfl ?_
    show Steps p.tables e below (T9.setTop (mkF m 116 #[.val (.long q1), .second, .val (.long q2), .second, .val (.int p3), .val (.long (own_a q1)), .second, .val (.long (own_a q2)), .second, .val (.ref b4), .val (.ref b5), .val (.int (own_eqv (own_a q1) (own_a q2))), .val (.int (own_cmp (own_a q1) (own_a q2))), .unset, .unset] [])) _
    refine XS.iload X9.here hx rfl (hb hby at_116) rfl ?_
    show Steps p.tables e below (T9.setTop (mkF m 118 #[.val (.long q1), .second, .val (.long q2), .second, .val (.int p3), .val (.long (own_a q1)), .second, .val (.long (own_a q2)), .second, .val (.ref b4), .val (.ref b5), .val (.int (own_eqv (own_a q1) (own_a q2))), .val (.int (own_cmp (own_a q1) (own_a q2))), .unset, .unset] [(.int (own_cmp (own_a q1) (own_a q2)))])) _
    refine XS.ifYes X9.here hx rfl (pc0 := 118) (pc' := 125) rfl (hb hby at_118) rfl ((if0 _ _).trans (flt (hway.2.2.2.2.1 : ¬ ((own_cmp (own_a q1) (own_a q2)) < (0 : Int32)))).2.1) (by decide) (by decide) ?_
    show Steps p.tables e below (T9.setTop (mkF m 125 #[.val (.long q1), .second, .val (.long q2), .second, .val (.int p3), .val (.long (own_a q1)), .second, .val (.long (own_a q2)), .second, .val (.ref b4), .val (.ref b5), .val (.int (own_eqv (own_a q1) (own_a q2))), .val (.int (own_cmp (own_a q1) (own_a q2))), .unset, .unset] [])) _
    refine XS.iload X9.here hx rfl (hb hby at_125) rfl ?_
    show Steps p.tables e below (T9.setTop (mkF m 127 #[.val (.long q1), .second, .val (.long q2), .second, .val (.int p3), .val (.long (own_a q1)), .second, .val (.long (own_a q2)), .second, .val (.ref b4), .val (.ref b5), .val (.int (own_eqv (own_a q1) (own_a q2))), .val (.int (own_cmp (own_a q1) (own_a q2))), .unset, .unset] [(.int (own_cmp (own_a q1) (own_a q2)))])) _
    refine XS.ifNo X9.here hx rfl (hb hby at_127) rfl ((if0 _ _).trans (tlt (hway.2.2.2.2.2 : (0 : Int32) < (own_cmp (own_a q1) (own_a q2)))).2.2.2) ?_
    show Steps p.tables e below (T9.setTop (mkF m 130 #[.val (.long q1), .second, .val (.long q2), .second, .val (.int p3), .val (.long (own_a q1)), .second, .val (.long (own_a q2)), .second, .val (.ref b4), .val (.ref b5), .val (.int (own_eqv (own_a q1) (own_a q2))), .val (.int (own_cmp (own_a q1) (own_a q2))), .unset, .unset] [])) _
    refine XS.iconst X9.here hx rfl (hb hby at_130) ?_
    show Steps p.tables e below (T9.setTop (mkF m 131 #[.val (.long q1), .second, .val (.long q2), .second, .val (.int p3), .val (.long (own_a q1)), .second, .val (.long (own_a q2)), .second, .val (.ref b4), .val (.ref b5), .val (.int (own_eqv (own_a q1) (own_a q2))), .val (.int (own_cmp (own_a q1) (own_a q2))), .unset, .unset] [(.int (1 : Int32))])) _
    refine XS.goto X9.here hx rfl (pc0 := 131) (pc' := 135) rfl (hb hby at_131) (by decide) (by decide) ?_
    show Steps p.tables e below (T9.setTop (mkF m 135 #[.val (.long q1), .second, .val (.long q2), .second, .val (.int p3), .val (.long (own_a q1)), .second, .val (.long (own_a q2)), .second, .val (.ref b4), .val (.ref b5), .val (.int (own_eqv (own_a q1) (own_a q2))), .val (.int (own_cmp (own_a q1) (own_a q2))), .unset, .unset] [(.int (1 : Int32))])) _
    refine XS.istore X9.here hx rfl (hb hby at_135) rfl (l' := #[.val (.long q1), .second, .val (.long q2), .second, .val (.int p3), .val (.long (own_a q1)), .second, .val (.long (own_a q2)), .second, .val (.ref b4), .val (.ref b5), .val (.int (own_eqv (own_a q1) (own_a q2))), .val (.int (own_cmp (own_a q1) (own_a q2))), .val (.int (1 : Int32)), .unset]) rfl ?_
    show Steps p.tables e below (T9.setTop (mkF m 137 #[.val (.long q1), .second, .val (.long q2), .second, .val (.int p3), .val (.long (own_a q1)), .second, .val (.long (own_a q2)), .second, .val (.ref b4), .val (.ref b5), .val (.int (own_eqv (own_a q1) (own_a q2))), .val (.int (own_cmp (own_a q1) (own_a q2))), .val (.int (1 : Int32)), .unset] [])) _
    refine XS.lload X9.here hx rfl (hb hby at_137) rfl ?_
    show Steps p.tables e below (T9.setTop (mkF m 139 #[.val (.long q1), .second, .val (.long q2), .second, .val (.int p3), .val (.long (own_a q1)), .second, .val (.long (own_a q2)), .second, .val (.ref b4), .val (.ref b5), .val (.int (own_eqv (own_a q1) (own_a q2))), .val (.int (own_cmp (own_a q1) (own_a q2))), .val (.int (1 : Int32)), .unset] [(.long (own_a q1))])) _
    refine XS.lload X9.here hx rfl (hb hby at_139) rfl ?_
    show Steps p.tables e below (T9.setTop (mkF m 141 #[.val (.long q1), .second, .val (.long q2), .second, .val (.int p3), .val (.long (own_a q1)), .second, .val (.long (own_a q2)), .second, .val (.ref b4), .val (.ref b5), .val (.int (own_eqv (own_a q1) (own_a q2))), .val (.int (own_cmp (own_a q1) (own_a q2))), .val (.int (1 : Int32)), .unset] [(.long (own_a q2)), (.long (own_a q1))])) _
    refine XS.lcmp X9.here hx rfl (hb hby at_141) rfl ?_
    show Steps p.tables e below (T9.setTop (mkF m 142 #[.val (.long q1), .second, .val (.long q2), .second, .val (.int p3), .val (.long (own_a q1)), .second, .val (.long (own_a q2)), .second, .val (.ref b4), .val (.ref b5), .val (.int (own_eqv (own_a q1) (own_a q2))), .val (.int (own_cmp (own_a q1) (own_a q2))), .val (.int (1 : Int32)), .unset] [(.int (lcmpW (own_a q1) (own_a q2)))])) _
    refine XS.ifYes X9.here hx rfl (pc0 := 142) (pc' := 149) rfl (hb hby at_142) rfl ((if0 _ _).trans (flt hc142).2.1) (by decide) (by decide) ?_
    show Steps p.tables e below (T9.setTop (mkF m 149 #[.val (.long q1), .second, .val (.long q2), .second, .val (.int p3), .val (.long (own_a q1)), .second, .val (.long (own_a q2)), .second, .val (.ref b4), .val (.ref b5), .val (.int (own_eqv (own_a q1) (own_a q2))), .val (.int (own_cmp (own_a q1) (own_a q2))), .val (.int (1 : Int32)), .unset] [])) _
    refine XS.lload X9.here hx rfl (hb hby at_149) rfl ?_
    show Steps p.tables e below (T9.setTop (mkF m 151 #[.val (.long q1), .second, .val (.long q2), .second, .val (.int p3), .val (.long (own_a q1)), .second, .val (.long (own_a q2)), .second, .val (.ref b4), .val (.ref b5), .val (.int (own_eqv (own_a q1) (own_a q2))), .val (.int (own_cmp (own_a q1) (own_a q2))), .val (.int (1 : Int32)), .unset] [(.long (own_a q1))])) _
    refine XS.lload X9.here hx rfl (hb hby at_151) rfl ?_
    show Steps p.tables e below (T9.setTop (mkF m 153 #[.val (.long q1), .second, .val (.long q2), .second, .val (.int p3), .val (.long (own_a q1)), .second, .val (.long (own_a q2)), .second, .val (.ref b4), .val (.ref b5), .val (.int (own_eqv (own_a q1) (own_a q2))), .val (.int (own_cmp (own_a q1) (own_a q2))), .val (.int (1 : Int32)), .unset] [(.long (own_a q2)), (.long (own_a q1))])) _
    refine XS.lcmp X9.here hx rfl (hb hby at_153) rfl ?_
    show Steps p.tables e below (T9.setTop (mkF m 154 #[.val (.long q1), .second, .val (.long q2), .second, .val (.int p3), .val (.long (own_a q1)), .second, .val (.long (own_a q2)), .second, .val (.ref b4), .val (.ref b5), .val (.int (own_eqv (own_a q1) (own_a q2))), .val (.int (own_cmp (own_a q1) (own_a q2))), .val (.int (1 : Int32)), .unset] [(.int (lcmpW (own_a q1) (own_a q2)))])) _
    refine XS.ifNo X9.here hx rfl (hb hby at_154) rfl ((if0 _ _).trans (tlt hc154).2.2.2) ?_
    show Steps p.tables e below (T9.setTop (mkF m 157 #[.val (.long q1), .second, .val (.long q2), .second, .val (.int p3), .val (.long (own_a q1)), .second, .val (.long (own_a q2)), .second, .val (.ref b4), .val (.ref b5), .val (.int (own_eqv (own_a q1) (own_a q2))), .val (.int (own_cmp (own_a q1) (own_a q2))), .val (.int (1 : Int32)), .unset] [])) _
    refine XS.iconst X9.here hx rfl (hb hby at_157) ?_
    show Steps p.tables e below (T9.setTop (mkF m 158 #[.val (.long q1), .second, .val (.long q2), .second, .val (.int p3), .val (.long (own_a q1)), .second, .val (.long (own_a q2)), .second, .val (.ref b4), .val (.ref b5), .val (.int (own_eqv (own_a q1) (own_a q2))), .val (.int (own_cmp (own_a q1) (own_a q2))), .val (.int (1 : Int32)), .unset] [(.int (1 : Int32))])) _
    refine XS.goto X9.here hx rfl (pc0 := 158) (pc' := 162) rfl (hb hby at_158) (by decide) (by decide) ?_
    show Steps p.tables e below (T9.setTop (mkF m 162 #[.val (.long q1), .second, .val (.long q2), .second, .val (.int p3), .val (.long (own_a q1)), .second, .val (.long (own_a q2)), .second, .val (.ref b4), .val (.ref b5), .val (.int (own_eqv (own_a q1) (own_a q2))), .val (.int (own_cmp (own_a q1) (own_a q2))), .val (.int (1 : Int32)), .unset] [(.int (1 : Int32))])) _
    refine XS.istore X9.here hx rfl (hb hby at_162) rfl (l' := #[.val (.long q1), .second, .val (.long q2), .second, .val (.int p3), .val (.long (own_a q1)), .second, .val (.long (own_a q2)), .second, .val (.ref b4), .val (.ref b5), .val (.int (own_eqv (own_a q1) (own_a q2))), .val (.int (own_cmp (own_a q1) (own_a q2))), .val (.int (1 : Int32)), .val (.int (1 : Int32))]) rfl ?_
    show Steps p.tables e below (T9.setTop (mkF m 164 #[.val (.long q1), .second, .val (.long q2), .second, .val (.int p3), .val (.long (own_a q1)), .second, .val (.long (own_a q2)), .second, .val (.ref b4), .val (.ref b5), .val (.int (own_eqv (own_a q1) (own_a q2))), .val (.int (own_cmp (own_a q1) (own_a q2))), .val (.int (1 : Int32)), .val (.int (1 : Int32))] [])) _
    refine XS.iload X9.here hx rfl (hb hby at_164) rfl ?_
    show Steps p.tables e below (T9.setTop (mkF m 166 #[.val (.long q1), .second, .val (.long q2), .second, .val (.int p3), .val (.long (own_a q1)), .second, .val (.long (own_a q2)), .second, .val (.ref b4), .val (.ref b5), .val (.int (own_eqv (own_a q1) (own_a q2))), .val (.int (own_cmp (own_a q1) (own_a q2))), .val (.int (1 : Int32)), .val (.int (1 : Int32))] [(.int (1 : Int32))])) _
    refine XS.iload X9.here hx rfl (hb hby at_166) rfl ?_
    show Steps p.tables e below (T9.setTop (mkF m 168 #[.val (.long q1), .second, .val (.long q2), .second, .val (.int p3), .val (.long (own_a q1)), .second, .val (.long (own_a q2)), .second, .val (.ref b4), .val (.ref b5), .val (.int (own_eqv (own_a q1) (own_a q2))), .val (.int (own_cmp (own_a q1) (own_a q2))), .val (.int (1 : Int32)), .val (.int (1 : Int32))] [(.int (1 : Int32)), (.int (1 : Int32))])) _
    refine XS.icmpYes X9.here hx rfl (pc0 := 168) (pc' := 173) rfl (hb hby at_168) rfl (teq (rfl : (1 : Int32) = (1 : Int32))).1 (by decide) (by decide) ?_
    show Steps p.tables e below (T9.setTop (mkF m 173 #[.val (.long q1), .second, .val (.long q2), .second, .val (.int p3), .val (.long (own_a q1)), .second, .val (.long (own_a q2)), .second, .val (.ref b4), .val (.ref b5), .val (.int (own_eqv (own_a q1) (own_a q2))), .val (.int (own_cmp (own_a q1) (own_a q2))), .val (.int (1 : Int32)), .val (.int (1 : Int32))] [])) _
    refine XS.lload X9.here hx rfl (hb hby at_173) rfl ?_
    show Steps p.tables e below (T9.setTop (mkF m 175 #[.val (.long q1), .second, .val (.long q2), .second, .val (.int p3), .val (.long (own_a q1)), .second, .val (.long (own_a q2)), .second, .val (.ref b4), .val (.ref b5), .val (.int (own_eqv (own_a q1) (own_a q2))), .val (.int (own_cmp (own_a q1) (own_a q2))), .val (.int (1 : Int32)), .val (.int (1 : Int32))] [(.long (own_a q1))])) _
    refine XS.lload X9.here hx rfl (hb hby at_175) rfl ?_
    show Steps p.tables e below (T9.setTop (mkF m 177 #[.val (.long q1), .second, .val (.long q2), .second, .val (.int p3), .val (.long (own_a q1)), .second, .val (.long (own_a q2)), .second, .val (.ref b4), .val (.ref b5), .val (.int (own_eqv (own_a q1) (own_a q2))), .val (.int (own_cmp (own_a q1) (own_a q2))), .val (.int (1 : Int32)), .val (.int (1 : Int32))] [(.long (own_a q2)), (.long (own_a q1))])) _
    refine XS.lcmp X9.here hx rfl (hb hby at_177) rfl ?_
    show Steps p.tables e below (T9.setTop (mkF m 178 #[.val (.long q1), .second, .val (.long q2), .second, .val (.int p3), .val (.long (own_a q1)), .second, .val (.long (own_a q2)), .second, .val (.ref b4), .val (.ref b5), .val (.int (own_eqv (own_a q1) (own_a q2))), .val (.int (own_cmp (own_a q1) (own_a q2))), .val (.int (1 : Int32)), .val (.int (1 : Int32))] [(.int (lcmpW (own_a q1) (own_a q2)))])) _
    refine XS.ifYes X9.here hx rfl (pc0 := 178) (pc' := 196) rfl (hb hby at_178) rfl ((if0 _ _).trans (feq hc178).2) (by decide) (by decide) ?_
    show Steps p.tables e below (T9.setTop (mkF m 196 #[.val (.long q1), .second, .val (.long q2), .second, .val (.int p3), .val (.long (own_a q1)), .second, .val (.long (own_a q2)), .second, .val (.ref b4), .val (.ref b5), .val (.int (own_eqv (own_a q1) (own_a q2))), .val (.int (own_cmp (own_a q1) (own_a q2))), .val (.int (1 : Int32)), .val (.int (1 : Int32))] [])) _
    refine XS.iconst X9.here hx rfl (hb hby at_196) ?_
    show Steps p.tables e below (T9.setTop (mkF m 197 #[.val (.long q1), .second, .val (.long q2), .second, .val (.int p3), .val (.long (own_a q1)), .second, .val (.long (own_a q2)), .second, .val (.ref b4), .val (.ref b5), .val (.int (own_eqv (own_a q1) (own_a q2))), .val (.int (own_cmp (own_a q1) (own_a q2))), .val (.int (1 : Int32)), .val (.int (1 : Int32))] [(.int (1 : Int32))])) _
    exact retN X9 hx (t := .boolean) Bd.returns (by simp) (hb hby at_197) hr
  · show Q0 Z q1 q2 p3 h0 n0 _ T9.heap _
    exact ⟨rfl, N9⟩
theorem rm0 (l : Launch) (Z : State) (a0 : Array Value) (hw : ∀ d ∈ tables_1, d.before a0 Z = true) (ws : List Jvm.Cond) (q1 : Int64) (q2 : Int64) (p3 : Int32) (h0 : Heap) (n0 : Nat) (Z0 : n0 ≤ h0.size) :
    MetFree l x (head1 (Jvm.Cond.code x code maxLocals ret :: ws) room_1) (fun a U => a = #[(.long q1), (.long q2), (.int p3)] ∧ Z.Warmed39 U.vm ∧ U.heap = h0) (fun _ _ _ _ _ => True) (fun _ U o U' => ∃ v L, o = .returned v ∧ Q0 Z q1 q2 p3 h0 n0 v U'.heap L ∧ FrameEnd U o U' L room_1.cells room_1.slots) := by
  by_cases hf : (p3 &&& (1 : Int32)) = (0 : Int32)
  · by_cases he : own_a q1 = own_a q2
    · obtain ⟨hw0, hw1, hw2, -⟩ := own_way_eq he
      exact rm0B l Z a0 hw ws q1 q2 p3 h0 n0 Z0 he (by decide) hf (by decide) hw0 hw1 hw2 hw0
    · by_cases hl : own_a q1 < own_a q2
      · obtain ⟨hw0, hw1, -⟩ := own_way_lt hl
        exact rm0C l Z a0 hw ws q1 q2 p3 h0 n0 Z0 hl (by decide) hf (by decide) hw0 hw1 hw0
      · have hg : own_a q2 < own_a q1 := by
          have hne : (own_a q1).toInt ≠ (own_a q2).toInt := fun q => he (Int64.toInt_inj.mp q)
          rw [Int64.lt_iff_toInt_lt] at hl ⊢; omega
        obtain ⟨hw0, hw1, hw2, -⟩ := own_way_gt hg
        exact rm0D l Z a0 hw ws q1 q2 p3 h0 n0 Z0 hg (by decide) hf (by decide) hw0 hw1 hw2 hw0
  · obtain ⟨hw0, hw1, hw2, -⟩ := own_way_eq (rfl : own_a q1 = own_a q1)
    exact rm0A l Z a0 hw ws q1 q2 p3 h0 n0 Z0 rfl (by decide) hf hw0 hw1 hw2 hw0
set_option maxRecDepth 65536 in
set_option maxHeartbeats 40000000 in
theorem comes_1 {Post : Tables → Env → Array Value → State → Outcome → State → Prop} (hpost : ∀ tb e args s v u, (limb_1_1.after args s (.returned v) u = true ∧ limb_1_2.after args s (.returned v) u = true ∧ True) → FrameEnd s (.returned v) u (Jvm.fieldLocs frame_1_writes args s ++ Jvm.arrayLocs frame_1_arrays args s ++ Jvm.staticLocs frame_1_statics s) 16 128 → Post tb e args s (.returned v) u) :
    ArmFor flags0 classFile x code maxLocals ret World_1 tables_1 room_1 Calls_1 rest_1 Pre_1 Post := by
  intro l hfl _ _ p e ha hc hk s m args below hf hA hF happ hP
  obtain ⟨hcalls, hrest, hpre⟩ := hP
  obtain ⟨-, -, -, hnamed, -, -, -, hat⟩ := (Spec.applies_iff hf).mp happ
  obtain ⟨hg, hn⟩ := and_e (Cond.before_iff.mp (show (Jvm.Cond.and given_1 narrow_1).before args s = true from hpre))
  obtain ⟨g10, g11⟩ := and_e hg
  obtain ⟨g12, g13⟩ := and_e g11
  obtain ⟨g14, g15⟩ := and_e g13
  obtain ⟨w0, w1, w2, rfl⟩ : ∃ w0 w1 w2 : Value, args = #[w0, w1, w2] := by
    have hs : args.size = 3 := by simpa [Cond.value, given_1] using g10
    obtain ⟨L⟩ := args
    match L, hs with
    | [w0, w1, w2], _ => exact ⟨w0, w1, w2, rfl⟩
  have hw := fun d (hd : d ∈ tables_1) => atoms_spec (ws := Jvm.Cond.code x code maxLocals ret :: tables_1) hat d (List.mem_cons_of_mem _ hd)
  have hfit : Fit s := fun {y c} hc i hi => by
    obtain ⟨ha, rfl⟩ := Array.getElem?_eq_some_iff.mp hc
    have q := List.all_eq_true.mp ((Array.all_eq_true_iff_forall_mem.mp hF) _ (Array.getElem_mem ha)) i (List.mem_range.mpr hi)
    simpa [Array.getElem?_eq_getElem hi] using q
  obtain ⟨i0, ei0⟩ := isL_v g12
  obtain rfl : w0 = (.long i0) := Option.some.inj ei0
  obtain ⟨i1, ei1⟩ := isL_v g14
  obtain rfl : w1 = (.long i1) := Option.some.inj ei1
  obtain ⟨i2, ei2⟩ := is_v g15
  obtain rfl : w2 = (.int i2) := Option.some.inj ei2
  obtain ⟨n, o, h1, h2, h3, _, L, rfl, ⟨rfl, N⟩, hq⟩ := rm0 l s _ hw tables_1 i0 i1 i2 s.heap s.heap.size (Nat.le_refl _) p e ha hc hk s m _ below hf ((Spec.applies_iff_loose hf).mp happ).1 ⟨rfl, State.Warmed39.refl s, rfl⟩ trivial
  refine ⟨n, _, h1, h2, h3, hpost _ _ _ _ _ _ ⟨Cond.after_iff.mpr rfl, Cond.after_iff.mpr (eq_i res_at (Term.int_eval (1)) rfl), trivial⟩ ⟨hq.1, hq.2.1, (hq.2.2.sift fun y hy => Or.inr (N y hy)).mono (by decide) (by decide)⟩⟩
theorem main_1_1 : Claimed_1_1 := comes_1 fun _ _ _ _ _ _ h hF => ⟨h.1, hF⟩
theorem main_1_2 : Claimed_1_2 := comes_1 fun _ _ _ _ _ _ h hF => ⟨h.2.1, hF⟩
end Jvm.Pilot.@@N@@
namespace Jvm.Pilot.@@N@@
open Jvm Jvm.ClassFile Sem Op Lib Jvm.Free Jvm.Stand Jvm.Pilot.@@N@@.Jvm.D
/-! MADE BY PROGRAM (witnessworld.py) out of the Statement's table words and the real class files: 14 classes; the members and pool entries that the words name. The judged class is class 1, her method 1. -/
namespace start1
open Jvm.ClassFile
def u (s : String) : CpInfo := .utf8 (stringToUtf16 s)
/-- a pool by its gaps: so many unusable entries, then the entry; so many at the end -/
def gap : Nat → List CpInfo → List CpInfo
  | 0, r => r
  | n + 1, r => .unusable :: gap n r
def poolList (es : List (Nat × CpInfo)) (last : Nat) : List CpInfo := es.foldr (fun e r => gap e.1 (e.2 :: r)) (gap last [])
def pool (es : List (Nat × CpInfo)) (last : Nat) : Array CpInfo := ⟨poolList es last⟩
def fileOf (pool : Array CpInfo) (this : Nat) (attrs : Array Attribute := #[]) (ms : Array MethodInfo := #[]) (fl : Nat := 33) (sup : Nat := 0) (ifs : Array Nat := #[]) (fds : Array FieldInfo := #[]) : ClassFile where
  minorVersion := 0
  majorVersion := 65
  constantPool := pool
  accessFlags := fl
  thisClass := this
  superClass := sup
  interfaces := ifs
  fields := fds
  methods := ms
  attributes := attrs
def plain (name : String) (sup : Option ClassId) : Class where
  name := name
  kind := .ordinary
  loader := none
  accessFlags := 33
  super := sup
  interfaces := #[]
  cf := none
  fields := #[]
  methods := #[]
  instanceTypes := #[]
  staticTypes := #[]
  resolved := #[]
  callSites := []
  init := .initialized
  statics := none
  mirror := none

def pool0 : Array CpInfo := pool [(5, u "<init>"), (0, u "()V"), (1, .class_ 10), (1, u "java/lang/Object")] 113

def k0c0 : Code := { maxStack := 0, maxLocals := 1, code := object_method_1_code, exceptionTable := #[], attributes := #[] }
def k0m0 : Method := { name := "<init>", desc := "()V", sig := { parameters := [], returnType := none }, accessFlags := 1, code := some k0c0 }
/-- java/lang/Object -/
def k0 : Class := { plain "java/lang/Object" none with
  accessFlags := 33
  interfaces := #[]
  cf := some (fileOf pool0 8 #[] #[{ accessFlags := 1, nameIndex := 5, descriptorIndex := 6, attributes := #[] }] 33 0 #[] #[])
  fields := #[]
  methods := #[k0m0]
  instanceTypes := #[]
  staticTypes := #[]
  resolved := Array.replicate 124 none
  statics := none }

def pool1 : Array CpInfo := pool [(2, .class_ 4), (1, u "java/lang/Object"), (0, u "<init>"), (0, u "()V"), (2, .long 9223372036854775807), (1, .methodref 12 13), (0, .class_ 14), (0, .nameAndType 15 16), (0, u "com/example/portunus/portunus/FencingToken"), (0, u "of"), (0, u "(J)Lcom/example/portunus/portunus/FencingToken;"), (0, .methodref 12 18), (0, .nameAndType 19 20), (0, u "value"), (0, u "()J"), (0, .methodref 12 22), (0, .nameAndType 23 24), (0, u "equals"), (0, u "(Ljava/lang/Object;)Z"), (0, .methodref 12 26), (0, .nameAndType 27 28), (0, u "compareTo"), (0, u "(Lcom/example/portunus/portunus/FencingToken;)I"), (0, .methodref 12 30), (0, .nameAndType 31 32), (0, u "hashCode"), (0, u "()I"), (0, .class_ 34), (0, u "com/example/portunus/portunus/FencingTokenOfPinLaw"), (2, u "law"), (0, u "(JJI)Z")] 3

def k1m0 : Method := { name := "<init>", desc := "()V", sig := { parameters := [], returnType := none }, accessFlags := 1, code := none }
def k1c1 : Code := { maxStack := 6, maxLocals := 15, code := code, exceptionTable := #[], attributes := #[] }
def k1m1 : Method := { name := "law", desc := "(JJI)Z", sig := { parameters := [.long, .long, .int], returnType := some .boolean }, accessFlags := 9, code := some k1c1 }
/-- com/example/portunus/portunus/FencingTokenOfPinLaw -/
def k1 : Class := { plain "com/example/portunus/portunus/FencingTokenOfPinLaw" (some 0) with
  accessFlags := 49
  interfaces := #[]
  cf := some (fileOf pool1 33 #[] #[{ accessFlags := 1, nameIndex := 5, descriptorIndex := 6, attributes := #[] }, { accessFlags := 9, nameIndex := 37, descriptorIndex := 38, attributes := #[] }] 49 2 #[] #[])
  fields := #[]
  methods := #[k1m0, k1m1]
  instanceTypes := #[]
  staticTypes := #[]
  resolved := Array.replicate 42 none
  statics := none }

def pool2 : Array CpInfo := pool [(1, .class_ 2), (0, u "java/lang/Comparable"), (0, .class_ 4), (0, u "java/lang/Object")] 7

/-- java/lang/Comparable -/
def k2 : Class := { plain "java/lang/Comparable" (some 0) with
  accessFlags := 1537
  interfaces := #[]
  cf := some (fileOf pool2 1 #[] #[] 1537 3 #[] #[])
  fields := #[]
  methods := #[]
  instanceTypes := #[]
  staticTypes := #[]
  resolved := Array.replicate 12 none
  statics := none }

def pool3 : Array CpInfo := pool [(1, .methodref 2 3), (0, .class_ 4), (0, .nameAndType 5 6), (0, u "java/lang/Object"), (0, u "<init>"), (0, u "()V"), (0, .fieldref 8 9), (0, .class_ 10), (0, .nameAndType 11 12), (0, u "com/example/portunus/portunus/FencingToken"), (0, u "value"), (0, u "J"), (9, .methodref 8 23), (0, .nameAndType 5 24), (0, u "(J)V"), (0, .methodref 26 27), (0, .class_ 28), (0, .nameAndType 29 30), (0, u "java/lang/Long"), (0, u "compare"), (0, u "(JJ)I"), (0, .methodref 26 32), (0, .nameAndType 33 34), (0, u "hashCode"), (0, u "(J)I"), (3, u "compareTo"), (0, u "(Lcom/example/portunus/portunus/FencingToken;)I"), (0, .class_ 41), (0, u "java/lang/Comparable"), (2, u "of"), (0, u "(J)Lcom/example/portunus/portunus/FencingToken;"), (1, u "()J"), (0, u "equals"), (0, u "(Ljava/lang/Object;)Z"), (0, u "()I")] 25

def k3c0 : Code := { maxStack := 3, maxLocals := 3, code := prog_1_method_1_code, exceptionTable := #[], attributes := #[] }
def k3m0 : Method := { name := "<init>", desc := "(J)V", sig := { parameters := [.long], returnType := none }, accessFlags := 2, code := some k3c0 }
def k3c1 : Code := { maxStack := 4, maxLocals := 2, code := prog_1_method_2_code, exceptionTable := #[], attributes := #[] }
def k3m1 : Method := { name := "of", desc := "(J)Lcom/example/portunus/portunus/FencingToken;", sig := { parameters := [.long], returnType := some (.object "com/example/portunus/portunus/FencingToken") }, accessFlags := 9, code := some k3c1 }
def k3c2 : Code := { maxStack := 2, maxLocals := 1, code := prog_1_method_3_code, exceptionTable := #[], attributes := #[] }
def k3m2 : Method := { name := "value", desc := "()J", sig := { parameters := [], returnType := some .long }, accessFlags := 1, code := some k3c2 }
def k3c3 : Code := { maxStack := 4, maxLocals := 2, code := prog_1_method_4_code, exceptionTable := #[], attributes := #[] }
def k3m3 : Method := { name := "compareTo", desc := "(Lcom/example/portunus/portunus/FencingToken;)I", sig := { parameters := [(.object "com/example/portunus/portunus/FencingToken")], returnType := some .int }, accessFlags := 1, code := some k3c3 }
def k3c4 : Code := { maxStack := 4, maxLocals := 3, code := prog_1_method_5_code, exceptionTable := #[], attributes := #[] }
def k3m4 : Method := { name := "equals", desc := "(Ljava/lang/Object;)Z", sig := { parameters := [(.object "java/lang/Object")], returnType := some .boolean }, accessFlags := 1, code := some k3c4 }
def k3c5 : Code := { maxStack := 2, maxLocals := 1, code := prog_1_method_6_code, exceptionTable := #[], attributes := #[] }
def k3m5 : Method := { name := "hashCode", desc := "()I", sig := { parameters := [], returnType := some .int }, accessFlags := 1, code := some k3c5 }
/-- com/example/portunus/portunus/FencingToken -/
def k3 : Class := { plain "com/example/portunus/portunus/FencingToken" (some 0) with
  accessFlags := 49
  interfaces := #[2]
  cf := some (fileOf pool3 8 #[] #[{ accessFlags := 2, nameIndex := 5, descriptorIndex := 24, attributes := #[] }, { accessFlags := 9, nameIndex := 44, descriptorIndex := 45, attributes := #[] }, { accessFlags := 1, nameIndex := 11, descriptorIndex := 47, attributes := #[] }, { accessFlags := 1, nameIndex := 38, descriptorIndex := 39, attributes := #[] }, { accessFlags := 1, nameIndex := 48, descriptorIndex := 49, attributes := #[] }, { accessFlags := 1, nameIndex := 33, descriptorIndex := 50, attributes := #[] }] 49 2 #[40] #[{ accessFlags := 18, nameIndex := 11, descriptorIndex := 12, attributes := #[] }])
  fields := #[{ name := "value", type := .long, accessFlags := 18, slot := 0, constantValue := 0 }]
  methods := #[k3m0, k3m1, k3m2, k3m3, k3m4, k3m5]
  instanceTypes := #[.long]
  staticTypes := #[]
  resolved := Array.replicate 76 none
  statics := none }

def pool4 : Array CpInfo := pool [(1, .class_ 2), (0, u "java/io/Serializable"), (0, .class_ 4), (0, u "java/lang/Object")] 2

/-- java/io/Serializable -/
def k4 : Class := { plain "java/io/Serializable" (some 0) with
  accessFlags := 1537
  interfaces := #[]
  cf := some (fileOf pool4 1 #[] #[] 1537 3 #[] #[])
  fields := #[]
  methods := #[]
  instanceTypes := #[]
  staticTypes := #[]
  resolved := Array.replicate 7 none
  statics := none }

def pool5 : Array CpInfo := pool [(2, .class_ 4), (1, u "java/lang/Object"), (0, u "<init>"), (0, u "()V"), (1, .class_ 10), (1, u "java/lang/Number"), (2, .class_ 14), (0, u "java/io/Serializable"), (0, u "serialVersionUID"), (0, u "J")] 20

def k5m0 : Method := { name := "<init>", desc := "()V", sig := { parameters := [], returnType := none }, accessFlags := 1, code := none }
/-- java/lang/Number -/
def k5 : Class := { plain "java/lang/Number" (some 0) with
  accessFlags := 1057
  interfaces := #[4]
  cf := some (fileOf pool5 8 #[] #[{ accessFlags := 1, nameIndex := 5, descriptorIndex := 6, attributes := #[] }] 1057 2 #[13] #[{ accessFlags := 26, nameIndex := 15, descriptorIndex := 16, attributes := #[] }])
  fields := #[{ name := "serialVersionUID", type := .long, accessFlags := 26, slot := 0, constantValue := 0 }]
  methods := #[k5m0]
  instanceTypes := #[]
  staticTypes := #[.long]
  resolved := Array.replicate 37 none
  statics := none }

def pool6 : Array CpInfo := pool [(1, .class_ 2), (0, u "java/lang/constant/Constable"), (0, .class_ 4), (0, u "java/lang/Object")] 6

/-- java/lang/constant/Constable -/
def k6 : Class := { plain "java/lang/constant/Constable" (some 0) with
  accessFlags := 1537
  interfaces := #[]
  cf := some (fileOf pool6 1 #[] #[] 1537 3 #[] #[])
  fields := #[]
  methods := #[]
  instanceTypes := #[]
  staticTypes := #[]
  resolved := Array.replicate 11 none
  statics := none }

def pool7 : Array CpInfo := pool [(1, .class_ 2), (0, u "java/lang/constant/ConstantDesc"), (0, .class_ 4), (0, u "java/lang/Object")] 32

/-- java/lang/constant/ConstantDesc -/
def k7 : Class := { plain "java/lang/constant/ConstantDesc" (some 0) with
  accessFlags := 1537
  interfaces := #[]
  cf := some (fileOf pool7 1 #[] #[] 1537 3 #[] #[])
  fields := #[]
  methods := #[]
  instanceTypes := #[]
  staticTypes := #[]
  resolved := Array.replicate 37 none
  statics := none }

def pool8 : Array CpInfo := pool [(1, .class_ 2), (0, u "java/lang/Long"), (98, u "(J)I"), (133, .class_ 237), (1, u "java/lang/Long$LongCache"), (33, .class_ 272), (0, u "java/lang/Number"), (2, u "value"), (0, u "J"), (2, u "hashCode"), (24, u "compare"), (0, u "(JJ)I"), (55, u "TYPE"), (0, u "Ljava/lang/Class;"), (0, .class_ 364), (0, u "java/lang/Comparable"), (0, .class_ 366), (0, u "java/lang/constant/Constable"), (0, .class_ 368), (0, u "java/lang/constant/ConstantDesc"), (0, u "MIN_VALUE"), (1, u "MAX_VALUE"), (4, u "SIZE"), (0, u "I"), (1, u "BYTES"), (1, u "serialVersionUID")] 142

def k8c0 : Code := { maxStack := 5, maxLocals := 2, code := jdk_35_method_36_code, exceptionTable := #[], attributes := #[] }
def k8m0 : Method := { name := "hashCode", desc := "(J)I", sig := { parameters := [.long], returnType := some .int }, accessFlags := 9, code := some k8c0 }
def k8c1 : Code := { maxStack := 4, maxLocals := 4, code := jdk_35_method_42_code, exceptionTable := #[], attributes := #[] }
def k8m1 : Method := { name := "compare", desc := "(JJ)I", sig := { parameters := [.long, .long], returnType := some .int }, accessFlags := 9, code := some k8c1 }
/-- java/lang/Long -/
def k8 : Class := { plain "java/lang/Long" (some 5) with
  accessFlags := 49
  interfaces := #[2, 6, 7]
  cf := some (fileOf pool8 1 #[.nestMembers #[235]] #[{ accessFlags := 9, nameIndex := 279, descriptorIndex := 101, attributes := #[] }, { accessFlags := 9, nameIndex := 304, descriptorIndex := 305, attributes := #[] }] 49 271 #[363, 365, 367] #[{ accessFlags := 25, nameIndex := 369, descriptorIndex := 276, attributes := #[] }, { accessFlags := 25, nameIndex := 371, descriptorIndex := 276, attributes := #[] }, { accessFlags := 25, nameIndex := 361, descriptorIndex := 362, attributes := #[] }, { accessFlags := 18, nameIndex := 275, descriptorIndex := 276, attributes := #[] }, { accessFlags := 25, nameIndex := 376, descriptorIndex := 377, attributes := #[] }, { accessFlags := 25, nameIndex := 379, descriptorIndex := 377, attributes := #[] }, { accessFlags := 26, nameIndex := 381, descriptorIndex := 276, attributes := #[] }])
  fields := #[{ name := "MIN_VALUE", type := .long, accessFlags := 25, slot := 0, constantValue := 0 }, { name := "MAX_VALUE", type := .long, accessFlags := 25, slot := 1, constantValue := 0 }, { name := "TYPE", type := (.object "java/lang/Class"), accessFlags := 25, slot := 2, constantValue := 0 }, { name := "value", type := .long, accessFlags := 18, slot := 0, constantValue := 0 }, { name := "SIZE", type := .int, accessFlags := 25, slot := 3, constantValue := 0 }, { name := "BYTES", type := .int, accessFlags := 25, slot := 4, constantValue := 0 }, { name := "serialVersionUID", type := .long, accessFlags := 26, slot := 5, constantValue := 0 }]
  methods := #[k8m0, k8m1]
  instanceTypes := #[.long]
  staticTypes := #[.long, .long, (.object "java/lang/Class"), .int, .int, .long]
  resolved := Array.replicate 524 none
  statics := none }

def pool9 : Array CpInfo := pool [(1, u "java/lang/Cloneable"), (0, .class_ 1), (0, u "java/lang/Object"), (0, .class_ 3)] 3

/-- java/lang/Cloneable -/
def k9 : Class := { plain "java/lang/Cloneable" (some 0) with
  accessFlags := 1537
  interfaces := #[]
  cf := some (fileOf pool9 2 #[] #[] 1537 4 #[] #[])
  fields := #[]
  methods := #[]
  instanceTypes := #[]
  staticTypes := #[]
  resolved := Array.replicate 8 none
  statics := none }

/-- the primitive byte -/
def k10 : Class := { plain "byte" none with kind := .primitive 'B', accessFlags := 0x411 }
/-- [B -/
def k11 : Class := { plain "[B" (some 0) with kind := .array 10 .byte, interfaces := #[9, 4], accessFlags := 1041 }

/-- the primitive int -/
def k12 : Class := { plain "int" none with kind := .primitive 'I', accessFlags := 0x411 }
/-- [I -/
def k13 : Class := { plain "[I" (some 0) with kind := .array 12 .int, interfaces := #[9, 4], accessFlags := 1041 }

def heap : Heap := #[]
def classes : Array Class := #[k0, k1, k2, k3, k4, k5, k6, k7, k8, k9, k10, k11, k12, k13]
def interned : List (Array UInt16 × Addr) := []
def slotsUsed : Nat := 0
def theMethod : MethodId := ⟨1, 1⟩
def args0 : Array Value := #[.long 5, .long 3, .int 0]
def aboutOver (below : List Frame) : State where
  vm := { classes := classes, interned := interned.toArray }
  heap := heap
  slotsUsed := slotsUsed
  threads := #[{ frames := .invoking theMethod args0 :: below }]
def below0 : List Frame := [.native { method := ⟨0, 0⟩, args := #[] }]
def about1 : State := aboutOver below0
def p0 : Program := .bare "" "" ""
def e0 : Env := launch0.env 0 0 0
theorem w_frames : about1.frames = Frame.invoking theMethod args0 :: below0 := rfl
set_option maxRecDepth 65536 in
theorem w_args : argsFit about1.vm theMethod args0 = true := by decide +kernel
set_option maxRecDepth 65536 in
theorem w_heap : heapFits about1 = true := by decide +kernel
set_option maxRecDepth 65536 in
theorem w_runnable : about1.curStatus? = some .runnable := by decide +kernel
set_option maxRecDepth 65536 in
theorem w_alone : about1.alone = true := by decide +kernel
set_option maxRecDepth 65536 in
theorem w_named : about1.methodNamed? x = some theMethod := by decide +kernel
set_option maxRecDepth 65536 in
theorem w_hears : about1.hears theMethod below0 = true := by decide +kernel
set_option maxRecDepth 65536 in
theorem w_ripe : about1.ripe theMethod args0 below0 = true := by decide +kernel
theorem w_running : about1.status = .running := rfl
set_option maxRecDepth 65536 in
theorem w_room : about1.hasRoom e0.platform room_1 = true :=
  launch0.hasRoom_least _ room_1 (by decide +kernel) (by decide +kernel) (by decide +kernel) (by decide +kernel) (by decide +kernel) (by decide +kernel)
theorem allAtoms_all (ts : List Jvm.Cond) (a : Array Jvm.Value) (st : Jvm.State) : (allAtoms ts).before a st = ts.all (fun c => c.before a st) := by
  induction ts with
  | nil => rfl
  | cons c t ih =>
    show (Jvm.Cond.and c (allAtoms t)).before a st = _
    rw [Jvm.Cond.before_and, ih, List.all_cons]
def words1 : List Jvm.Cond := Jvm.Cond.code x code maxLocals ret :: tables_1
/-- a 'code' word, met by the world's own term for the bytes: nothing is compared byte by byte -/
theorem code_word {y : MethodName} {bytes : ByteArray} {mx : Nat} {rt : Option FieldType} {a : Array Value} {s : State} {m : MethodId} {meth : Method} {c : Code} (h1 : s.methodNamed? y = some m) (h2 : s.vm.method? m = some meth) (h3 : meth.code = some c) (h4 : c.code = bytes)
    (h5 : (c.maxLocals == mx && c.exceptionTable.isEmpty && decide (c.maxStack ≤ mostOperands) && decide (meth.sig.returnType = rt) && !meth.locks && decide (parseMethodDescriptor y.desc = some meth.sig)) = true) : (Jvm.Cond.code y bytes mx rt).before a s = true := by
  simp only [Bool.and_eq_true, beq_iff_eq, Bool.not_eq_true', decide_eq_true_eq] at h5
  obtain ⟨⟨⟨⟨⟨g1, g2⟩, g3⟩, g4⟩, g5⟩, g6⟩ := h5
  simp [Cond.before, Cond.holds, Cond.value, h1, h2, h3, h4, g1, g2, g3, g4, g5, g6]
def isCode : Jvm.Cond → Bool
  | .code _ _ _ _ => true
  | _ => false
theorem all_split {L : List Jvm.Cond} {P : Jvm.Cond → Bool} (h1 : L.all (fun c => isCode c || P c) = true) (h2 : ∀ c ∈ L.filter isCode, P c = true) : L.all P = true := by
  refine List.all_eq_true.mpr fun c hc => ?_
  have h := List.all_eq_true.mp h1 c hc
  rcases Bool.eq_false_or_eq_true (isCode c) with hi | hi
  · exact h2 c (List.mem_filter.mpr ⟨hc, hi⟩)
  · simpa [hi] using h
set_option maxRecDepth 65536 in
theorem w_c0 : (Jvm.Cond.code x code maxLocals ret).before args0 about1 = true := code_word (m := ⟨1, 1⟩) (meth := k1m1) (c := k1c1) (by decide +kernel) rfl rfl rfl (by decide +kernel)
set_option maxRecDepth 65536 in
theorem w_c1 : (Jvm.Cond.code ({ cls := "com/example/portunus/portunus/FencingToken", name := "of", desc := "(J)Lcom/example/portunus/portunus/FencingToken;" } : Jvm.MethodName) prog_1_method_2_code (2 : Nat) (Option.some (Jvm.ClassFile.FieldType.object "com/example/portunus/portunus/FencingToken"))).before args0 about1 = true := code_word (m := ⟨3, 1⟩) (meth := k3m1) (c := k3c1) (by decide +kernel) rfl rfl rfl (by decide +kernel)
set_option maxRecDepth 65536 in
theorem w_c2 : (Jvm.Cond.code ({ cls := "com/example/portunus/portunus/FencingToken", name := "<init>", desc := "(J)V" } : Jvm.MethodName) prog_1_method_1_code (3 : Nat) (Option.none : Option Jvm.ClassFile.FieldType)).before args0 about1 = true := code_word (m := ⟨3, 0⟩) (meth := k3m0) (c := k3c0) (by decide +kernel) rfl rfl rfl (by decide +kernel)
set_option maxRecDepth 65536 in
theorem w_c3 : (Jvm.Cond.code ({ cls := "java/lang/Object", name := "<init>", desc := "()V" } : Jvm.MethodName) object_method_1_code (1 : Nat) (Option.none : Option Jvm.ClassFile.FieldType)).before args0 about1 = true := code_word (m := ⟨0, 0⟩) (meth := k0m0) (c := k0c0) (by decide +kernel) rfl rfl rfl (by decide +kernel)
set_option maxRecDepth 65536 in
theorem w_c4 : (Jvm.Cond.code ({ cls := "com/example/portunus/portunus/FencingToken", name := "value", desc := "()J" } : Jvm.MethodName) prog_1_method_3_code (1 : Nat) (Option.some Jvm.ClassFile.FieldType.long)).before args0 about1 = true := code_word (m := ⟨3, 2⟩) (meth := k3m2) (c := k3c2) (by decide +kernel) rfl rfl rfl (by decide +kernel)
set_option maxRecDepth 65536 in
theorem w_c5 : (Jvm.Cond.code ({ cls := "com/example/portunus/portunus/FencingToken", name := "equals", desc := "(Ljava/lang/Object;)Z" } : Jvm.MethodName) prog_1_method_5_code (3 : Nat) (Option.some Jvm.ClassFile.FieldType.boolean)).before args0 about1 = true := code_word (m := ⟨3, 4⟩) (meth := k3m4) (c := k3c4) (by decide +kernel) rfl rfl rfl (by decide +kernel)
set_option maxRecDepth 65536 in
theorem w_c6 : (Jvm.Cond.code ({ cls := "com/example/portunus/portunus/FencingToken", name := "compareTo", desc := "(Lcom/example/portunus/portunus/FencingToken;)I" } : Jvm.MethodName) prog_1_method_4_code (2 : Nat) (Option.some Jvm.ClassFile.FieldType.int)).before args0 about1 = true := code_word (m := ⟨3, 3⟩) (meth := k3m3) (c := k3c3) (by decide +kernel) rfl rfl rfl (by decide +kernel)
set_option maxRecDepth 65536 in
theorem w_c7 : (Jvm.Cond.code ({ cls := "java/lang/Long", name := "compare", desc := "(JJ)I" } : Jvm.MethodName) jdk_35_method_42_code (4 : Nat) (Option.some Jvm.ClassFile.FieldType.int)).before args0 about1 = true := code_word (m := ⟨8, 1⟩) (meth := k8m1) (c := k8c1) (by decide +kernel) rfl rfl rfl (by decide +kernel)
set_option maxRecDepth 65536 in
theorem w_c8 : (Jvm.Cond.code ({ cls := "com/example/portunus/portunus/FencingToken", name := "hashCode", desc := "()I" } : Jvm.MethodName) prog_1_method_6_code (1 : Nat) (Option.some Jvm.ClassFile.FieldType.int)).before args0 about1 = true := code_word (m := ⟨3, 5⟩) (meth := k3m5) (c := k3c5) (by decide +kernel) rfl rfl rfl (by decide +kernel)
set_option maxRecDepth 65536 in
theorem w_c9 : (Jvm.Cond.code ({ cls := "java/lang/Long", name := "hashCode", desc := "(J)I" } : Jvm.MethodName) jdk_35_method_36_code (2 : Nat) (Option.some Jvm.ClassFile.FieldType.int)).before args0 about1 = true := code_word (m := ⟨8, 0⟩) (meth := k8m0) (c := k8c0) (by decide +kernel) rfl rfl rfl (by decide +kernel)
def codes1 : List Jvm.Cond := [Jvm.Cond.code x code maxLocals ret, Jvm.Cond.code ({ cls := "com/example/portunus/portunus/FencingToken", name := "of", desc := "(J)Lcom/example/portunus/portunus/FencingToken;" } : Jvm.MethodName) prog_1_method_2_code (2 : Nat) (Option.some (Jvm.ClassFile.FieldType.object "com/example/portunus/portunus/FencingToken")), Jvm.Cond.code ({ cls := "com/example/portunus/portunus/FencingToken", name := "<init>", desc := "(J)V" } : Jvm.MethodName) prog_1_method_1_code (3 : Nat) (Option.none : Option Jvm.ClassFile.FieldType), Jvm.Cond.code ({ cls := "java/lang/Object", name := "<init>", desc := "()V" } : Jvm.MethodName) object_method_1_code (1 : Nat) (Option.none : Option Jvm.ClassFile.FieldType), Jvm.Cond.code ({ cls := "com/example/portunus/portunus/FencingToken", name := "value", desc := "()J" } : Jvm.MethodName) prog_1_method_3_code (1 : Nat) (Option.some Jvm.ClassFile.FieldType.long), Jvm.Cond.code ({ cls := "com/example/portunus/portunus/FencingToken", name := "equals", desc := "(Ljava/lang/Object;)Z" } : Jvm.MethodName) prog_1_method_5_code (3 : Nat) (Option.some Jvm.ClassFile.FieldType.boolean), Jvm.Cond.code ({ cls := "com/example/portunus/portunus/FencingToken", name := "compareTo", desc := "(Lcom/example/portunus/portunus/FencingToken;)I" } : Jvm.MethodName) prog_1_method_4_code (2 : Nat) (Option.some Jvm.ClassFile.FieldType.int), Jvm.Cond.code ({ cls := "java/lang/Long", name := "compare", desc := "(JJ)I" } : Jvm.MethodName) jdk_35_method_42_code (4 : Nat) (Option.some Jvm.ClassFile.FieldType.int), Jvm.Cond.code ({ cls := "com/example/portunus/portunus/FencingToken", name := "hashCode", desc := "()I" } : Jvm.MethodName) prog_1_method_6_code (1 : Nat) (Option.some Jvm.ClassFile.FieldType.int), Jvm.Cond.code ({ cls := "java/lang/Long", name := "hashCode", desc := "(J)I" } : Jvm.MethodName) jdk_35_method_36_code (2 : Nat) (Option.some Jvm.ClassFile.FieldType.int)]
set_option maxRecDepth 65536 in
theorem codes_eq : words1.filter isCode = codes1 := rfl
theorem w_codes : ∀ c ∈ words1.filter isCode, c.before args0 about1 = true := by
  rw [codes_eq]
  intro c hc
  simp only [codes1, List.mem_cons, List.not_mem_nil, or_false] at hc
  rcases hc with rfl | rfl | rfl | rfl | rfl | rfl | rfl | rfl | rfl | rfl
  · exact w_c0
  · exact w_c1
  · exact w_c2
  · exact w_c3
  · exact w_c4
  · exact w_c5
  · exact w_c6
  · exact w_c7
  · exact w_c8
  · exact w_c9
set_option maxRecDepth 65536 in
theorem w_t1 : (words1.take 24).all (fun c => isCode c || c.before args0 about1) = true := by decide +kernel
set_option maxRecDepth 65536 in
theorem w_t2 : (words1.drop 24).all (fun c => isCode c || c.before args0 about1) = true := by decide +kernel
theorem w_tables : (allAtoms (Jvm.Cond.code x code maxLocals ret :: tables_1)).before args0 about1 = true := by
  rw [allAtoms_all]
  show words1.all (fun c => c.before args0 about1) = true
  refine all_split ?_ w_codes
  rw [← List.take_append_drop 24 words1, List.all_append, w_t1, w_t2]
  rfl
set_option maxRecDepth 65536 in
theorem w_case : (Jvm.Cond.and given_1 narrow_1).before args0 about1 = true := by decide +kernel
theorem w_applies : (headSpec (Jvm.Cond.code x code maxLocals ret :: tables_1) room_1).applies x e0.platform about1 = true :=
  (Spec.applies_iff w_frames).mpr ⟨w_running, w_runnable, w_alone, w_named, w_hears, w_ripe, w_room, w_tables⟩
theorem atStart : AtStart classFile x code maxLocals ret World_1 tables_1 room_1 Calls_1 rest_1 Pre_1 launch0 p0 e0 about1 theMethod args0 below0 :=
  ⟨lists_1, trivial, launch0.admits_env _ _ _, launch0.least_env, fairChoices_fair.cas, fairChoices_fair.clock, w_frames, w_args, w_heap, w_applies, trivial, trivial, w_case⟩
end start1
theorem witness_1 : WitnessClaimed_1 := ⟨start1.p0, start1.e0, start1.about1, start1.theMethod, start1.args0, start1.below0, start1.atStart⟩
end Jvm.Pilot.@@N@@
