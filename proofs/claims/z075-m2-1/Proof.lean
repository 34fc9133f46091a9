import JvmDerived
import JvmDerived.Pilot.@@N@@Statement
import JvmDerived.Pilot.@@N@@Code
set_option linter.unusedVariables false
set_option linter.unusedSimpArgs false
@@BLOCK:NumsL.lean.txt@@
namespace Jvm.RoadKit
open Sem ClassFile Op Lib Jvm.Stand Jvm.Free Jvm.LawKit
section New
variable {p : Program} {l : Launch} {e : Env} {R : Room} {s : State} {m : MethodId} {args : Array Value} {below : List Frame} {meth : Method} {c : Code} {T : State} {locs : List Loc} {cells slots : Nat}
theorem retI (X : Stand p l e R s m args below meth c T locs cells slots) (hx : p.tables.exec = Jvm.exec) {pc : Nat} {Ls : Array Slot} {z : Int32} {rest : List Value} (hret : meth.sig.returnType = some .int) (hd : decode c.code pc = .ok (.ireturn, 1)) {fs : List Frame}
    (hl : ∀ (f : JFrame) (acts : List Action), f.method = m → f.locked = none → f.entered = [] → (doReturn e (T.setTop f) acts (some (.int z))).1 = T.setFrames fs) : Steps p.tables e below (T.setTop (mkF m pc Ls (.int z :: rest))) (T.setFrames fs) := by
  have hm' : T.vm.method? m = some meth := X.method'
  have hn : narrow .int (.int z) = .int z := rfl
  show Steps p.tables e below (T.setTop { method := m, pc := pc, locals := Ls, stack := _ :: rest, locked := none }) _
  jvm_step X.here [X.here.top, hx, hd, hm', hret, hn]
  first | (intro acts; rw [hl _ acts rfl rfl rfl]) | rw [hl _ _ rfl rfl rfl]
  exact Steps.refl _
end New
end Jvm.RoadKit
namespace Jvm.Pilot.@@N@@
open Jvm Jvm.ClassFile Sem Op Lib Jvm.Free Jvm.Stand Jvm.LawKit Jvm.RoadKit Bundle Jvm.Pilot.@@N@@.Jvm.D

def own_sum (a b : Int32) : Int32 := if a = (2147483647 : Int32) then (2147483647 : Int32) else if b = (2147483647 : Int32) then (2147483647 : Int32) else a + b
theorem own_sum_l {a b : Int32} (h : a = (2147483647 : Int32)) : own_sum a b = (2147483647 : Int32) := if_pos h
theorem own_sum_r {a b : Int32} (h : b = (2147483647 : Int32)) : own_sum a b = (2147483647 : Int32) := by
  unfold own_sum; split
  · rfl
  · rfl
theorem own_sum_n {a b : Int32} (h : ¬ (a = (2147483647 : Int32))) (h' : ¬ (b = (2147483647 : Int32))) : own_sum a b = a + b := by
  unfold own_sum; rw [if_neg h, if_neg h']
theorem own_mask (p : Int32) : 0 ≤ (p &&& (1073741823 : Int32)).toInt ∧ (p &&& (1073741823 : Int32)).toInt < 1073741824 := by
  have e : (p &&& (1073741823 : Int32)).toInt = p.toInt % 2 ^ 30 := Jvm.Kit.i32_mask p (1073741823 : Int32) (k := 30) (by decide) (by decide)
  omega
theorem own_ne {a : Int32} (h : a.toInt < 2147483647) : ¬ (a = (2147483647 : Int32)) := fun q => by
  have e : ((2147483647 : Int32)).toInt = 2147483647 := by decide
  rw [q, e] at h; omega
theorem own_mne (p : Int32) : ¬ ((p &&& (1073741823 : Int32)) = (2147483647 : Int32)) := own_ne (by have := own_mask p; omega)
/-- all that the law's last branches ask of two real costs -/
theorem own_two {a b : Int32} (ha : 0 ≤ a.toInt ∧ a.toInt < 1073741824) (hb : 0 ≤ b.toInt ∧ b.toInt < 1073741824) :
    ¬ (own_sum a b = (2147483647 : Int32)) ∧ own_sum a b - a = b ∧ ¬ (own_sum a b < a) ∧ ¬ (own_sum a b < b) ∧ own_sum b a = own_sum a b := by
  have na : ¬ (a = (2147483647 : Int32)) := own_ne (by omega)
  have nb : ¬ (b = (2147483647 : Int32)) := own_ne (by omega)
  rw [own_sum_n na nb, own_sum_n nb na]
  have e : (a + b).toInt = a.toInt + b.toInt := Jvm.Kit.i32_add (by omega) (by omega)
  refine ⟨own_ne (by omega), ?_, ?_, ?_, Int32.add_comm b a⟩
  · refine Int32.toInt_inj.mp ?_
    rw [Jvm.Kit.i32_sub (by omega) (by omega), e]; omega
  · rw [Int32.lt_iff_toInt_lt]; omega
  · rw [Int32.lt_iff_toInt_lt]; omega
theorem d1_0 : decode prog_19_method_15_code 0 = .ok (.iload_n 0, 1) := by decide +kernel
theorem d1_1 : decode prog_19_method_15_code 1 = .ok (.ldc 15, 2) := by decide +kernel
theorem d1_3 : decode prog_19_method_15_code 3 = .ok (.if_icmp .eq 9, 3) := by decide +kernel
theorem d1_12 : decode prog_19_method_15_code 12 = .ok (.ldc 15, 2) := by decide +kernel
theorem d1_14 : decode prog_19_method_15_code 14 = .ok (.goto 6, 3) := by decide +kernel
theorem d1_20 : decode prog_19_method_15_code 20 = .ok (.ireturn, 1) := by decide +kernel
theorem pn_1 : plainName "com/example/trim_bends/trimbends/layout/BendCosts" = true := by first | (simp [plainName, overriddenIn]; done) | decide +kernel
theorem ef_1 (m : MethodId) (x0 : Int32) (x1 : Int32) : entryFrame m #[(.int x0), (.int x1)] 2 = mkF m 0 #[.val (.int x0), .val (.int x1)] [] := by first | (simp [entryFrame, mkF, argsToLocals, Value.category]; done) | rfl
def Q1 (Z : State) (p1 : Int32) (p2 : Int32) (h0 : Heap) (n0 : Nat) (v : Option Value) (h : Heap) (L : List Loc) : Prop := v = some (.int (own_sum p1 p2)) ∧ Fr n0 L ∧ h = h0
set_option maxRecDepth 65536 in
set_option maxHeartbeats 40000000 in
theorem rm1_t (l : Launch) (Z : State) (a0 : Array Value) (hw : ∀ d ∈ tables_1, d.before a0 Z = true) (ws : List Jvm.Cond) (p1 : Int32) (p2 : Int32) (h0 : Heap) (n0 : Nat) (Z0 : n0 ≤ h0.size) (hc3 : p1 = (2147483647 : Int32)) :
    MetFree l (⟨"com/example/trim_bends/trimbends/layout/BendCosts", "sum", "(II)I"⟩ : MethodName) (head1 (Jvm.Cond.code (⟨"com/example/trim_bends/trimbends/layout/BendCosts", "sum", "(II)I"⟩ : MethodName) prog_19_method_15_code 2 (some .int) :: ws) ({ frames := 0, cells := 0, slots := 0, locals := 0 } : Room)) (fun a U => a = #[(.int p1), (.int p2)] ∧ Z.Warmed39 U.vm ∧ U.heap = h0) (fun _ _ _ _ _ => True) (fun _ U o U' => ∃ v L, o = .returned v ∧ Q1 Z p1 p2 h0 n0 v U'.heap L ∧ FrameEnd U o U' L ({ frames := 0, cells := 0, slots := 0, locals := 0 } : Room).cells ({ frames := 0, cells := 0, slots := 0, locals := 0 } : Room).slots) := by
  refine MetFree.of_bodySF (plainFor_of_name pn_1) hisR ?_
  intro p e s m args below meth c s₁ Bd hml0 hP hK
  obtain ⟨rfl, hZ, hh⟩ := hP
  have hx := Bd.exec
  have hby := Bd.bytes
  have hml : c.maxLocals = 2 := hml0
  have hown : s.vm.findClass "com/example/trim_bends/trimbends/layout/BendCosts" = some m.cls := findClass_of_methodNamed Bd.named
  have hnm := (name_of_methodNamed Bd.named Bd.method).1
  have X0 : Stand p l e ({ frames := 0, cells := 0, slots := 0, locals := 0 } : Room) s m #[(.int p1), (.int p2)] below meth c s₁ [] 0 0 := Stand.of_body Bd
  have e0 : s₁.heap = h0 := by rw [← hh, Bd.state]; rfl
  have N0 := Fr.nil n0
  have pre0 : ∀ t, Steps p.tables e below (s₁.setTop (mkF m 0 #[.val (.int p1), .val (.int p2)] [])) t → Steps p.tables e below (s₁.setTop (entryFrame m #[(.int p1), (.int p2)] 2)) t := fun t k => castTop (ef_1 m p1 p2) k

  obtain ⟨fs, hr, hrun, hended, hW, hsame⟩ := X0.leave (v := some (.int (2147483647 : Int32))) (fun h => by rw [Bd.returns] at h; cases h)
  refine ⟨_, _, pre0 _ ?_, hrun, hended, _, _, rfl, ?_, ⟨_, rfl⟩, hW, hsame.mono (by decide) (by decide)⟩
  · show Steps p.tables e below (s₁.setTop (mkF m 0 #[.val (.int p1), .val (.int p2)] [])) _
    refine XS.iloadN X0.here hx rfl (hb hby d1_0) rfl ?_
    show Steps p.tables e below (s₁.setTop (mkF m 1 #[.val (.int p1), .val (.int p2)] [(.int p1)])) _
    refine X0.ldcInt hx hown (mvT hZ (hw _ (List.mem_of_getElem? (i := 5) rfl))) (g := (mkF m 1 #[.val (.int p1), .val (.int p2)] [(.int p1)])) rfl (hb hby d1_1) _ ?_
    show Steps p.tables e below (s₁.setTop (mkF m 3 #[.val (.int p1), .val (.int p2)] [(.int (2147483647 : Int32)), (.int p1)])) _
    refine XS.icmpYes X0.here hx rfl (pc0 := 3) (pc' := 12) rfl (hb hby d1_3) rfl (teq hc3).1 (by decide) (by decide) ?_
    show Steps p.tables e below (s₁.setTop (mkF m 12 #[.val (.int p1), .val (.int p2)] [])) _
    refine X0.ldcInt hx hown (mvT hZ (hw _ (List.mem_of_getElem? (i := 5) rfl))) (g := (mkF m 12 #[.val (.int p1), .val (.int p2)] [])) rfl (hb hby d1_12) _ ?_
    show Steps p.tables e below (s₁.setTop (mkF m 14 #[.val (.int p1), .val (.int p2)] [(.int (2147483647 : Int32))])) _
    refine XS.goto X0.here hx rfl (pc0 := 14) (pc' := 20) rfl (hb hby d1_14) (by decide) (by decide) ?_
    show Steps p.tables e below (s₁.setTop (mkF m 20 #[.val (.int p1), .val (.int p2)] [(.int (2147483647 : Int32))])) _
    exact retI X0 hx Bd.returns (hb hby d1_20) hr
  · show Q1 Z p1 p2 h0 n0 _ s₁.heap _
    rw [e0]
    exact ⟨congrArg (fun z => some (Value.int z)) (show own_sum p1 p2 = _ from own_sum_l hc3).symm, N0, rfl⟩
theorem d1_6 : decode prog_19_method_15_code 6 = .ok (.iload_n 1, 1) := by decide +kernel
theorem d1_7 : decode prog_19_method_15_code 7 = .ok (.ldc 15, 2) := by decide +kernel
theorem d1_9 : decode prog_19_method_15_code 9 = .ok (.if_icmp .ne 8, 3) := by decide +kernel
set_option maxRecDepth 65536 in
set_option maxHeartbeats 40000000 in
theorem rm1_ff (l : Launch) (Z : State) (a0 : Array Value) (hw : ∀ d ∈ tables_1, d.before a0 Z = true) (ws : List Jvm.Cond) (p1 : Int32) (p2 : Int32) (h0 : Heap) (n0 : Nat) (Z0 : n0 ≤ h0.size) (hc3 : ¬ (p1 = (2147483647 : Int32))) (hc9 : p2 = (2147483647 : Int32)) :
    MetFree l (⟨"com/example/trim_bends/trimbends/layout/BendCosts", "sum", "(II)I"⟩ : MethodName) (head1 (Jvm.Cond.code (⟨"com/example/trim_bends/trimbends/layout/BendCosts", "sum", "(II)I"⟩ : MethodName) prog_19_method_15_code 2 (some .int) :: ws) ({ frames := 0, cells := 0, slots := 0, locals := 0 } : Room)) (fun a U => a = #[(.int p1), (.int p2)] ∧ Z.Warmed39 U.vm ∧ U.heap = h0) (fun _ _ _ _ _ => True) (fun _ U o U' => ∃ v L, o = .returned v ∧ Q1 Z p1 p2 h0 n0 v U'.heap L ∧ FrameEnd U o U' L ({ frames := 0, cells := 0, slots := 0, locals := 0 } : Room).cells ({ frames := 0, cells := 0, slots := 0, locals := 0 } : Room).slots) := by
  refine MetFree.of_bodySF (plainFor_of_name pn_1) hisR ?_
  intro p e s m args below meth c s₁ Bd hml0 hP hK
  obtain ⟨rfl, hZ, hh⟩ := hP
  have hx := Bd.exec
  have hby := Bd.bytes
  have hml : c.maxLocals = 2 := hml0
  have hown : s.vm.findClass "com/example/trim_bends/trimbends/layout/BendCosts" = some m.cls := findClass_of_methodNamed Bd.named
  have hnm := (name_of_methodNamed Bd.named Bd.method).1
  have X0 : Stand p l e ({ frames := 0, cells := 0, slots := 0, locals := 0 } : Room) s m #[(.int p1), (.int p2)] below meth c s₁ [] 0 0 := Stand.of_body Bd
  have e0 : s₁.heap = h0 := by rw [← hh, Bd.state]; rfl
  have N0 := Fr.nil n0
  have pre0 : ∀ t, Steps p.tables e below (s₁.setTop (mkF m 0 #[.val (.int p1), .val (.int p2)] [])) t → Steps p.tables e below (s₁.setTop (entryFrame m #[(.int p1), (.int p2)] 2)) t := fun t k => castTop (ef_1 m p1 p2) k

  obtain ⟨fs, hr, hrun, hended, hW, hsame⟩ := X0.leave (v := some (.int (2147483647 : Int32))) (fun h => by rw [Bd.returns] at h; cases h)
  refine ⟨_, _, pre0 _ ?_, hrun, hended, _, _, rfl, ?_, ⟨_, rfl⟩, hW, hsame.mono (by decide) (by decide)⟩
  · show Steps p.tables e below (s₁.setTop (mkF m 0 #[.val (.int p1), .val (.int p2)] [])) _
    refine XS.iloadN X0.here hx rfl (hb hby d1_0) rfl ?_
    show Steps p.tables e below (s₁.setTop (mkF m 1 #[.val (.int p1), .val (.int p2)] [(.int p1)])) _
    refine X0.ldcInt hx hown (mvT hZ (hw _ (List.mem_of_getElem? (i := 5) rfl))) (g := (mkF m 1 #[.val (.int p1), .val (.int p2)] [(.int p1)])) rfl (hb hby d1_1) _ ?_
    show Steps p.tables e below (s₁.setTop (mkF m 3 #[.val (.int p1), .val (.int p2)] [(.int (2147483647 : Int32)), (.int p1)])) _
    refine XS.icmpNo X0.here hx rfl (hb hby d1_3) rfl (feq hc3).1 ?_
    show Steps p.tables e below (s₁.setTop (mkF m 6 #[.val (.int p1), .val (.int p2)] [])) _
    refine XS.iloadN X0.here hx rfl (hb hby d1_6) rfl ?_
    show Steps p.tables e below (s₁.setTop (mkF m 7 #[.val (.int p1), .val (.int p2)] [(.int p2)])) _
    refine X0.ldcInt hx hown (mvT hZ (hw _ (List.mem_of_getElem? (i := 5) rfl))) (g := (mkF m 7 #[.val (.int p1), .val (.int p2)] [(.int p2)])) rfl (hb hby d1_7) _ ?_
    show Steps p.tables e below (s₁.setTop (mkF m 9 #[.val (.int p1), .val (.int p2)] [(.int (2147483647 : Int32)), (.int p2)])) _
    refine XS.icmpNo X0.here hx rfl (hb hby d1_9) rfl (teq hc9).2 ?_
    show Steps p.tables e below (s₁.setTop (mkF m 12 #[.val (.int p1), .val (.int p2)] [])) _
    refine X0.ldcInt hx hown (mvT hZ (hw _ (List.mem_of_getElem? (i := 5) rfl))) (g := (mkF m 12 #[.val (.int p1), .val (.int p2)] [])) rfl (hb hby d1_12) _ ?_
    show Steps p.tables e below (s₁.setTop (mkF m 14 #[.val (.int p1), .val (.int p2)] [(.int (2147483647 : Int32))])) _
    refine XS.goto X0.here hx rfl (pc0 := 14) (pc' := 20) rfl (hb hby d1_14) (by decide) (by decide) ?_
    show Steps p.tables e below (s₁.setTop (mkF m 20 #[.val (.int p1), .val (.int p2)] [(.int (2147483647 : Int32))])) _
    exact retI X0 hx Bd.returns (hb hby d1_20) hr
  · show Q1 Z p1 p2 h0 n0 _ s₁.heap _
    rw [e0]
    exact ⟨congrArg (fun z => some (Value.int z)) (show own_sum p1 p2 = _ from own_sum_r hc9).symm, N0, rfl⟩
theorem d1_17 : decode prog_19_method_15_code 17 = .ok (.iload_n 0, 1) := by decide +kernel
theorem d1_18 : decode prog_19_method_15_code 18 = .ok (.iload_n 1, 1) := by decide +kernel
theorem d1_19 : decode prog_19_method_15_code 19 = .ok (.iadd, 1) := by decide +kernel
set_option maxRecDepth 65536 in
set_option maxHeartbeats 40000000 in
theorem rm1_ft (l : Launch) (Z : State) (a0 : Array Value) (hw : ∀ d ∈ tables_1, d.before a0 Z = true) (ws : List Jvm.Cond) (p1 : Int32) (p2 : Int32) (h0 : Heap) (n0 : Nat) (Z0 : n0 ≤ h0.size) (hc3 : ¬ (p1 = (2147483647 : Int32))) (hc9 : ¬ (p2 = (2147483647 : Int32))) :
    MetFree l (⟨"com/example/trim_bends/trimbends/layout/BendCosts", "sum", "(II)I"⟩ : MethodName) (head1 (Jvm.Cond.code (⟨"com/example/trim_bends/trimbends/layout/BendCosts", "sum", "(II)I"⟩ : MethodName) prog_19_method_15_code 2 (some .int) :: ws) ({ frames := 0, cells := 0, slots := 0, locals := 0 } : Room)) (fun a U => a = #[(.int p1), (.int p2)] ∧ Z.Warmed39 U.vm ∧ U.heap = h0) (fun _ _ _ _ _ => True) (fun _ U o U' => ∃ v L, o = .returned v ∧ Q1 Z p1 p2 h0 n0 v U'.heap L ∧ FrameEnd U o U' L ({ frames := 0, cells := 0, slots := 0, locals := 0 } : Room).cells ({ frames := 0, cells := 0, slots := 0, locals := 0 } : Room).slots) := by
  refine MetFree.of_bodySF (plainFor_of_name pn_1) hisR ?_
  intro p e s m args below meth c s₁ Bd hml0 hP hK
  obtain ⟨rfl, hZ, hh⟩ := hP
  have hx := Bd.exec
  have hby := Bd.bytes
  have hml : c.maxLocals = 2 := hml0
  have hown : s.vm.findClass "com/example/trim_bends/trimbends/layout/BendCosts" = some m.cls := findClass_of_methodNamed Bd.named
  have hnm := (name_of_methodNamed Bd.named Bd.method).1
  have X0 : Stand p l e ({ frames := 0, cells := 0, slots := 0, locals := 0 } : Room) s m #[(.int p1), (.int p2)] below meth c s₁ [] 0 0 := Stand.of_body Bd
  have e0 : s₁.heap = h0 := by rw [← hh, Bd.state]; rfl
  have N0 := Fr.nil n0
  have pre0 : ∀ t, Steps p.tables e below (s₁.setTop (mkF m 0 #[.val (.int p1), .val (.int p2)] [])) t → Steps p.tables e below (s₁.setTop (entryFrame m #[(.int p1), (.int p2)] 2)) t := fun t k => castTop (ef_1 m p1 p2) k

  obtain ⟨fs, hr, hrun, hended, hW, hsame⟩ := X0.leave (v := some (.int (p1 + p2))) (fun h => by rw [Bd.returns] at h; cases h)
  refine ⟨_, _, pre0 _ ?_, hrun, hended, _, _, rfl, ?_, ⟨_, rfl⟩, hW, hsame.mono (by decide) (by decide)⟩
  · show Steps p.tables e below (s₁.setTop (mkF m 0 #[.val (.int p1), .val (.int p2)] [])) _
    refine XS.iloadN X0.here hx rfl (hb hby d1_0) rfl ?_
    show Steps p.tables e below (s₁.setTop (mkF m 1 #[.val (.int p1), .val (.int p2)] [(.int p1)])) _
    refine X0.ldcInt hx hown (mvT hZ (hw _ (List.mem_of_getElem? (i := 5) rfl))) (g := (mkF m 1 #[.val (.int p1), .val (.int p2)] [(.int p1)])) rfl (hb hby d1_1) _ ?_
    show Steps p.tables e below (s₁.setTop (mkF m 3 #[.val (.int p1), .val (.int p2)] [(.int (2147483647 : Int32)), (.int p1)])) _
    refine XS.icmpNo X0.here hx rfl (hb hby d1_3) rfl (feq hc3).1 ?_
    show Steps p.tables e below (s₁.setTop (mkF m 6 #[.val (.int p1), .val (.int p2)] [])) _
    refine XS.iloadN X0.here hx rfl (hb hby d1_6) rfl ?_
    show Steps p.tables e below (s₁.setTop (mkF m 7 #[.val (.int p1), .val (.int p2)] [(.int p2)])) _
    refine X0.ldcInt hx hown (mvT hZ (hw _ (List.mem_of_getElem? (i := 5) rfl))) (g := (mkF m 7 #[.val (.int p1), .val (.int p2)] [(.int p2)])) rfl (hb hby d1_7) _ ?_
    show Steps p.tables e below (s₁.setTop (mkF m 9 #[.val (.int p1), .val (.int p2)] [(.int (2147483647 : Int32)), (.int p2)])) _
    refine XS.icmpYes X0.here hx rfl (pc0 := 9) (pc' := 17) rfl (hb hby d1_9) rfl (feq hc9).2 (by decide) (by decide) ?_
    show Steps p.tables e below (s₁.setTop (mkF m 17 #[.val (.int p1), .val (.int p2)] [])) _
    refine XS.iloadN X0.here hx rfl (hb hby d1_17) rfl ?_
    show Steps p.tables e below (s₁.setTop (mkF m 18 #[.val (.int p1), .val (.int p2)] [(.int p1)])) _
    refine XS.iloadN X0.here hx rfl (hb hby d1_18) rfl ?_
    show Steps p.tables e below (s₁.setTop (mkF m 19 #[.val (.int p1), .val (.int p2)] [(.int p2), (.int p1)])) _
    refine XS.iadd X0.here hx rfl (hb hby d1_19) rfl ?_
    show Steps p.tables e below (s₁.setTop (mkF m 20 #[.val (.int p1), .val (.int p2)] [(.int (p1 + p2))])) _
    exact retI X0 hx Bd.returns (hb hby d1_20) hr
  · show Q1 Z p1 p2 h0 n0 _ s₁.heap _
    rw [e0]
    exact ⟨congrArg (fun z => some (Value.int z)) (show own_sum p1 p2 = _ from own_sum_n hc3 hc9).symm, N0, rfl⟩
theorem rm1 (l : Launch) (Z : State) (a0 : Array Value) (hw : ∀ d ∈ tables_1, d.before a0 Z = true) (ws : List Jvm.Cond) (p1 : Int32) (p2 : Int32) (h0 : Heap) (n0 : Nat) (Z0 : n0 ≤ h0.size) :
    MetFree l (⟨"com/example/trim_bends/trimbends/layout/BendCosts", "sum", "(II)I"⟩ : MethodName) (head1 (Jvm.Cond.code (⟨"com/example/trim_bends/trimbends/layout/BendCosts", "sum", "(II)I"⟩ : MethodName) prog_19_method_15_code 2 (some .int) :: ws) ({ frames := 0, cells := 0, slots := 0, locals := 0 } : Room)) (fun a U => a = #[(.int p1), (.int p2)] ∧ Z.Warmed39 U.vm ∧ U.heap = h0) (fun _ _ _ _ _ => True) (fun _ U o U' => ∃ v L, o = .returned v ∧ Q1 Z p1 p2 h0 n0 v U'.heap L ∧ FrameEnd U o U' L ({ frames := 0, cells := 0, slots := 0, locals := 0 } : Room).cells ({ frames := 0, cells := 0, slots := 0, locals := 0 } : Room).slots) := by
  by_cases h3 : p1 = (2147483647 : Int32)
  · exact rm1_t l Z a0 hw ws p1 p2 h0 n0 Z0 h3
  · by_cases h9 : p2 = (2147483647 : Int32)
    · exact rm1_ff l Z a0 hw ws p1 p2 h0 n0 Z0 h3 h9
    · exact rm1_ft l Z a0 hw ws p1 p2 h0 n0 Z0 h3 h9
theorem pn_0 : plainName "com/example/trim_bends/trimbends/layout/BendCostsSumPinLaw" = true := by first | (simp [plainName, overriddenIn]; done) | decide +kernel
theorem pd_0_0 : parseMethodDescriptor "(II)I" = some ⟨[.int, .int], some .int⟩ := by decide +kernel
theorem ef_0 (m : MethodId) (x0 : Int32) (x1 : Int32) (x2 : Int32) : entryFrame m #[(.int x0), (.int x1), (.int x2)] maxLocals = mkF m 0 #[.val (.int x0), .val (.int x1), .val (.int x2), .unset, .unset, .unset, .unset] [] := by first | (simp [entryFrame, mkF, argsToLocals, Value.category, maxLocals]; done) | rfl
def Q0 (Z : State) (p1 : Int32) (p2 : Int32) (p3 : Int32) (h0 : Heap) (n0 : Nat) (v : Option Value) (h : Heap) (L : List Loc) : Prop := v = some (.int (1 : Int32)) ∧ Fr n0 L
set_option maxRecDepth 65536 in
set_option maxHeartbeats 40000000 in
theorem rm0_fftff (l : Launch) (Z : State) (a0 : Array Value) (hw : ∀ d ∈ tables_1, d.before a0 Z = true) (ws : List Jvm.Cond) (p1 : Int32) (p2 : Int32) (p3 : Int32) (h0 : Heap) (n0 : Nat) (Z0 : n0 ≤ h0.size) (hc3 : ¬ ((p1 &&& (1 : Int32)) = (0 : Int32))) (hc19 : ¬ ((p1 &&& (2 : Int32)) = (0 : Int32))) :
    MetFree l x (head1 (Jvm.Cond.code x code maxLocals ret :: ws) room_1) (fun a U => a = #[(.int p1), (.int p2), (.int p3)] ∧ Z.Warmed39 U.vm ∧ U.heap = h0) (fun _ _ _ _ _ => True) (fun _ U o U' => ∃ v L, o = .returned v ∧ Q0 Z p1 p2 p3 h0 n0 v U'.heap L ∧ FrameEnd U o U' L room_1.cells room_1.slots) := by
  refine MetFree.of_bodySF (plainFor_of_name pn_0) hisR ?_
  intro p e s m args below meth c s₁ Bd hml0 hP hK
  obtain ⟨rfl, hZ, hh⟩ := hP
  have hx := Bd.exec
  have hby := Bd.bytes
  have hml : c.maxLocals = 7 := hml0
  have hown : s.vm.findClass "com/example/trim_bends/trimbends/layout/BendCostsSumPinLaw" = some m.cls := findClass_of_methodNamed Bd.named
  have hnm := (name_of_methodNamed Bd.named Bd.method).1
  have X0 : Stand p l e room_1 s m #[(.int p1), (.int p2), (.int p3)] below meth c s₁ [] 0 0 := Stand.of_body Bd
  have e0 : s₁.heap = h0 := by rw [← hh, Bd.state]; rfl
  have N0 := Fr.nil n0
  have pre0 : ∀ t, Steps p.tables e below (s₁.setTop (mkF m 0 #[.val (.int p1), .val (.int p2), .val (.int p3), .unset, .unset, .unset, .unset] [])) t → Steps p.tables e below (s₁.setTop (entryFrame m #[(.int p1), (.int p2), (.int p3)] maxLocals)) t := fun t k => castTop (ef_0 m p1 p2 p3) k
  obtain ⟨_, _, ⟨T4, L4, k4, n4⟩, -, X4, ⟨Lc4, hQ4, l4, y4, z4⟩, st4⟩ := Jvm.LawKit.callS X0 hx (y := (⟨"com/example/trim_bends/trimbends/layout/BendCosts", "sum", "(II)I"⟩ : MethodName)) hown (mvT hZ (hw _ (List.mem_of_getElem? (i := 1) rfl))) (mvT hZ (hw _ (List.mem_of_getElem? (i := 2) rfl))) (mvT hZ (hw _ (List.mem_of_getElem? (i := 3) rfl))) (mvT hZ (hw _ (List.mem_of_getElem? (i := 4) rfl))) (by decide) (backOf (W := 0) (rm1 l Z a0 hw [] (2147483647 : Int32) (2147483647 : Int32) h0 n0 Z0) hZ (hw _ (List.mem_of_getElem? (i := 4) rfl)) (hw _ (List.mem_of_getElem? (i := 3) rfl)) (by decide) (by decide)) (g := (mkF m 36 #[.val (.int p1), .val (.int p2), .val (.int p3), .val (.int (2147483647 : Int32)), .val (.int (2147483647 : Int32)), .unset, .unset] [(.int (2147483647 : Int32)), (.int (2147483647 : Int32))])) rfl (by rw [hml]; rfl) (argsL := [(.int (2147483647 : Int32)), (.int (2147483647 : Int32))]) (rest := []) (lenOf pd_0_0 rfl) rfl (by show 2 * 0 + _ ≤ _; exact Nat.le_of_eq rfl) (hb hby at_36) (fun _ _ => ⟨rfl, e0, (by decide : 0 + 0 ≤ _), (by decide : 0 + 0 ≤ _)⟩)
  dsimp only [Pt.U, Pt.locs, Pt.cells, Pt.slots] at X4 l4 y4 z4 st4 hQ4
  subst l4 y4 z4
  obtain ⟨rfl, N4q, e4q⟩ := hQ4
  have N4 := Fr.app N0 N4q
  have Z4 : n0 ≤ T4.heap.size := by rw [e4q]; exact Z0
  obtain ⟨_, _, ⟨T5, L5, k5, n5⟩, -, X5, ⟨Lc5, hQ5, l5, y5, z5⟩, st5⟩ := Jvm.LawKit.callS X4 hx (y := (⟨"com/example/trim_bends/trimbends/layout/BendCosts", "sum", "(II)I"⟩ : MethodName)) hown (mvT hZ (hw _ (List.mem_of_getElem? (i := 1) rfl))) (mvT hZ (hw _ (List.mem_of_getElem? (i := 2) rfl))) (mvT hZ (hw _ (List.mem_of_getElem? (i := 3) rfl))) (mvT hZ (hw _ (List.mem_of_getElem? (i := 4) rfl))) (by decide) (backOf (W := 0) (rm1 l Z a0 hw [] (2147483647 : Int32) (2147483647 : Int32) T4.heap n0 Z4) hZ (hw _ (List.mem_of_getElem? (i := 4) rfl)) (hw _ (List.mem_of_getElem? (i := 3) rfl)) (by decide) (by decide)) (g := (mkF m 44 #[.val (.int p1), .val (.int p2), .val (.int p3), .val (.int (2147483647 : Int32)), .val (.int (2147483647 : Int32)), .val (.int (own_sum (2147483647 : Int32) (2147483647 : Int32))), .unset] [(.int (2147483647 : Int32)), (.int (2147483647 : Int32))])) rfl (by rw [hml]; rfl) (argsL := [(.int (2147483647 : Int32)), (.int (2147483647 : Int32))]) (rest := []) (lenOf pd_0_0 rfl) rfl (by show 2 * 0 + _ ≤ _; exact Nat.le_of_eq rfl) (hb hby at_44) (fun _ _ => ⟨rfl, rfl, (by decide : 0 + 0 ≤ _), (by decide : 0 + 0 ≤ _)⟩)
  dsimp only [Pt.U, Pt.locs, Pt.cells, Pt.slots] at X5 l5 y5 z5 st5 hQ5
  subst l5 y5 z5
  obtain ⟨rfl, N5q, e5q⟩ := hQ5
  have N5 := Fr.app N4 N5q
  obtain ⟨fs, hr, hrun, hended, hW, hsame⟩ := X5.leave (v := some (.int (1 : Int32))) (fun h => by rw [Bd.returns] at h; cases h)
  refine ⟨_, _, pre0 _ ?_, hrun, hended, _, _, rfl, ?_, ⟨_, rfl⟩, hW, hsame.mono (by decide) (by decide)⟩
  · show Steps p.tables e below (s₁.setTop (mkF m 0 #[.val (.int p1), .val (.int p2), .val (.int p3), .unset, .unset, .unset, .unset] [])) _
    refine XS.iloadN X0.here hx rfl (hb hby at_0) rfl ?_
    show Steps p.tables e below (s₁.setTop (mkF m 1 #[.val (.int p1), .val (.int p2), .val (.int p3), .unset, .unset, .unset, .unset] [(.int p1)])) _
    refine XS.iconst X0.here hx rfl (hb hby at_1) ?_
    show Steps p.tables e below (s₁.setTop (mkF m 2 #[.val (.int p1), .val (.int p2), .val (.int p3), .unset, .unset, .unset, .unset] [(.int (1 : Int32)), (.int p1)])) _
    refine XS.iand X0.here hx rfl (hb hby at_2) rfl ?_
    show Steps p.tables e below (s₁.setTop (mkF m 3 #[.val (.int p1), .val (.int p2), .val (.int p3), .unset, .unset, .unset, .unset] [(.int (p1 &&& (1 : Int32)))])) _
    refine XS.ifNo X0.here hx rfl (hb hby at_3) rfl ((if0 _ _).trans (feq hc3).1) ?_
    show Steps p.tables e below (s₁.setTop (mkF m 6 #[.val (.int p1), .val (.int p2), .val (.int p3), .unset, .unset, .unset, .unset] [])) _
    refine X0.ldcInt hx hown (mvT hZ (hw _ (List.mem_of_getElem? (i := 6) rfl))) (g := (mkF m 6 #[.val (.int p1), .val (.int p2), .val (.int p3), .unset, .unset, .unset, .unset] [])) rfl (hb hby at_6) _ ?_
    show Steps p.tables e below (s₁.setTop (mkF m 8 #[.val (.int p1), .val (.int p2), .val (.int p3), .unset, .unset, .unset, .unset] [(.int (2147483647 : Int32))])) _
    refine XS.goto X0.here hx rfl (pc0 := 8) (pc' := 15) rfl (hb hby at_8) (by decide) (by decide) ?_
    show Steps p.tables e below (s₁.setTop (mkF m 15 #[.val (.int p1), .val (.int p2), .val (.int p3), .unset, .unset, .unset, .unset] [(.int (2147483647 : Int32))])) _
    refine XS.istoreN X0.here hx rfl (hb hby at_15) rfl (l' := #[.val (.int p1), .val (.int p2), .val (.int p3), .val (.int (2147483647 : Int32)), .unset, .unset, .unset]) rfl ?_
    show Steps p.tables e below (s₁.setTop (mkF m 16 #[.val (.int p1), .val (.int p2), .val (.int p3), .val (.int (2147483647 : Int32)), .unset, .unset, .unset] [])) _
    refine XS.iloadN X0.here hx rfl (hb hby at_16) rfl ?_
    show Steps p.tables e below (s₁.setTop (mkF m 17 #[.val (.int p1), .val (.int p2), .val (.int p3), .val (.int (2147483647 : Int32)), .unset, .unset, .unset] [(.int p1)])) _
    refine XS.iconst X0.here hx rfl (hb hby at_17) ?_
    show Steps p.tables e below (s₁.setTop (mkF m 18 #[.val (.int p1), .val (.int p2), .val (.int p3), .val (.int (2147483647 : Int32)), .unset, .unset, .unset] [(.int (2 : Int32)), (.int p1)])) _
    refine XS.iand X0.here hx rfl (hb hby at_18) rfl ?_
    show Steps p.tables e below (s₁.setTop (mkF m 19 #[.val (.int p1), .val (.int p2), .val (.int p3), .val (.int (2147483647 : Int32)), .unset, .unset, .unset] [(.int (p1 &&& (2 : Int32)))])) _
    refine XS.ifNo X0.here hx rfl (hb hby at_19) rfl ((if0 _ _).trans (feq hc19).1) ?_
    show Steps p.tables e below (s₁.setTop (mkF m 22 #[.val (.int p1), .val (.int p2), .val (.int p3), .val (.int (2147483647 : Int32)), .unset, .unset, .unset] [])) _
    refine X0.ldcInt hx hown (mvT hZ (hw _ (List.mem_of_getElem? (i := 6) rfl))) (g := (mkF m 22 #[.val (.int p1), .val (.int p2), .val (.int p3), .val (.int (2147483647 : Int32)), .unset, .unset, .unset] [])) rfl (hb hby at_22) _ ?_
    show Steps p.tables e below (s₁.setTop (mkF m 24 #[.val (.int p1), .val (.int p2), .val (.int p3), .val (.int (2147483647 : Int32)), .unset, .unset, .unset] [(.int (2147483647 : Int32))])) _
    refine XS.goto X0.here hx rfl (pc0 := 24) (pc' := 31) rfl (hb hby at_24) (by decide) (by decide) ?_
    show Steps p.tables e below (s₁.setTop (mkF m 31 #[.val (.int p1), .val (.int p2), .val (.int p3), .val (.int (2147483647 : Int32)), .unset, .unset, .unset] [(.int (2147483647 : Int32))])) _
    refine XS.istore X0.here hx rfl (hb hby at_31) rfl (l' := #[.val (.int p1), .val (.int p2), .val (.int p3), .val (.int (2147483647 : Int32)), .val (.int (2147483647 : Int32)), .unset, .unset]) rfl ?_
    show Steps p.tables e below (s₁.setTop (mkF m 33 #[.val (.int p1), .val (.int p2), .val (.int p3), .val (.int (2147483647 : Int32)), .val (.int (2147483647 : Int32)), .unset, .unset] [])) _
    refine XS.iloadN X0.here hx rfl (hb hby at_33) rfl ?_
    show Steps p.tables e below (s₁.setTop (mkF m 34 #[.val (.int p1), .val (.int p2), .val (.int p3), .val (.int (2147483647 : Int32)), .val (.int (2147483647 : Int32)), .unset, .unset] [(.int (2147483647 : Int32))])) _
    refine XS.iload X0.here hx rfl (hb hby at_34) rfl ?_
    show Steps p.tables e below (s₁.setTop (mkF m 36 #[.val (.int p1), .val (.int p2), .val (.int p3), .val (.int (2147483647 : Int32)), .val (.int (2147483647 : Int32)), .unset, .unset] [(.int (2147483647 : Int32)), (.int (2147483647 : Int32))])) _
    refine st4 _ ?_
    show Steps p.tables e below (T4.setTop (mkF m 39 #[.val (.int p1), .val (.int p2), .val (.int p3), .val (.int (2147483647 : Int32)), .val (.int (2147483647 : Int32)), .unset, .unset] [(.int (own_sum (2147483647 : Int32) (2147483647 : Int32)))])) _
    refine XS.istore X4.here hx rfl (hb hby at_39) rfl (l' := #[.val (.int p1), .val (.int p2), .val (.int p3), .val (.int (2147483647 : Int32)), .val (.int (2147483647 : Int32)), .val (.int (own_sum (2147483647 : Int32) (2147483647 : Int32))), .unset]) rfl ?_
    show Steps p.tables e below (T4.setTop (mkF m 41 #[.val (.int p1), .val (.int p2), .val (.int p3), .val (.int (2147483647 : Int32)), .val (.int (2147483647 : Int32)), .val (.int (own_sum (2147483647 : Int32) (2147483647 : Int32))), .unset] [])) _
    refine XS.iload X4.here hx rfl (hb hby at_41) rfl ?_
    show Steps p.tables e below (T4.setTop (mkF m 43 #[.val (.int p1), .val (.int p2), .val (.int p3), .val (.int (2147483647 : Int32)), .val (.int (2147483647 : Int32)), .val (.int (own_sum (2147483647 : Int32) (2147483647 : Int32))), .unset] [(.int (2147483647 : Int32))])) _
    refine XS.iloadN X4.here hx rfl (hb hby at_43) rfl ?_
    show Steps p.tables e below (T4.setTop (mkF m 44 #[.val (.int p1), .val (.int p2), .val (.int p3), .val (.int (2147483647 : Int32)), .val (.int (2147483647 : Int32)), .val (.int (own_sum (2147483647 : Int32) (2147483647 : Int32))), .unset] [(.int (2147483647 : Int32)), (.int (2147483647 : Int32))])) _
    refine st5 _ ?_
    show Steps p.tables e below (T5.setTop (mkF m 47 #[.val (.int p1), .val (.int p2), .val (.int p3), .val (.int (2147483647 : Int32)), .val (.int (2147483647 : Int32)), .val (.int (own_sum (2147483647 : Int32) (2147483647 : Int32))), .unset] [(.int (own_sum (2147483647 : Int32) (2147483647 : Int32)))])) _
    refine XS.istore X5.here hx rfl (hb hby at_47) rfl (l' := #[.val (.int p1), .val (.int p2), .val (.int p3), .val (.int (2147483647 : Int32)), .val (.int (2147483647 : Int32)), .val (.int (own_sum (2147483647 : Int32) (2147483647 : Int32))), .val (.int (own_sum (2147483647 : Int32) (2147483647 : Int32)))]) rfl ?_
    show Steps p.tables e below (T5.setTop (mkF m 49 #[.val (.int p1), .val (.int p2), .val (.int p3), .val (.int (2147483647 : Int32)), .val (.int (2147483647 : Int32)), .val (.int (own_sum (2147483647 : Int32) (2147483647 : Int32))), .val (.int (own_sum (2147483647 : Int32) (2147483647 : Int32)))] [])) _
    refine XS.iloadN X5.here hx rfl (hb hby at_49) rfl ?_
    show Steps p.tables e below (T5.setTop (mkF m 50 #[.val (.int p1), .val (.int p2), .val (.int p3), .val (.int (2147483647 : Int32)), .val (.int (2147483647 : Int32)), .val (.int (own_sum (2147483647 : Int32) (2147483647 : Int32))), .val (.int (own_sum (2147483647 : Int32) (2147483647 : Int32)))] [(.int (2147483647 : Int32))])) _
    refine X5.ldcInt hx hown (mvT hZ (hw _ (List.mem_of_getElem? (i := 6) rfl))) (g := (mkF m 50 #[.val (.int p1), .val (.int p2), .val (.int p3), .val (.int (2147483647 : Int32)), .val (.int (2147483647 : Int32)), .val (.int (own_sum (2147483647 : Int32) (2147483647 : Int32))), .val (.int (own_sum (2147483647 : Int32) (2147483647 : Int32)))] [(.int (2147483647 : Int32))])) rfl (hb hby at_50) _ ?_
    show Steps p.tables e below (T5.setTop (mkF m 52 #[.val (.int p1), .val (.int p2), .val (.int p3), .val (.int (2147483647 : Int32)), .val (.int (2147483647 : Int32)), .val (.int (own_sum (2147483647 : Int32) (2147483647 : Int32))), .val (.int (own_sum (2147483647 : Int32) (2147483647 : Int32)))] [(.int (2147483647 : Int32)), (.int (2147483647 : Int32))])) _
    refine XS.icmpYes X5.here hx rfl (pc0 := 52) (pc' := 62) rfl (hb hby at_52) rfl (teq (rfl : (2147483647 : Int32) = (2147483647 : Int32))).1 (by decide) (by decide) ?_
    show Steps p.tables e below (T5.setTop (mkF m 62 #[.val (.int p1), .val (.int p2), .val (.int p3), .val (.int (2147483647 : Int32)), .val (.int (2147483647 : Int32)), .val (.int (own_sum (2147483647 : Int32) (2147483647 : Int32))), .val (.int (own_sum (2147483647 : Int32) (2147483647 : Int32)))] [])) _
    refine XS.iload X5.here hx rfl (hb hby at_62) rfl ?_
    show Steps p.tables e below (T5.setTop (mkF m 64 #[.val (.int p1), .val (.int p2), .val (.int p3), .val (.int (2147483647 : Int32)), .val (.int (2147483647 : Int32)), .val (.int (own_sum (2147483647 : Int32) (2147483647 : Int32))), .val (.int (own_sum (2147483647 : Int32) (2147483647 : Int32)))] [(.int (own_sum (2147483647 : Int32) (2147483647 : Int32)))])) _
    refine X5.ldcInt hx hown (mvT hZ (hw _ (List.mem_of_getElem? (i := 6) rfl))) (g := (mkF m 64 #[.val (.int p1), .val (.int p2), .val (.int p3), .val (.int (2147483647 : Int32)), .val (.int (2147483647 : Int32)), .val (.int (own_sum (2147483647 : Int32) (2147483647 : Int32))), .val (.int (own_sum (2147483647 : Int32) (2147483647 : Int32)))] [(.int (own_sum (2147483647 : Int32) (2147483647 : Int32)))])) rfl (hb hby at_64) _ ?_
    show Steps p.tables e below (T5.setTop (mkF m 66 #[.val (.int p1), .val (.int p2), .val (.int p3), .val (.int (2147483647 : Int32)), .val (.int (2147483647 : Int32)), .val (.int (own_sum (2147483647 : Int32) (2147483647 : Int32))), .val (.int (own_sum (2147483647 : Int32) (2147483647 : Int32)))] [(.int (2147483647 : Int32)), (.int (own_sum (2147483647 : Int32) (2147483647 : Int32)))])) _
    refine XS.icmpNo X5.here hx rfl (hb hby at_66) rfl (teq ((own_sum_l rfl) : (own_sum (2147483647 : Int32) (2147483647 : Int32)) = (2147483647 : Int32))).2 ?_
    show Steps p.tables e below (T5.setTop (mkF m 69 #[.val (.int p1), .val (.int p2), .val (.int p3), .val (.int (2147483647 : Int32)), .val (.int (2147483647 : Int32)), .val (.int (own_sum (2147483647 : Int32) (2147483647 : Int32))), .val (.int (own_sum (2147483647 : Int32) (2147483647 : Int32)))] [])) _
    refine XS.iload X5.here hx rfl (hb hby at_69) rfl ?_
    show Steps p.tables e below (T5.setTop (mkF m 71 #[.val (.int p1), .val (.int p2), .val (.int p3), .val (.int (2147483647 : Int32)), .val (.int (2147483647 : Int32)), .val (.int (own_sum (2147483647 : Int32) (2147483647 : Int32))), .val (.int (own_sum (2147483647 : Int32) (2147483647 : Int32)))] [(.int (own_sum (2147483647 : Int32) (2147483647 : Int32)))])) _
    refine X5.ldcInt hx hown (mvT hZ (hw _ (List.mem_of_getElem? (i := 6) rfl))) (g := (mkF m 71 #[.val (.int p1), .val (.int p2), .val (.int p3), .val (.int (2147483647 : Int32)), .val (.int (2147483647 : Int32)), .val (.int (own_sum (2147483647 : Int32) (2147483647 : Int32))), .val (.int (own_sum (2147483647 : Int32) (2147483647 : Int32)))] [(.int (own_sum (2147483647 : Int32) (2147483647 : Int32)))])) rfl (hb hby at_71) _ ?_
    show Steps p.tables e below (T5.setTop (mkF m 73 #[.val (.int p1), .val (.int p2), .val (.int p3), .val (.int (2147483647 : Int32)), .val (.int (2147483647 : Int32)), .val (.int (own_sum (2147483647 : Int32) (2147483647 : Int32))), .val (.int (own_sum (2147483647 : Int32) (2147483647 : Int32)))] [(.int (2147483647 : Int32)), (.int (own_sum (2147483647 : Int32) (2147483647 : Int32)))])) _
    refine XS.icmpNo X5.here hx rfl (hb hby at_73) rfl (teq ((own_sum_r rfl) : (own_sum (2147483647 : Int32) (2147483647 : Int32)) = (2147483647 : Int32))).2 ?_
    show Steps p.tables e below (T5.setTop (mkF m 76 #[.val (.int p1), .val (.int p2), .val (.int p3), .val (.int (2147483647 : Int32)), .val (.int (2147483647 : Int32)), .val (.int (own_sum (2147483647 : Int32) (2147483647 : Int32))), .val (.int (own_sum (2147483647 : Int32) (2147483647 : Int32)))] [])) _
    refine XS.iconst X5.here hx rfl (hb hby at_76) ?_
    show Steps p.tables e below (T5.setTop (mkF m 77 #[.val (.int p1), .val (.int p2), .val (.int p3), .val (.int (2147483647 : Int32)), .val (.int (2147483647 : Int32)), .val (.int (own_sum (2147483647 : Int32) (2147483647 : Int32))), .val (.int (own_sum (2147483647 : Int32) (2147483647 : Int32)))] [(.int (1 : Int32))])) _
    refine XS.goto X5.here hx rfl (pc0 := 77) (pc' := 81) rfl (hb hby at_77) (by decide) (by decide) ?_
    show Steps p.tables e below (T5.setTop (mkF m 81 #[.val (.int p1), .val (.int p2), .val (.int p3), .val (.int (2147483647 : Int32)), .val (.int (2147483647 : Int32)), .val (.int (own_sum (2147483647 : Int32) (2147483647 : Int32))), .val (.int (own_sum (2147483647 : Int32) (2147483647 : Int32)))] [(.int (1 : Int32))])) _
    exact retN X5 hx (t := .boolean) Bd.returns (by simp) (hb hby at_81) hr
  · show Q0 Z p1 p2 p3 h0 n0 _ T5.heap _
    exact ⟨rfl, N5⟩
set_option maxRecDepth 65536 in
set_option maxHeartbeats 40000000 in
theorem rm0_fttff (l : Launch) (Z : State) (a0 : Array Value) (hw : ∀ d ∈ tables_1, d.before a0 Z = true) (ws : List Jvm.Cond) (p1 : Int32) (p2 : Int32) (p3 : Int32) (h0 : Heap) (n0 : Nat) (Z0 : n0 ≤ h0.size) (hc3 : ¬ ((p1 &&& (1 : Int32)) = (0 : Int32))) (hc19 : (p1 &&& (2 : Int32)) = (0 : Int32)) :
    MetFree l x (head1 (Jvm.Cond.code x code maxLocals ret :: ws) room_1) (fun a U => a = #[(.int p1), (.int p2), (.int p3)] ∧ Z.Warmed39 U.vm ∧ U.heap = h0) (fun _ _ _ _ _ => True) (fun _ U o U' => ∃ v L, o = .returned v ∧ Q0 Z p1 p2 p3 h0 n0 v U'.heap L ∧ FrameEnd U o U' L room_1.cells room_1.slots) := by
  refine MetFree.of_bodySF (plainFor_of_name pn_0) hisR ?_
  intro p e s m args below meth c s₁ Bd hml0 hP hK
  obtain ⟨rfl, hZ, hh⟩ := hP
  have hx := Bd.exec
  have hby := Bd.bytes
  have hml : c.maxLocals = 7 := hml0
  have hown : s.vm.findClass "com/example/trim_bends/trimbends/layout/BendCostsSumPinLaw" = some m.cls := findClass_of_methodNamed Bd.named
  have hnm := (name_of_methodNamed Bd.named Bd.method).1
  have X0 : Stand p l e room_1 s m #[(.int p1), (.int p2), (.int p3)] below meth c s₁ [] 0 0 := Stand.of_body Bd
  have e0 : s₁.heap = h0 := by rw [← hh, Bd.state]; rfl
  have N0 := Fr.nil n0
  have pre0 : ∀ t, Steps p.tables e below (s₁.setTop (mkF m 0 #[.val (.int p1), .val (.int p2), .val (.int p3), .unset, .unset, .unset, .unset] [])) t → Steps p.tables e below (s₁.setTop (entryFrame m #[(.int p1), (.int p2), (.int p3)] maxLocals)) t := fun t k => castTop (ef_0 m p1 p2 p3) k
  obtain ⟨_, _, ⟨T4, L4, k4, n4⟩, -, X4, ⟨Lc4, hQ4, l4, y4, z4⟩, st4⟩ := Jvm.LawKit.callS X0 hx (y := (⟨"com/example/trim_bends/trimbends/layout/BendCosts", "sum", "(II)I"⟩ : MethodName)) hown (mvT hZ (hw _ (List.mem_of_getElem? (i := 1) rfl))) (mvT hZ (hw _ (List.mem_of_getElem? (i := 2) rfl))) (mvT hZ (hw _ (List.mem_of_getElem? (i := 3) rfl))) (mvT hZ (hw _ (List.mem_of_getElem? (i := 4) rfl))) (by decide) (backOf (W := 0) (rm1 l Z a0 hw [] (2147483647 : Int32) (p3 &&& (1073741823 : Int32)) h0 n0 Z0) hZ (hw _ (List.mem_of_getElem? (i := 4) rfl)) (hw _ (List.mem_of_getElem? (i := 3) rfl)) (by decide) (by decide)) (g := (mkF m 36 #[.val (.int p1), .val (.int p2), .val (.int p3), .val (.int (2147483647 : Int32)), .val (.int (p3 &&& (1073741823 : Int32))), .unset, .unset] [(.int (p3 &&& (1073741823 : Int32))), (.int (2147483647 : Int32))])) rfl (by rw [hml]; rfl) (argsL := [(.int (2147483647 : Int32)), (.int (p3 &&& (1073741823 : Int32)))]) (rest := []) (lenOf pd_0_0 rfl) rfl (by show 2 * 0 + _ ≤ _; exact Nat.le_of_eq rfl) (hb hby at_36) (fun _ _ => ⟨rfl, e0, (by decide : 0 + 0 ≤ _), (by decide : 0 + 0 ≤ _)⟩)
  dsimp only [Pt.U, Pt.locs, Pt.cells, Pt.slots] at X4 l4 y4 z4 st4 hQ4
  subst l4 y4 z4
  obtain ⟨rfl, N4q, e4q⟩ := hQ4
  have N4 := Fr.app N0 N4q
  have Z4 : n0 ≤ T4.heap.size := by rw [e4q]; exact Z0
  obtain ⟨_, _, ⟨T5, L5, k5, n5⟩, -, X5, ⟨Lc5, hQ5, l5, y5, z5⟩, st5⟩ := Jvm.LawKit.callS X4 hx (y := (⟨"com/example/trim_bends/trimbends/layout/BendCosts", "sum", "(II)I"⟩ : MethodName)) hown (mvT hZ (hw _ (List.mem_of_getElem? (i := 1) rfl))) (mvT hZ (hw _ (List.mem_of_getElem? (i := 2) rfl))) (mvT hZ (hw _ (List.mem_of_getElem? (i := 3) rfl))) (mvT hZ (hw _ (List.mem_of_getElem? (i := 4) rfl))) (by decide) (backOf (W := 0) (rm1 l Z a0 hw [] (p3 &&& (1073741823 : Int32)) (2147483647 : Int32) T4.heap n0 Z4) hZ (hw _ (List.mem_of_getElem? (i := 4) rfl)) (hw _ (List.mem_of_getElem? (i := 3) rfl)) (by decide) (by decide)) (g := (mkF m 44 #[.val (.int p1), .val (.int p2), .val (.int p3), .val (.int (2147483647 : Int32)), .val (.int (p3 &&& (1073741823 : Int32))), .val (.int (own_sum (2147483647 : Int32) (p3 &&& (1073741823 : Int32)))), .unset] [(.int (2147483647 : Int32)), (.int (p3 &&& (1073741823 : Int32)))])) rfl (by rw [hml]; rfl) (argsL := [(.int (p3 &&& (1073741823 : Int32))), (.int (2147483647 : Int32))]) (rest := []) (lenOf pd_0_0 rfl) rfl (by show 2 * 0 + _ ≤ _; exact Nat.le_of_eq rfl) (hb hby at_44) (fun _ _ => ⟨rfl, rfl, (by decide : 0 + 0 ≤ _), (by decide : 0 + 0 ≤ _)⟩)
  dsimp only [Pt.U, Pt.locs, Pt.cells, Pt.slots] at X5 l5 y5 z5 st5 hQ5
  subst l5 y5 z5
  obtain ⟨rfl, N5q, e5q⟩ := hQ5
  have N5 := Fr.app N4 N5q
  obtain ⟨fs, hr, hrun, hended, hW, hsame⟩ := X5.leave (v := some (.int (1 : Int32))) (fun h => by rw [Bd.returns] at h; cases h)
  refine ⟨_, _, pre0 _ ?_, hrun, hended, _, _, rfl, ?_, ⟨_, rfl⟩, hW, hsame.mono (by decide) (by decide)⟩
  · show Steps p.tables e below (s₁.setTop (mkF m 0 #[.val (.int p1), .val (.int p2), .val (.int p3), .unset, .unset, .unset, .unset] [])) _
    refine XS.iloadN X0.here hx rfl (hb hby at_0) rfl ?_
    show Steps p.tables e below (s₁.setTop (mkF m 1 #[.val (.int p1), .val (.int p2), .val (.int p3), .unset, .unset, .unset, .unset] [(.int p1)])) _
    refine XS.iconst X0.here hx rfl (hb hby at_1) ?_
    show Steps p.tables e below (s₁.setTop (mkF m 2 #[.val (.int p1), .val (.int p2), .val (.int p3), .unset, .unset, .unset, .unset] [(.int (1 : Int32)), (.int p1)])) _
    refine XS.iand X0.here hx rfl (hb hby at_2) rfl ?_
    show Steps p.tables e below (s₁.setTop (mkF m 3 #[.val (.int p1), .val (.int p2), .val (.int p3), .unset, .unset, .unset, .unset] [(.int (p1 &&& (1 : Int32)))])) _
    refine XS.ifNo X0.here hx rfl (hb hby at_3) rfl ((if0 _ _).trans (feq hc3).1) ?_
    show Steps p.tables e below (s₁.setTop (mkF m 6 #[.val (.int p1), .val (.int p2), .val (.int p3), .unset, .unset, .unset, .unset] [])) _
    refine X0.ldcInt hx hown (mvT hZ (hw _ (List.mem_of_getElem? (i := 6) rfl))) (g := (mkF m 6 #[.val (.int p1), .val (.int p2), .val (.int p3), .unset, .unset, .unset, .unset] [])) rfl (hb hby at_6) _ ?_
    show Steps p.tables e below (s₁.setTop (mkF m 8 #[.val (.int p1), .val (.int p2), .val (.int p3), .unset, .unset, .unset, .unset] [(.int (2147483647 : Int32))])) _
    refine XS.goto X0.here hx rfl (pc0 := 8) (pc' := 15) rfl (hb hby at_8) (by decide) (by decide) ?_
    show Steps p.tables e below (s₁.setTop (mkF m 15 #[.val (.int p1), .val (.int p2), .val (.int p3), .unset, .unset, .unset, .unset] [(.int (2147483647 : Int32))])) _
    refine XS.istoreN X0.here hx rfl (hb hby at_15) rfl (l' := #[.val (.int p1), .val (.int p2), .val (.int p3), .val (.int (2147483647 : Int32)), .unset, .unset, .unset]) rfl ?_
    show Steps p.tables e below (s₁.setTop (mkF m 16 #[.val (.int p1), .val (.int p2), .val (.int p3), .val (.int (2147483647 : Int32)), .unset, .unset, .unset] [])) _
    refine XS.iloadN X0.here hx rfl (hb hby at_16) rfl ?_
    show Steps p.tables e below (s₁.setTop (mkF m 17 #[.val (.int p1), .val (.int p2), .val (.int p3), .val (.int (2147483647 : Int32)), .unset, .unset, .unset] [(.int p1)])) _
    refine XS.iconst X0.here hx rfl (hb hby at_17) ?_
    show Steps p.tables e below (s₁.setTop (mkF m 18 #[.val (.int p1), .val (.int p2), .val (.int p3), .val (.int (2147483647 : Int32)), .unset, .unset, .unset] [(.int (2 : Int32)), (.int p1)])) _
    refine XS.iand X0.here hx rfl (hb hby at_18) rfl ?_
    show Steps p.tables e below (s₁.setTop (mkF m 19 #[.val (.int p1), .val (.int p2), .val (.int p3), .val (.int (2147483647 : Int32)), .unset, .unset, .unset] [(.int (p1 &&& (2 : Int32)))])) _
    refine XS.ifYes X0.here hx rfl (pc0 := 19) (pc' := 27) rfl (hb hby at_19) rfl ((if0 _ _).trans (teq hc19).1) (by decide) (by decide) ?_
    show Steps p.tables e below (s₁.setTop (mkF m 27 #[.val (.int p1), .val (.int p2), .val (.int p3), .val (.int (2147483647 : Int32)), .unset, .unset, .unset] [])) _
    refine XS.iloadN X0.here hx rfl (hb hby at_27) rfl ?_
    show Steps p.tables e below (s₁.setTop (mkF m 28 #[.val (.int p1), .val (.int p2), .val (.int p3), .val (.int (2147483647 : Int32)), .unset, .unset, .unset] [(.int p3)])) _
    refine X0.ldcInt hx hown (mvT hZ (hw _ (List.mem_of_getElem? (i := 0) rfl))) (g := (mkF m 28 #[.val (.int p1), .val (.int p2), .val (.int p3), .val (.int (2147483647 : Int32)), .unset, .unset, .unset] [(.int p3)])) rfl (hb hby at_28) _ ?_
    show Steps p.tables e below (s₁.setTop (mkF m 30 #[.val (.int p1), .val (.int p2), .val (.int p3), .val (.int (2147483647 : Int32)), .unset, .unset, .unset] [(.int (1073741823 : Int32)), (.int p3)])) _
    refine XS.iand X0.here hx rfl (hb hby at_30) rfl ?_
    show Steps p.tables e below (s₁.setTop (mkF m 31 #[.val (.int p1), .val (.int p2), .val (.int p3), .val (.int (2147483647 : Int32)), .unset, .unset, .unset] [(.int (p3 &&& (1073741823 : Int32)))])) _
    refine XS.istore X0.here hx rfl (hb hby at_31) rfl (l' := #[.val (.int p1), .val (.int p2), .val (.int p3), .val (.int (2147483647 : Int32)), .val (.int (p3 &&& (1073741823 : Int32))), .unset, .unset]) rfl ?_
    show Steps p.tables e below (s₁.setTop (mkF m 33 #[.val (.int p1), .val (.int p2), .val (.int p3), .val (.int (2147483647 : Int32)), .val (.int (p3 &&& (1073741823 : Int32))), .unset, .unset] [])) _
    refine XS.iloadN X0.here hx rfl (hb hby at_33) rfl ?_
    show Steps p.tables e below (s₁.setTop (mkF m 34 #[.val (.int p1), .val (.int p2), .val (.int p3), .val (.int (2147483647 : Int32)), .val (.int (p3 &&& (1073741823 : Int32))), .unset, .unset] [(.int (2147483647 : Int32))])) _
    refine XS.iload X0.here hx rfl (hb hby at_34) rfl ?_
    show Steps p.tables e below (s₁.setTop (mkF m 36 #[.val (.int p1), .val (.int p2), .val (.int p3), .val (.int (2147483647 : Int32)), .val (.int (p3 &&& (1073741823 : Int32))), .unset, .unset] [(.int (p3 &&& (1073741823 : Int32))), (.int (2147483647 : Int32))])) _
    refine st4 _ ?_
    show Steps p.tables e below (T4.setTop (mkF m 39 #[.val (.int p1), .val (.int p2), .val (.int p3), .val (.int (2147483647 : Int32)), .val (.int (p3 &&& (1073741823 : Int32))), .unset, .unset] [(.int (own_sum (2147483647 : Int32) (p3 &&& (1073741823 : Int32))))])) _
    refine XS.istore X4.here hx rfl (hb hby at_39) rfl (l' := #[.val (.int p1), .val (.int p2), .val (.int p3), .val (.int (2147483647 : Int32)), .val (.int (p3 &&& (1073741823 : Int32))), .val (.int (own_sum (2147483647 : Int32) (p3 &&& (1073741823 : Int32)))), .unset]) rfl ?_
    show Steps p.tables e below (T4.setTop (mkF m 41 #[.val (.int p1), .val (.int p2), .val (.int p3), .val (.int (2147483647 : Int32)), .val (.int (p3 &&& (1073741823 : Int32))), .val (.int (own_sum (2147483647 : Int32) (p3 &&& (1073741823 : Int32)))), .unset] [])) _
    refine XS.iload X4.here hx rfl (hb hby at_41) rfl ?_
    show Steps p.tables e below (T4.setTop (mkF m 43 #[.val (.int p1), .val (.int p2), .val (.int p3), .val (.int (2147483647 : Int32)), .val (.int (p3 &&& (1073741823 : Int32))), .val (.int (own_sum (2147483647 : Int32) (p3 &&& (1073741823 : Int32)))), .unset] [(.int (p3 &&& (1073741823 : Int32)))])) _
    refine XS.iloadN X4.here hx rfl (hb hby at_43) rfl ?_
    show Steps p.tables e below (T4.setTop (mkF m 44 #[.val (.int p1), .val (.int p2), .val (.int p3), .val (.int (2147483647 : Int32)), .val (.int (p3 &&& (1073741823 : Int32))), .val (.int (own_sum (2147483647 : Int32) (p3 &&& (1073741823 : Int32)))), .unset] [(.int (2147483647 : Int32)), (.int (p3 &&& (1073741823 : Int32)))])) _
    refine st5 _ ?_
    show Steps p.tables e below (T5.setTop (mkF m 47 #[.val (.int p1), .val (.int p2), .val (.int p3), .val (.int (2147483647 : Int32)), .val (.int (p3 &&& (1073741823 : Int32))), .val (.int (own_sum (2147483647 : Int32) (p3 &&& (1073741823 : Int32)))), .unset] [(.int (own_sum (p3 &&& (1073741823 : Int32)) (2147483647 : Int32)))])) _
    refine XS.istore X5.here hx rfl (hb hby at_47) rfl (l' := #[.val (.int p1), .val (.int p2), .val (.int p3), .val (.int (2147483647 : Int32)), .val (.int (p3 &&& (1073741823 : Int32))), .val (.int (own_sum (2147483647 : Int32) (p3 &&& (1073741823 : Int32)))), .val (.int (own_sum (p3 &&& (1073741823 : Int32)) (2147483647 : Int32)))]) rfl ?_
    show Steps p.tables e below (T5.setTop (mkF m 49 #[.val (.int p1), .val (.int p2), .val (.int p3), .val (.int (2147483647 : Int32)), .val (.int (p3 &&& (1073741823 : Int32))), .val (.int (own_sum (2147483647 : Int32) (p3 &&& (1073741823 : Int32)))), .val (.int (own_sum (p3 &&& (1073741823 : Int32)) (2147483647 : Int32)))] [])) _
    refine XS.iloadN X5.here hx rfl (hb hby at_49) rfl ?_
    show Steps p.tables e below (T5.setTop (mkF m 50 #[.val (.int p1), .val (.int p2), .val (.int p3), .val (.int (2147483647 : Int32)), .val (.int (p3 &&& (1073741823 : Int32))), .val (.int (own_sum (2147483647 : Int32) (p3 &&& (1073741823 : Int32)))), .val (.int (own_sum (p3 &&& (1073741823 : Int32)) (2147483647 : Int32)))] [(.int (2147483647 : Int32))])) _
    refine X5.ldcInt hx hown (mvT hZ (hw _ (List.mem_of_getElem? (i := 6) rfl))) (g := (mkF m 50 #[.val (.int p1), .val (.int p2), .val (.int p3), .val (.int (2147483647 : Int32)), .val (.int (p3 &&& (1073741823 : Int32))), .val (.int (own_sum (2147483647 : Int32) (p3 &&& (1073741823 : Int32)))), .val (.int (own_sum (p3 &&& (1073741823 : Int32)) (2147483647 : Int32)))] [(.int (2147483647 : Int32))])) rfl (hb hby at_50) _ ?_
    show Steps p.tables e below (T5.setTop (mkF m 52 #[.val (.int p1), .val (.int p2), .val (.int p3), .val (.int (2147483647 : Int32)), .val (.int (p3 &&& (1073741823 : Int32))), .val (.int (own_sum (2147483647 : Int32) (p3 &&& (1073741823 : Int32)))), .val (.int (own_sum (p3 &&& (1073741823 : Int32)) (2147483647 : Int32)))] [(.int (2147483647 : Int32)), (.int (2147483647 : Int32))])) _
    refine XS.icmpYes X5.here hx rfl (pc0 := 52) (pc' := 62) rfl (hb hby at_52) rfl (teq (rfl : (2147483647 : Int32) = (2147483647 : Int32))).1 (by decide) (by decide) ?_
    show Steps p.tables e below (T5.setTop (mkF m 62 #[.val (.int p1), .val (.int p2), .val (.int p3), .val (.int (2147483647 : Int32)), .val (.int (p3 &&& (1073741823 : Int32))), .val (.int (own_sum (2147483647 : Int32) (p3 &&& (1073741823 : Int32)))), .val (.int (own_sum (p3 &&& (1073741823 : Int32)) (2147483647 : Int32)))] [])) _
    refine XS.iload X5.here hx rfl (hb hby at_62) rfl ?_
    show Steps p.tables e below (T5.setTop (mkF m 64 #[.val (.int p1), .val (.int p2), .val (.int p3), .val (.int (2147483647 : Int32)), .val (.int (p3 &&& (1073741823 : Int32))), .val (.int (own_sum (2147483647 : Int32) (p3 &&& (1073741823 : Int32)))), .val (.int (own_sum (p3 &&& (1073741823 : Int32)) (2147483647 : Int32)))] [(.int (own_sum (2147483647 : Int32) (p3 &&& (1073741823 : Int32))))])) _
    refine X5.ldcInt hx hown (mvT hZ (hw _ (List.mem_of_getElem? (i := 6) rfl))) (g := (mkF m 64 #[.val (.int p1), .val (.int p2), .val (.int p3), .val (.int (2147483647 : Int32)), .val (.int (p3 &&& (1073741823 : Int32))), .val (.int (own_sum (2147483647 : Int32) (p3 &&& (1073741823 : Int32)))), .val (.int (own_sum (p3 &&& (1073741823 : Int32)) (2147483647 : Int32)))] [(.int (own_sum (2147483647 : Int32) (p3 &&& (1073741823 : Int32))))])) rfl (hb hby at_64) _ ?_
    show Steps p.tables e below (T5.setTop (mkF m 66 #[.val (.int p1), .val (.int p2), .val (.int p3), .val (.int (2147483647 : Int32)), .val (.int (p3 &&& (1073741823 : Int32))), .val (.int (own_sum (2147483647 : Int32) (p3 &&& (1073741823 : Int32)))), .val (.int (own_sum (p3 &&& (1073741823 : Int32)) (2147483647 : Int32)))] [(.int (2147483647 : Int32)), (.int (own_sum (2147483647 : Int32) (p3 &&& (1073741823 : Int32))))])) _
    refine XS.icmpNo X5.here hx rfl (hb hby at_66) rfl (teq ((own_sum_l rfl) : (own_sum (2147483647 : Int32) (p3 &&& (1073741823 : Int32))) = (2147483647 : Int32))).2 ?_
    show Steps p.tables e below (T5.setTop (mkF m 69 #[.val (.int p1), .val (.int p2), .val (.int p3), .val (.int (2147483647 : Int32)), .val (.int (p3 &&& (1073741823 : Int32))), .val (.int (own_sum (2147483647 : Int32) (p3 &&& (1073741823 : Int32)))), .val (.int (own_sum (p3 &&& (1073741823 : Int32)) (2147483647 : Int32)))] [])) _
    refine XS.iload X5.here hx rfl (hb hby at_69) rfl ?_
    show Steps p.tables e below (T5.setTop (mkF m 71 #[.val (.int p1), .val (.int p2), .val (.int p3), .val (.int (2147483647 : Int32)), .val (.int (p3 &&& (1073741823 : Int32))), .val (.int (own_sum (2147483647 : Int32) (p3 &&& (1073741823 : Int32)))), .val (.int (own_sum (p3 &&& (1073741823 : Int32)) (2147483647 : Int32)))] [(.int (own_sum (p3 &&& (1073741823 : Int32)) (2147483647 : Int32)))])) _
    refine X5.ldcInt hx hown (mvT hZ (hw _ (List.mem_of_getElem? (i := 6) rfl))) (g := (mkF m 71 #[.val (.int p1), .val (.int p2), .val (.int p3), .val (.int (2147483647 : Int32)), .val (.int (p3 &&& (1073741823 : Int32))), .val (.int (own_sum (2147483647 : Int32) (p3 &&& (1073741823 : Int32)))), .val (.int (own_sum (p3 &&& (1073741823 : Int32)) (2147483647 : Int32)))] [(.int (own_sum (p3 &&& (1073741823 : Int32)) (2147483647 : Int32)))])) rfl (hb hby at_71) _ ?_
    show Steps p.tables e below (T5.setTop (mkF m 73 #[.val (.int p1), .val (.int p2), .val (.int p3), .val (.int (2147483647 : Int32)), .val (.int (p3 &&& (1073741823 : Int32))), .val (.int (own_sum (2147483647 : Int32) (p3 &&& (1073741823 : Int32)))), .val (.int (own_sum (p3 &&& (1073741823 : Int32)) (2147483647 : Int32)))] [(.int (2147483647 : Int32)), (.int (own_sum (p3 &&& (1073741823 : Int32)) (2147483647 : Int32)))])) _
    refine XS.icmpNo X5.here hx rfl (hb hby at_73) rfl (teq ((own_sum_r rfl) : (own_sum (p3 &&& (1073741823 : Int32)) (2147483647 : Int32)) = (2147483647 : Int32))).2 ?_
    show Steps p.tables e below (T5.setTop (mkF m 76 #[.val (.int p1), .val (.int p2), .val (.int p3), .val (.int (2147483647 : Int32)), .val (.int (p3 &&& (1073741823 : Int32))), .val (.int (own_sum (2147483647 : Int32) (p3 &&& (1073741823 : Int32)))), .val (.int (own_sum (p3 &&& (1073741823 : Int32)) (2147483647 : Int32)))] [])) _
    refine XS.iconst X5.here hx rfl (hb hby at_76) ?_
    show Steps p.tables e below (T5.setTop (mkF m 77 #[.val (.int p1), .val (.int p2), .val (.int p3), .val (.int (2147483647 : Int32)), .val (.int (p3 &&& (1073741823 : Int32))), .val (.int (own_sum (2147483647 : Int32) (p3 &&& (1073741823 : Int32)))), .val (.int (own_sum (p3 &&& (1073741823 : Int32)) (2147483647 : Int32)))] [(.int (1 : Int32))])) _
    refine XS.goto X5.here hx rfl (pc0 := 77) (pc' := 81) rfl (hb hby at_77) (by decide) (by decide) ?_
    show Steps p.tables e below (T5.setTop (mkF m 81 #[.val (.int p1), .val (.int p2), .val (.int p3), .val (.int (2147483647 : Int32)), .val (.int (p3 &&& (1073741823 : Int32))), .val (.int (own_sum (2147483647 : Int32) (p3 &&& (1073741823 : Int32)))), .val (.int (own_sum (p3 &&& (1073741823 : Int32)) (2147483647 : Int32)))] [(.int (1 : Int32))])) _
    exact retN X5 hx (t := .boolean) Bd.returns (by simp) (hb hby at_81) hr
  · show Q0 Z p1 p2 p3 h0 n0 _ T5.heap _
    exact ⟨rfl, N5⟩
set_option maxRecDepth 65536 in
set_option maxHeartbeats 40000000 in
theorem rm0_tfffff (l : Launch) (Z : State) (a0 : Array Value) (hw : ∀ d ∈ tables_1, d.before a0 Z = true) (ws : List Jvm.Cond) (p1 : Int32) (p2 : Int32) (p3 : Int32) (h0 : Heap) (n0 : Nat) (Z0 : n0 ≤ h0.size) (hc3 : (p1 &&& (1 : Int32)) = (0 : Int32)) (hc19 : ¬ ((p1 &&& (2 : Int32)) = (0 : Int32))) (hc52 : ¬ ((p2 &&& (1073741823 : Int32)) = (2147483647 : Int32))) :
    MetFree l x (head1 (Jvm.Cond.code x code maxLocals ret :: ws) room_1) (fun a U => a = #[(.int p1), (.int p2), (.int p3)] ∧ Z.Warmed39 U.vm ∧ U.heap = h0) (fun _ _ _ _ _ => True) (fun _ U o U' => ∃ v L, o = .returned v ∧ Q0 Z p1 p2 p3 h0 n0 v U'.heap L ∧ FrameEnd U o U' L room_1.cells room_1.slots) := by
  refine MetFree.of_bodySF (plainFor_of_name pn_0) hisR ?_
  intro p e s m args below meth c s₁ Bd hml0 hP hK
  obtain ⟨rfl, hZ, hh⟩ := hP
  have hx := Bd.exec
  have hby := Bd.bytes
  have hml : c.maxLocals = 7 := hml0
  have hown : s.vm.findClass "com/example/trim_bends/trimbends/layout/BendCostsSumPinLaw" = some m.cls := findClass_of_methodNamed Bd.named
  have hnm := (name_of_methodNamed Bd.named Bd.method).1
  have X0 : Stand p l e room_1 s m #[(.int p1), (.int p2), (.int p3)] below meth c s₁ [] 0 0 := Stand.of_body Bd
  have e0 : s₁.heap = h0 := by rw [← hh, Bd.state]; rfl
  have N0 := Fr.nil n0
  have pre0 : ∀ t, Steps p.tables e below (s₁.setTop (mkF m 0 #[.val (.int p1), .val (.int p2), .val (.int p3), .unset, .unset, .unset, .unset] [])) t → Steps p.tables e below (s₁.setTop (entryFrame m #[(.int p1), (.int p2), (.int p3)] maxLocals)) t := fun t k => castTop (ef_0 m p1 p2 p3) k
  obtain ⟨_, _, ⟨T4, L4, k4, n4⟩, -, X4, ⟨Lc4, hQ4, l4, y4, z4⟩, st4⟩ := Jvm.LawKit.callS X0 hx (y := (⟨"com/example/trim_bends/trimbends/layout/BendCosts", "sum", "(II)I"⟩ : MethodName)) hown (mvT hZ (hw _ (List.mem_of_getElem? (i := 1) rfl))) (mvT hZ (hw _ (List.mem_of_getElem? (i := 2) rfl))) (mvT hZ (hw _ (List.mem_of_getElem? (i := 3) rfl))) (mvT hZ (hw _ (List.mem_of_getElem? (i := 4) rfl))) (by decide) (backOf (W := 0) (rm1 l Z a0 hw [] (p2 &&& (1073741823 : Int32)) (2147483647 : Int32) h0 n0 Z0) hZ (hw _ (List.mem_of_getElem? (i := 4) rfl)) (hw _ (List.mem_of_getElem? (i := 3) rfl)) (by decide) (by decide)) (g := (mkF m 36 #[.val (.int p1), .val (.int p2), .val (.int p3), .val (.int (p2 &&& (1073741823 : Int32))), .val (.int (2147483647 : Int32)), .unset, .unset] [(.int (2147483647 : Int32)), (.int (p2 &&& (1073741823 : Int32)))])) rfl (by rw [hml]; rfl) (argsL := [(.int (p2 &&& (1073741823 : Int32))), (.int (2147483647 : Int32))]) (rest := []) (lenOf pd_0_0 rfl) rfl (by show 2 * 0 + _ ≤ _; exact Nat.le_of_eq rfl) (hb hby at_36) (fun _ _ => ⟨rfl, e0, (by decide : 0 + 0 ≤ _), (by decide : 0 + 0 ≤ _)⟩)
  dsimp only [Pt.U, Pt.locs, Pt.cells, Pt.slots] at X4 l4 y4 z4 st4 hQ4
  subst l4 y4 z4
  obtain ⟨rfl, N4q, e4q⟩ := hQ4
  have N4 := Fr.app N0 N4q
  have Z4 : n0 ≤ T4.heap.size := by rw [e4q]; exact Z0
  obtain ⟨_, _, ⟨T5, L5, k5, n5⟩, -, X5, ⟨Lc5, hQ5, l5, y5, z5⟩, st5⟩ := Jvm.LawKit.callS X4 hx (y := (⟨"com/example/trim_bends/trimbends/layout/BendCosts", "sum", "(II)I"⟩ : MethodName)) hown (mvT hZ (hw _ (List.mem_of_getElem? (i := 1) rfl))) (mvT hZ (hw _ (List.mem_of_getElem? (i := 2) rfl))) (mvT hZ (hw _ (List.mem_of_getElem? (i := 3) rfl))) (mvT hZ (hw _ (List.mem_of_getElem? (i := 4) rfl))) (by decide) (backOf (W := 0) (rm1 l Z a0 hw [] (2147483647 : Int32) (p2 &&& (1073741823 : Int32)) T4.heap n0 Z4) hZ (hw _ (List.mem_of_getElem? (i := 4) rfl)) (hw _ (List.mem_of_getElem? (i := 3) rfl)) (by decide) (by decide)) (g := (mkF m 44 #[.val (.int p1), .val (.int p2), .val (.int p3), .val (.int (p2 &&& (1073741823 : Int32))), .val (.int (2147483647 : Int32)), .val (.int (own_sum (p2 &&& (1073741823 : Int32)) (2147483647 : Int32))), .unset] [(.int (p2 &&& (1073741823 : Int32))), (.int (2147483647 : Int32))])) rfl (by rw [hml]; rfl) (argsL := [(.int (2147483647 : Int32)), (.int (p2 &&& (1073741823 : Int32)))]) (rest := []) (lenOf pd_0_0 rfl) rfl (by show 2 * 0 + _ ≤ _; exact Nat.le_of_eq rfl) (hb hby at_44) (fun _ _ => ⟨rfl, rfl, (by decide : 0 + 0 ≤ _), (by decide : 0 + 0 ≤ _)⟩)
  dsimp only [Pt.U, Pt.locs, Pt.cells, Pt.slots] at X5 l5 y5 z5 st5 hQ5
  subst l5 y5 z5
  obtain ⟨rfl, N5q, e5q⟩ := hQ5
  have N5 := Fr.app N4 N5q
  obtain ⟨fs, hr, hrun, hended, hW, hsame⟩ := X5.leave (v := some (.int (1 : Int32))) (fun h => by rw [Bd.returns] at h; cases h)
  refine ⟨_, _, pre0 _ ?_, hrun, hended, _, _, rfl, ?_, ⟨_, rfl⟩, hW, hsame.mono (by decide) (by decide)⟩
  · show Steps p.tables e below (s₁.setTop (mkF m 0 #[.val (.int p1), .val (.int p2), .val (.int p3), .unset, .unset, .unset, .unset] [])) _
    refine XS.iloadN X0.here hx rfl (hb hby at_0) rfl ?_
    show Steps p.tables e below (s₁.setTop (mkF m 1 #[.val (.int p1), .val (.int p2), .val (.int p3), .unset, .unset, .unset, .unset] [(.int p1)])) _
    refine XS.iconst X0.here hx rfl (hb hby at_1) ?_
    show Steps p.tables e below (s₁.setTop (mkF m 2 #[.val (.int p1), .val (.int p2), .val (.int p3), .unset, .unset, .unset, .unset] [(.int (1 : Int32)), (.int p1)])) _
    refine XS.iand X0.here hx rfl (hb hby at_2) rfl ?_
    show Steps p.tables e below (s₁.setTop (mkF m 3 #[.val (.int p1), .val (.int p2), .val (.int p3), .unset, .unset, .unset, .unset] [(.int (p1 &&& (1 : Int32)))])) _
    refine XS.ifYes X0.here hx rfl (pc0 := 3) (pc' := 11) rfl (hb hby at_3) rfl ((if0 _ _).trans (teq hc3).1) (by decide) (by decide) ?_
    show Steps p.tables e below (s₁.setTop (mkF m 11 #[.val (.int p1), .val (.int p2), .val (.int p3), .unset, .unset, .unset, .unset] [])) _
    refine XS.iloadN X0.here hx rfl (hb hby at_11) rfl ?_
    show Steps p.tables e below (s₁.setTop (mkF m 12 #[.val (.int p1), .val (.int p2), .val (.int p3), .unset, .unset, .unset, .unset] [(.int p2)])) _
    refine X0.ldcInt hx hown (mvT hZ (hw _ (List.mem_of_getElem? (i := 0) rfl))) (g := (mkF m 12 #[.val (.int p1), .val (.int p2), .val (.int p3), .unset, .unset, .unset, .unset] [(.int p2)])) rfl (hb hby at_12) _ ?_
    show Steps p.tables e below (s₁.setTop (mkF m 14 #[.val (.int p1), .val (.int p2), .val (.int p3), .unset, .unset, .unset, .unset] [(.int (1073741823 : Int32)), (.int p2)])) _
    refine XS.iand X0.here hx rfl (hb hby at_14) rfl ?_
    show Steps p.tables e below (s₁.setTop (mkF m 15 #[.val (.int p1), .val (.int p2), .val (.int p3), .unset, .unset, .unset, .unset] [(.int (p2 &&& (1073741823 : Int32)))])) _
    refine XS.istoreN X0.here hx rfl (hb hby at_15) rfl (l' := #[.val (.int p1), .val (.int p2), .val (.int p3), .val (.int (p2 &&& (1073741823 : Int32))), .unset, .unset, .unset]) rfl ?_
    show Steps p.tables e below (s₁.setTop (mkF m 16 #[.val (.int p1), .val (.int p2), .val (.int p3), .val (.int (p2 &&& (1073741823 : Int32))), .unset, .unset, .unset] [])) _
    refine XS.iloadN X0.here hx rfl (hb hby at_16) rfl ?_
    show Steps p.tables e below (s₁.setTop (mkF m 17 #[.val (.int p1), .val (.int p2), .val (.int p3), .val (.int (p2 &&& (1073741823 : Int32))), .unset, .unset, .unset] [(.int p1)])) _
    refine XS.iconst X0.here hx rfl (hb hby at_17) ?_
    show Steps p.tables e below (s₁.setTop (mkF m 18 #[.val (.int p1), .val (.int p2), .val (.int p3), .val (.int (p2 &&& (1073741823 : Int32))), .unset, .unset, .unset] [(.int (2 : Int32)), (.int p1)])) _
    refine XS.iand X0.here hx rfl (hb hby at_18) rfl ?_
    show Steps p.tables e below (s₁.setTop (mkF m 19 #[.val (.int p1), .val (.int p2), .val (.int p3), .val (.int (p2 &&& (1073741823 : Int32))), .unset, .unset, .unset] [(.int (p1 &&& (2 : Int32)))])) _
    refine XS.ifNo X0.here hx rfl (hb hby at_19) rfl ((if0 _ _).trans (feq hc19).1) ?_
    show Steps p.tables e below (s₁.setTop (mkF m 22 #[.val (.int p1), .val (.int p2), .val (.int p3), .val (.int (p2 &&& (1073741823 : Int32))), .unset, .unset, .unset] [])) _
    refine X0.ldcInt hx hown (mvT hZ (hw _ (List.mem_of_getElem? (i := 6) rfl))) (g := (mkF m 22 #[.val (.int p1), .val (.int p2), .val (.int p3), .val (.int (p2 &&& (1073741823 : Int32))), .unset, .unset, .unset] [])) rfl (hb hby at_22) _ ?_
    show Steps p.tables e below (s₁.setTop (mkF m 24 #[.val (.int p1), .val (.int p2), .val (.int p3), .val (.int (p2 &&& (1073741823 : Int32))), .unset, .unset, .unset] [(.int (2147483647 : Int32))])) _
    refine XS.goto X0.here hx rfl (pc0 := 24) (pc' := 31) rfl (hb hby at_24) (by decide) (by decide) ?_
    show Steps p.tables e below (s₁.setTop (mkF m 31 #[.val (.int p1), .val (.int p2), .val (.int p3), .val (.int (p2 &&& (1073741823 : Int32))), .unset, .unset, .unset] [(.int (2147483647 : Int32))])) _
    refine XS.istore X0.here hx rfl (hb hby at_31) rfl (l' := #[.val (.int p1), .val (.int p2), .val (.int p3), .val (.int (p2 &&& (1073741823 : Int32))), .val (.int (2147483647 : Int32)), .unset, .unset]) rfl ?_
    show Steps p.tables e below (s₁.setTop (mkF m 33 #[.val (.int p1), .val (.int p2), .val (.int p3), .val (.int (p2 &&& (1073741823 : Int32))), .val (.int (2147483647 : Int32)), .unset, .unset] [])) _
    refine XS.iloadN X0.here hx rfl (hb hby at_33) rfl ?_
    show Steps p.tables e below (s₁.setTop (mkF m 34 #[.val (.int p1), .val (.int p2), .val (.int p3), .val (.int (p2 &&& (1073741823 : Int32))), .val (.int (2147483647 : Int32)), .unset, .unset] [(.int (p2 &&& (1073741823 : Int32)))])) _
    refine XS.iload X0.here hx rfl (hb hby at_34) rfl ?_
    show Steps p.tables e below (s₁.setTop (mkF m 36 #[.val (.int p1), .val (.int p2), .val (.int p3), .val (.int (p2 &&& (1073741823 : Int32))), .val (.int (2147483647 : Int32)), .unset, .unset] [(.int (2147483647 : Int32)), (.int (p2 &&& (1073741823 : Int32)))])) _
    refine st4 _ ?_
    show Steps p.tables e below (T4.setTop (mkF m 39 #[.val (.int p1), .val (.int p2), .val (.int p3), .val (.int (p2 &&& (1073741823 : Int32))), .val (.int (2147483647 : Int32)), .unset, .unset] [(.int (own_sum (p2 &&& (1073741823 : Int32)) (2147483647 : Int32)))])) _
    refine XS.istore X4.here hx rfl (hb hby at_39) rfl (l' := #[.val (.int p1), .val (.int p2), .val (.int p3), .val (.int (p2 &&& (1073741823 : Int32))), .val (.int (2147483647 : Int32)), .val (.int (own_sum (p2 &&& (1073741823 : Int32)) (2147483647 : Int32))), .unset]) rfl ?_
    show Steps p.tables e below (T4.setTop (mkF m 41 #[.val (.int p1), .val (.int p2), .val (.int p3), .val (.int (p2 &&& (1073741823 : Int32))), .val (.int (2147483647 : Int32)), .val (.int (own_sum (p2 &&& (1073741823 : Int32)) (2147483647 : Int32))), .unset] [])) _
    refine XS.iload X4.here hx rfl (hb hby at_41) rfl ?_
    show Steps p.tables e below (T4.setTop (mkF m 43 #[.val (.int p1), .val (.int p2), .val (.int p3), .val (.int (p2 &&& (1073741823 : Int32))), .val (.int (2147483647 : Int32)), .val (.int (own_sum (p2 &&& (1073741823 : Int32)) (2147483647 : Int32))), .unset] [(.int (2147483647 : Int32))])) _
    refine XS.iloadN X4.here hx rfl (hb hby at_43) rfl ?_
    show Steps p.tables e below (T4.setTop (mkF m 44 #[.val (.int p1), .val (.int p2), .val (.int p3), .val (.int (p2 &&& (1073741823 : Int32))), .val (.int (2147483647 : Int32)), .val (.int (own_sum (p2 &&& (1073741823 : Int32)) (2147483647 : Int32))), .unset] [(.int (p2 &&& (1073741823 : Int32))), (.int (2147483647 : Int32))])) _
    refine st5 _ ?_
    show Steps p.tables e below (T5.setTop (mkF m 47 #[.val (.int p1), .val (.int p2), .val (.int p3), .val (.int (p2 &&& (1073741823 : Int32))), .val (.int (2147483647 : Int32)), .val (.int (own_sum (p2 &&& (1073741823 : Int32)) (2147483647 : Int32))), .unset] [(.int (own_sum (2147483647 : Int32) (p2 &&& (1073741823 : Int32))))])) _
    refine XS.istore X5.here hx rfl (hb hby at_47) rfl (l' := #[.val (.int p1), .val (.int p2), .val (.int p3), .val (.int (p2 &&& (1073741823 : Int32))), .val (.int (2147483647 : Int32)), .val (.int (own_sum (p2 &&& (1073741823 : Int32)) (2147483647 : Int32))), .val (.int (own_sum (2147483647 : Int32) (p2 &&& (1073741823 : Int32))))]) rfl ?_
    show Steps p.tables e below (T5.setTop (mkF m 49 #[.val (.int p1), .val (.int p2), .val (.int p3), .val (.int (p2 &&& (1073741823 : Int32))), .val (.int (2147483647 : Int32)), .val (.int (own_sum (p2 &&& (1073741823 : Int32)) (2147483647 : Int32))), .val (.int (own_sum (2147483647 : Int32) (p2 &&& (1073741823 : Int32))))] [])) _
    refine XS.iloadN X5.here hx rfl (hb hby at_49) rfl ?_
    show Steps p.tables e below (T5.setTop (mkF m 50 #[.val (.int p1), .val (.int p2), .val (.int p3), .val (.int (p2 &&& (1073741823 : Int32))), .val (.int (2147483647 : Int32)), .val (.int (own_sum (p2 &&& (1073741823 : Int32)) (2147483647 : Int32))), .val (.int (own_sum (2147483647 : Int32) (p2 &&& (1073741823 : Int32))))] [(.int (p2 &&& (1073741823 : Int32)))])) _
    refine X5.ldcInt hx hown (mvT hZ (hw _ (List.mem_of_getElem? (i := 6) rfl))) (g := (mkF m 50 #[.val (.int p1), .val (.int p2), .val (.int p3), .val (.int (p2 &&& (1073741823 : Int32))), .val (.int (2147483647 : Int32)), .val (.int (own_sum (p2 &&& (1073741823 : Int32)) (2147483647 : Int32))), .val (.int (own_sum (2147483647 : Int32) (p2 &&& (1073741823 : Int32))))] [(.int (p2 &&& (1073741823 : Int32)))])) rfl (hb hby at_50) _ ?_
    show Steps p.tables e below (T5.setTop (mkF m 52 #[.val (.int p1), .val (.int p2), .val (.int p3), .val (.int (p2 &&& (1073741823 : Int32))), .val (.int (2147483647 : Int32)), .val (.int (own_sum (p2 &&& (1073741823 : Int32)) (2147483647 : Int32))), .val (.int (own_sum (2147483647 : Int32) (p2 &&& (1073741823 : Int32))))] [(.int (2147483647 : Int32)), (.int (p2 &&& (1073741823 : Int32)))])) _
    refine XS.icmpNo X5.here hx rfl (hb hby at_52) rfl (feq hc52).1 ?_
    show Steps p.tables e below (T5.setTop (mkF m 55 #[.val (.int p1), .val (.int p2), .val (.int p3), .val (.int (p2 &&& (1073741823 : Int32))), .val (.int (2147483647 : Int32)), .val (.int (own_sum (p2 &&& (1073741823 : Int32)) (2147483647 : Int32))), .val (.int (own_sum (2147483647 : Int32) (p2 &&& (1073741823 : Int32))))] [])) _
    refine XS.iload X5.here hx rfl (hb hby at_55) rfl ?_
    show Steps p.tables e below (T5.setTop (mkF m 57 #[.val (.int p1), .val (.int p2), .val (.int p3), .val (.int (p2 &&& (1073741823 : Int32))), .val (.int (2147483647 : Int32)), .val (.int (own_sum (p2 &&& (1073741823 : Int32)) (2147483647 : Int32))), .val (.int (own_sum (2147483647 : Int32) (p2 &&& (1073741823 : Int32))))] [(.int (2147483647 : Int32))])) _
    refine X5.ldcInt hx hown (mvT hZ (hw _ (List.mem_of_getElem? (i := 6) rfl))) (g := (mkF m 57 #[.val (.int p1), .val (.int p2), .val (.int p3), .val (.int (p2 &&& (1073741823 : Int32))), .val (.int (2147483647 : Int32)), .val (.int (own_sum (p2 &&& (1073741823 : Int32)) (2147483647 : Int32))), .val (.int (own_sum (2147483647 : Int32) (p2 &&& (1073741823 : Int32))))] [(.int (2147483647 : Int32))])) rfl (hb hby at_57) _ ?_
    show Steps p.tables e below (T5.setTop (mkF m 59 #[.val (.int p1), .val (.int p2), .val (.int p3), .val (.int (p2 &&& (1073741823 : Int32))), .val (.int (2147483647 : Int32)), .val (.int (own_sum (p2 &&& (1073741823 : Int32)) (2147483647 : Int32))), .val (.int (own_sum (2147483647 : Int32) (p2 &&& (1073741823 : Int32))))] [(.int (2147483647 : Int32)), (.int (2147483647 : Int32))])) _
    refine XS.icmpNo X5.here hx rfl (hb hby at_59) rfl (teq (rfl : (2147483647 : Int32) = (2147483647 : Int32))).2 ?_
    show Steps p.tables e below (T5.setTop (mkF m 62 #[.val (.int p1), .val (.int p2), .val (.int p3), .val (.int (p2 &&& (1073741823 : Int32))), .val (.int (2147483647 : Int32)), .val (.int (own_sum (p2 &&& (1073741823 : Int32)) (2147483647 : Int32))), .val (.int (own_sum (2147483647 : Int32) (p2 &&& (1073741823 : Int32))))] [])) _
    refine XS.iload X5.here hx rfl (hb hby at_62) rfl ?_
    show Steps p.tables e below (T5.setTop (mkF m 64 #[.val (.int p1), .val (.int p2), .val (.int p3), .val (.int (p2 &&& (1073741823 : Int32))), .val (.int (2147483647 : Int32)), .val (.int (own_sum (p2 &&& (1073741823 : Int32)) (2147483647 : Int32))), .val (.int (own_sum (2147483647 : Int32) (p2 &&& (1073741823 : Int32))))] [(.int (own_sum (p2 &&& (1073741823 : Int32)) (2147483647 : Int32)))])) _
    refine X5.ldcInt hx hown (mvT hZ (hw _ (List.mem_of_getElem? (i := 6) rfl))) (g := (mkF m 64 #[.val (.int p1), .val (.int p2), .val (.int p3), .val (.int (p2 &&& (1073741823 : Int32))), .val (.int (2147483647 : Int32)), .val (.int (own_sum (p2 &&& (1073741823 : Int32)) (2147483647 : Int32))), .val (.int (own_sum (2147483647 : Int32) (p2 &&& (1073741823 : Int32))))] [(.int (own_sum (p2 &&& (1073741823 : Int32)) (2147483647 : Int32)))])) rfl (hb hby at_64) _ ?_
    show Steps p.tables e below (T5.setTop (mkF m 66 #[.val (.int p1), .val (.int p2), .val (.int p3), .val (.int (p2 &&& (1073741823 : Int32))), .val (.int (2147483647 : Int32)), .val (.int (own_sum (p2 &&& (1073741823 : Int32)) (2147483647 : Int32))), .val (.int (own_sum (2147483647 : Int32) (p2 &&& (1073741823 : Int32))))] [(.int (2147483647 : Int32)), (.int (own_sum (p2 &&& (1073741823 : Int32)) (2147483647 : Int32)))])) _
    refine XS.icmpNo X5.here hx rfl (hb hby at_66) rfl (teq ((own_sum_r rfl) : (own_sum (p2 &&& (1073741823 : Int32)) (2147483647 : Int32)) = (2147483647 : Int32))).2 ?_
    show Steps p.tables e below (T5.setTop (mkF m 69 #[.val (.int p1), .val (.int p2), .val (.int p3), .val (.int (p2 &&& (1073741823 : Int32))), .val (.int (2147483647 : Int32)), .val (.int (own_sum (p2 &&& (1073741823 : Int32)) (2147483647 : Int32))), .val (.int (own_sum (2147483647 : Int32) (p2 &&& (1073741823 : Int32))))] [])) _
    refine XS.iload X5.here hx rfl (hb hby at_69) rfl ?_
    show Steps p.tables e below (T5.setTop (mkF m 71 #[.val (.int p1), .val (.int p2), .val (.int p3), .val (.int (p2 &&& (1073741823 : Int32))), .val (.int (2147483647 : Int32)), .val (.int (own_sum (p2 &&& (1073741823 : Int32)) (2147483647 : Int32))), .val (.int (own_sum (2147483647 : Int32) (p2 &&& (1073741823 : Int32))))] [(.int (own_sum (2147483647 : Int32) (p2 &&& (1073741823 : Int32))))])) _
    refine X5.ldcInt hx hown (mvT hZ (hw _ (List.mem_of_getElem? (i := 6) rfl))) (g := (mkF m 71 #[.val (.int p1), .val (.int p2), .val (.int p3), .val (.int (p2 &&& (1073741823 : Int32))), .val (.int (2147483647 : Int32)), .val (.int (own_sum (p2 &&& (1073741823 : Int32)) (2147483647 : Int32))), .val (.int (own_sum (2147483647 : Int32) (p2 &&& (1073741823 : Int32))))] [(.int (own_sum (2147483647 : Int32) (p2 &&& (1073741823 : Int32))))])) rfl (hb hby at_71) _ ?_
    show Steps p.tables e below (T5.setTop (mkF m 73 #[.val (.int p1), .val (.int p2), .val (.int p3), .val (.int (p2 &&& (1073741823 : Int32))), .val (.int (2147483647 : Int32)), .val (.int (own_sum (p2 &&& (1073741823 : Int32)) (2147483647 : Int32))), .val (.int (own_sum (2147483647 : Int32) (p2 &&& (1073741823 : Int32))))] [(.int (2147483647 : Int32)), (.int (own_sum (2147483647 : Int32) (p2 &&& (1073741823 : Int32))))])) _
    refine XS.icmpNo X5.here hx rfl (hb hby at_73) rfl (teq ((own_sum_l rfl) : (own_sum (2147483647 : Int32) (p2 &&& (1073741823 : Int32))) = (2147483647 : Int32))).2 ?_
    show Steps p.tables e below (T5.setTop (mkF m 76 #[.val (.int p1), .val (.int p2), .val (.int p3), .val (.int (p2 &&& (1073741823 : Int32))), .val (.int (2147483647 : Int32)), .val (.int (own_sum (p2 &&& (1073741823 : Int32)) (2147483647 : Int32))), .val (.int (own_sum (2147483647 : Int32) (p2 &&& (1073741823 : Int32))))] [])) _
    refine XS.iconst X5.here hx rfl (hb hby at_76) ?_
    show Steps p.tables e below (T5.setTop (mkF m 77 #[.val (.int p1), .val (.int p2), .val (.int p3), .val (.int (p2 &&& (1073741823 : Int32))), .val (.int (2147483647 : Int32)), .val (.int (own_sum (p2 &&& (1073741823 : Int32)) (2147483647 : Int32))), .val (.int (own_sum (2147483647 : Int32) (p2 &&& (1073741823 : Int32))))] [(.int (1 : Int32))])) _
    refine XS.goto X5.here hx rfl (pc0 := 77) (pc' := 81) rfl (hb hby at_77) (by decide) (by decide) ?_
    show Steps p.tables e below (T5.setTop (mkF m 81 #[.val (.int p1), .val (.int p2), .val (.int p3), .val (.int (p2 &&& (1073741823 : Int32))), .val (.int (2147483647 : Int32)), .val (.int (own_sum (p2 &&& (1073741823 : Int32)) (2147483647 : Int32))), .val (.int (own_sum (2147483647 : Int32) (p2 &&& (1073741823 : Int32))))] [(.int (1 : Int32))])) _
    exact retN X5 hx (t := .boolean) Bd.returns (by simp) (hb hby at_81) hr
  · show Q0 Z p1 p2 p3 h0 n0 _ T5.heap _
    exact ⟨rfl, N5⟩
set_option maxRecDepth 65536 in
set_option maxHeartbeats 40000000 in
theorem rm0_ttftfffff (l : Launch) (Z : State) (a0 : Array Value) (hw : ∀ d ∈ tables_1, d.before a0 Z = true) (ws : List Jvm.Cond) (p1 : Int32) (p2 : Int32) (p3 : Int32) (h0 : Heap) (n0 : Nat) (Z0 : n0 ≤ h0.size) (hc3 : (p1 &&& (1 : Int32)) = (0 : Int32)) (hc19 : (p1 &&& (2 : Int32)) = (0 : Int32)) (hc52 : ¬ ((p2 &&& (1073741823 : Int32)) = (2147483647 : Int32))) (hc59 : ¬ ((p3 &&& (1073741823 : Int32)) = (2147483647 : Int32))) :
    MetFree l x (head1 (Jvm.Cond.code x code maxLocals ret :: ws) room_1) (fun a U => a = #[(.int p1), (.int p2), (.int p3)] ∧ Z.Warmed39 U.vm ∧ U.heap = h0) (fun _ _ _ _ _ => True) (fun _ U o U' => ∃ v L, o = .returned v ∧ Q0 Z p1 p2 p3 h0 n0 v U'.heap L ∧ FrameEnd U o U' L room_1.cells room_1.slots) := by
  refine MetFree.of_bodySF (plainFor_of_name pn_0) hisR ?_
  intro p e s m args below meth c s₁ Bd hml0 hP hK
  obtain ⟨rfl, hZ, hh⟩ := hP
  have hx := Bd.exec
  have hby := Bd.bytes
  have hml : c.maxLocals = 7 := hml0
  have hown : s.vm.findClass "com/example/trim_bends/trimbends/layout/BendCostsSumPinLaw" = some m.cls := findClass_of_methodNamed Bd.named
  have hnm := (name_of_methodNamed Bd.named Bd.method).1
  have X0 : Stand p l e room_1 s m #[(.int p1), (.int p2), (.int p3)] below meth c s₁ [] 0 0 := Stand.of_body Bd
  have e0 : s₁.heap = h0 := by rw [← hh, Bd.state]; rfl
  have N0 := Fr.nil n0
  have htwo := own_two (own_mask p2) (own_mask p3)
  have pre0 : ∀ t, Steps p.tables e below (s₁.setTop (mkF m 0 #[.val (.int p1), .val (.int p2), .val (.int p3), .unset, .unset, .unset, .unset] [])) t → Steps p.tables e below (s₁.setTop (entryFrame m #[(.int p1), (.int p2), (.int p3)] maxLocals)) t := fun t k => castTop (ef_0 m p1 p2 p3) k
  obtain ⟨_, _, ⟨T4, L4, k4, n4⟩, -, X4, ⟨Lc4, hQ4, l4, y4, z4⟩, st4⟩ := Jvm.LawKit.callS X0 hx (y := (⟨"com/example/trim_bends/trimbends/layout/BendCosts", "sum", "(II)I"⟩ : MethodName)) hown (mvT hZ (hw _ (List.mem_of_getElem? (i := 1) rfl))) (mvT hZ (hw _ (List.mem_of_getElem? (i := 2) rfl))) (mvT hZ (hw _ (List.mem_of_getElem? (i := 3) rfl))) (mvT hZ (hw _ (List.mem_of_getElem? (i := 4) rfl))) (by decide) (backOf (W := 0) (rm1 l Z a0 hw [] (p2 &&& (1073741823 : Int32)) (p3 &&& (1073741823 : Int32)) h0 n0 Z0) hZ (hw _ (List.mem_of_getElem? (i := 4) rfl)) (hw _ (List.mem_of_getElem? (i := 3) rfl)) (by decide) (by decide)) (g := (mkF m 36 #[.val (.int p1), .val (.int p2), .val (.int p3), .val (.int (p2 &&& (1073741823 : Int32))), .val (.int (p3 &&& (1073741823 : Int32))), .unset, .unset] [(.int (p3 &&& (1073741823 : Int32))), (.int (p2 &&& (1073741823 : Int32)))])) rfl (by rw [hml]; rfl) (argsL := [(.int (p2 &&& (1073741823 : Int32))), (.int (p3 &&& (1073741823 : Int32)))]) (rest := []) (lenOf pd_0_0 rfl) rfl (by show 2 * 0 + _ ≤ _; exact Nat.le_of_eq rfl) (hb hby at_36) (fun _ _ => ⟨rfl, e0, (by decide : 0 + 0 ≤ _), (by decide : 0 + 0 ≤ _)⟩)
  dsimp only [Pt.U, Pt.locs, Pt.cells, Pt.slots] at X4 l4 y4 z4 st4 hQ4
  subst l4 y4 z4
  obtain ⟨rfl, N4q, e4q⟩ := hQ4
  have N4 := Fr.app N0 N4q
  have Z4 : n0 ≤ T4.heap.size := by rw [e4q]; exact Z0
  obtain ⟨_, _, ⟨T5, L5, k5, n5⟩, -, X5, ⟨Lc5, hQ5, l5, y5, z5⟩, st5⟩ := Jvm.LawKit.callS X4 hx (y := (⟨"com/example/trim_bends/trimbends/layout/BendCosts", "sum", "(II)I"⟩ : MethodName)) hown (mvT hZ (hw _ (List.mem_of_getElem? (i := 1) rfl))) (mvT hZ (hw _ (List.mem_of_getElem? (i := 2) rfl))) (mvT hZ (hw _ (List.mem_of_getElem? (i := 3) rfl))) (mvT hZ (hw _ (List.mem_of_getElem? (i := 4) rfl))) (by decide) (backOf (W := 0) (rm1 l Z a0 hw [] (p3 &&& (1073741823 : Int32)) (p2 &&& (1073741823 : Int32)) T4.heap n0 Z4) hZ (hw _ (List.mem_of_getElem? (i := 4) rfl)) (hw _ (List.mem_of_getElem? (i := 3) rfl)) (by decide) (by decide)) (g := (mkF m 44 #[.val (.int p1), .val (.int p2), .val (.int p3), .val (.int (p2 &&& (1073741823 : Int32))), .val (.int (p3 &&& (1073741823 : Int32))), .val (.int (own_sum (p2 &&& (1073741823 : Int32)) (p3 &&& (1073741823 : Int32)))), .unset] [(.int (p2 &&& (1073741823 : Int32))), (.int (p3 &&& (1073741823 : Int32)))])) rfl (by rw [hml]; rfl) (argsL := [(.int (p3 &&& (1073741823 : Int32))), (.int (p2 &&& (1073741823 : Int32)))]) (rest := []) (lenOf pd_0_0 rfl) rfl (by show 2 * 0 + _ ≤ _; exact Nat.le_of_eq rfl) (hb hby at_44) (fun _ _ => ⟨rfl, rfl, (by decide : 0 + 0 ≤ _), (by decide : 0 + 0 ≤ _)⟩)
  dsimp only [Pt.U, Pt.locs, Pt.cells, Pt.slots] at X5 l5 y5 z5 st5 hQ5
  subst l5 y5 z5
  obtain ⟨rfl, N5q, e5q⟩ := hQ5
  have N5 := Fr.app N4 N5q
  obtain ⟨fs, hr, hrun, hended, hW, hsame⟩ := X5.leave (v := some (.int (1 : Int32))) (fun h => by rw [Bd.returns] at h; cases h)
  refine ⟨_, _, pre0 _ ?_, hrun, hended, _, _, rfl, ?_, ⟨_, rfl⟩, hW, hsame.mono (by decide) (by decide)⟩
  · show Steps p.tables e below (s₁.setTop (mkF m 0 #[.val (.int p1), .val (.int p2), .val (.int p3), .unset, .unset, .unset, .unset] [])) _
    refine XS.iloadN X0.here hx rfl (hb hby at_0) rfl ?_
    show Steps p.tables e below (s₁.setTop (mkF m 1 #[.val (.int p1), .val (.int p2), .val (.int p3), .unset, .unset, .unset, .unset] [(.int p1)])) _
    refine XS.iconst X0.here hx rfl (hb hby at_1) ?_
    show Steps p.tables e below (s₁.setTop (mkF m 2 #[.val (.int p1), .val (.int p2), .val (.int p3), .unset, .unset, .unset, .unset] [(.int (1 : Int32)), (.int p1)])) _
    refine XS.iand X0.here hx rfl (hb hby at_2) rfl ?_
    show Steps p.tables e below (s₁.setTop (mkF m 3 #[.val (.int p1), .val (.int p2), .val (.int p3), .unset, .unset, .unset, .unset] [(.int (p1 &&& (1 : Int32)))])) _
    refine XS.ifYes X0.here hx rfl (pc0 := 3) (pc' := 11) rfl (hb hby at_3) rfl ((if0 _ _).trans (teq hc3).1) (by decide) (by decide) ?_
    show Steps p.tables e below (s₁.setTop (mkF m 11 #[.val (.int p1), .val (.int p2), .val (.int p3), .unset, .unset, .unset, .unset] [])) _
    refine XS.iloadN X0.here hx rfl (hb hby at_11) rfl ?_
    show Steps p.tables e below (s₁.setTop (mkF m 12 #[.val (.int p1), .val (.int p2), .val (.int p3), .unset, .unset, .unset, .unset] [(.int p2)])) _
    refine X0.ldcInt hx hown (mvT hZ (hw _ (List.mem_of_getElem? (i := 0) rfl))) (g := (mkF m 12 #[.val (.int p1), .val (.int p2), .val (.int p3), .unset, .unset, .unset, .unset] [(.int p2)])) rfl (hb hby at_12) _ ?_
    show Steps p.tables e below (s₁.setTop (mkF m 14 #[.val (.int p1), .val (.int p2), .val (.int p3), .unset, .unset, .unset, .unset] [(.int (1073741823 : Int32)), (.int p2)])) _
    refine XS.iand X0.here hx rfl (hb hby at_14) rfl ?_
    show Steps p.tables e below (s₁.setTop (mkF m 15 #[.val (.int p1), .val (.int p2), .val (.int p3), .unset, .unset, .unset, .unset] [(.int (p2 &&& (1073741823 : Int32)))])) _
    refine XS.istoreN X0.here hx rfl (hb hby at_15) rfl (l' := #[.val (.int p1), .val (.int p2), .val (.int p3), .val (.int (p2 &&& (1073741823 : Int32))), .unset, .unset, .unset]) rfl ?_
    show Steps p.tables e below (s₁.setTop (mkF m 16 #[.val (.int p1), .val (.int p2), .val (.int p3), .val (.int (p2 &&& (1073741823 : Int32))), .unset, .unset, .unset] [])) _
    refine XS.iloadN X0.here hx rfl (hb hby at_16) rfl ?_
    show Steps p.tables e below (s₁.setTop (mkF m 17 #[.val (.int p1), .val (.int p2), .val (.int p3), .val (.int (p2 &&& (1073741823 : Int32))), .unset, .unset, .unset] [(.int p1)])) _
    refine XS.iconst X0.here hx rfl (hb hby at_17) ?_
    show Steps p.tables e below (s₁.setTop (mkF m 18 #[.val (.int p1), .val (.int p2), .val (.int p3), .val (.int (p2 &&& (1073741823 : Int32))), .unset, .unset, .unset] [(.int (2 : Int32)), (.int p1)])) _
    refine XS.iand X0.here hx rfl (hb hby at_18) rfl ?_
    show Steps p.tables e below (s₁.setTop (mkF m 19 #[.val (.int p1), .val (.int p2), .val (.int p3), .val (.int (p2 &&& (1073741823 : Int32))), .unset, .unset, .unset] [(.int (p1 &&& (2 : Int32)))])) _
    refine XS.ifYes X0.here hx rfl (pc0 := 19) (pc' := 27) rfl (hb hby at_19) rfl ((if0 _ _).trans (teq hc19).1) (by decide) (by decide) ?_
    show Steps p.tables e below (s₁.setTop (mkF m 27 #[.val (.int p1), .val (.int p2), .val (.int p3), .val (.int (p2 &&& (1073741823 : Int32))), .unset, .unset, .unset] [])) _
    refine XS.iloadN X0.here hx rfl (hb hby at_27) rfl ?_
    show Steps p.tables e below (s₁.setTop (mkF m 28 #[.val (.int p1), .val (.int p2), .val (.int p3), .val (.int (p2 &&& (1073741823 : Int32))), .unset, .unset, .unset] [(.int p3)])) _
    refine X0.ldcInt hx hown (mvT hZ (hw _ (List.mem_of_getElem? (i := 0) rfl))) (g := (mkF m 28 #[.val (.int p1), .val (.int p2), .val (.int p3), .val (.int (p2 &&& (1073741823 : Int32))), .unset, .unset, .unset] [(.int p3)])) rfl (hb hby at_28) _ ?_
    show Steps p.tables e below (s₁.setTop (mkF m 30 #[.val (.int p1), .val (.int p2), .val (.int p3), .val (.int (p2 &&& (1073741823 : Int32))), .unset, .unset, .unset] [(.int (1073741823 : Int32)), (.int p3)])) _
    refine XS.iand X0.here hx rfl (hb hby at_30) rfl ?_
    show Steps p.tables e below (s₁.setTop (mkF m 31 #[.val (.int p1), .val (.int p2), .val (.int p3), .val (.int (p2 &&& (1073741823 : Int32))), .unset, .unset, .unset] [(.int (p3 &&& (1073741823 : Int32)))])) _
    refine XS.istore X0.here hx rfl (hb hby at_31) rfl (l' := #[.val (.int p1), .val (.int p2), .val (.int p3), .val (.int (p2 &&& (1073741823 : Int32))), .val (.int (p3 &&& (1073741823 : Int32))), .unset, .unset]) rfl ?_
    show Steps p.tables e below (s₁.setTop (mkF m 33 #[.val (.int p1), .val (.int p2), .val (.int p3), .val (.int (p2 &&& (1073741823 : Int32))), .val (.int (p3 &&& (1073741823 : Int32))), .unset, .unset] [])) _
    refine XS.iloadN X0.here hx rfl (hb hby at_33) rfl ?_
    show Steps p.tables e below (s₁.setTop (mkF m 34 #[.val (.int p1), .val (.int p2), .val (.int p3), .val (.int (p2 &&& (1073741823 : Int32))), .val (.int (p3 &&& (1073741823 : Int32))), .unset, .unset] [(.int (p2 &&& (1073741823 : Int32)))])) _
    refine XS.iload X0.here hx rfl (hb hby at_34) rfl ?_
    show Steps p.tables e below (s₁.setTop (mkF m 36 #[.val (.int p1), .val (.int p2), .val (.int p3), .val (.int (p2 &&& (1073741823 : Int32))), .val (.int (p3 &&& (1073741823 : Int32))), .unset, .unset] [(.int (p3 &&& (1073741823 : Int32))), (.int (p2 &&& (1073741823 : Int32)))])) _
    refine st4 _ ?_
    show Steps p.tables e below (T4.setTop (mkF m 39 #[.val (.int p1), .val (.int p2), .val (.int p3), .val (.int (p2 &&& (1073741823 : Int32))), .val (.int (p3 &&& (1073741823 : Int32))), .unset, .unset] [(.int (own_sum (p2 &&& (1073741823 : Int32)) (p3 &&& (1073741823 : Int32))))])) _
    refine XS.istore X4.here hx rfl (hb hby at_39) rfl (l' := #[.val (.int p1), .val (.int p2), .val (.int p3), .val (.int (p2 &&& (1073741823 : Int32))), .val (.int (p3 &&& (1073741823 : Int32))), .val (.int (own_sum (p2 &&& (1073741823 : Int32)) (p3 &&& (1073741823 : Int32)))), .unset]) rfl ?_
    show Steps p.tables e below (T4.setTop (mkF m 41 #[.val (.int p1), .val (.int p2), .val (.int p3), .val (.int (p2 &&& (1073741823 : Int32))), .val (.int (p3 &&& (1073741823 : Int32))), .val (.int (own_sum (p2 &&& (1073741823 : Int32)) (p3 &&& (1073741823 : Int32)))), .unset] [])) _
    refine XS.iload X4.here hx rfl (hb hby at_41) rfl ?_
    show Steps p.tables e below (T4.setTop (mkF m 43 #[.val (.int p1), .val (.int p2), .val (.int p3), .val (.int (p2 &&& (1073741823 : Int32))), .val (.int (p3 &&& (1073741823 : Int32))), .val (.int (own_sum (p2 &&& (1073741823 : Int32)) (p3 &&& (1073741823 : Int32)))), .unset] [(.int (p3 &&& (1073741823 : Int32)))])) _
    refine XS.iloadN X4.here hx rfl (hb hby at_43) rfl ?_
    show Steps p.tables e below (T4.setTop (mkF m 44 #[.val (.int p1), .val (.int p2), .val (.int p3), .val (.int (p2 &&& (1073741823 : Int32))), .val (.int (p3 &&& (1073741823 : Int32))), .val (.int (own_sum (p2 &&& (1073741823 : Int32)) (p3 &&& (1073741823 : Int32)))), .unset] [(.int (p2 &&& (1073741823 : Int32))), (.int (p3 &&& (1073741823 : Int32)))])) _
    refine st5 _ ?_
    show Steps p.tables e below (T5.setTop (mkF m 47 #[.val (.int p1), .val (.int p2), .val (.int p3), .val (.int (p2 &&& (1073741823 : Int32))), .val (.int (p3 &&& (1073741823 : Int32))), .val (.int (own_sum (p2 &&& (1073741823 : Int32)) (p3 &&& (1073741823 : Int32)))), .unset] [(.int (own_sum (p3 &&& (1073741823 : Int32)) (p2 &&& (1073741823 : Int32))))])) _
    refine XS.istore X5.here hx rfl (hb hby at_47) rfl (l' := #[.val (.int p1), .val (.int p2), .val (.int p3), .val (.int (p2 &&& (1073741823 : Int32))), .val (.int (p3 &&& (1073741823 : Int32))), .val (.int (own_sum (p2 &&& (1073741823 : Int32)) (p3 &&& (1073741823 : Int32)))), .val (.int (own_sum (p3 &&& (1073741823 : Int32)) (p2 &&& (1073741823 : Int32))))]) rfl ?_
    show Steps p.tables e below (T5.setTop (mkF m 49 #[.val (.int p1), .val (.int p2), .val (.int p3), .val (.int (p2 &&& (1073741823 : Int32))), .val (.int (p3 &&& (1073741823 : Int32))), .val (.int (own_sum (p2 &&& (1073741823 : Int32)) (p3 &&& (1073741823 : Int32)))), .val (.int (own_sum (p3 &&& (1073741823 : Int32)) (p2 &&& (1073741823 : Int32))))] [])) _
    refine XS.iloadN X5.here hx rfl (hb hby at_49) rfl ?_
    show Steps p.tables e below (T5.setTop (mkF m 50 #[.val (.int p1), .val (.int p2), .val (.int p3), .val (.int (p2 &&& (1073741823 : Int32))), .val (.int (p3 &&& (1073741823 : Int32))), .val (.int (own_sum (p2 &&& (1073741823 : Int32)) (p3 &&& (1073741823 : Int32)))), .val (.int (own_sum (p3 &&& (1073741823 : Int32)) (p2 &&& (1073741823 : Int32))))] [(.int (p2 &&& (1073741823 : Int32)))])) _
    refine X5.ldcInt hx hown (mvT hZ (hw _ (List.mem_of_getElem? (i := 6) rfl))) (g := (mkF m 50 #[.val (.int p1), .val (.int p2), .val (.int p3), .val (.int (p2 &&& (1073741823 : Int32))), .val (.int (p3 &&& (1073741823 : Int32))), .val (.int (own_sum (p2 &&& (1073741823 : Int32)) (p3 &&& (1073741823 : Int32)))), .val (.int (own_sum (p3 &&& (1073741823 : Int32)) (p2 &&& (1073741823 : Int32))))] [(.int (p2 &&& (1073741823 : Int32)))])) rfl (hb hby at_50) _ ?_
    show Steps p.tables e below (T5.setTop (mkF m 52 #[.val (.int p1), .val (.int p2), .val (.int p3), .val (.int (p2 &&& (1073741823 : Int32))), .val (.int (p3 &&& (1073741823 : Int32))), .val (.int (own_sum (p2 &&& (1073741823 : Int32)) (p3 &&& (1073741823 : Int32)))), .val (.int (own_sum (p3 &&& (1073741823 : Int32)) (p2 &&& (1073741823 : Int32))))] [(.int (2147483647 : Int32)), (.int (p2 &&& (1073741823 : Int32)))])) _
    refine XS.icmpNo X5.here hx rfl (hb hby at_52) rfl (feq hc52).1 ?_
    show Steps p.tables e below (T5.setTop (mkF m 55 #[.val (.int p1), .val (.int p2), .val (.int p3), .val (.int (p2 &&& (1073741823 : Int32))), .val (.int (p3 &&& (1073741823 : Int32))), .val (.int (own_sum (p2 &&& (1073741823 : Int32)) (p3 &&& (1073741823 : Int32)))), .val (.int (own_sum (p3 &&& (1073741823 : Int32)) (p2 &&& (1073741823 : Int32))))] [])) _
    refine XS.iload X5.here hx rfl (hb hby at_55) rfl ?_
    show Steps p.tables e below (T5.setTop (mkF m 57 #[.val (.int p1), .val (.int p2), .val (.int p3), .val (.int (p2 &&& (1073741823 : Int32))), .val (.int (p3 &&& (1073741823 : Int32))), .val (.int (own_sum (p2 &&& (1073741823 : Int32)) (p3 &&& (1073741823 : Int32)))), .val (.int (own_sum (p3 &&& (1073741823 : Int32)) (p2 &&& (1073741823 : Int32))))] [(.int (p3 &&& (1073741823 : Int32)))])) _
    refine X5.ldcInt hx hown (mvT hZ (hw _ (List.mem_of_getElem? (i := 6) rfl))) (g := (mkF m 57 #[.val (.int p1), .val (.int p2), .val (.int p3), .val (.int (p2 &&& (1073741823 : Int32))), .val (.int (p3 &&& (1073741823 : Int32))), .val (.int (own_sum (p2 &&& (1073741823 : Int32)) (p3 &&& (1073741823 : Int32)))), .val (.int (own_sum (p3 &&& (1073741823 : Int32)) (p2 &&& (1073741823 : Int32))))] [(.int (p3 &&& (1073741823 : Int32)))])) rfl (hb hby at_57) _ ?_
    show Steps p.tables e below (T5.setTop (mkF m 59 #[.val (.int p1), .val (.int p2), .val (.int p3), .val (.int (p2 &&& (1073741823 : Int32))), .val (.int (p3 &&& (1073741823 : Int32))), .val (.int (own_sum (p2 &&& (1073741823 : Int32)) (p3 &&& (1073741823 : Int32)))), .val (.int (own_sum (p3 &&& (1073741823 : Int32)) (p2 &&& (1073741823 : Int32))))] [(.int (2147483647 : Int32)), (.int (p3 &&& (1073741823 : Int32)))])) _
    refine XS.icmpYes X5.here hx rfl (pc0 := 59) (pc' := 82) rfl (hb hby at_59) rfl (feq hc59).2 (by decide) (by decide) ?_
    show Steps p.tables e below (T5.setTop (mkF m 82 #[.val (.int p1), .val (.int p2), .val (.int p3), .val (.int (p2 &&& (1073741823 : Int32))), .val (.int (p3 &&& (1073741823 : Int32))), .val (.int (own_sum (p2 &&& (1073741823 : Int32)) (p3 &&& (1073741823 : Int32)))), .val (.int (own_sum (p3 &&& (1073741823 : Int32)) (p2 &&& (1073741823 : Int32))))] [])) _
    refine XS.iload X5.here hx rfl (hb hby at_82) rfl ?_
    show Steps p.tables e below (T5.setTop (mkF m 84 #[.val (.int p1), .val (.int p2), .val (.int p3), .val (.int (p2 &&& (1073741823 : Int32))), .val (.int (p3 &&& (1073741823 : Int32))), .val (.int (own_sum (p2 &&& (1073741823 : Int32)) (p3 &&& (1073741823 : Int32)))), .val (.int (own_sum (p3 &&& (1073741823 : Int32)) (p2 &&& (1073741823 : Int32))))] [(.int (own_sum (p2 &&& (1073741823 : Int32)) (p3 &&& (1073741823 : Int32))))])) _
    refine X5.ldcInt hx hown (mvT hZ (hw _ (List.mem_of_getElem? (i := 6) rfl))) (g := (mkF m 84 #[.val (.int p1), .val (.int p2), .val (.int p3), .val (.int (p2 &&& (1073741823 : Int32))), .val (.int (p3 &&& (1073741823 : Int32))), .val (.int (own_sum (p2 &&& (1073741823 : Int32)) (p3 &&& (1073741823 : Int32)))), .val (.int (own_sum (p3 &&& (1073741823 : Int32)) (p2 &&& (1073741823 : Int32))))] [(.int (own_sum (p2 &&& (1073741823 : Int32)) (p3 &&& (1073741823 : Int32))))])) rfl (hb hby at_84) _ ?_
    show Steps p.tables e below (T5.setTop (mkF m 86 #[.val (.int p1), .val (.int p2), .val (.int p3), .val (.int (p2 &&& (1073741823 : Int32))), .val (.int (p3 &&& (1073741823 : Int32))), .val (.int (own_sum (p2 &&& (1073741823 : Int32)) (p3 &&& (1073741823 : Int32)))), .val (.int (own_sum (p3 &&& (1073741823 : Int32)) (p2 &&& (1073741823 : Int32))))] [(.int (2147483647 : Int32)), (.int (own_sum (p2 &&& (1073741823 : Int32)) (p3 &&& (1073741823 : Int32))))])) _
    refine XS.icmpNo X5.here hx rfl (hb hby at_86) rfl (feq (htwo.1 : ¬ ((own_sum (p2 &&& (1073741823 : Int32)) (p3 &&& (1073741823 : Int32))) = (2147483647 : Int32)))).1 ?_
    show Steps p.tables e below (T5.setTop (mkF m 89 #[.val (.int p1), .val (.int p2), .val (.int p3), .val (.int (p2 &&& (1073741823 : Int32))), .val (.int (p3 &&& (1073741823 : Int32))), .val (.int (own_sum (p2 &&& (1073741823 : Int32)) (p3 &&& (1073741823 : Int32)))), .val (.int (own_sum (p3 &&& (1073741823 : Int32)) (p2 &&& (1073741823 : Int32))))] [])) _
    refine XS.iload X5.here hx rfl (hb hby at_89) rfl ?_
    show Steps p.tables e below (T5.setTop (mkF m 91 #[.val (.int p1), .val (.int p2), .val (.int p3), .val (.int (p2 &&& (1073741823 : Int32))), .val (.int (p3 &&& (1073741823 : Int32))), .val (.int (own_sum (p2 &&& (1073741823 : Int32)) (p3 &&& (1073741823 : Int32)))), .val (.int (own_sum (p3 &&& (1073741823 : Int32)) (p2 &&& (1073741823 : Int32))))] [(.int (own_sum (p2 &&& (1073741823 : Int32)) (p3 &&& (1073741823 : Int32))))])) _
    refine XS.iloadN X5.here hx rfl (hb hby at_91) rfl ?_
    show Steps p.tables e below (T5.setTop (mkF m 92 #[.val (.int p1), .val (.int p2), .val (.int p3), .val (.int (p2 &&& (1073741823 : Int32))), .val (.int (p3 &&& (1073741823 : Int32))), .val (.int (own_sum (p2 &&& (1073741823 : Int32)) (p3 &&& (1073741823 : Int32)))), .val (.int (own_sum (p3 &&& (1073741823 : Int32)) (p2 &&& (1073741823 : Int32))))] [(.int (p2 &&& (1073741823 : Int32))), (.int (own_sum (p2 &&& (1073741823 : Int32)) (p3 &&& (1073741823 : Int32))))])) _
    refine XS.isub X5.here hx rfl (hb hby at_92) rfl ?_
    show Steps p.tables e below (T5.setTop (mkF m 93 #[.val (.int p1), .val (.int p2), .val (.int p3), .val (.int (p2 &&& (1073741823 : Int32))), .val (.int (p3 &&& (1073741823 : Int32))), .val (.int (own_sum (p2 &&& (1073741823 : Int32)) (p3 &&& (1073741823 : Int32)))), .val (.int (own_sum (p3 &&& (1073741823 : Int32)) (p2 &&& (1073741823 : Int32))))] [(.int ((own_sum (p2 &&& (1073741823 : Int32)) (p3 &&& (1073741823 : Int32))) - (p2 &&& (1073741823 : Int32))))])) _
    refine XS.iload X5.here hx rfl (hb hby at_93) rfl ?_
    show Steps p.tables e below (T5.setTop (mkF m 95 #[.val (.int p1), .val (.int p2), .val (.int p3), .val (.int (p2 &&& (1073741823 : Int32))), .val (.int (p3 &&& (1073741823 : Int32))), .val (.int (own_sum (p2 &&& (1073741823 : Int32)) (p3 &&& (1073741823 : Int32)))), .val (.int (own_sum (p3 &&& (1073741823 : Int32)) (p2 &&& (1073741823 : Int32))))] [(.int (p3 &&& (1073741823 : Int32))), (.int ((own_sum (p2 &&& (1073741823 : Int32)) (p3 &&& (1073741823 : Int32))) - (p2 &&& (1073741823 : Int32))))])) _
    refine XS.icmpNo X5.here hx rfl (hb hby at_95) rfl (teq (htwo.2.1 : ((own_sum (p2 &&& (1073741823 : Int32)) (p3 &&& (1073741823 : Int32))) - (p2 &&& (1073741823 : Int32))) = (p3 &&& (1073741823 : Int32)))).2 ?_
    show Steps p.tables e below (T5.setTop (mkF m 98 #[.val (.int p1), .val (.int p2), .val (.int p3), .val (.int (p2 &&& (1073741823 : Int32))), .val (.int (p3 &&& (1073741823 : Int32))), .val (.int (own_sum (p2 &&& (1073741823 : Int32)) (p3 &&& (1073741823 : Int32)))), .val (.int (own_sum (p3 &&& (1073741823 : Int32)) (p2 &&& (1073741823 : Int32))))] [])) _
    refine XS.iload X5.here hx rfl (hb hby at_98) rfl ?_
    show Steps p.tables e below (T5.setTop (mkF m 100 #[.val (.int p1), .val (.int p2), .val (.int p3), .val (.int (p2 &&& (1073741823 : Int32))), .val (.int (p3 &&& (1073741823 : Int32))), .val (.int (own_sum (p2 &&& (1073741823 : Int32)) (p3 &&& (1073741823 : Int32)))), .val (.int (own_sum (p3 &&& (1073741823 : Int32)) (p2 &&& (1073741823 : Int32))))] [(.int (own_sum (p2 &&& (1073741823 : Int32)) (p3 &&& (1073741823 : Int32))))])) _
    refine XS.iloadN X5.here hx rfl (hb hby at_100) rfl ?_
    show Steps p.tables e below (T5.setTop (mkF m 101 #[.val (.int p1), .val (.int p2), .val (.int p3), .val (.int (p2 &&& (1073741823 : Int32))), .val (.int (p3 &&& (1073741823 : Int32))), .val (.int (own_sum (p2 &&& (1073741823 : Int32)) (p3 &&& (1073741823 : Int32)))), .val (.int (own_sum (p3 &&& (1073741823 : Int32)) (p2 &&& (1073741823 : Int32))))] [(.int (p2 &&& (1073741823 : Int32))), (.int (own_sum (p2 &&& (1073741823 : Int32)) (p3 &&& (1073741823 : Int32))))])) _
    refine XS.icmpNo X5.here hx rfl (hb hby at_101) rfl (flt (htwo.2.2.1 : ¬ ((own_sum (p2 &&& (1073741823 : Int32)) (p3 &&& (1073741823 : Int32))) < (p2 &&& (1073741823 : Int32))))).1 ?_
    show Steps p.tables e below (T5.setTop (mkF m 104 #[.val (.int p1), .val (.int p2), .val (.int p3), .val (.int (p2 &&& (1073741823 : Int32))), .val (.int (p3 &&& (1073741823 : Int32))), .val (.int (own_sum (p2 &&& (1073741823 : Int32)) (p3 &&& (1073741823 : Int32)))), .val (.int (own_sum (p3 &&& (1073741823 : Int32)) (p2 &&& (1073741823 : Int32))))] [])) _
    refine XS.iload X5.here hx rfl (hb hby at_104) rfl ?_
    show Steps p.tables e below (T5.setTop (mkF m 106 #[.val (.int p1), .val (.int p2), .val (.int p3), .val (.int (p2 &&& (1073741823 : Int32))), .val (.int (p3 &&& (1073741823 : Int32))), .val (.int (own_sum (p2 &&& (1073741823 : Int32)) (p3 &&& (1073741823 : Int32)))), .val (.int (own_sum (p3 &&& (1073741823 : Int32)) (p2 &&& (1073741823 : Int32))))] [(.int (own_sum (p2 &&& (1073741823 : Int32)) (p3 &&& (1073741823 : Int32))))])) _
    refine XS.iload X5.here hx rfl (hb hby at_106) rfl ?_
    show Steps p.tables e below (T5.setTop (mkF m 108 #[.val (.int p1), .val (.int p2), .val (.int p3), .val (.int (p2 &&& (1073741823 : Int32))), .val (.int (p3 &&& (1073741823 : Int32))), .val (.int (own_sum (p2 &&& (1073741823 : Int32)) (p3 &&& (1073741823 : Int32)))), .val (.int (own_sum (p3 &&& (1073741823 : Int32)) (p2 &&& (1073741823 : Int32))))] [(.int (p3 &&& (1073741823 : Int32))), (.int (own_sum (p2 &&& (1073741823 : Int32)) (p3 &&& (1073741823 : Int32))))])) _
    refine XS.icmpNo X5.here hx rfl (hb hby at_108) rfl (flt (htwo.2.2.2.1 : ¬ ((own_sum (p2 &&& (1073741823 : Int32)) (p3 &&& (1073741823 : Int32))) < (p3 &&& (1073741823 : Int32))))).1 ?_
    show Steps p.tables e below (T5.setTop (mkF m 111 #[.val (.int p1), .val (.int p2), .val (.int p3), .val (.int (p2 &&& (1073741823 : Int32))), .val (.int (p3 &&& (1073741823 : Int32))), .val (.int (own_sum (p2 &&& (1073741823 : Int32)) (p3 &&& (1073741823 : Int32)))), .val (.int (own_sum (p3 &&& (1073741823 : Int32)) (p2 &&& (1073741823 : Int32))))] [])) _
    refine XS.iload X5.here hx rfl (hb hby at_111) rfl ?_
    show Steps p.tables e below (T5.setTop (mkF m 113 #[.val (.int p1), .val (.int p2), .val (.int p3), .val (.int (p2 &&& (1073741823 : Int32))), .val (.int (p3 &&& (1073741823 : Int32))), .val (.int (own_sum (p2 &&& (1073741823 : Int32)) (p3 &&& (1073741823 : Int32)))), .val (.int (own_sum (p3 &&& (1073741823 : Int32)) (p2 &&& (1073741823 : Int32))))] [(.int (own_sum (p3 &&& (1073741823 : Int32)) (p2 &&& (1073741823 : Int32))))])) _
    refine XS.iload X5.here hx rfl (hb hby at_113) rfl ?_
    show Steps p.tables e below (T5.setTop (mkF m 115 #[.val (.int p1), .val (.int p2), .val (.int p3), .val (.int (p2 &&& (1073741823 : Int32))), .val (.int (p3 &&& (1073741823 : Int32))), .val (.int (own_sum (p2 &&& (1073741823 : Int32)) (p3 &&& (1073741823 : Int32)))), .val (.int (own_sum (p3 &&& (1073741823 : Int32)) (p2 &&& (1073741823 : Int32))))] [(.int (own_sum (p2 &&& (1073741823 : Int32)) (p3 &&& (1073741823 : Int32)))), (.int (own_sum (p3 &&& (1073741823 : Int32)) (p2 &&& (1073741823 : Int32))))])) _
    refine XS.icmpNo X5.here hx rfl (hb hby at_115) rfl (teq (htwo.2.2.2.2 : (own_sum (p3 &&& (1073741823 : Int32)) (p2 &&& (1073741823 : Int32))) = (own_sum (p2 &&& (1073741823 : Int32)) (p3 &&& (1073741823 : Int32))))).2 ?_
    show Steps p.tables e below (T5.setTop (mkF m 118 #[.val (.int p1), .val (.int p2), .val (.int p3), .val (.int (p2 &&& (1073741823 : Int32))), .val (.int (p3 &&& (1073741823 : Int32))), .val (.int (own_sum (p2 &&& (1073741823 : Int32)) (p3 &&& (1073741823 : Int32)))), .val (.int (own_sum (p3 &&& (1073741823 : Int32)) (p2 &&& (1073741823 : Int32))))] [])) _
    refine XS.iconst X5.here hx rfl (hb hby at_118) ?_
    show Steps p.tables e below (T5.setTop (mkF m 119 #[.val (.int p1), .val (.int p2), .val (.int p3), .val (.int (p2 &&& (1073741823 : Int32))), .val (.int (p3 &&& (1073741823 : Int32))), .val (.int (own_sum (p2 &&& (1073741823 : Int32)) (p3 &&& (1073741823 : Int32)))), .val (.int (own_sum (p3 &&& (1073741823 : Int32)) (p2 &&& (1073741823 : Int32))))] [(.int (1 : Int32))])) _
    refine XS.goto X5.here hx rfl (pc0 := 119) (pc' := 123) rfl (hb hby at_119) (by decide) (by decide) ?_
    show Steps p.tables e below (T5.setTop (mkF m 123 #[.val (.int p1), .val (.int p2), .val (.int p3), .val (.int (p2 &&& (1073741823 : Int32))), .val (.int (p3 &&& (1073741823 : Int32))), .val (.int (own_sum (p2 &&& (1073741823 : Int32)) (p3 &&& (1073741823 : Int32)))), .val (.int (own_sum (p3 &&& (1073741823 : Int32)) (p2 &&& (1073741823 : Int32))))] [(.int (1 : Int32))])) _
    exact retN X5 hx (t := .boolean) Bd.returns (by simp) (hb hby at_123) hr
  · show Q0 Z p1 p2 p3 h0 n0 _ T5.heap _
    exact ⟨rfl, N5⟩
theorem rm0 (l : Launch) (Z : State) (a0 : Array Value) (hw : ∀ d ∈ tables_1, d.before a0 Z = true) (ws : List Jvm.Cond) (p1 : Int32) (p2 : Int32) (p3 : Int32) (h0 : Heap) (n0 : Nat) (Z0 : n0 ≤ h0.size) :
    MetFree l x (head1 (Jvm.Cond.code x code maxLocals ret :: ws) room_1) (fun a U => a = #[(.int p1), (.int p2), (.int p3)] ∧ Z.Warmed39 U.vm ∧ U.heap = h0) (fun _ _ _ _ _ => True) (fun _ U o U' => ∃ v L, o = .returned v ∧ Q0 Z p1 p2 p3 h0 n0 v U'.heap L ∧ FrameEnd U o U' L room_1.cells room_1.slots) := by
  by_cases h1 : (p1 &&& (1 : Int32)) = (0 : Int32)
  · by_cases h2 : (p1 &&& (2 : Int32)) = (0 : Int32)
    · exact rm0_ttftfffff l Z a0 hw ws p1 p2 p3 h0 n0 Z0 h1 h2 (own_mne p2) (own_mne p3)
    · exact rm0_tfffff l Z a0 hw ws p1 p2 p3 h0 n0 Z0 h1 h2 (own_mne p2)
  · by_cases h2 : (p1 &&& (2 : Int32)) = (0 : Int32)
    · exact rm0_fttff l Z a0 hw ws p1 p2 p3 h0 n0 Z0 h1 h2
    · exact rm0_fftff l Z a0 hw ws p1 p2 p3 h0 n0 Z0 h1 h2
set_option maxRecDepth 65536 in
set_option maxHeartbeats 40000000 in
theorem comes_1 {Post : Tables → Env → Array Value → State → Outcome → State → Prop} (hpost : ∀ tb e args s v u, (limb_1_1.after args s (.returned v) u = true ∧ limb_1_2.after args s (.returned v) u = true ∧ True) → FrameEnd s (.returned v) u (Jvm.fieldLocs frame_1_writes args s ++ Jvm.arrayLocs frame_1_arrays args s ++ Jvm.staticLocs frame_1_statics s) 0 0 → Post tb e args s (.returned v) u) :
    ArmFor flags0 classFile x code maxLocals ret World_1 tables_1 room_1 Calls_1 rest_1 Pre_1 Post := by
  intro l hfl _ _ p e ha hc hk s m args below hf hA hF happ hP
  obtain ⟨hcalls, hrest, hpre⟩ := hP
  obtain ⟨-, -, -, hnamed, -, -, -, hat⟩ := (Spec.applies_iff hf).mp happ
  obtain ⟨hg, hn⟩ := and_e (Cond.before_iff.mp (show (Jvm.Cond.and given_1 narrow_1).before args s = true from hpre))
  obtain ⟨g6, g7⟩ := and_e hg
  obtain ⟨g8, g9⟩ := and_e g7
  obtain ⟨g10, g11⟩ := and_e g9
  obtain ⟨w0, w1, w2, rfl⟩ : ∃ w0 w1 w2 : Value, args = #[w0, w1, w2] := by
    have hs : args.size = 3 := by simpa [Cond.value, given_1] using g6
    obtain ⟨L⟩ := args
    match L, hs with
    | [w0, w1, w2], _ => exact ⟨w0, w1, w2, rfl⟩
  have hw := fun d (hd : d ∈ tables_1) => atoms_spec (ws := Jvm.Cond.code x code maxLocals ret :: tables_1) hat d (List.mem_cons_of_mem _ hd)
  have hfit : Fit s := fun {y c} hc i hi => by
    obtain ⟨ha, rfl⟩ := Array.getElem?_eq_some_iff.mp hc
    have q := List.all_eq_true.mp ((Array.all_eq_true_iff_forall_mem.mp hF) _ (Array.getElem_mem ha)) i (List.mem_range.mpr hi)
    simpa [Array.getElem?_eq_getElem hi] using q
  obtain ⟨i0, ei0⟩ := is_v g8
  obtain rfl : w0 = (.int i0) := Option.some.inj ei0
  obtain ⟨i1, ei1⟩ := is_v g10
  obtain rfl : w1 = (.int i1) := Option.some.inj ei1
  obtain ⟨i2, ei2⟩ := is_v g11
  obtain rfl : w2 = (.int i2) := Option.some.inj ei2
  obtain ⟨n, o, h1, h2, h3, _, L, rfl, ⟨rfl, N⟩, hq⟩ := rm0 l s _ hw tables_1 i0 i1 i2 s.heap s.heap.size (Nat.le_refl _) p e ha hc hk s m _ below hf ((Spec.applies_iff_loose hf).mp happ).1 ⟨rfl, State.Warmed39.refl s, rfl⟩ trivial
  refine ⟨n, _, h1, h2, h3, hpost _ _ _ _ _ _ ⟨Cond.after_iff.mpr rfl, Cond.after_iff.mpr (eq_i res_at (Term.int_eval (1)) rfl), trivial⟩ ⟨hq.1, hq.2.1, (hq.2.2.sift fun y hy => Or.inr (N y hy)).mono (by decide) (by decide)⟩⟩
theorem main_1_1 : Claimed_1_1 := comes_1 fun _ _ _ _ _ _ h hF => ⟨h.1, hF⟩
theorem main_1_2 : Claimed_1_2 := comes_1 fun _ _ _ _ _ _ h hF => ⟨h.2.1, hF⟩
end Jvm.Pilot.@@N@@
namespace Jvm.Pilot.@@N@@
open Jvm Jvm.ClassFile Sem Op Lib Jvm.Free Jvm.Stand Jvm.Pilot.@@N@@.Jvm.D
/-! MADE BY PROGRAM (witnessworld.py) out of the Statement's table words and the real class files: 9 classes; the members and pool entries that the words name. The judged class is class 1, her method 1. -/
namespace start1
open Jvm.ClassFile
def u (s : String) : CpInfo := .utf8 (stringToUtf16 s)
/-- a pool by its gaps: so many unusable entries, then the entry; so many at the end -/
def gap : Nat → List CpInfo → List CpInfo
  | 0, r => r
  | n + 1, r => .unusable :: gap n r
def poolList (es : List (Nat × CpInfo)) (last : Nat) : List CpInfo := es.foldr (fun e r => gap e.1 (e.2 :: r)) (gap last [])
def pool (es : List (Nat × CpInfo)) (last : Nat) : Array CpInfo := ⟨poolList es last⟩
def fileOf (pool : Array CpInfo) (this : Nat) (attrs : Array Attribute := #[]) (ms : Array MethodInfo := #[]) (fl : Nat := 33) (sup : Nat := 0) (ifs : Array Nat := #[]) (fds : Array FieldInfo := #[]) : ClassFile where
  minorVersion := 0
  majorVersion := 65
  constantPool := pool
  accessFlags := fl
  thisClass := this
  superClass := sup
  interfaces := ifs
  fields := fds
  methods := ms
  attributes := attrs
def plain (name : String) (sup : Option ClassId) : Class where
  name := name
  kind := .ordinary
  loader := none
  accessFlags := 33
  super := sup
  interfaces := #[]
  cf := none
  fields := #[]
  methods := #[]
  instanceTypes := #[]
  staticTypes := #[]
  resolved := #[]
  callSites := []
  init := .initialized
  statics := none
  mirror := none

def pool0 : Array CpInfo := pool [(5, u "<init>"), (0, u "()V"), (1, .class_ 10), (1, u "java/lang/Object")] 113

def k0m0 : Method := { name := "<init>", desc := "()V", sig := { parameters := [], returnType := none }, accessFlags := 1, code := none }
/-- java/lang/Object -/
def k0 : Class := { plain "java/lang/Object" none with
  accessFlags := 33
  interfaces := #[]
  cf := some (fileOf pool0 8 #[] #[{ accessFlags := 1, nameIndex := 5, descriptorIndex := 6, attributes := #[] }] 33 0 #[] #[])
  fields := #[]
  methods := #[k0m0]
  instanceTypes := #[]
  staticTypes := #[]
  resolved := Array.replicate 124 none
  statics := none }

def pool1 : Array CpInfo := pool [(2, .class_ 4), (1, u "java/lang/Object"), (0, u "<init>"), (0, u "()V"), (0, .class_ 8), (0, u "com/example/trim_bends/trimbends/layout/BendCosts"), (0, .integer 2147483647), (0, .integer 1073741823), (0, .methodref 7 12), (0, .nameAndType 13 14), (0, u "sum"), (0, u "(II)I"), (0, .class_ 16), (0, u "com/example/trim_bends/trimbends/layout/BendCostsSumPinLaw"), (2, u "law"), (0, u "(III)Z")] 3

def k1m0 : Method := { name := "<init>", desc := "()V", sig := { parameters := [], returnType := none }, accessFlags := 1, code := none }
def k1c1 : Code := { maxStack := 2, maxLocals := 7, code := code, exceptionTable := #[], attributes := #[] }
def k1m1 : Method := { name := "law", desc := "(III)Z", sig := { parameters := [.int, .int, .int], returnType := some .boolean }, accessFlags := 9, code := some k1c1 }
/-- com/example/trim_bends/trimbends/layout/BendCostsSumPinLaw -/
def k1 : Class := { plain "com/example/trim_bends/trimbends/layout/BendCostsSumPinLaw" (some 0) with
  accessFlags := 49
  interfaces := #[]
  cf := some (fileOf pool1 15 #[] #[{ accessFlags := 1, nameIndex := 5, descriptorIndex := 6, attributes := #[] }, { accessFlags := 9, nameIndex := 19, descriptorIndex := 20, attributes := #[] }] 49 2 #[] #[])
  fields := #[]
  methods := #[k1m0, k1m1]
  instanceTypes := #[]
  staticTypes := #[]
  resolved := Array.replicate 24 none
  statics := none }

def pool2 : Array CpInfo := pool [(3, .class_ 4), (0, u "com/example/trim_bends/trimbends/layout/BendCosts"), (1, .class_ 8), (1, u "java/lang/Object"), (0, u "<init>"), (0, u "()V"), (2, u "costs"), (0, u "[I"), (0, .integer 2147483647), (8, u "EDGE"), (0, u "Lcom/example/trim_bends/trimbends/layout/BendCosts;"), (2, u "FREE"), (6, .class_ 37), (1, u "com/example/trim_bends/trimbends/layout/BendCosts$Costing"), (14, u "(II)I"), (1, .class_ 56), (1, u "com/example/trim_bends/trimbends/layout/BendCosts$SideBySide"), (5, .class_ 63), (0, u "com/example/trim_bends/trimbends/layout/BendCosts$ParallelSplit"), (0, .class_ 65), (0, u "com/example/trim_bends/trimbends/layout/BendCosts$Piece"), (21, .class_ 88), (0, u "com/example/trim_bends/trimbends/layout/BendCosts$SeriesReadBack"), (6, u "I"), (9, .class_ 106), (0, u "com/example/trim_bends/trimbends/layout/BendCosts$SeriesSplit"), (17, .class_ 126), (1, u "com/example/trim_bends/trimbends/layout/BendCosts$SeriesWays"), (1, .class_ 129), (0, u "com/example/trim_bends/trimbends/layout/BendCosts$Closing"), (7, u "sum"), (13, u "NONE"), (1, u "RANGE"), (1, u "POLE_ANGLES"), (1, u "SPIRALITIES"), (1, u "FULL_TURN")] 63

def k2m0 : Method := { name := "<init>", desc := "()V", sig := { parameters := [], returnType := none }, accessFlags := 2, code := none }
def k2c1 : Code := { maxStack := 2, maxLocals := 2, code := prog_19_method_15_code, exceptionTable := #[], attributes := #[] }
def k2m1 : Method := { name := "sum", desc := "(II)I", sig := { parameters := [.int, .int], returnType := some .int }, accessFlags := 8, code := some k2c1 }
/-- com/example/trim_bends/trimbends/layout/BendCosts -/
def k2 : Class := { plain "com/example/trim_bends/trimbends/layout/BendCosts" (some 0) with
  accessFlags := 48
  interfaces := #[]
  cf := some (fileOf pool2 3 #[.nestMembers #[87, 124, 54, 62, 105, 64, 128, 35]] #[{ accessFlags := 2, nameIndex := 9, descriptorIndex := 10, attributes := #[] }, { accessFlags := 8, nameIndex := 137, descriptorIndex := 52, attributes := #[] }] 48 6 #[] #[{ accessFlags := 24, nameIndex := 151, descriptorIndex := 95, attributes := #[] }, { accessFlags := 24, nameIndex := 153, descriptorIndex := 95, attributes := #[] }, { accessFlags := 26, nameIndex := 155, descriptorIndex := 95, attributes := #[] }, { accessFlags := 26, nameIndex := 157, descriptorIndex := 95, attributes := #[] }, { accessFlags := 26, nameIndex := 159, descriptorIndex := 95, attributes := #[] }, { accessFlags := 26, nameIndex := 24, descriptorIndex := 25, attributes := #[] }, { accessFlags := 26, nameIndex := 28, descriptorIndex := 25, attributes := #[] }, { accessFlags := 18, nameIndex := 13, descriptorIndex := 14, attributes := #[] }])
  fields := #[{ name := "NONE", type := .int, accessFlags := 24, slot := 0, constantValue := 0 }, { name := "RANGE", type := .int, accessFlags := 24, slot := 1, constantValue := 0 }, { name := "POLE_ANGLES", type := .int, accessFlags := 26, slot := 2, constantValue := 0 }, { name := "SPIRALITIES", type := .int, accessFlags := 26, slot := 3, constantValue := 0 }, { name := "FULL_TURN", type := .int, accessFlags := 26, slot := 4, constantValue := 0 }, { name := "EDGE", type := (.object "com/example/trim_bends/trimbends/layout/BendCosts"), accessFlags := 26, slot := 5, constantValue := 0 }, { name := "FREE", type := (.object "com/example/trim_bends/trimbends/layout/BendCosts"), accessFlags := 26, slot := 6, constantValue := 0 }, { name := "costs", type := (.array .int), accessFlags := 18, slot := 0, constantValue := 0 }]
  methods := #[k2m0, k2m1]
  instanceTypes := #[(.array .int)]
  staticTypes := #[.int, .int, .int, .int, .int, (.object "com/example/trim_bends/trimbends/layout/BendCosts"), (.object "com/example/trim_bends/trimbends/layout/BendCosts")]
  resolved := Array.replicate 223 none
  statics := none }

def pool3 : Array CpInfo := pool [(1, u "java/lang/Cloneable"), (0, .class_ 1), (0, u "java/lang/Object"), (0, .class_ 3)] 3

/-- java/lang/Cloneable -/
def k3 : Class := { plain "java/lang/Cloneable" (some 0) with
  accessFlags := 1537
  interfaces := #[]
  cf := some (fileOf pool3 2 #[] #[] 1537 4 #[] #[])
  fields := #[]
  methods := #[]
  instanceTypes := #[]
  staticTypes := #[]
  resolved := Array.replicate 8 none
  statics := none }

def pool4 : Array CpInfo := pool [(1, u "java/io/Serializable"), (0, .class_ 1), (0, u "java/lang/Object"), (0, .class_ 3)] 3

/-- java/io/Serializable -/
def k4 : Class := { plain "java/io/Serializable" (some 0) with
  accessFlags := 1537
  interfaces := #[]
  cf := some (fileOf pool4 2 #[] #[] 1537 4 #[] #[])
  fields := #[]
  methods := #[]
  instanceTypes := #[]
  staticTypes := #[]
  resolved := Array.replicate 8 none
  statics := none }

/-- the primitive byte -/
def k5 : Class := { plain "byte" none with kind := .primitive 'B', accessFlags := 0x411 }
/-- [B -/
def k6 : Class := { plain "[B" (some 0) with kind := .array 5 .byte, interfaces := #[3, 4], accessFlags := 1041 }

/-- the primitive int -/
def k7 : Class := { plain "int" none with kind := .primitive 'I', accessFlags := 0x411 }
/-- [I -/
def k8 : Class := { plain "[I" (some 0) with kind := .array 7 .int, interfaces := #[3, 4], accessFlags := 1041 }

def heap : Heap := #[]
def classes : Array Class := #[k0, k1, k2, k3, k4, k5, k6, k7, k8]
def interned : List (Array UInt16 × Addr) := []
def slotsUsed : Nat := 0
def theMethod : MethodId := ⟨1, 1⟩
def args0 : Array Value := #[.int 0, .int 300, .int 7]
def aboutOver (below : List Frame) : State where
  vm := { classes := classes, interned := interned.toArray }
  heap := heap
  slotsUsed := slotsUsed
  threads := #[{ frames := .invoking theMethod args0 :: below }]
def below0 : List Frame := [.native { method := ⟨0, 0⟩, args := #[] }]
def about1 : State := aboutOver below0
def p0 : Program := .bare "" "" ""
def e0 : Env := launch0.env 0 0 0
theorem w_frames : about1.frames = Frame.invoking theMethod args0 :: below0 := rfl
set_option maxRecDepth 65536 in
theorem w_args : argsFit about1.vm theMethod args0 = true := by decide +kernel
set_option maxRecDepth 65536 in
theorem w_heap : heapFits about1 = true := by decide +kernel
set_option maxRecDepth 65536 in
theorem w_runnable : about1.curStatus? = some .runnable := by decide +kernel
set_option maxRecDepth 65536 in
theorem w_alone : about1.alone = true := by decide +kernel
set_option maxRecDepth 65536 in
theorem w_named : about1.methodNamed? x = some theMethod := by decide +kernel
set_option maxRecDepth 65536 in
theorem w_hears : about1.hears theMethod below0 = true := by decide +kernel
set_option maxRecDepth 65536 in
theorem w_ripe : about1.ripe theMethod args0 below0 = true := by decide +kernel
theorem w_running : about1.status = .running := rfl
set_option maxRecDepth 65536 in
theorem w_room : about1.hasRoom e0.platform room_1 = true :=
  launch0.hasRoom_least _ room_1 (by decide +kernel) (by decide +kernel) (by decide +kernel) (by decide +kernel) (by decide +kernel) (by decide +kernel)
theorem allAtoms_all (ts : List Jvm.Cond) (a : Array Jvm.Value) (st : Jvm.State) : (allAtoms ts).before a st = ts.all (fun c => c.before a st) := by
  induction ts with
  | nil => rfl
  | cons c t ih =>
    show (Jvm.Cond.and c (allAtoms t)).before a st = _
    rw [Jvm.Cond.before_and, ih, List.all_cons]
def words1 : List Jvm.Cond := Jvm.Cond.code x code maxLocals ret :: tables_1
/-- a 'code' word, met by the world's own term for the bytes: nothing is compared byte by byte -/
theorem code_word {y : MethodName} {bytes : ByteArray} {mx : Nat} {rt : Option FieldType} {a : Array Value} {s : State} {m : MethodId} {meth : Method} {c : Code} (h1 : s.methodNamed? y = some m) (h2 : s.vm.method? m = some meth) (h3 : meth.code = some c) (h4 : c.code = bytes)
    (h5 : (c.maxLocals == mx && c.exceptionTable.isEmpty && decide (c.maxStack ≤ mostOperands) && decide (meth.sig.returnType = rt) && !meth.locks && decide (parseMethodDescriptor y.desc = some meth.sig)) = true) : (Jvm.Cond.code y bytes mx rt).before a s = true := by
  simp only [Bool.and_eq_true, beq_iff_eq, Bool.not_eq_true', decide_eq_true_eq] at h5
  obtain ⟨⟨⟨⟨⟨g1, g2⟩, g3⟩, g4⟩, g5⟩, g6⟩ := h5
  simp [Cond.before, Cond.holds, Cond.value, h1, h2, h3, h4, g1, g2, g3, g4, g5, g6]
def isCode : Jvm.Cond → Bool
  | .code _ _ _ _ => true
  | _ => false
theorem all_split {L : List Jvm.Cond} {P : Jvm.Cond → Bool} (h1 : L.all (fun c => isCode c || P c) = true) (h2 : ∀ c ∈ L.filter isCode, P c = true) : L.all P = true := by
  refine List.all_eq_true.mpr fun c hc => ?_
  have h := List.all_eq_true.mp h1 c hc
  rcases Bool.eq_false_or_eq_true (isCode c) with hi | hi
  · exact h2 c (List.mem_filter.mpr ⟨hc, hi⟩)
  · simpa [hi] using h
set_option maxRecDepth 65536 in
theorem w_c0 : (Jvm.Cond.code x code maxLocals ret).before args0 about1 = true := code_word (m := ⟨1, 1⟩) (meth := k1m1) (c := k1c1) (by decide +kernel) rfl rfl rfl (by decide +kernel)
set_option maxRecDepth 65536 in
theorem w_c1 : (Jvm.Cond.code ({ cls := "com/example/trim_bends/trimbends/layout/BendCosts", name := "sum", desc := "(II)I" } : Jvm.MethodName) prog_19_method_15_code (2 : Nat) (Option.some Jvm.ClassFile.FieldType.int)).before args0 about1 = true := code_word (m := ⟨2, 1⟩) (meth := k2m1) (c := k2c1) (by decide +kernel) rfl rfl rfl (by decide +kernel)
def codes1 : List Jvm.Cond := [Jvm.Cond.code x code maxLocals ret, Jvm.Cond.code ({ cls := "com/example/trim_bends/trimbends/layout/BendCosts", name := "sum", desc := "(II)I" } : Jvm.MethodName) prog_19_method_15_code (2 : Nat) (Option.some Jvm.ClassFile.FieldType.int)]
set_option maxRecDepth 65536 in
theorem codes_eq : words1.filter isCode = codes1 := rfl
theorem w_codes : ∀ c ∈ words1.filter isCode, c.before args0 about1 = true := by
  rw [codes_eq]
  intro c hc
  simp only [codes1, List.mem_cons, List.not_mem_nil, or_false] at hc
  rcases hc with rfl | rfl
  · exact w_c0
  · exact w_c1
set_option maxRecDepth 65536 in
theorem w_t1 : words1.all (fun c => isCode c || c.before args0 about1) = true := by decide +kernel
theorem w_tables : (allAtoms (Jvm.Cond.code x code maxLocals ret :: tables_1)).before args0 about1 = true := by
  rw [allAtoms_all]
  show words1.all (fun c => c.before args0 about1) = true
  refine all_split ?_ w_codes
  rw [w_t1]
set_option maxRecDepth 65536 in
theorem w_case : (Jvm.Cond.and given_1 narrow_1).before args0 about1 = true := by decide +kernel
theorem w_applies : (headSpec (Jvm.Cond.code x code maxLocals ret :: tables_1) room_1).applies x e0.platform about1 = true :=
  (Spec.applies_iff w_frames).mpr ⟨w_running, w_runnable, w_alone, w_named, w_hears, w_ripe, w_room, w_tables⟩
theorem atStart : AtStart classFile x code maxLocals ret World_1 tables_1 room_1 Calls_1 rest_1 Pre_1 launch0 p0 e0 about1 theMethod args0 below0 :=
  ⟨lists_1, trivial, launch0.admits_env _ _ _, launch0.least_env, fairChoices_fair.cas, fairChoices_fair.clock, w_frames, w_args, w_heap, w_applies, trivial, trivial, w_case⟩
end start1
theorem witness_1 : WitnessClaimed_1 := ⟨start1.p0, start1.e0, start1.about1, start1.theMethod, start1.args0, start1.below0, start1.atStart⟩
end Jvm.Pilot.@@N@@
